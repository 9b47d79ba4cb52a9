import JvmDerived
import JvmDerived.Pilot.@@N@@Statement
import JvmDerived.Pilot.@@N@@Code
set_option linter.unusedVariables false
set_option linter.unusedSimpArgs false
/-! the layer of this seat's own: a walk that ends well (Goes), contracts (MET), calls by them -/
namespace Jvm.RoadKit
open Sem ClassFile Op Lib Jvm.Stand Jvm.Free Jvm.LawKit
theorem lt_nat {a b : Nat} (h : @LT.lt Addr instLTNat a b) : @LT.lt Nat instLTNat a b := h
theorem lt_ok {a b : Nat} (h : @LT.lt Nat instLTNat a b) : @LT.lt Addr instLTNat a b := h
theorem ne_ok {a b : Nat} (h : ¬ @Eq Nat a b) : @Ne Addr a b := h
theorem ne2_nat {x a b : Nat} (h : @Ne Addr x a ∧ @Ne Addr x b) : ¬ @Eq Nat x a ∧ ¬ @Eq Nat x b := h
section OwnLayer
variable {p : Program} {l : Launch} {e : Env} {R : Room} {s : State} {m : MethodId} {args : Array Value} {below : List Frame} {meth : Method} {c : Code} {T : State} {locs : List Loc} {cells slots : Nat} {Z : State} {a0 : Array Value} {h : Heap} {kc ks n0 : Nat} {Q : Option Value → Heap → Prop} {A B : State}
/-- from S the run comes to the end of this invocation, and Q holds there -/
def Goes (p : Program) (e : Env) (below : List Frame) (s : State) (kc ks n0 : Nat) (Q : Option Value → Heap → Prop) (S : State) : Prop :=
  ∃ s₂ o, Steps p.tables e below S s₂ ∧ s₂.status = .running ∧ Ended s₂ below o ∧ ∃ v L, o = .returned v ∧ (Q v s₂.heap ∧ Fr n0 L) ∧ FrameEnd s o s₂ L kc ks
theorem Goes.via (h : ∀ t, Steps p.tables e below B t → Steps p.tables e below A t) (g : Goes p e below s kc ks n0 Q B) : Goes p e below s kc ks n0 Q A := by
  obtain ⟨s₂, o, h1, h2⟩ := g
  exact ⟨s₂, o, h _ h1, h2⟩
theorem Goes.fin (X : Stand p l e R s m args below meth c T locs cells slots) {v : Option Value} {g : JFrame} (hv : meth.sig.returnType = none → v = none) (hlk : meth.locks = false) (N : Fr n0 locs) (hc : cells ≤ kc) (hs : slots ≤ ks) (hq : Q v T.heap)
    (hr : ∀ fs, (∀ (f : JFrame) (acts : List Action), f.method = m → f.locked = none → f.entered = [] → (doReturn e (T.setTop f) acts v).1 = T.setFrames fs) → Steps p.tables e below (T.setTop g) (T.setFrames fs)) : Goes p e below s kc ks n0 Q (T.setTop g) := by
  obtain ⟨fs, hr', hrun, hended, hW, hsame⟩ := X.leave hv hlk
  exact ⟨_, _, hr fs hr', hrun, hended, _, _, rfl, ⟨hq, N⟩, ⟨_, rfl⟩, hW, hsame.mono hc hs⟩
theorem goRetN (X : Stand p l e R s m args below meth c T locs cells slots) (hx : p.tables.exec = Jvm.exec) {t : FieldType} (hrt : meth.sig.returnType = some t) (ht : t = .boolean ∨ t = .byte ∨ t = .char ∨ t = .short) (hlk : meth.locks = false) (N : Fr n0 locs) (hc : cells ≤ kc) (hs : slots ≤ ks)
    {pc : Nat} {Ls : Array Slot} {z : Int32} {rest : List Value} (hd : decode c.code pc = .ok (.ireturn, 1)) (hq : Q (some (.int (nar t z))) T.heap) : Goes p e below s kc ks n0 Q (T.setTop (mkF m pc Ls (.int z :: rest))) :=
  Goes.fin X (fun q => by rw [hrt] at q; cases q) hlk N hc hs hq fun fs hr => retN X hx (t := t) hrt ht hd hr
theorem goRetO (X : Stand p l e R s m args below meth c T locs cells slots) (hx : p.tables.exec = Jvm.exec) {t : FieldType} (hrt : meth.sig.returnType = some t) (hlk : meth.locks = false) (N : Fr n0 locs) (hc : cells ≤ kc) (hs : slots ≤ ks)
    {pc : Nat} {Ls : Array Slot} {w : Value} {i : Instr} {rest : List Value} (hn : narrow t w = w)
    (hi : (i = .ireturn ∧ (t = .int ∨ t = .boolean ∨ t = .byte ∨ t = .char ∨ t = .short) ∧ ∃ z, w = .int z) ∨ (i = .lreturn ∧ t = .long ∧ ∃ z, w = .long z) ∨ (i = .dreturn ∧ t = .double ∧ ∃ z, w = .double z) ∨ (i = .freturn ∧ t = .float ∧ ∃ z, w = .float z) ∨ (i = .areturn ∧ t.isReference = true ∧ w.isRef = true))
    (hd : decode c.code pc = .ok (i, 1)) (hq : Q (some w) T.heap) : Goes p e below s kc ks n0 Q (T.setTop (mkF m pc Ls (w :: rest))) :=
  Goes.fin X (fun q => by rw [hrt] at q; cases q) hlk N hc hs hq fun fs hr => retOut X hx hrt hn hi hd hr
theorem goRetI (X : Stand p l e R s m args below meth c T locs cells slots) (hx : p.tables.exec = Jvm.exec) (hrt : meth.sig.returnType = some .int) (hlk : meth.locks = false) (N : Fr n0 locs) (hc : cells ≤ kc) (hs : slots ≤ ks)
    {pc : Nat} {Ls : Array Slot} {z : Int32} {rest : List Value} (hd : decode c.code pc = .ok (.ireturn, 1)) (hq : Q (some (.int z)) T.heap) : Goes p e below s kc ks n0 Q (T.setTop (mkF m pc Ls (.int z :: rest))) :=
  goRetO X hx hrt hlk N hc hs rfl (Or.inl ⟨rfl, Or.inl rfl, _, rfl⟩) hd hq
theorem goRetJ (X : Stand p l e R s m args below meth c T locs cells slots) (hx : p.tables.exec = Jvm.exec) (hrt : meth.sig.returnType = some .long) (hlk : meth.locks = false) (N : Fr n0 locs) (hc : cells ≤ kc) (hs : slots ≤ ks)
    {pc : Nat} {Ls : Array Slot} {z : Int64} {rest : List Value} (hd : decode c.code pc = .ok (.lreturn, 1)) (hq : Q (some (.long z)) T.heap) : Goes p e below s kc ks n0 Q (T.setTop (mkF m pc Ls (.long z :: rest))) :=
  goRetO X hx hrt hlk N hc hs rfl (Or.inr (Or.inl ⟨rfl, rfl, _, rfl⟩)) hd hq
theorem goRetA (X : Stand p l e R s m args below meth c T locs cells slots) (hx : p.tables.exec = Jvm.exec) {t : FieldType} (hrt : meth.sig.returnType = some t) (ht : t.isReference = true) (hlk : meth.locks = false) (N : Fr n0 locs) (hc : cells ≤ kc) (hs : slots ≤ ks)
    {pc : Nat} {Ls : Array Slot} {w : Value} {rest : List Value} (hw : w.isRef = true) (hd : decode c.code pc = .ok (.areturn, 1)) (hq : Q (some w) T.heap) : Goes p e below s kc ks n0 Q (T.setTop (mkF m pc Ls (w :: rest))) :=
  goRetO X hx hrt hlk N hc hs (by cases t <;> cases w <;> first | rfl | (cases ht; done) | (cases hw; done)) (Or.inr (Or.inr (Or.inr (Or.inr ⟨rfl, ht, hw⟩)))) hd hq
theorem goRetV (X : Stand p l e R s m args below meth c T locs cells slots) (hx : p.tables.exec = Jvm.exec) (hrt : meth.sig.returnType = none) (hlk : meth.locks = false) (N : Fr n0 locs) (hc : cells ≤ kc) (hs : slots ≤ ks)
    {pc : Nat} {Ls : Array Slot} (hd : decode c.code pc = .ok (.return_, 1)) (hq : Q none T.heap) : Goes p e below s kc ks n0 Q (T.setTop (mkF m pc Ls [])) :=
  Goes.fin X (fun _ => rfl) hlk N hc hs hq fun fs hr => X.returnOut hx hrt hd hr
/-- a contract: from a heap h0, with these arguments, the invocation returns and Q holds of what it returned and of the heap -/
abbrev MET (l : Launch) (Z : State) (y : MethodName) (bytes : ByteArray) (maxL : Nat) (ret : Option FieldType) (rm : Room) (as' : Array Value) (h0 : Heap) (n0 : Nat) (Q : Option Value → Heap → Prop) : Prop :=
  ∀ ws : List Jvm.Cond, MetFree l y (head1 (Jvm.Cond.code y bytes maxL ret :: ws) rm) (fun a U => a = as' ∧ Z.Warmed39 U.vm ∧ U.heap = h0) (fun _ _ _ _ _ => True) (fun _ U o U' => ∃ v L, o = .returned v ∧ (Q v U'.heap ∧ Fr n0 L) ∧ FrameEnd U o U' L rm.cells rm.slots)
theorem metOf {y : MethodName} {bytes : ByteArray} {maxL : Nat} {ret : Option FieldType} {rm : Room} {as' : Array Value} {h0 : Heap} (hpf : plainFor y = true)
    (body : ∀ (p : Program) (e : Env) (s : State) (m : MethodId) (below : List Frame) (meth : Method) (c : Code) (T : State), p.tables.exec = Jvm.exec → c.code = bytes → c.maxLocals = maxL → meth.sig.returnType = ret → meth.locks = false → meth.name = y.name → Z.Warmed39 s.vm → s.vm.findClass y.cls = some m.cls →
      Stand p l e rm s m as' below meth c T [] 0 0 → T.heap = h0 → Goes p e below s rm.cells rm.slots n0 Q (T.setTop (entryFrame m as' maxL))) : MET l Z y bytes maxL ret rm as' h0 n0 Q := by
  intro ws
  refine MetFree.of_bodySF hpf hisR ?_
  intro p e s m args below meth c s₁ Bd hml0 hP hK
  obtain ⟨rfl, hZ, hh⟩ := hP
  exact body p e s m below meth c s₁ Bd.exec Bd.bytes hml0 Bd.returns Bd.notSynchronized (name_of_methodNamed Bd.named Bd.method).1 hZ (findClass_of_methodNamed Bd.named) (Stand.of_body Bd) (by rw [← hh, Bd.state]; rfl)
theorem goCast {g g' : JFrame} (q : g = g') (k : Goes p e below s kc ks n0 Q (T.setTop g')) : Goes p e below s kc ks n0 Q (T.setTop g) := q ▸ k
theorem iincZ {tb : Tables} [Ours tb] {target : State} {g : JFrame} (h : At T m c below) (hx : tb.exec = Jvm.exec) (hg : g.method = m) {k : Nat} {cst : Int} {x : Int32} {l' : Array Slot} (z : Int32) (hd : decode c.code g.pc = .ok (.iinc k cst, 3)) (hz : x + Int32.ofInt cst = z) (hl : g.locals[k]? = some (.val (.int x))) (hl' : storeLocals g.locals k (.int z) = some l')
    (hr : Steps tb e below (T.setTop { g with pc := g.pc + 3, locals := l' }) target) : Steps tb e below (T.setTop g) target := XS.iinc h hx hg hd hl (hz ▸ hl') hr
theorem all_getD {P : Value → Prop} {d : Value} (hd : P d) : ∀ (vs : List Value) (i : Nat), (∀ v ∈ vs, P v) → P (vs.getD i d)
  | [], i, _ => by simpa using hd
  | v :: vs, 0, q => by simpa using q v (List.mem_cons_self ..)
  | v :: vs, i + 1, q => by simpa using all_getD hd vs i fun w hw => q w (List.mem_cons_of_mem _ hw)
/-! calls by a contract -/
section Calls
variable {own C : String} {index : Nat} {y z : MethodName} {bytes : ByteArray} {maxL : Nat} {ret : Option FieldType} {rm : Room} {as' : Array Value} {Qc : Option Value → Heap → Prop} {W : Nat} {g : JFrame} {argsL rest : List Value} {a : Addr}
theorem callSt (X : Stand p l e R s m args below meth c T locs cells slots) (hx : p.tables.exec = Jvm.exec) (hZ : Z.Warmed39 s.vm) (hown : s.vm.findClass own = some m.cls) (hM : MET l Z y bytes maxL ret rm as' h n0 Qc) (w1 : (Jvm.Cond.methodLink own index y).before a0 Z = true) (w2 : (Jvm.Cond.static y).before a0 Z = true) (w3 : (Jvm.Cond.initialized y.cls).before a0 Z = true) (w4 : (Jvm.Cond.code y bytes maxL ret).before a0 Z = true)
    (hy : y.cls ≠ "java/lang/invoke/MethodHandle" ∧ y.cls ≠ "java/lang/invoke/VarHandle") (eT : T.heap = h) (hf : rm.frames + 1 ≤ R.frames) (hl : W + (maxL + 11) + rm.locals ≤ R.locals) (hc : cells + rm.cells ≤ R.cells) (hsl : slots + rm.slots ≤ R.slots)
    (hg : g.method = m) (hsize : g.locals.size = c.maxLocals) (ha : argsL.toArray = as') (hlen : ∀ sig, parseMethodDescriptor y.desc = some sig → argsL.length = sig.parameters.length) (hs : g.stack = argsL.reverse ++ rest) (hW : 2 * g.monitorRoom + (rest.map fun v => v.category).sum ≤ W) (hd : decode c.code g.pc = .ok (.invokestatic index, 3)) :
    ∃ (v : Option Value) (T' : State) (L : List Loc), Stand p l e R s m args below meth c T' (locs ++ L) (cells + rm.cells) (slots + rm.slots) ∧ Qc v T'.heap ∧ Fr n0 L ∧ ∀ t, Steps p.tables e below (T'.setTop { g with pc := g.pc + 3, stack := v.toList ++ rest }) t → Steps p.tables e below (T.setTop g) t := by
  obtain ⟨v, _, ⟨T', L', k', n'⟩, -, X', ⟨Lc, ⟨hq, hn⟩, e1, e2, e3⟩, st⟩ := Jvm.LawKit.callS X hx (y := y) hown (mvT hZ w1) (mvT hZ w2) (mvT hZ w3) (mvT hZ w4) hy (backOf (W := W) (Q := fun v h L => Qc v h ∧ Fr n0 L) (hM []) hZ w4 w3 hf hl) hg hsize hlen hs hW hd (fun _ _ => ⟨ha, eT, hc, hsl⟩)
  dsimp only [Pt.U, Pt.locs, Pt.cells, Pt.slots] at X' e1 e2 e3 st hq
  subst e1 e2 e3
  exact ⟨v, T', Lc, X', hq, hn, st⟩
theorem callSp (X : Stand p l e R s m args below meth c T locs cells slots) (hx : p.tables.exec = Jvm.exec) (hZ : Z.Warmed39 s.vm) (hown : s.vm.findClass own = some m.cls) (hM : MET l Z y bytes maxL none rm as' h n0 Qc) (hin : y.name = "<init>") (w1 : (Jvm.Cond.methodLink own index y).before a0 Z = true) (w2 : (Jvm.Cond.instanceMethod y).before a0 Z = true) (w3 : (Jvm.Cond.initialized y.cls).before a0 Z = true) (w4 : (Jvm.Cond.code y bytes maxL none).before a0 Z = true)
    (hy : y.cls ≠ "java/lang/invoke/MethodHandle" ∧ y.cls ≠ "java/lang/invoke/VarHandle") (eT : T.heap = h) (hf : rm.frames + 1 ≤ R.frames) (hl : W + (maxL + 11) + rm.locals ≤ R.locals) (hc : cells + rm.cells ≤ R.cells) (hsl : slots + rm.slots ≤ R.slots)
    (hg : g.method = m) (hsize : g.locals.size = c.maxLocals) (ha : (Value.ref a :: argsL).toArray = as') (hlen : ∀ sig, parseMethodDescriptor y.desc = some sig → argsL.length = sig.parameters.length) (hs : g.stack = argsL.reverse ++ .ref a :: rest) (hW : 2 * g.monitorRoom + (rest.map fun v => v.category).sum ≤ W) (hd : decode c.code g.pc = .ok (.invokespecial index, 3)) :
    ∃ (v : Option Value) (T' : State) (L : List Loc), Stand p l e R s m args below meth c T' (locs ++ L) (cells + rm.cells) (slots + rm.slots) ∧ Qc v T'.heap ∧ Fr n0 L ∧ ∀ t, Steps p.tables e below (T'.setTop { g with pc := g.pc + 3, stack := v.toList ++ rest }) t → Steps p.tables e below (T.setTop g) t := by
  obtain ⟨v, _, ⟨T', L', k', n'⟩, -, X', ⟨Lc, ⟨hq, hn⟩, e1, e2, e3⟩, st⟩ := X.specialBack hx (y := y) hin hown (mvT hZ w1) (mvT hZ w2) (mvT hZ w4) hy (backOf (W := W) (Q := fun v h L => Qc v h ∧ Fr n0 L) (hM []) hZ w4 w3 hf hl) hg hsize (Steps.refl _) (a := a) (argsL := argsL) (rest := rest) hlen hs hW hd (fun _ _ => ⟨ha, eT, hc, hsl⟩)
  dsimp only [Pt.U, Pt.locs, Pt.cells, Pt.slots] at X' e1 e2 e3 st hq
  subst e1 e2 e3
  exact ⟨v, T', Lc, X', hq, hn, fun t k => st.trans k⟩
theorem callVi (X : Stand p l e R s m args below meth c T locs cells slots) (hx : p.tables.exec = Jvm.exec) (hZ : Z.Warmed39 s.vm) (hown : s.vm.findClass own = some m.cls) (hM : MET l Z z bytes maxL ret rm as' h n0 Qc) (w1 : (Jvm.Cond.methodLink own index y).before a0 Z = true) (w2 : (Jvm.Cond.declares y).before a0 Z = true) (nf : NotFace s y) (w5 : (Jvm.Cond.selects C y z).before a0 Z = true) (w6 : (Jvm.Cond.instanceMethod z).before a0 Z = true) (w3 : (Jvm.Cond.initialized z.cls).before a0 Z = true) (w4 : (Jvm.Cond.code z bytes maxL ret).before a0 Z = true)
    (hy : y.cls ≠ "java/lang/invoke/MethodHandle" ∧ y.cls ≠ "java/lang/invoke/VarHandle") (eT : T.heap = h) (E : Exa Z h a C) (hf : rm.frames + 1 ≤ R.frames) (hl : W + (maxL + 11) + rm.locals ≤ R.locals) (hc : cells + rm.cells ≤ R.cells) (hsl : slots + rm.slots ≤ R.slots)
    (hg : g.method = m) (hsize : g.locals.size = c.maxLocals) (ha : (Value.ref a :: argsL).toArray = as') (hlen : ∀ sig, parseMethodDescriptor y.desc = some sig → argsL.length = sig.parameters.length) (hs : g.stack = argsL.reverse ++ .ref a :: rest) (hW : 2 * g.monitorRoom + (rest.map fun v => v.category).sum ≤ W) (hd : decode c.code g.pc = .ok (.invokevirtual index, 3)) :
    ∃ (v : Option Value) (T' : State) (L : List Loc), Stand p l e R s m args below meth c T' (locs ++ L) (cells + rm.cells) (slots + rm.slots) ∧ Qc v T'.heap ∧ Fr n0 L ∧ ∀ t, Steps p.tables e below (T'.setTop { g with pc := g.pc + 3, stack := v.toList ++ rest }) t → Steps p.tables e below (T.setTop g) t := by
  obtain ⟨cq, kq, qa, qb, qc⟩ := isOf hZ eT E
  obtain ⟨v, _, ⟨T', L', k', n'⟩, -, X', ⟨Lc, ⟨hq, hn⟩, e1, e2, e3⟩, st⟩ := X.virtualBack hx (y := y) (z := z) hown (mvT hZ w1) (mvT hZ w2) nf (mvT hZ w5) (mvT hZ w6) hy (backOf (W := W) (Q := fun v h L => Qc v h ∧ Fr n0 L) (hM []) hZ w4 w3 hf hl) qa qc hg hsize (Steps.refl _) (argsL := argsL) (rest := rest) hlen hs hW hd (fun _ _ => ⟨ha, eT, hc, hsl⟩)
  dsimp only [Pt.U, Pt.locs, Pt.cells, Pt.slots] at X' e1 e2 e3 st hq
  subst e1 e2 e3
  exact ⟨v, T', Lc, X', hq, hn, fun t k => st.trans k⟩
theorem callUp {owner : String} (X : Stand p l e R s m args below meth c T locs cells slots) (hx : p.tables.exec = Jvm.exec) (hZ : Z.Warmed39 s.vm) (hown : s.vm.findClass own = some m.cls) (hM : MET l Z z bytes maxL ret rm as' h n0 Qc) (w1 : (Jvm.Cond.methodLink own index y).before a0 Z = true) (w7 : (Jvm.Cond.sameMethod y.cls owner y.name y.desc).before a0 Z = true) (w2 : (Jvm.Cond.declares ⟨owner, y.name, y.desc⟩).before a0 Z = true) (w5 : (Jvm.Cond.selects C y z).before a0 Z = true) (w6 : (Jvm.Cond.instanceMethod z).before a0 Z = true) (w3 : (Jvm.Cond.initialized z.cls).before a0 Z = true) (w4 : (Jvm.Cond.code z bytes maxL ret).before a0 Z = true)
    (hy : owner ≠ "java/lang/invoke/MethodHandle" ∧ owner ≠ "java/lang/invoke/VarHandle") (eT : T.heap = h) (E : Exa Z h a C) (hf : rm.frames + 1 ≤ R.frames) (hl : W + (maxL + 11) + rm.locals ≤ R.locals) (hc : cells + rm.cells ≤ R.cells) (hsl : slots + rm.slots ≤ R.slots)
    (hg : g.method = m) (hsize : g.locals.size = c.maxLocals) (ha : (Value.ref a :: argsL).toArray = as') (hlen : ∀ sig, parseMethodDescriptor y.desc = some sig → argsL.length = sig.parameters.length) (hs : g.stack = argsL.reverse ++ .ref a :: rest) (hW : 2 * g.monitorRoom + (rest.map fun v => v.category).sum ≤ W) (hd : decode c.code g.pc = .ok (.invokevirtual index, 3)) :
    ∃ (v : Option Value) (T' : State) (L : List Loc), Stand p l e R s m args below meth c T' (locs ++ L) (cells + rm.cells) (slots + rm.slots) ∧ Qc v T'.heap ∧ Fr n0 L ∧ ∀ t, Steps p.tables e below (T'.setTop { g with pc := g.pc + 3, stack := v.toList ++ rest }) t → Steps p.tables e below (T.setTop g) t := by
  obtain ⟨cq, kq, qa, qb, qc⟩ := isOf hZ eT E
  obtain ⟨v, _, ⟨T', L', k', n'⟩, -, X', ⟨Lc, ⟨hq, hn⟩, e1, e2, e3⟩, st⟩ := X.virtualBackUp hx (x := y) (y := z) hown (mvT hZ w1) (mvT hZ w7) (mvT hZ w2) hy (mvT hZ w5) (mvT hZ w6) (backOf (W := W) (Q := fun v h L => Qc v h ∧ Fr n0 L) (hM []) hZ w4 w3 hf hl) qa qc hg hsize (Steps.refl _) (argsL := argsL) (rest := rest) hlen hs hW hd (fun _ _ => ⟨ha, eT, hc, hsl⟩)
  dsimp only [Pt.U, Pt.locs, Pt.cells, Pt.slots] at X' e1 e2 e3 st hq
  subst e1 e2 e3
  exact ⟨v, T', Lc, X', hq, hn, fun t k => st.trans k⟩
theorem callIf {count : Nat} (X : Stand p l e R s m args below meth c T locs cells slots) (hx : p.tables.exec = Jvm.exec) (hZ : Z.Warmed39 s.vm) (hown : s.vm.findClass own = some m.cls) (hM : MET l Z z bytes maxL ret rm as' h n0 Qc) (w1 : (Jvm.Cond.methodLink own index y).before a0 Z = true) (w2 : (Jvm.Cond.declares y).before a0 Z = true) (w7 : ∀ s' : State, Z.Warmed39 s'.vm → (Jvm.Cond.interfaceMethod y.cls y.cls y.name y.desc).before args s' = true) (w5 : (Jvm.Cond.selects C y z).before a0 Z = true) (w6 : (Jvm.Cond.instanceMethod z).before a0 Z = true) (w8 : (Jvm.Cond.publicMethod z).before a0 Z = true) (w9 : (Jvm.Cond.unhidden C y.name y.desc).before a0 Z = true) (w10 : (Jvm.Cond.castable C y.cls).before a0 Z = true) (w3 : (Jvm.Cond.initialized z.cls).before a0 Z = true) (w4 : (Jvm.Cond.code z bytes maxL ret).before a0 Z = true)
    (hy : y.cls ≠ "java/lang/invoke/MethodHandle" ∧ y.cls ≠ "java/lang/invoke/VarHandle") (eT : T.heap = h) (E : Exa Z h a C) (hf : rm.frames + 1 ≤ R.frames) (hl : W + (maxL + 11) + rm.locals ≤ R.locals) (hc : cells + rm.cells ≤ R.cells) (hsl : slots + rm.slots ≤ R.slots)
    (hg : g.method = m) (hsize : g.locals.size = c.maxLocals) (ha : (Value.ref a :: argsL).toArray = as') (hlen : ∀ sig, parseMethodDescriptor y.desc = some sig → argsL.length = sig.parameters.length) (hs : g.stack = argsL.reverse ++ .ref a :: rest) (hW : 2 * g.monitorRoom + (rest.map fun v => v.category).sum ≤ W) (hd : decode c.code g.pc = .ok (.invokeinterface index count, 5)) :
    ∃ (v : Option Value) (T' : State) (L : List Loc), Stand p l e R s m args below meth c T' (locs ++ L) (cells + rm.cells) (slots + rm.slots) ∧ Qc v T'.heap ∧ Fr n0 L ∧ ∀ t, Steps p.tables e below (T'.setTop { g with pc := g.pc + 5, stack := v.toList ++ rest }) t → Steps p.tables e below (T.setTop g) t := by
  obtain ⟨cq, kq, qa, qb, qc⟩ := isOf hZ eT E
  obtain ⟨v, _, ⟨T', L', k', n'⟩, -, X', ⟨Lc, ⟨hq, hn⟩, e1, e2, e3⟩, st⟩ := X.interfaceBack hx (xi := y) (y := z) hown (mvT hZ w1) (mvT hZ w2) (w7 s hZ) (mvT hZ w5) (mvT hZ w6) (mvT hZ w8) (mvT hZ w9) (mvT hZ w10) hy (backOf (W := W) (Q := fun v h L => Qc v h ∧ Fr n0 L) (hM []) hZ w4 w3 hf hl) qa qb qc hg hsize (Steps.refl _) (argsL := argsL) (rest := rest) hlen hs hW hd (fun _ _ => ⟨ha, eT, hc, hsl⟩)
  dsimp only [Pt.U, Pt.locs, Pt.cells, Pt.slots] at X' e1 e2 e3 st hq
  subst e1 e2 e3
  exact ⟨v, T', Lc, X', hq, hn, fun t k => st.trans k⟩
end Calls
end OwnLayer
end Jvm.RoadKit

/-! facts of the start, out of the sheet's words -/
namespace Jvm.RoadKit
open Sem ClassFile Op Lib Jvm.Stand Jvm.Free Jvm.LawKit
section OwnStart
variable {Z : State} {args : Array Value} {t : Term} {a : Addr} {c : Cell} {ty : FieldType} {n : Int32} {dv : Value} {n0 : Nat} {h h' : Heap} {ws : List Addr}
theorem Old.le (X : Old Z n0 h) : n0 ≤ h.size := X.1 ▸ X.2.1
theorem len_start (ev : t.eval args Z none [] Z = some (.ref a)) (A : Arr Z Z.heap a c ty) (hl : (Jvm.Cond.eq (.length t) (.int n)).value args Z none Z [] = some true) : c.slots.size < 2 ^ 31 ∧ c.slots.size.toInt32 = n := by
  have ha : Z.arrayAt? a = some c := A.fin (Vm.Alike.refl _)
  by_cases q : c.slots.size < 2 ^ 31
  · exact ⟨q, gotT (Cond.eq_ints (len_f ev ha q) (Term.int_eval n)) hl⟩
  · simp [Cond.value, Term.eval, ev, ha, q] at hl
theorem arv_start (hf : Fit Z) (ev : t.eval args Z none [] Z = some (.ref a)) (A : Arr Z Z.heap a c ty) (hl : (Jvm.Cond.eq (.length t) (.int n)).value args Z none Z [] = some true) : Arv Z Z.heap a c.cls ty n c.slots.toList dv := by
  obtain ⟨q1, q2⟩ := len_start ev A hl
  have hz : ¬ n < 0 := by
    rw [← q2, Int32.lt_iff_toInt_lt, len_toInt q1]
    have : (0 : Int32).toInt = 0 := by decide
    omega
  have hs : c.slots.size = n.toNatClampNeg := by
    have := len_toInt q1
    rw [q2] at this
    rw [Int32.toNatClampNeg, this]; rfl
  have g : ∀ i, i < c.slots.size → c.slots[i]? = some (c.slots.toList.getD i dv) := fun i hi => by
    simp [hi]
  refine ⟨c, A, rfl, hs, hz, g, fun i hi => ?_⟩
  have hj : ¬ ((Int32.ofNat i) < 0 ∨ c.slots.size ≤ (Int32.ofNat i).toNatClampNeg) := idx_in hi q1
  obtain ⟨v, e1, e2⟩ := elem_fit hf A hj
  have e3 : (Int32.ofNat i).toNatClampNeg = i := by
    have := len_toInt (n := i) (by omega)
    rw [Int32.toNatClampNeg, show (Int32.ofNat i).toInt = (i : Int) from this]; rfl
  rw [e3, g i hi] at e1
  cases e1
  exact e2
theorem eq_int {u : Term} {o : Option Outcome} {first : State} {idx : List Nat} (hl : (Jvm.Cond.eq u (.int n)).value args first o Z idx = some true) : u.eval args first o idx Z = some (.int n) := by
  obtain ⟨x, y, e1, e2, k1, k2⟩ := cmp_v (Or.inl hl)
  have e3 : Term.eval args first o idx Z (.int n) = some (.int n) := rfl
  cases (e3.symm.trans e2)
  obtain ⟨z, rfl⟩ := k2
  have q := gotT (Cond.eq_ints e1 e2) hl
  rw [e1, q]
theorem eq_long {n : Int64} {u : Term} {o : Option Outcome} {first : State} {idx : List Nat} (hl : (Jvm.Cond.eq u (.long n)).value args first o Z idx = some true) : u.eval args first o idx Z = some (.long n) := by
  obtain ⟨x, y, e1, e2, k1, k2⟩ := cmp_v (Or.inl hl)
  have e3 : Term.eval args first o idx Z (.long n) = some (.long n) := rfl
  cases (e3.symm.trans e2)
  obtain ⟨z, rfl⟩ := k2
  have q := gotT (eq_L e1 e2) hl
  rw [e1, q]
theorem eq_ref {x : Addr} {u w : Term} {o : Option Outcome} {first : State} {idx : List Nat} (hl : (Jvm.Cond.eq u w).value args first o Z idx = some true) (hw : w.eval args first o idx Z = some (.ref x)) : u.eval args first o idx Z = some (.ref x) := by
  obtain ⟨v, y, e1, e2, k1, k2⟩ := cmp_v (Or.inl hl)
  cases (hw.symm.trans e2)
  have q := gotT (eq_R e1 e2 k2.2 rfl) hl
  rw [e1, q]
theorem ins_keep {C : String} (F : Ins Z h a C true) (K : Keep h h' ws) : Ins Z h' a C true := by
  obtain ⟨cell, cT, h1, h2, h3⟩ := F
  obtain ⟨c', e1, e2, e3, -⟩ := K.2.2 a cell h1
  exact ⟨c', cT, e1, h2, by rw [e2, e3]; exact h3⟩
theorem arr_keep (F : Arr Z h a c ty) (K : Keep h h' ws) (q : a ∉ ws) : Arr Z h' a c ty := ⟨K.2.1 a c F.1 q, F.2⟩
end OwnStart
end Jvm.RoadKit

/-! the same for walks that may load String constants (the wide frame) -/
namespace Jvm.RoadKit
open Sem ClassFile Op Lib Jvm.Stand Jvm.Free Jvm.LawKit
section OwnWide
variable {p : Program} {l : Launch} {e : Env} {R : Room} {s : State} {m : MethodId} {args : Array Value} {below : List Frame} {meth : Method} {c : Code} {T : State} {locs : List Loc} {cells slots : Nat} {Z : State} {a0 : Array Value} {h : Heap} {kc ks n0 k0 : Nat} {Q : Option Value → Vm → Heap → Prop} {A B : State} {vm0 : Vm} {I : Vm → Prop}
def GoesW (p : Program) (e : Env) (below : List Frame) (s : State) (kc ks n0 : Nat) (Q : Option Value → Vm → Heap → Prop) (S : State) : Prop :=
  ∃ s₂ o, Steps p.tables e below S s₂ ∧ s₂.status = .running ∧ Ended s₂ below o ∧ ∃ v L, o = .returned v ∧ (Q v s₂.vm s₂.heap ∧ Fr n0 L) ∧ ReturnedEndW s o s₂ L kc ks
theorem GoesW.via (h : ∀ t, Steps p.tables e below B t → Steps p.tables e below A t) (g : GoesW p e below s kc ks n0 Q B) : GoesW p e below s kc ks n0 Q A := by
  obtain ⟨s₂, o, h1, h2⟩ := g
  exact ⟨s₂, o, h _ h1, h2⟩
theorem GoesW.fin (X : Stand p l e R (s.setVm vm0) m args below meth c T locs cells slots) {v : Option Value} {g : JFrame} (hv : meth.sig.returnType = none → v = none) (hlk : meth.locks = false) (N : Fr n0 locs) (hS : s.Since vm0 k0) (hk : k0 ≤ T.heap.size) (hc : cells ≤ kc) (hs : slots ≤ ks) (hq : (s.setVm vm0).WarmedH T.vm → Q v T.vm T.heap)
    (hr : ∀ fs, (∀ (f : JFrame) (acts : List Action), f.method = m → f.locked = none → f.entered = [] → (doReturn e (T.setTop f) acts v).1 = T.setFrames fs) → Steps p.tables e below (T.setTop g) (T.setFrames fs)) : GoesW p e below s kc ks n0 Q (T.setTop g) := by
  obtain ⟨fs, hr', hrun, hended, hW⟩ := X.leaveW hS hk hv hlk
  exact ⟨_, _, hr fs hr', hrun, hended, _, _, rfl, ⟨hq X.warmed, N⟩, ⟨_, rfl⟩, hW.2.1, hW.2.2.1, hW.2.2.2.mono hc hs⟩
theorem goRetNW (X : Stand p l e R (s.setVm vm0) m args below meth c T locs cells slots) (hx : p.tables.exec = Jvm.exec) {t : FieldType} (hrt : meth.sig.returnType = some t) (ht : t = .boolean ∨ t = .byte ∨ t = .char ∨ t = .short) (hlk : meth.locks = false) (N : Fr n0 locs) (hS : s.Since vm0 k0) (hk : k0 ≤ T.heap.size) (hc : cells ≤ kc) (hs : slots ≤ ks)
    {pc : Nat} {Ls : Array Slot} {z : Int32} {rest : List Value} (hd : decode c.code pc = .ok (.ireturn, 1)) (hq : (s.setVm vm0).WarmedH T.vm → Q (some (.int (nar t z))) T.vm T.heap) : GoesW p e below s kc ks n0 Q (T.setTop (mkF m pc Ls (.int z :: rest))) :=
  GoesW.fin X (fun q => by rw [hrt] at q; cases q) hlk N hS hk hc hs hq fun fs hr => retN X hx (t := t) hrt ht hd hr
theorem goRetOW (X : Stand p l e R (s.setVm vm0) m args below meth c T locs cells slots) (hx : p.tables.exec = Jvm.exec) {t : FieldType} (hrt : meth.sig.returnType = some t) (hlk : meth.locks = false) (N : Fr n0 locs) (hS : s.Since vm0 k0) (hk : k0 ≤ T.heap.size) (hc : cells ≤ kc) (hs : slots ≤ ks)
    {pc : Nat} {Ls : Array Slot} {w : Value} {i : Instr} {rest : List Value} (hn : narrow t w = w)
    (hi : (i = .ireturn ∧ (t = .int ∨ t = .boolean ∨ t = .byte ∨ t = .char ∨ t = .short) ∧ ∃ z, w = .int z) ∨ (i = .lreturn ∧ t = .long ∧ ∃ z, w = .long z) ∨ (i = .dreturn ∧ t = .double ∧ ∃ z, w = .double z) ∨ (i = .freturn ∧ t = .float ∧ ∃ z, w = .float z) ∨ (i = .areturn ∧ t.isReference = true ∧ w.isRef = true))
    (hd : decode c.code pc = .ok (i, 1)) (hq : (s.setVm vm0).WarmedH T.vm → Q (some w) T.vm T.heap) : GoesW p e below s kc ks n0 Q (T.setTop (mkF m pc Ls (w :: rest))) :=
  GoesW.fin X (fun q => by rw [hrt] at q; cases q) hlk N hS hk hc hs hq fun fs hr => retOut X hx hrt hn hi hd hr
theorem goRetIW (X : Stand p l e R (s.setVm vm0) m args below meth c T locs cells slots) (hx : p.tables.exec = Jvm.exec) (hrt : meth.sig.returnType = some .int) (hlk : meth.locks = false) (N : Fr n0 locs) (hS : s.Since vm0 k0) (hk : k0 ≤ T.heap.size) (hc : cells ≤ kc) (hs : slots ≤ ks)
    {pc : Nat} {Ls : Array Slot} {z : Int32} {rest : List Value} (hd : decode c.code pc = .ok (.ireturn, 1)) (hq : (s.setVm vm0).WarmedH T.vm → Q (some (.int z)) T.vm T.heap) : GoesW p e below s kc ks n0 Q (T.setTop (mkF m pc Ls (.int z :: rest))) :=
  goRetOW X hx hrt hlk N hS hk hc hs rfl (Or.inl ⟨rfl, Or.inl rfl, _, rfl⟩) hd hq
theorem goRetJW (X : Stand p l e R (s.setVm vm0) m args below meth c T locs cells slots) (hx : p.tables.exec = Jvm.exec) (hrt : meth.sig.returnType = some .long) (hlk : meth.locks = false) (N : Fr n0 locs) (hS : s.Since vm0 k0) (hk : k0 ≤ T.heap.size) (hc : cells ≤ kc) (hs : slots ≤ ks)
    {pc : Nat} {Ls : Array Slot} {z : Int64} {rest : List Value} (hd : decode c.code pc = .ok (.lreturn, 1)) (hq : (s.setVm vm0).WarmedH T.vm → Q (some (.long z)) T.vm T.heap) : GoesW p e below s kc ks n0 Q (T.setTop (mkF m pc Ls (.long z :: rest))) :=
  goRetOW X hx hrt hlk N hS hk hc hs rfl (Or.inr (Or.inl ⟨rfl, rfl, _, rfl⟩)) hd hq
theorem goRetAW (X : Stand p l e R (s.setVm vm0) m args below meth c T locs cells slots) (hx : p.tables.exec = Jvm.exec) {t : FieldType} (hrt : meth.sig.returnType = some t) (ht : t.isReference = true) (hlk : meth.locks = false) (N : Fr n0 locs) (hS : s.Since vm0 k0) (hk : k0 ≤ T.heap.size) (hc : cells ≤ kc) (hs : slots ≤ ks)
    {pc : Nat} {Ls : Array Slot} {w : Value} {rest : List Value} (hw : w.isRef = true) (hd : decode c.code pc = .ok (.areturn, 1)) (hq : (s.setVm vm0).WarmedH T.vm → Q (some w) T.vm T.heap) : GoesW p e below s kc ks n0 Q (T.setTop (mkF m pc Ls (w :: rest))) :=
  goRetOW X hx hrt hlk N hS hk hc hs (by cases t <;> cases w <;> first | rfl | (cases ht; done) | (cases hw; done)) (Or.inr (Or.inr (Or.inr (Or.inr ⟨rfl, ht, hw⟩)))) hd hq
theorem goRetVW (X : Stand p l e R (s.setVm vm0) m args below meth c T locs cells slots) (hx : p.tables.exec = Jvm.exec) (hrt : meth.sig.returnType = none) (hlk : meth.locks = false) (N : Fr n0 locs) (hS : s.Since vm0 k0) (hk : k0 ≤ T.heap.size) (hc : cells ≤ kc) (hs : slots ≤ ks)
    {pc : Nat} {Ls : Array Slot} (hd : decode c.code pc = .ok (.return_, 1)) (hq : (s.setVm vm0).WarmedH T.vm → Q none T.vm T.heap) : GoesW p e below s kc ks n0 Q (T.setTop (mkF m pc Ls [])) :=
  GoesW.fin X (fun _ => rfl) hlk N hS hk hc hs hq fun fs hr => X.returnOut hx hrt hd hr
/-- a contract of a body that may load String constants: EL the entries whose texts are read somewhere (CHv: what the tables book for them says its text), SL the cells that it writes and that no entry books -/
abbrev METW (l : Launch) (Z : State) (y : MethodName) (bytes : ByteArray) (maxL : Nat) (ret : Option FieldType) (rm : Room) (as' : Array Value) (EL : List (String × Nat)) (SL : List Addr) (h0 : Heap) (n0 : Nat) (Q : Option Value → Heap → Prop) : Prop :=
  ∀ ws : List Jvm.Cond, MetFree l y (head1 (Jvm.Cond.code y bytes maxL ret :: ws) rm) (fun a U => a = as' ∧ Z.Warmed39 U.vm ∧ U.heap = h0 ∧ CHv Z EL U.vm h0 ∧ ∀ x ∈ SL, Safe Z EL U.vm h0 x) (fun _ _ _ _ _ => True) (fun _ U o U' => ∃ v L, o = .returned v ∧ ((Q v U'.heap ∧ CHr Z EL U.vm U.heap U'.vm U'.heap) ∧ Fr n0 L) ∧ ReturnedEndW U o U' L rm.cells rm.slots)
theorem metOfW {y : MethodName} {bytes : ByteArray} {maxL : Nat} {ret : Option FieldType} {rm : Room} {as' : Array Value} {h0 : Heap} {EL : List (String × Nat)} {SL : List Addr} {Q : Option Value → Heap → Prop} (hpf : plainFor y = true)
    (body : ∀ (p : Program) (e : Env) (s : State) (m : MethodId) (below : List Frame) (meth : Method) (c : Code) (T : State) (vm0 : Vm), p.tables.exec = Jvm.exec → c.code = bytes → c.maxLocals = maxL → meth.sig.returnType = ret → meth.locks = false → meth.name = y.name → Z.Warmed39 vm0 → vm0.findClass y.cls = some m.cls →
      Stand p l e rm (s.setVm vm0) m as' below meth c T [] 0 0 → T.heap = h0 → s.Since vm0 h0.size → CHr Z EL vm0 h0 vm0 h0 → (∀ x ∈ SL, Safe Z EL vm0 h0 x) → GoesW p e below s rm.cells rm.slots n0 (fun v vm h => Q v h ∧ CHr Z EL vm0 h0 vm h) (T.setTop (entryFrame m as' maxL))) : METW l Z y bytes maxL ret rm as' EL SL h0 n0 Q := by
  intro ws
  refine MetFree.of_bodySF hpf hisR ?_
  intro p e s m args below meth c s₁ Bd hml0 hP hK
  obtain ⟨rfl, hZ, hh, hI, hSL⟩ := hP
  subst hh
  exact body p e s m below meth c s₁ s.vm Bd.exec Bd.bytes hml0 Bd.returns Bd.notSynchronized (name_of_methodNamed Bd.named Bd.method).1 hZ (findClass_of_methodNamed Bd.named) (Stand.of_body Bd) (by rw [Bd.state]; rfl) ((State.WarmedH.refl s).since _) (CHr.refl hI) hSL
/-- the tables at hand may be warmer -/
theorem CHv.warm {EL : List (String × Nat)} {vm1 : Vm} (hZ : Z.Warmed39 vm0) (w : EW Z a0 EL) (H : CHv Z EL vm0 h) (hw : (s.setVm vm0).WarmedH vm1) : CHr Z EL vm0 h vm1 h := by
  have q := CHv.later (h' := h) hZ (hW := (show (Wst Z vm0 h).Warmed39 vm1 from hw.wide)) w ⟨Nat.le_refl _, fun _ _ q => q⟩ (Or.inl hw.interned_eq) H
  exact ⟨q.1, Nat.le_refl _, q.2⟩
theorem Safe.arvO {EL : List (String × Nat)} {x : Addr} {k : ClassId} {ty : FieldType} {z : Int32} {vs : List Value} {d : Value} (hal : Z.vm.Alike vm0) (V : Arv Z h x k ty z vs d) (ht : ty ≠ .byte) : Safe Z EL vm0 h x := by
  obtain ⟨cl, A, -⟩ := V
  exact Safe.arr hal A ht
theorem CHr.safeAll {EL : List (String × Nat)} {vm1 : Vm} {h' : Heap} {SL : List Addr} (A : CHr Z EL vm0 h vm1 h') (hx : ∀ x ∈ SL, x < h.size) (S : ∀ x ∈ SL, Safe Z EL vm0 h x) : ∀ x ∈ SL, Safe Z EL vm1 h' x := fun x q => A.safe (hx x q) (S x q)
theorem goCastW {g g' : JFrame} (q : g = g') (k : GoesW p e below s kc ks n0 Q (T.setTop g')) : GoesW p e below s kc ks n0 Q (T.setTop g) := q ▸ k
section Calls
variable {own C : String} {index : Nat} {y z : MethodName} {bytes : ByteArray} {maxL : Nat} {ret : Option FieldType} {rm : Room} {as' : Array Value} {Qc : Option Value → Heap → Prop} {W : Nat} {g : JFrame} {argsL rest : List Value} {a : Addr} {len : Nat} {EL : List (String × Nat)} {SL : List Addr}
theorem backOfV (hM : METW l Z y bytes maxL ret rm as' EL SL h n0 Qc) (hZ : Z.Warmed39 vm0) (wc : (Jvm.Cond.code y bytes maxL ret).before a0 Z = true) (wz : (Jvm.Cond.initialized y.cls).before a0 Z = true) (hf : rm.frames + 1 ≤ R.frames) (hl : W + (maxL + 11) + rm.locals ≤ R.locals) (hEL : EW Z a0 EL) (hC : CHv Z EL vm0 h) (hSl : ∀ x ∈ SL, x < h.size) (hSs : ∀ x ∈ SL, Safe Z EL vm0 h x) :
    BackS l R p e below (s.setVm vm0) args y len W (fun A a => a = as' ∧ A.U.heap = h ∧ A.cells + rm.cells ≤ R.cells ∧ A.slots + rm.slots ≤ R.slots)
      (fun A _ v B => ∃ L, ((Qc v B.U.heap ∧ CHr Z EL vm0 h B.U.vm B.U.heap) ∧ Fr n0 L) ∧ B.locs = A.locs ++ L ∧ B.cells = A.cells + rm.cells ∧ B.slots = A.slots + rm.slots) :=
  BackS.of_freeW (bytes := bytes) (maxL := maxL) (ret := ret) (E := fun _ first o t L k n => k = rm.cells ∧ n = rm.slots ∧ ∃ v, o = .returned v ∧ (Qc v t.heap ∧ CHr Z EL first.vm first.heap t.vm t.heap) ∧ Fr n0 L) (hM []) hf hl
    (fun m meth c A a Y hp => have hU : Z.Warmed39 A.U.vm := wtrans (s := s.setVm vm0) hZ Y.warmed
      ⟨by show (Jvm.Cond.and _ .tt).before a A.U = true; rw [Cond.before_and, mv hU wc]; rfl, mv hU wc, mv hU wz, hp.2.2.1, hp.2.2.2⟩)
    (fun m meth c A a g mk Y hp => ⟨hp.1, wtrans (s := s.setVm vm0) hZ Y.warmed, hp.2.1, (CHv.at Y hZ hEL hC).1, (CHv.at Y hZ hEL hC).safeAll hSl hSs⟩) (fun _ _ _ _ _ _ _ _ _ => trivial)
    (fun _ _ _ _ ⟨v, L, h1, h2, h3⟩ => ⟨L, _, _, h3, rfl, rfl, v, h1, h2⟩)
    (fun m meth c A a g mk v t L k n Y hp _ _ ⟨e1, e2, v', e3, ⟨e4, e5⟩, e6⟩ => by
      cases e3; subst e1 e2
      refine ⟨L, ⟨⟨e4, (CHv.at Y hZ hEL hC).trans ?_⟩, e6⟩, rfl, rfl, rfl⟩
      rw [← hp.2.1]; exact e5)
theorem callStW (X : Stand p l e R (s.setVm vm0) m args below meth c T locs cells slots) (hx : p.tables.exec = Jvm.exec) (hZ : Z.Warmed39 vm0) (hown : vm0.findClass own = some m.cls) (hS : s.Since vm0 k0) (hk : k0 ≤ T.heap.size) (hEL : EW Z a0 EL) (hC : CHv Z EL vm0 h) (hSl : ∀ x ∈ SL, x < h.size) (hSs : ∀ x ∈ SL, Safe Z EL vm0 h x) (hM : METW l Z y bytes maxL ret rm as' EL SL h n0 Qc) (w1 : (Jvm.Cond.methodLink own index y).before a0 Z = true) (w2 : (Jvm.Cond.static y).before a0 Z = true) (w3 : (Jvm.Cond.initialized y.cls).before a0 Z = true) (w4 : (Jvm.Cond.code y bytes maxL ret).before a0 Z = true)
    (hy : y.cls ≠ "java/lang/invoke/MethodHandle" ∧ y.cls ≠ "java/lang/invoke/VarHandle") (eT : T.heap = h) (hf : rm.frames + 1 ≤ R.frames) (hl : W + (maxL + 11) + rm.locals ≤ R.locals) (hc : cells + rm.cells ≤ R.cells) (hsl : slots + rm.slots ≤ R.slots)
    (hg : g.method = m) (hsize : g.locals.size = c.maxLocals) (ha : argsL.toArray = as') (hlen : ∀ sig, parseMethodDescriptor y.desc = some sig → argsL.length = sig.parameters.length) (hs : g.stack = argsL.reverse ++ rest) (hW : 2 * g.monitorRoom + (rest.map fun v => v.category).sum ≤ W) (hd : decode c.code g.pc = .ok (.invokestatic index, 3)) :
    ∃ (v : Option Value) (T' : State) (L : List Loc), Stand p l e R (s.setVm T'.vm) m args below meth c T' (locs ++ L) (cells + rm.cells) (slots + rm.slots) ∧ s.Since T'.vm T'.heap.size ∧ Z.Warmed39 T'.vm ∧ T'.vm.findClass own = some m.cls ∧ CHr Z EL vm0 h T'.vm T'.heap ∧ Qc v T'.heap ∧ Fr n0 L ∧ ∀ t, Steps p.tables e below (T'.setTop { g with pc := g.pc + 3, stack := v.toList ++ rest }) t → Steps p.tables e below (T.setTop g) t := by
  obtain ⟨v, _, ⟨T', L', k', n'⟩, -, X', hS', hg', ⟨Lc, ⟨⟨hq, hr⟩, hn⟩, e1, e2, e3⟩, st⟩ := callSS X hx (y := y) hown (mvT (s := s.setVm vm0) hZ w1) (mvT (s := s.setVm vm0) hZ w2) (mvT (s := s.setVm vm0) hZ w3) (mvT (s := s.setVm vm0) hZ w4) hy (backOfV (W := W) (s := s) hM hZ w4 w3 hf hl hEL hC hSl hSs) hg hsize hlen hs hW hd (fun _ _ => ⟨ha, eT, hc, hsl⟩)
  dsimp only [Pt.U, Pt.locs, Pt.cells, Pt.slots] at X' hS' hg' e1 e2 e3 st hq hr
  subst e1 e2 e3
  obtain ⟨r1, r2, r3, r4⟩ := rebS hS hk X' hS' hg' hZ hown
  exact ⟨v, T', Lc, r1, r2, r3, r4, hr, hq, hn, fun t k => st.trans k⟩
theorem callSpW (X : Stand p l e R (s.setVm vm0) m args below meth c T locs cells slots) (hx : p.tables.exec = Jvm.exec) (hZ : Z.Warmed39 vm0) (hown : vm0.findClass own = some m.cls) (hS : s.Since vm0 k0) (hk : k0 ≤ T.heap.size) (hEL : EW Z a0 EL) (hC : CHv Z EL vm0 h) (hSl : ∀ x ∈ SL, x < h.size) (hSs : ∀ x ∈ SL, Safe Z EL vm0 h x) (hM : METW l Z y bytes maxL none rm as' EL SL h n0 Qc) (hin : y.name = "<init>") (w1 : (Jvm.Cond.methodLink own index y).before a0 Z = true) (w2 : (Jvm.Cond.instanceMethod y).before a0 Z = true) (w3 : (Jvm.Cond.initialized y.cls).before a0 Z = true) (w4 : (Jvm.Cond.code y bytes maxL none).before a0 Z = true)
    (hy : y.cls ≠ "java/lang/invoke/MethodHandle" ∧ y.cls ≠ "java/lang/invoke/VarHandle") (eT : T.heap = h) (hf : rm.frames + 1 ≤ R.frames) (hl : W + (maxL + 11) + rm.locals ≤ R.locals) (hc : cells + rm.cells ≤ R.cells) (hsl : slots + rm.slots ≤ R.slots)
    (hg : g.method = m) (hsize : g.locals.size = c.maxLocals) (ha : (Value.ref a :: argsL).toArray = as') (hlen : ∀ sig, parseMethodDescriptor y.desc = some sig → argsL.length = sig.parameters.length) (hs : g.stack = argsL.reverse ++ .ref a :: rest) (hW : 2 * g.monitorRoom + (rest.map fun v => v.category).sum ≤ W) (hd : decode c.code g.pc = .ok (.invokespecial index, 3)) :
    ∃ (v : Option Value) (T' : State) (L : List Loc), Stand p l e R (s.setVm T'.vm) m args below meth c T' (locs ++ L) (cells + rm.cells) (slots + rm.slots) ∧ s.Since T'.vm T'.heap.size ∧ Z.Warmed39 T'.vm ∧ T'.vm.findClass own = some m.cls ∧ CHr Z EL vm0 h T'.vm T'.heap ∧ Qc v T'.heap ∧ Fr n0 L ∧ ∀ t, Steps p.tables e below (T'.setTop { g with pc := g.pc + 3, stack := v.toList ++ rest }) t → Steps p.tables e below (T.setTop g) t := by
  obtain ⟨v, _, ⟨T', L', k', n'⟩, -, X', hS', hg', ⟨Lc, ⟨⟨hq, hr⟩, hn⟩, e1, e2, e3⟩, st⟩ := X.specialBackS hx (y := y) hin hown (mvT (s := s.setVm vm0) hZ w1) (mvT (s := s.setVm vm0) hZ w2) (mvT (s := s.setVm vm0) hZ w4) hy (backOfV (W := W) (s := s) hM hZ w4 w3 hf hl hEL hC hSl hSs) hg hsize (Steps.refl _) (a := a) (argsL := argsL) (rest := rest) hlen hs hW hd (fun _ _ => ⟨ha, eT, hc, hsl⟩)
  dsimp only [Pt.U, Pt.locs, Pt.cells, Pt.slots] at X' hS' hg' e1 e2 e3 st hq hr
  subst e1 e2 e3
  obtain ⟨r1, r2, r3, r4⟩ := rebS hS hk X' hS' hg' hZ hown
  exact ⟨v, T', Lc, r1, r2, r3, r4, hr, hq, hn, fun t k => st.trans k⟩
theorem callViW (X : Stand p l e R (s.setVm vm0) m args below meth c T locs cells slots) (hx : p.tables.exec = Jvm.exec) (hZ : Z.Warmed39 vm0) (hown : vm0.findClass own = some m.cls) (hS : s.Since vm0 k0) (hk : k0 ≤ T.heap.size) (hEL : EW Z a0 EL) (hC : CHv Z EL vm0 h) (hSl : ∀ x ∈ SL, x < h.size) (hSs : ∀ x ∈ SL, Safe Z EL vm0 h x) (hM : METW l Z z bytes maxL ret rm as' EL SL h n0 Qc) (w1 : (Jvm.Cond.methodLink own index y).before a0 Z = true) (w2 : (Jvm.Cond.declares y).before a0 Z = true) (nf : NotFace (s.setVm vm0) y) (w5 : (Jvm.Cond.selects C y z).before a0 Z = true) (w6 : (Jvm.Cond.instanceMethod z).before a0 Z = true) (w3 : (Jvm.Cond.initialized z.cls).before a0 Z = true) (w4 : (Jvm.Cond.code z bytes maxL ret).before a0 Z = true)
    (hy : y.cls ≠ "java/lang/invoke/MethodHandle" ∧ y.cls ≠ "java/lang/invoke/VarHandle") (eT : T.heap = h) (E : Exa Z h a C) (hf : rm.frames + 1 ≤ R.frames) (hl : W + (maxL + 11) + rm.locals ≤ R.locals) (hc : cells + rm.cells ≤ R.cells) (hsl : slots + rm.slots ≤ R.slots)
    (hg : g.method = m) (hsize : g.locals.size = c.maxLocals) (ha : (Value.ref a :: argsL).toArray = as') (hlen : ∀ sig, parseMethodDescriptor y.desc = some sig → argsL.length = sig.parameters.length) (hs : g.stack = argsL.reverse ++ .ref a :: rest) (hW : 2 * g.monitorRoom + (rest.map fun v => v.category).sum ≤ W) (hd : decode c.code g.pc = .ok (.invokevirtual index, 3)) :
    ∃ (v : Option Value) (T' : State) (L : List Loc), Stand p l e R (s.setVm T'.vm) m args below meth c T' (locs ++ L) (cells + rm.cells) (slots + rm.slots) ∧ s.Since T'.vm T'.heap.size ∧ Z.Warmed39 T'.vm ∧ T'.vm.findClass own = some m.cls ∧ CHr Z EL vm0 h T'.vm T'.heap ∧ Qc v T'.heap ∧ Fr n0 L ∧ ∀ t, Steps p.tables e below (T'.setTop { g with pc := g.pc + 3, stack := v.toList ++ rest }) t → Steps p.tables e below (T.setTop g) t := by
  obtain ⟨cq, kq, qa, qb, qc⟩ := isOf (s := s.setVm vm0) hZ eT E
  obtain ⟨v, _, ⟨T', L', k', n'⟩, -, X', hS', hg', ⟨Lc, ⟨⟨hq, hr⟩, hn⟩, e1, e2, e3⟩, st⟩ := X.virtualBackS hx (y := y) (z := z) hown (mvT (s := s.setVm vm0) hZ w1) (mvT (s := s.setVm vm0) hZ w2) nf (mvT (s := s.setVm vm0) hZ w5) (mvT (s := s.setVm vm0) hZ w6) hy (backOfV (W := W) (s := s) hM hZ w4 w3 hf hl hEL hC hSl hSs) qa qc hg hsize (Steps.refl _) (argsL := argsL) (rest := rest) hlen hs hW hd (fun _ _ => ⟨ha, eT, hc, hsl⟩)
  dsimp only [Pt.U, Pt.locs, Pt.cells, Pt.slots] at X' hS' hg' e1 e2 e3 st hq hr
  subst e1 e2 e3
  obtain ⟨r1, r2, r3, r4⟩ := rebS hS hk X' hS' hg' hZ hown
  exact ⟨v, T', Lc, r1, r2, r3, r4, hr, hq, hn, fun t k => st.trans k⟩
end Calls
end OwnWide
end Jvm.RoadKit

/-! calls by a premise 'Back' (the kit's String laws), and what is no instance -/
namespace Jvm.RoadKit
open Sem ClassFile Op Lib Jvm.Stand Jvm.Free Jvm.LawKit
section OwnBack
variable {p : Program} {l : Launch} {e : Env} {R : Room} {s : State} {m : MethodId} {args : Array Value} {below : List Frame} {meth : Method} {c : Code} {T : State} {locs : List Loc} {cells slots : Nat} {Z : State} {a0 : Array Value} {h : Heap} {own C : String} {index : Nat} {y z : MethodName} {bytes : ByteArray} {maxL : Nat} {as' : Array Value} {Qb : Option Value → Heap → List Loc → Prop} {W rc rs : Nat} {g : JFrame} {argsL rest : List Value} {a : Addr}
theorem callSpB (X : Stand p l e R s m args below meth c T locs cells slots) (hx : p.tables.exec = Jvm.exec) (hZ : Z.Warmed39 s.vm) (hown : s.vm.findClass own = some m.cls)
    (hB : Back l R p e below s args y 3 W (fun P b => b = as' ∧ P.U.heap = h ∧ P.cells + rc ≤ R.cells ∧ P.slots + rs ≤ R.slots) (fun P _ v B => ∃ L, Qb v B.U.heap L ∧ B.locs = P.locs ++ L ∧ B.cells = P.cells + rc ∧ B.slots = P.slots + rs))
    (hin : y.name = "<init>") (w1 : (Jvm.Cond.methodLink own index y).before a0 Z = true) (w2 : (Jvm.Cond.instanceMethod y).before a0 Z = true) (w4 : (Jvm.Cond.code y bytes maxL none).before a0 Z = true)
    (hy : y.cls ≠ "java/lang/invoke/MethodHandle" ∧ y.cls ≠ "java/lang/invoke/VarHandle") (eT : T.heap = h) (hc : cells + rc ≤ R.cells) (hsl : slots + rs ≤ R.slots)
    (hg : g.method = m) (hsize : g.locals.size = c.maxLocals) (ha : (Value.ref a :: argsL).toArray = as') (hlen : ∀ sig, parseMethodDescriptor y.desc = some sig → argsL.length = sig.parameters.length) (hs : g.stack = argsL.reverse ++ .ref a :: rest) (hW : 2 * g.monitorRoom + (rest.map fun v => v.category).sum ≤ W) (hd : decode c.code g.pc = .ok (.invokespecial index, 3)) :
    ∃ (v : Option Value) (T' : State) (L : List Loc), Stand p l e R s m args below meth c T' (locs ++ L) (cells + rc) (slots + rs) ∧ Qb v T'.heap L ∧ ∀ t, Steps p.tables e below (T'.setTop { g with pc := g.pc + 3, stack := v.toList ++ rest }) t → Steps p.tables e below (T.setTop g) t := by
  obtain ⟨v, _, ⟨T', L', k', n'⟩, -, X', ⟨Lc, hq, e1, e2, e3⟩, st⟩ := X.specialBack hx (y := y) hin hown (mvT hZ w1) (mvT hZ w2) (mvT hZ w4) hy hB hg hsize (Steps.refl _) (a := a) (argsL := argsL) (rest := rest) hlen hs hW hd (fun _ _ => ⟨ha, eT, hc, hsl⟩)
  dsimp only [Pt.U, Pt.locs, Pt.cells, Pt.slots] at X' e1 e2 e3 st hq
  subst e1 e2 e3
  exact ⟨v, T', Lc, X', hq, fun t k => st.trans k⟩
theorem callViB (X : Stand p l e R s m args below meth c T locs cells slots) (hx : p.tables.exec = Jvm.exec) (hZ : Z.Warmed39 s.vm) (hown : s.vm.findClass own = some m.cls)
    (hB : Back l R p e below s args z 3 W (fun P b => b = as' ∧ P.U.heap = h ∧ P.cells + rc ≤ R.cells ∧ P.slots + rs ≤ R.slots) (fun P _ v B => ∃ L, Qb v B.U.heap L ∧ B.locs = P.locs ++ L ∧ B.cells = P.cells + rc ∧ B.slots = P.slots + rs))
    (w1 : (Jvm.Cond.methodLink own index y).before a0 Z = true) (w2 : (Jvm.Cond.declares y).before a0 Z = true) (nf : NotFace s y) (w5 : (Jvm.Cond.selects C y z).before a0 Z = true) (w6 : (Jvm.Cond.instanceMethod z).before a0 Z = true)
    (hy : y.cls ≠ "java/lang/invoke/MethodHandle" ∧ y.cls ≠ "java/lang/invoke/VarHandle") (eT : T.heap = h) (E : Exa Z h a C) (hc : cells + rc ≤ R.cells) (hsl : slots + rs ≤ R.slots)
    (hg : g.method = m) (hsize : g.locals.size = c.maxLocals) (ha : (Value.ref a :: argsL).toArray = as') (hlen : ∀ sig, parseMethodDescriptor y.desc = some sig → argsL.length = sig.parameters.length) (hs : g.stack = argsL.reverse ++ .ref a :: rest) (hW : 2 * g.monitorRoom + (rest.map fun v => v.category).sum ≤ W) (hd : decode c.code g.pc = .ok (.invokevirtual index, 3)) :
    ∃ (v : Option Value) (T' : State) (L : List Loc), Stand p l e R s m args below meth c T' (locs ++ L) (cells + rc) (slots + rs) ∧ Qb v T'.heap L ∧ ∀ t, Steps p.tables e below (T'.setTop { g with pc := g.pc + 3, stack := v.toList ++ rest }) t → Steps p.tables e below (T.setTop g) t := by
  obtain ⟨cq, kq, qa, qb, qc⟩ := isOf hZ eT E
  obtain ⟨v, _, ⟨T', L', k', n'⟩, -, X', ⟨Lc, hq, e1, e2, e3⟩, st⟩ := X.virtualBack hx (y := y) (z := z) hown (mvT hZ w1) (mvT hZ w2) nf (mvT hZ w5) (mvT hZ w6) hy hB qa qc hg hsize (Steps.refl _) (argsL := argsL) (rest := rest) hlen hs hW hd (fun _ _ => ⟨ha, eT, hc, hsl⟩)
  dsimp only [Pt.U, Pt.locs, Pt.cells, Pt.slots] at X' e1 e2 e3 st hq
  subst e1 e2 e3
  exact ⟨v, T', Lc, X', hq, fun t k => st.trans k⟩
theorem noInst {K : String} {nk : Nat} (w : (Jvm.Cond.superclass C "java/lang/Object").before a0 Z = true) (wo : (Jvm.Cond.noSuperclass "java/lang/Object").before a0 Z = true) (wk : (Jvm.Cond.instantiable K nk).before a0 Z = true) (hn : C ≠ K) (hn2 : "java/lang/Object" ≠ K) : ∃ c t, Z.vm.findClass C = some c ∧ Z.vm.findClass K = some t ∧ Z.vm.assignable c t = false := by
  obtain ⟨t, kt, g1, g2, g3, g4, -⟩ := Cond.instantiable_spec wk
  obtain ⟨o, ko, o1, o2, o3, -⟩ := Cond.noSuperclass_spec wo
  obtain ⟨c, h0⟩ := found_sup w
  obtain ⟨p, k, kp, h1, h2, h3, h4, h5, -, h7⟩ := Cond.superclass_spec h0 w
  cases o1.symm.trans h1
  have ne := ids_ne h0 g1 hn
  have ne2 := ids_ne o1 g1 hn2
  have g5 : kt.isInterface = false := by
    revert g4
    cases kt.isInterface <;> simp
  refine ⟨c, t, h0, g1, ?_⟩
  have n3 : ∀ fuel, Z.vm.isSubclassAux fuel c t = false := fun fuel => by
    cases fuel with
    | zero => rfl
    | succ f =>
      cases f with
      | zero => simp [Vm.isSubclassAux, ne, h2, h4]
      | succ f => simp [Vm.isSubclassAux, ne, h2, h4, ne2, o2, o3]
  show Z.vm.assignableAux (255 + 1) c t = false
  simp [Vm.assignableAux, ne, h2, g2, h5, g3, g5, Vm.isSubclass, n3]
theorem ch0 {k : Int32} : ∀ x ∈ ([] : List Int32), ¬ x < 0 ∧ ¬ k < x := fun _ q => nomatch q
theorem chS {k x : Int32} {xs : List Int32} (h : ¬ x < 0 ∧ ¬ k < x) (r : ∀ x ∈ xs, ¬ x < 0 ∧ ¬ k < x) : ∀ y ∈ x :: xs, ¬ y < 0 ∧ ¬ k < y := fun y q => by
  rcases List.mem_cons.mp q with rfl | q
  · exact h
  · exact r y q
theorem up65 {xs : List Int32} (r : ∀ x ∈ xs, ¬ x < 0 ∧ ¬ (255 : Int32) < x) : ∀ x ∈ xs, ¬ x < 0 ∧ ¬ (65535 : Int32) < x := fun x q => by
  have h := r x q
  have e0 : (255 : Int32).toInt = 255 := by decide
  have e1 : (65535 : Int32).toInt = 65535 := by decide
  refine ⟨h.1, ?_⟩
  have h2 := h.2
  rw [Int32.lt_iff_toInt_lt] at h2 ⊢
  omega
theorem i2c_in {x : Int32} (h : ¬ x < 0 ∧ ¬ (255 : Int32) < x) : x.toUInt32.toUInt16.toUInt32.toInt32 = x := by
  have q := c_i2c x
  have e0 : (255 : Int32).toInt = 255 := by decide
  have e1 : (0 : Int32).toInt = 0 := by decide
  have h1 := h.1
  have h2 := h.2
  rw [Int32.lt_iff_toInt_lt] at h1 h2
  apply Int32.toInt_inj.mp
  omega
theorem narc_in {x : Int32} (h : ¬ x < 0 ∧ ¬ (255 : Int32) < x) : nar .char x = x := i2c_in h
theorem m255_in (x : Int32) : ¬ (x &&& (255 : Int32)) < 0 ∧ ¬ (255 : Int32) < x &&& (255 : Int32) := by
  have h := c_mask x 255 8 (by decide) (by decide)
  have e0 : (255 : Int32).toInt = 255 := by decide
  have e1 : (0 : Int32).toInt = 0 := by decide
  rw [Int32.lt_iff_toInt_lt, Int32.lt_iff_toInt_lt, h]
  omega
end OwnBack
end Jvm.RoadKit

/- laws to paste: Road.backV, Road.eqW, Road.codOf (cut by pick.py; bodies as the Statement names them) -/
namespace Jvm.Pilot.@@N@@
namespace StrChars
open Jvm Sem ClassFile Op Lib Jvm.Stand Jvm.Free.XT Jvm.Free.ALB Jvm.Free.JM Jvm.Free
open Jvm.Lib.Cold (StaticIs)
/-- a char array whose places are chars -/
def Ch (a : Addr) (A : Cell) (U : State) : Prop := Arr .char a A U ∧ Typed .char A
theorem Ch.mv {a : Addr} {A : Cell} {U U' : State} (h : Ch a A U) (hal : U.vm.Alike U'.vm) (hh : U'.heap = U.heap) : Ch a A U' := ⟨h.1.mv hal hh, h.2⟩
theorem Ch.keep {a : Addr} {A : Cell} {U U' : State} (h : Ch a A U) (hal : U.vm.Alike U'.vm) (hk : U'.heap[a]? = some A) : Ch a A U' := ⟨h.1.keep hal hk, h.2⟩
/-- what place i of a char[]'s cell holds -/
def cv (A : Cell) (i : Nat) : Int32 := match A.slots[i]? with | some (.int x) => x | _ => 0
theorem Ch.get {a : Addr} {A : Cell} {U : State} (h : Ch a A U) {i : Nat} (hi : i < A.slots.size) : A.slots[i]? = some (.int (cv A i)) := by
  have e := Array.getElem?_eq_getElem hi
  have f := h.2 i _ e
  unfold cv; rw [e]
  generalize A.slots[i] = v at f
  cases v <;> simp [fits] at f ⊢
/-- the byte that i2b leaves of a char -/
def lo8 (x : Int32) : Int32 := x.toInt8.toInt32
theorem fits_lo8 (y : Int32) : fits .byte (.int (lo8 y)) = true := by
  have h1 := y.toInt8.le_toInt
  have h2 := y.toInt8.toInt_lt
  simp only [lo8, fits, Bool.and_eq_true, decide_eq_true_eq, Int32.le_iff_toInt_le, Int8.toInt_toInt32, show (-128 : Int32).toInt = -128 from by decide, show (127 : Int32).toInt = 127 from by decide]
  omega
/-- A' is A but that each place j of lo .. hi - 1 holds f j -/
def Laid (A A' : Cell) (lo hi : Nat) (f : Nat → Value) : Prop := A'.cls = A.cls ∧ A'.vm = A.vm ∧ A'.slots.size = A.slots.size ∧ ∀ i, A'.slots[i]? = if lo ≤ i ∧ i < hi then some (f i) else A.slots[i]?
theorem Laid.zero (A : Cell) (lo : Nat) (f : Nat → Value) : Laid A A lo (lo + 0) f := ⟨rfl, rfl, rfl, fun i => by rw [if_neg (by omega)]⟩
theorem Laid.step {A Ak : Cell} {lo k : Nat} {f : Nat → Value} {v : Value} (h : Laid A Ak lo k f) (hlo : lo ≤ k) (hk : k < Ak.slots.size) (hv : v = f k) : Laid A (Ak.setSlot k v) lo (k + 1) f := by
  refine ⟨h.1, h.2.1, by simpa [Cell.setSlot] using h.2.2.1, fun i => ?_⟩
  by_cases e : k = i
  · subst e; rw [Cell.slots_setSlot_self v hk, if_pos (by omega), hv]
  · rw [Cell.slots_setSlot_ne v e, h.2.2.2 i]
    by_cases q : lo ≤ i ∧ i < k
    · rw [if_pos q, if_pos (by omega)]
    · rw [if_neg q, if_neg (by omega)]
def U16 : String := "java/lang/StringUTF16"
namespace Cmp5
def yN : MethodName := ⟨"java/lang/StringUTF16", "compress", "([CI[BII)I"⟩
abbrev yB : ByteArray := jdk_52_method_21_code
theorem d0 : decode yB 0 = .ok (.iconst 0, 1) := by decide +kernel
theorem d1 : decode yB 1 = .ok (.istore 5, 2) := by decide +kernel
theorem d3 : decode yB 3 = .ok (.iload 5, 2) := by decide +kernel
theorem d5 : decode yB 5 = .ok (.iload 4, 2) := by decide +kernel
theorem d7 : decode yB 7 = .ok (.if_icmp (.ge) 37, 3) := by decide +kernel
theorem d10 : decode yB 10 = .ok (.aload_n 0, 1) := by decide +kernel
theorem d11 : decode yB 11 = .ok (.iload_n 1, 1) := by decide +kernel
theorem d12 : decode yB 12 = .ok (.caload, 1) := by decide +kernel
theorem d13 : decode yB 13 = .ok (.istore 6, 2) := by decide +kernel
theorem d15 : decode yB 15 = .ok (.iload 6, 2) := by decide +kernel
theorem d17 : decode yB 17 = .ok (.sipush 255, 3) := by decide +kernel
theorem d20 : decode yB 20 = .ok (.if_icmp (.le) 6, 3) := by decide +kernel
theorem d26 : decode yB 26 = .ok (.aload_n 2, 1) := by decide +kernel
theorem d27 : decode yB 27 = .ok (.iload_n 3, 1) := by decide +kernel
theorem d28 : decode yB 28 = .ok (.iload 6, 2) := by decide +kernel
theorem d30 : decode yB 30 = .ok (.i2b, 1) := by decide +kernel
theorem d31 : decode yB 31 = .ok (.bastore, 1) := by decide +kernel
theorem d32 : decode yB 32 = .ok (.iinc 1 1, 3) := by decide +kernel
theorem d35 : decode yB 35 = .ok (.iinc 3 1, 3) := by decide +kernel
theorem d38 : decode yB 38 = .ok (.iinc 5 1, 3) := by decide +kernel
theorem d41 : decode yB 41 = .ok (.goto (-38), 3) := by decide +kernel
theorem d44 : decode yB 44 = .ok (.iload 4, 2) := by decide +kernel
theorem d46 : decode yB 46 = .ok (.ireturn, 1) := by decide +kernel
def site : List Cond := []
def tab : Cond := tabOf yN yB 7 (some .int) site
def P (b : Addr) (A : Cell) (d : Addr) (B : Cell) (o q len : Nat) (args : Array Value) (s : State) : Prop := args = #[.ref b, .int (Int32.ofNat o), .ref d, .int (Int32.ofNat q), .int (Int32.ofNat len)] ∧ Ch b A s ∧ Arr .byte d B s ∧ b ≠ d ∧ o + len ≤ A.slots.size ∧ q + len ≤ B.slots.size ∧ ∀ i, i < len → ¬ 255 < cv A (o + i)
def E (b : Addr) (A : Cell) (d : Addr) (B : Cell) (o q len : Nat) (r : Option Value) (s u : State) : Prop := r = some (.int (Int32.ofNat len)) ∧ ∃ B', Put d B' s u ∧ Laid B B' q (q + len) (fun j => Value.int (lo8 (cv A (o + (j - q)))))
/-- no char of the range above 255: len; the places written hold each char's low byte -/
theorem law (l : Launch) (b : Addr) (A : Cell) (d : Addr) (B : Cell) (o q len : Nat) : Law l yN 5 5 0 0 yB 7 (some .int) site (P b A d B o q len) (E b A d B o q len) (copyLocs d q len) 0 0 := by
  refine Law.of_walk (plainFor_of_name (by decide +kernel)) (by decide +kernel) (by decide +kernel) (by decide) (fun _ _ h => by rw [h.1]; rfl) (fun _ U U' hal hh h => ⟨h.1, h.2.1.mv hal hh, h.2.2.1.mv hal hh, h.2.2.2⟩) (fun r U U' V V' h1 hal h2 h => ⟨h.1, h.2.elim fun B' q => ⟨B', q.1.mv h1 h2, q.2⟩⟩) ?_
  intro p e s m args below meth c s₁ X0 hexec hbytes hml hret hlk hnm hown hh0 W hP
  obtain ⟨rfl, hA, hB, hne, l1, l2, hp⟩ := hP
  have c1 : Steps p.tables e below (s₁.setTop (entryFrame m #[.ref b, .int (Int32.ofNat o), .ref d, .int (Int32.ofNat q), .int (Int32.ofNat len)] 7)) (s₁.setTop (mkF m 0 #[.val (.ref b), .val (.int (Int32.ofNat o)), .val (.ref d), .val (.int (Int32.ofNat q)), .val (.int (Int32.ofNat len)), .unset, .unset] [])) := entry rfl
  have hA0 := hA.1.mv X0.warmed.alike hh0
  have hB0 := hB.mv X0.warmed.alike hh0
  have a31 := hA.1.2.2.2
  have c2 : Steps p.tables e below (s₁.setTop (entryFrame m #[.ref b, .int (Int32.ofNat o), .ref d, .int (Int32.ofNat q), .int (Int32.ofNat len)] 7)) (s₁.setTop (mkF m 3 #[.val (.ref b), .val (.int (Int32.ofNat o)), .val (.ref d), .val (.int (Int32.ofNat q)), .val (.int (Int32.ofNat len)), .val (.int 0), .unset] [])) := c1.trans (by
    refine iconstV X0.here hexec rfl 0 (hb hbytes d0) (by decide) ?_
    refine XS.istore X0.here hexec rfl (hb hbytes d1) rfl rfl ?_
    exact Steps.refl _)
  have loop : ∀ (r i : Nat), i + r = len → ∀ (z : Slot), (z = .unset ∨ ∃ w, z = .val w ∧ w.category = 1) → ∀ (Tl : State) (Bk : Cell), Stand p l e { frames := 0, locals := 0, cells := 0, slots := 0 } s m #[.ref b, .int (Int32.ofNat o), .ref d, .int (Int32.ofNat q), .int (Int32.ofNat len)] below meth c Tl ([] ++ copyLocs d q i) 0 0 → Put d Bk s₁ Tl → Laid B Bk q (q + i) (fun j => Value.int (lo8 (cv A (o + (j - q))))) →
      Steps p.tables e below (s₁.setTop (entryFrame m #[.ref b, .int (Int32.ofNat o), .ref d, .int (Int32.ofNat q), .int (Int32.ofNat len)] 7)) (Tl.setTop (mkF m 3 #[.val (.ref b), .val (.int (Int32.ofNat (o + i))), .val (.ref d), .val (.int (Int32.ofNat (q + i))), .val (.int (Int32.ofNat len)), .val (.int (Int32.ofNat i)), z] [])) → ∃ (T' : State) (B' : Cell) (z' : Slot), Stand p l e { frames := 0, locals := 0, cells := 0, slots := 0 } s m #[.ref b, .int (Int32.ofNat o), .ref d, .int (Int32.ofNat q), .int (Int32.ofNat len)] below meth c T' ([] ++ copyLocs d q len) 0 0 ∧ Put d B' s₁ T' ∧ Laid B B' q (q + len) (fun j => Value.int (lo8 (cv A (o + (j - q))))) ∧
      Steps p.tables e below (s₁.setTop (entryFrame m #[.ref b, .int (Int32.ofNat o), .ref d, .int (Int32.ofNat q), .int (Int32.ofNat len)] 7)) (T'.setTop (mkF m 3 #[.val (.ref b), .val (.int (Int32.ofNat (o + len))), .val (.ref d), .val (.int (Int32.ofNat (q + len))), .val (.int (Int32.ofNat len)), .val (.int (Int32.ofNat len)), z'] [])) := by
    intro r
    induction r with
    | zero =>
      intro i hi z hz Tl Bk Xl pl fl cl
      have hil : i = len := by omega
      rw [hil] at Xl fl cl
      exact ⟨Tl, Bk, z, Xl, pl, fl, cl⟩
    | succ r ih =>
      intro i hi z hz Tl Bk Xl pl fl cl
      have all := X0.warmed.alike.symm.trans Xl.warmed.alike
      have hAl := hA0.keep all (pl.other hne hA0.1)
      have hBk := hB0.like all pl.1 fl.1 fl.2.1 fl.2.2.1
      have hlt : q + i < Bk.slots.size := by rw [fl.2.2.1]; omega
      have c3 : Steps p.tables e below (s₁.setTop (entryFrame m #[.ref b, .int (Int32.ofNat o), .ref d, .int (Int32.ofNat q), .int (Int32.ofNat len)] 7)) (Tl.setTop (mkF m 12 #[.val (.ref b), .val (.int (Int32.ofNat (o + i))), .val (.ref d), .val (.int (Int32.ofNat (q + i))), .val (.int (Int32.ofNat len)), .val (.int (Int32.ofNat i)), z] [.int (Int32.ofNat (o + i)), .ref b])) := cl.trans (by
        refine XS.iload Xl.here hexec rfl (hb hbytes d3) rfl ?_
        refine XS.iload Xl.here hexec rfl (hb hbytes d5) rfl ?_
        refine XS.icmpNo Xl.here hexec rfl (hb hbytes d7) rfl (ii_ge_f (lt32 (by omega) (by omega))) ?_
        refine XS.aloadN Xl.here hexec rfl (hb hbytes d10) rfl rfl ?_
        refine XS.iloadN Xl.here hexec rfl (hb hbytes d11) rfl ?_
        exact Steps.refl _)
      have c4 : Steps p.tables e below (s₁.setTop (entryFrame m #[.ref b, .int (Int32.ofNat o), .ref d, .int (Int32.ofNat q), .int (Int32.ofNat len)] 7)) (Tl.setTop (mkF m 13 #[.val (.ref b), .val (.int (Int32.ofNat (o + i))), .val (.ref d), .val (.int (Int32.ofNat (q + i))), .val (.int (Int32.ofNat len)), .val (.int (Int32.ofNat i)), z] [.int (cv A (o + i))])) := c3.trans (by
        refine Xl.aget hexec hAl rfl (hA.get (i := o + i) (by omega)) rfl rfl (hb hbytes d12) ?_
        exact Steps.refl _)
      have c5 : Steps p.tables e below (s₁.setTop (entryFrame m #[.ref b, .int (Int32.ofNat o), .ref d, .int (Int32.ofNat q), .int (Int32.ofNat len)] 7)) (Tl.setTop (mkF m 15 #[.val (.ref b), .val (.int (Int32.ofNat (o + i))), .val (.ref d), .val (.int (Int32.ofNat (q + i))), .val (.int (Int32.ofNat len)), .val (.int (Int32.ofNat i)), .val (.int (cv A (o + i)))] [])) := c4.trans (by
        refine XS.istoreS Xl.here hexec rfl (hb hbytes d13) rfl rfl hz ?_
        exact Steps.refl _)
      have c6 : Steps p.tables e below (s₁.setTop (entryFrame m #[.ref b, .int (Int32.ofNat o), .ref d, .int (Int32.ofNat q), .int (Int32.ofNat len)] 7)) (Tl.setTop (mkF m 31 #[.val (.ref b), .val (.int (Int32.ofNat (o + i))), .val (.ref d), .val (.int (Int32.ofNat (q + i))), .val (.int (Int32.ofNat len)), .val (.int (Int32.ofNat i)), .val (.int (cv A (o + i)))] [.int (lo8 (cv A (o + i))), .int (Int32.ofNat (q + i)), .ref d])) := c5.trans (by
        refine XS.iload Xl.here hexec rfl (hb hbytes d15) rfl ?_
        refine sipushV Xl.here hexec rfl 255 (hb hbytes d17) (by decide) ?_
        refine XS.icmpYes Xl.here hexec rfl (pc0 := 20) rfl (hb hbytes d20) rfl (ii_le_t (hp i (by omega))) (by decide) rfl ?_
        refine XS.aloadN Xl.here hexec rfl (hb hbytes d26) rfl rfl ?_
        refine XS.iloadN Xl.here hexec rfl (hb hbytes d27) rfl ?_
        refine XS.iload Xl.here hexec rfl (hb hbytes d28) rfl ?_
        refine i2b Xl.here hexec rfl (hb hbytes d30) rfl ?_
        exact Steps.refl _)
      obtain ⟨T7, X7, p7, st7⟩ := Xl.aput hexec hBk rfl hlt rfl (fits_lo8 (cv A (o + i))) (g := (mkF m 31 #[.val (.ref b), .val (.int (Int32.ofNat (o + i))), .val (.ref d), .val (.int (Int32.ofNat (q + i))), .val (.int (Int32.ofNat len)), .val (.int (Int32.ofNat i)), .val (.int (cv A (o + i)))] [.int (lo8 (cv A (o + i))), .int (Int32.ofNat (q + i)), .ref d])) rfl (rest := []) rfl (hb hbytes d31)
      have c8 : Steps p.tables e below (s₁.setTop (entryFrame m #[.ref b, .int (Int32.ofNat o), .ref d, .int (Int32.ofNat q), .int (Int32.ofNat len)] 7)) (T7.setTop (mkF m 32 #[.val (.ref b), .val (.int (Int32.ofNat (o + i))), .val (.ref d), .val (.int (Int32.ofNat (q + i))), .val (.int (Int32.ofNat len)), .val (.int (Int32.ofNat i)), .val (.int (cv A (o + i)))] [])) := c6.trans (st7 _ (Steps.refl _))
      have c9 : Steps p.tables e below (s₁.setTop (entryFrame m #[.ref b, .int (Int32.ofNat o), .ref d, .int (Int32.ofNat q), .int (Int32.ofNat len)] 7)) (T7.setTop (mkF m 3 #[.val (.ref b), .val (.int (Int32.ofNat (o + i) + 1)), .val (.ref d), .val (.int (Int32.ofNat (q + i) + 1)), .val (.int (Int32.ofNat len)), .val (.int (Int32.ofNat i + 1)), .val (.int (cv A (o + i)))] [])) := c8.trans (by
        refine iincV X7.here hexec rfl 1 (hb hbytes d32) (by decide) rfl rfl ?_
        refine iincV X7.here hexec rfl 1 (hb hbytes d35) (by decide) rfl rfl ?_
        refine iincV X7.here hexec rfl 1 (hb hbytes d38) (by decide) rfl rfl ?_
        refine XS.goto X7.here hexec rfl (pc0 := 41) rfl (hb hbytes d41) (by decide) rfl ?_
        exact Steps.refl _)
      have c10 : Steps p.tables e below (s₁.setTop (entryFrame m #[.ref b, .int (Int32.ofNat o), .ref d, .int (Int32.ofNat q), .int (Int32.ofNat len)] 7)) (T7.setTop (mkF m 3 #[.val (.ref b), .val (.int (Int32.ofNat (o + (i + 1)))), .val (.ref d), .val (.int (Int32.ofNat (q + (i + 1)))), .val (.int (Int32.ofNat len)), .val (.int (Int32.ofNat (i + 1))), .val (.int (cv A (o + i)))] [])) := by
        have := c9
        rw [succ32, succ32, succ32] at this
        exact this
      exact ih (i + 1) (by omega) _ (Or.inr ⟨_, rfl, rfl⟩) T7 _ (by rw [copyLocs_step, ← List.append_assoc]; exact X7) (pl.trans p7) (fl.step (by omega) hlt (by simp)) c10
  obtain ⟨T9, B9, z9, X9, p9, f9, g9⟩ := loop len 0 (by omega) .unset (Or.inl rfl) s₁ B (by simpa [copyLocs] using X0) ⟨hB0.1, fun _ _ => rfl, rfl⟩ (Laid.zero _ _ _) c2
  have c11 : Steps p.tables e below (s₁.setTop (entryFrame m #[.ref b, .int (Int32.ofNat o), .ref d, .int (Int32.ofNat q), .int (Int32.ofNat len)] 7)) (T9.setTop (mkF m 46 #[.val (.ref b), .val (.int (Int32.ofNat (o + len))), .val (.ref d), .val (.int (Int32.ofNat (q + len))), .val (.int (Int32.ofNat len)), .val (.int (Int32.ofNat len)), z9] [.int (Int32.ofNat len)])) := g9.trans (by
    refine XS.iload X9.here hexec rfl (hb hbytes d3) rfl ?_
    refine XS.iload X9.here hexec rfl (hb hbytes d5) rfl ?_
    refine XS.icmpYes X9.here hexec rfl (pc0 := 7) rfl (hb hbytes d7) rfl (ii_ge_t (nlt32 (by omega) (Nat.le_refl _))) (by decide) rfl ?_
    refine XS.iload X9.here hexec rfl (hb hbytes d44) rfl ?_
    exact Steps.refl _)
  exact ⟨T9, some (.int (Int32.ofNat len)), _, _, _, X9, by simp, rfl, rfl, (fun h => by cases h), ⟨rfl, B9, p9.from hh0, f9⟩, fun fs hl => c11.trans (X9.ireturnOut hexec hret rfl (Or.inl rfl) (hb hbytes d46) hl)⟩
end Cmp5
namespace Cmp3
def yN : MethodName := ⟨"java/lang/StringUTF16", "compress", "([CII)[B"⟩
abbrev yB : ByteArray := jdk_52_method_16_code
theorem d0 : decode yB 0 = .ok (.iload_n 2, 1) := by decide +kernel
theorem d1 : decode yB 1 = .ok (.newarray .byte, 2) := by decide +kernel
theorem d3 : decode yB 3 = .ok (.astore_n 3, 1) := by decide +kernel
theorem d4 : decode yB 4 = .ok (.aload_n 0, 1) := by decide +kernel
theorem d5 : decode yB 5 = .ok (.iload_n 1, 1) := by decide +kernel
theorem d6 : decode yB 6 = .ok (.aload_n 3, 1) := by decide +kernel
theorem d7 : decode yB 7 = .ok (.iconst 0, 1) := by decide +kernel
theorem d8 : decode yB 8 = .ok (.iload_n 2, 1) := by decide +kernel
theorem d9 : decode yB 9 = .ok (.invokestatic 115, 3) := by decide +kernel
theorem d12 : decode yB 12 = .ok (.istore 4, 2) := by decide +kernel
theorem d14 : decode yB 14 = .ok (.iload 4, 2) := by decide +kernel
theorem d16 : decode yB 16 = .ok (.iload_n 2, 1) := by decide +kernel
theorem d17 : decode yB 17 = .ok (.if_icmp (.eq) 40, 3) := by decide +kernel
theorem d57 : decode yB 57 = .ok (.aload_n 3, 1) := by decide +kernel
theorem d58 : decode yB 58 = .ok (.areturn, 1) := by decide +kernel
def site : List Cond := [.arrayClass .byte, Cmp5.tab] ++ staticW U16 115 Cmp5.yN
def tab : Cond := tabOf yN yB 6 (some (.array .byte)) site
def P (b : Addr) (A : Cell) (o len : Nat) (args : Array Value) (s : State) : Prop := args = #[.ref b, .int (Int32.ofNat o), .int (Int32.ofNat len)] ∧ Ch b A s ∧ o + len ≤ A.slots.size ∧ len ≤ 536870912 ∧ ∀ i, i < len → ¬ 255 < cv A (o + i)
def E (b : Addr) (A : Cell) (o len : Nat) (r : Option Value) (s u : State) : Prop := NewArr .byte "[B" len (fun j => .int (lo8 (cv A (o + j)))) r s u ∧ u.heap.size = s.heap.size + 1
/-- no char of the range above 255: a new byte[] of their low bytes -/
theorem law (l : Launch) (b : Addr) (A : Cell) (o len : Nat) : Law l yN 3 3 1 18 yB 6 (some (.array .byte)) site (P b A o len) (E b A o len) [] 1 len := by
  refine Law.of_walk (plainFor_of_name (by decide +kernel)) (by decide +kernel) (by decide +kernel) (by decide) (fun _ _ h => by rw [h.1]; rfl) (fun _ U U' hal hh h => ⟨h.1, h.2.1.mv hal hh, h.2.2⟩) (fun r U U' V V' h1 hal h2 h => ⟨NewArr.mv r U U' V V' h1 hal h2 h.1, by rw [h1, h2]; exact h.2⟩) ?_
  intro p e s m args below meth c s₁ X0 hexec hbytes hml hret hlk hnm hown hh0 W hP
  obtain ⟨rfl, hA, l1, l2, hp⟩ := hP
  have a31 := hA.1.2.2.2
  have c1 : Steps p.tables e below (s₁.setTop (entryFrame m #[.ref b, .int (Int32.ofNat o), .int (Int32.ofNat len)] 6)) (s₁.setTop (mkF m 0 #[.val (.ref b), .val (.int (Int32.ofNat o)), .val (.int (Int32.ofNat len)), .unset, .unset, .unset] [])) := entry rfl
  have c2 : Steps p.tables e below (s₁.setTop (entryFrame m #[.ref b, .int (Int32.ofNat o), .int (Int32.ofNat len)] 6)) (s₁.setTop (mkF m 1 #[.val (.ref b), .val (.int (Int32.ofNat o)), .val (.int (Int32.ofNat len)), .unset, .unset, .unset] [.int (Int32.ofNat len)])) := c1.trans (by
    refine XS.iloadN X0.here hexec rfl (hb hbytes d0) rfl ?_
    exact Steps.refl _)
  obtain ⟨T3, B3, X3, ba3, bs3, bv3, bh3, bf3, st3⟩ := X0.anew hexec (atype := .byte) (wk W (.arrayClass .byte)) rfl (by show len * 1 ≤ _; omega) (by omega) (g := (mkF m 1 #[.val (.ref b), .val (.int (Int32.ofNat o)), .val (.int (Int32.ofNat len)), .unset, .unset, .unset] [.int (Int32.ofNat len)])) rfl (hb hbytes d1) (rest := []) rfl (Nat.le_refl _) (by show 0 + len ≤ len; omega)
  rw [hh0] at ba3 st3
  have kp3 : XT.Kept s T3 := (XT.Kept.of_eq hh0).push bh3
  have hA3 := hA.keep X3.warmed.alike (kp3 _ _ hA.1.1)
  have hne : b ≠ s.heap.size := hA.1.ne
  have c4 : Steps p.tables e below (s₁.setTop (entryFrame m #[.ref b, .int (Int32.ofNat o), .int (Int32.ofNat len)] 6)) (T3.setTop (mkF m 3 #[.val (.ref b), .val (.int (Int32.ofNat o)), .val (.int (Int32.ofNat len)), .unset, .unset, .unset] [.ref s.heap.size])) := c2.trans (st3 _ (Steps.refl _))
  have c5 : Steps p.tables e below (s₁.setTop (entryFrame m #[.ref b, .int (Int32.ofNat o), .int (Int32.ofNat len)] 6)) (T3.setTop (mkF m 9 #[.val (.ref b), .val (.int (Int32.ofNat o)), .val (.int (Int32.ofNat len)), .val (.ref s.heap.size), .unset, .unset] [.int (Int32.ofNat len), .int 0, .ref s.heap.size, .int (Int32.ofNat o), .ref b])) := c4.trans (by
    refine XS.astoreN X3.here hexec rfl (hb hbytes d3) rfl rfl rfl ?_
    refine XS.aloadN X3.here hexec rfl (hb hbytes d4) rfl rfl ?_
    refine XS.iloadN X3.here hexec rfl (hb hbytes d5) rfl ?_
    refine XS.aloadN X3.here hexec rfl (hb hbytes d6) rfl rfl ?_
    refine iconstV X3.here hexec rfl 0 (hb hbytes d7) (by decide) ?_
    refine XS.iloadN X3.here hexec rfl (hb hbytes d8) rfl ?_
    exact Steps.refl _)
  obtain ⟨v6, T6, X6, E6, g6⟩ := X3.callS hexec (Cmp5.law l b A s.heap.size B3 o 0 len) hown (wks W (staticW U16 115 Cmp5.yN)) (wk W Cmp5.tab) (W := 0) (Nat.le_of_ble_eq_true rfl) (Nat.le_of_ble_eq_true rfl) (Nat.le_refl _) (by show 0 + len + 0 ≤ len; omega) (g := (mkF m 9 #[.val (.ref b), .val (.int (Int32.ofNat o)), .val (.int (Int32.ofNat len)), .val (.ref s.heap.size), .unset, .unset] [.int (Int32.ofNat len), .int (Int32.ofNat 0), .ref s.heap.size, .int (Int32.ofNat o), .ref b])) rfl (by rw [hml]; rfl) c5 (argsL := [.ref b, .int (Int32.ofNat o), .ref s.heap.size, .int (Int32.ofNat 0), .int (Int32.ofNat len)]) (rest := []) rfl rfl (by show 2 * 0 + 0 ≤ _; decide) (hb hbytes d9) (⟨rfl, hA3, ba3, hne, l1, by rw [bs3]; simp, hp⟩)
  obtain ⟨rfl, B6, p6, f6⟩ := E6
  have c7 : Steps p.tables e below (s₁.setTop (entryFrame m #[.ref b, .int (Int32.ofNat o), .int (Int32.ofNat len)] 6)) (T6.setTop (mkF m 12 #[.val (.ref b), .val (.int (Int32.ofNat o)), .val (.int (Int32.ofNat len)), .val (.ref s.heap.size), .unset, .unset] [.int (Int32.ofNat len)])) := g6
  have c8 : Steps p.tables e below (s₁.setTop (entryFrame m #[.ref b, .int (Int32.ofNat o), .int (Int32.ofNat len)] 6)) (T6.setTop (mkF m 58 #[.val (.ref b), .val (.int (Int32.ofNat o)), .val (.int (Int32.ofNat len)), .val (.ref s.heap.size), .val (.int (Int32.ofNat len)), .unset] [.ref s.heap.size])) := c7.trans (by
    refine XS.istore X6.here hexec rfl (hb hbytes d12) rfl rfl ?_
    refine XS.iload X6.here hexec rfl (hb hbytes d14) rfl ?_
    refine XS.iloadN X6.here hexec rfl (hb hbytes d16) rfl ?_
    refine XS.icmpYes X6.here hexec rfl (pc0 := 17) rfl (hb hbytes d17) rfl (ii_eq_t rfl) (by decide) rfl ?_
    refine XS.aloadN X6.here hexec rfl (hb hbytes d57) rfl rfl ?_
    exact Steps.refl _)
  have X8 := X6.wide (L' := []) (cells' := 1) (slots' := len) (fun x hx hlt => by
    simp only [List.nil_append, copyLocs, List.mem_map, List.mem_range] at hx
    obtain ⟨i, -, rfl⟩ := hx
    exact absurd hlt (Nat.lt_irrefl _)) (Nat.le_refl _) (by omega)
  exact ⟨T6, some (.ref s.heap.size), _, _, _, X8, rfl, rfl, rfl, (fun h => by cases h), ⟨⟨rfl, B6, ba3.like (X3.warmed.alike.symm.trans X6.warmed.alike) p6.1 f6.1 f6.2.1 f6.2.2.1, f6.2.1.trans bv3, by rw [X6.warmed.alike.findClass, f6.1]; exact bf3, by rw [f6.2.2.1, bs3]; simp, fun j hj => by rw [f6.2.2.2 j, if_pos (by omega)]; rfl, kp3.put p6 (Nat.le_refl _)⟩, by rw [p6.2.2, bh3, hh0]; simp⟩, fun fs hl => c8.trans (X8.areturnOut hexec rfl hret rfl (hb hbytes d58) hl)⟩
end Cmp3
namespace CodL
def yN : MethodName := ⟨"java/lang/StringUTF16", "coderFromArrayLen", "([BI)B"⟩
abbrev yB : ByteArray := jdk_52_method_15_code
theorem d0 : decode yB 0 = .ok (.iload_n 1, 1) := by decide +kernel
theorem d1 : decode yB 1 = .ok (.aload_n 0, 1) := by decide +kernel
theorem d2 : decode yB 2 = .ok (.arraylength, 1) := by decide +kernel
theorem d3 : decode yB 3 = .ok (.isub, 1) := by decide +kernel
theorem d4 : decode yB 4 = .ok (.bipush 31, 2) := by decide +kernel
theorem d6 : decode yB 6 = .ok (.iushr, 1) := by decide +kernel
theorem d7 : decode yB 7 = .ok (.i2b, 1) := by decide +kernel
theorem d8 : decode yB 8 = .ok (.ireturn, 1) := by decide +kernel
def site : List Cond := []
def tab : Cond := tabOf yN yB 2 (some .byte) site
def P (d : Addr) (B : Cell) (args : Array Value) (s : State) : Prop := args = #[.ref d, .int (Int32.ofNat B.slots.size)] ∧ Arr .byte d B s
def E (r : Option Value) (s u : State) : Prop := XT.PureE (some (.int 0)) r s u
/-- an array as long as the number of chars: LATIN1 -/
theorem law (l : Launch) (d : Addr) (B : Cell) : Law l yN 2 2 0 0 yB 2 (some .byte) site (P d B) E [] 0 0 := by
  refine Law.of_walk (plainFor_of_name (by decide +kernel)) (by decide +kernel) (by decide +kernel) (by decide) (fun _ _ h => by rw [h.1]; rfl) (fun _ U U' hal hh h => ⟨h.1, h.2.mv hal hh⟩) (fun r U U' V V' h1 hal h2 h => XT.PureE.mv r U U' V V' h1 hal h2 h) ?_
  intro p e s m args below meth c s₁ X0 hexec hbytes hml hret hlk hnm hown hh0 W hP
  obtain ⟨rfl, hB⟩ := hP
  have hB0 := hB.mv X0.warmed.alike hh0
  have c1 : Steps p.tables e below (s₁.setTop (entryFrame m #[.ref d, .int (Int32.ofNat B.slots.size)] 2)) (s₁.setTop (mkF m 0 #[.val (.ref d), .val (.int (Int32.ofNat B.slots.size))] [])) := entry rfl
  have c2 : Steps p.tables e below (s₁.setTop (entryFrame m #[.ref d, .int (Int32.ofNat B.slots.size)] 2)) (s₁.setTop (mkF m 2 #[.val (.ref d), .val (.int (Int32.ofNat B.slots.size))] [.ref d, .int (Int32.ofNat B.slots.size)])) := c1.trans (by
    refine XS.iloadN X0.here hexec rfl (hb hbytes d0) rfl ?_
    refine XS.aloadN X0.here hexec rfl (hb hbytes d1) rfl rfl ?_
    exact Steps.refl _)
  have c3 : Steps p.tables e below (s₁.setTop (entryFrame m #[.ref d, .int (Int32.ofNat B.slots.size)] 2)) (s₁.setTop (mkF m 8 #[.val (.ref d), .val (.int (Int32.ofNat B.slots.size))] [.int (lo8 (ushr (Int32.ofNat B.slots.size - Int32.ofNat B.slots.size) 31))])) := c2.trans (by
    refine X0.alen hexec hB0 rfl rfl (hb hbytes d2) ?_
    refine XS.isub X0.here hexec rfl (hb hbytes d3) rfl ?_
    refine bipushV X0.here hexec rfl 31 (hb hbytes d4) (by decide) ?_
    refine iushr X0.here hexec rfl (hb hbytes d6) rfl ?_
    refine i2b X0.here hexec rfl (hb hbytes d7) rfl ?_
    exact Steps.refl _)
  have e0 : lo8 (ushr (Int32.ofNat B.slots.size - Int32.ofNat B.slots.size) 31) = 0 := by rw [Int32.sub_self]; decide
  rw [e0] at c3
  exact ⟨s₁, some (.int 0), _, _, _, X0, rfl, rfl, rfl, (fun h => by cases h), ⟨rfl, hh0⟩, fun fs hl => c3.trans (X0.ireturnOut hexec hret rfl (Or.inr (Or.inr (Or.inl rfl))) (hb hbytes d8) hl)⟩
end CodL
/-- the String at a is Latin-1 over a new byte[] (the heap's one new cell): the low bytes of the len chars of A from o on; every cell but a is kept -/
def Got (a : Addr) (D : Cell) (fV fC : Field) (A : Cell) (o len : Nat) (r : Option Value) (s u : State) : Prop := r = none ∧ ∃ D' V : Cell, Blank "java/lang/String" a D' u ∧ Same D D' [fV.slot, fC.slot] ∧ D'.slots[fV.slot]? = some (.ref s.heap.size) ∧ D'.slots[fC.slot]? = some (.int 0) ∧ Arr .byte s.heap.size V u ∧ V.vm = .none ∧ u.vm.findClass "[B" = some V.cls ∧ V.slots.size = len ∧ (∀ j, j < len → V.slots[j]? = some (.int (lo8 (cv A (o + j))))) ∧ (∀ (y : Addr) (c : Cell), y ≠ a → s.heap[y]? = some c → u.heap[y]? = some c) ∧ u.heap.size = s.heap.size + 1
theorem Got.mv {a : Addr} {D A : Cell} {fV fC : Field} {o len : Nat} : ∀ r (U U' V V' : State), U'.heap = U.heap → V.vm.Alike V'.vm → V'.heap = V.heap → Got a D fV fC A o len r U V → Got a D fV fC A o len r U' V' :=
  fun r U U' V V' h1 hal h2 ⟨e0, D', X, a1, a2, a3, a4, a5, a6, a7, a8, a9, a10, a11⟩ => ⟨e0, D', X, a1.mv hal h2, a2, by rw [h1]; exact a3, a4, by rw [h1]; exact a5.mv hal h2, a6, by rw [hal.findClass]; exact a7, a8, a9, by rw [h1, h2]; exact a10, by rw [h1, h2]; exact a11⟩
namespace New4
def yN : MethodName := ⟨"java/lang/String", "<init>", "([CIILjava/lang/Void;)V"⟩
abbrev yB : ByteArray := jdk_42_method_149_code
theorem d0 : decode yB 0 = .ok (.aload_n 0, 1) := by decide +kernel
theorem d1 : decode yB 1 = .ok (.invokespecial 1, 3) := by decide +kernel
theorem d4 : decode yB 4 = .ok (.iload_n 3, 1) := by decide +kernel
theorem d5 : decode yB 5 = .ok (.ifCond (.ne) 22, 3) := by decide +kernel
theorem d27 : decode yB 27 = .ok (.getstatic 38, 3) := by decide +kernel
theorem d30 : decode yB 30 = .ok (.ifCond (.eq) 28, 3) := by decide +kernel
theorem d33 : decode yB 33 = .ok (.aload_n 1, 1) := by decide +kernel
theorem d34 : decode yB 34 = .ok (.iload_n 2, 1) := by decide +kernel
theorem d35 : decode yB 35 = .ok (.iload_n 3, 1) := by decide +kernel
theorem d36 : decode yB 36 = .ok (.invokestatic 177, 3) := by decide +kernel
theorem d39 : decode yB 39 = .ok (.astore 5, 2) := by decide +kernel
theorem d41 : decode yB 41 = .ok (.aload_n 0, 1) := by decide +kernel
theorem d42 : decode yB 42 = .ok (.aload 5, 2) := by decide +kernel
theorem d44 : decode yB 44 = .ok (.iload_n 3, 1) := by decide +kernel
theorem d45 : decode yB 45 = .ok (.invokestatic 47, 3) := by decide +kernel
theorem d48 : decode yB 48 = .ok (.putfield 15, 3) := by decide +kernel
theorem d51 : decode yB 51 = .ok (.aload_n 0, 1) := by decide +kernel
theorem d52 : decode yB 52 = .ok (.aload 5, 2) := by decide +kernel
theorem d54 : decode yB 54 = .ok (.putfield 9, 3) := by decide +kernel
theorem d57 : decode yB 57 = .ok (.return_, 1) := by decide +kernel
def site : List Cond := [.fieldLink "java/lang/String" 38 "java/lang/String" "COMPACT_STRINGS" "Z", Cmp3.tab, CodL.tab, .laysFinal "java/lang/String" "java/lang/String" "value" "[B", .fieldLink "java/lang/String" 9 "java/lang/String" "value" "[B", .laysFinal "java/lang/String" "java/lang/String" "coder" "B", .fieldLink "java/lang/String" 15 "java/lang/String" "coder" "B"] ++ objW "java/lang/String" 1 ++ staticW "java/lang/String" 177 Cmp3.yN ++ staticW "java/lang/String" 47 CodL.yN
def tab : Cond := tabOf yN yB 6 none site
def P (a : Addr) (D : Cell) (fV fC : Field) (b : Addr) (A : Cell) (z : Int32) (o len : Nat) (args : Array Value) (s : State) : Prop := args = #[.ref a, .ref b, .int (Int32.ofNat o), .int (Int32.ofNat len), .null] ∧ Blank "java/lang/String" a D s ∧ Found "java/lang/String" "value" "[B" fV s ∧ Found "java/lang/String" "coder" "B" fC s ∧ Ch b A s ∧ StaticIs s "java/lang/String" "COMPACT_STRINGS" "Z" (.int z) ∧ ¬ z = 0 ∧ 0 < len ∧ o + len ≤ A.slots.size ∧ len ≤ 536870912 ∧ ∀ i, i < len → ¬ 255 < cv A (o + i)
def E (a : Addr) (D : Cell) (fV fC : Field) (A : Cell) (o len : Nat) (r : Option Value) (s u : State) : Prop := Got a D fV fC A o len r s u
/-- len > 0, no char of the range above 255: a Latin-1 String of their low bytes -/
theorem law (l : Launch) (a : Addr) (D : Cell) (fV fC : Field) (b : Addr) (A : Cell) (z : Int32) (o len : Nat) : Law l yN 5 4 2 35 yB 6 none site (P a D fV fC b A z o len) (E a D fV fC A o len) [⟨a, fC.slot⟩, ⟨a, fV.slot⟩] 1 len := by
  refine Law.of_walk (plainFor_of_name (by decide +kernel)) (by decide +kernel) (by decide +kernel) (by decide) (fun _ _ h => by rw [h.1]; rfl) (fun _ U U' hal hh h => ⟨h.1, h.2.1.mv hal hh, h.2.2.1.al hal, h.2.2.2.1.al hal, h.2.2.2.2.1.mv hal hh, h.2.2.2.2.2.1.there hal hh, h.2.2.2.2.2.2⟩) (fun r U U' V V' h1 hal h2 h => Got.mv r U U' V V' h1 hal h2 h) ?_
  intro p e s m args below meth c s₁ X0 hexec hbytes hml hret hlk hnm hown hh0 W hP
  obtain ⟨rfl, hB, f1, f2, hA, s1, hz, l0, l1, l2, hp⟩ := hP
  have a31 := hA.1.2.2.2
  have c1 : Steps p.tables e below (s₁.setTop (entryFrame m #[.ref a, .ref b, .int (Int32.ofNat o), .int (Int32.ofNat len), .null] 6)) (s₁.setTop (mkF m 0 #[.val (.ref a), .val (.ref b), .val (.int (Int32.ofNat o)), .val (.int (Int32.ofNat len)), .val .null, .unset] [])) := entry rfl
  have c2 : Steps p.tables e below (s₁.setTop (entryFrame m #[.ref a, .ref b, .int (Int32.ofNat o), .int (Int32.ofNat len), .null] 6)) (s₁.setTop (mkF m 1 #[.val (.ref a), .val (.ref b), .val (.int (Int32.ofNat o)), .val (.int (Int32.ofNat len)), .val .null, .unset] [.ref a])) := c1.trans (by
    refine XS.aloadN X0.here hexec rfl (hb hbytes d0) rfl rfl ?_
    exact Steps.refl _)
  obtain ⟨T3, X3, q3, st3⟩ := X0.oinit hexec hown (wks W (objW "java/lang/String" 1)) (g := (mkF m 1 #[.val (.ref a), .val (.ref b), .val (.int (Int32.ofNat o)), .val (.int (Int32.ofNat len)), .val .null, .unset] [.ref a])) rfl (by rw [hml]; rfl) (rest := []) rfl (hb hbytes d1) (W := 0) (by show 2 * 0 + 0 ≤ _; decide) (Nat.le_of_ble_eq_true rfl) (Nat.le_of_ble_eq_true rfl)
  have hh3 := q3.trans hh0
  have c4 : Steps p.tables e below (s₁.setTop (entryFrame m #[.ref a, .ref b, .int (Int32.ofNat o), .int (Int32.ofNat len), .null] 6)) (T3.setTop (mkF m 27 #[.val (.ref a), .val (.ref b), .val (.int (Int32.ofNat o)), .val (.int (Int32.ofNat len)), .val .null, .unset] [])) := (c2.trans (st3 _ (Steps.refl _))).trans (by
    refine XS.iloadN X3.here hexec rfl (hb hbytes d4) rfl ?_
    refine XS.ifYes X3.here hexec rfl (pc0 := 5) rfl (hb hbytes d5) rfl (i0_ne_t (nz32 (by omega) l0)) (by decide) rfl ?_
    exact Steps.refl _)
  obtain ⟨T5, X5, q5, st5⟩ := X3.sget hexec hown (wk W (.fieldLink "java/lang/String" 38 "java/lang/String" "COMPACT_STRINGS" "Z")) s1 (fun _ _ h => by rw [hh3]; exact h) (g := (mkF m 27 #[.val (.ref a), .val (.ref b), .val (.int (Int32.ofNat o)), .val (.int (Int32.ofNat len)), .val .null, .unset] [])) rfl (hb hbytes d27)
  have hh5 := q5.trans hh3
  have c6 : Steps p.tables e below (s₁.setTop (entryFrame m #[.ref a, .ref b, .int (Int32.ofNat o), .int (Int32.ofNat len), .null] 6)) (T5.setTop (mkF m 30 #[.val (.ref a), .val (.ref b), .val (.int (Int32.ofNat o)), .val (.int (Int32.ofNat len)), .val .null, .unset] [.int z])) := c4.trans (st5 _ (Steps.refl _))
  have c7 : Steps p.tables e below (s₁.setTop (entryFrame m #[.ref a, .ref b, .int (Int32.ofNat o), .int (Int32.ofNat len), .null] 6)) (T5.setTop (mkF m 36 #[.val (.ref a), .val (.ref b), .val (.int (Int32.ofNat o)), .val (.int (Int32.ofNat len)), .val .null, .unset] [.int (Int32.ofNat len), .int (Int32.ofNat o), .ref b])) := c6.trans (by
    refine XS.ifNo X5.here hexec rfl (hb hbytes d30) rfl (i0_eq_f hz) ?_
    refine XS.aloadN X5.here hexec rfl (hb hbytes d33) rfl rfl ?_
    refine XS.iloadN X5.here hexec rfl (hb hbytes d34) rfl ?_
    refine XS.iloadN X5.here hexec rfl (hb hbytes d35) rfl ?_
    exact Steps.refl _)
  obtain ⟨v8, T8, X8, E8, g8⟩ := X5.callS hexec (Cmp3.law l b A o len) hown (wks W (staticW "java/lang/String" 177 Cmp3.yN)) (wk W Cmp3.tab) (W := 0) (Nat.le_of_ble_eq_true rfl) (Nat.le_of_ble_eq_true rfl) (Nat.le_refl _) (by show 0 + len ≤ len; omega) (g := (mkF m 36 #[.val (.ref a), .val (.ref b), .val (.int (Int32.ofNat o)), .val (.int (Int32.ofNat len)), .val .null, .unset] [.int (Int32.ofNat len), .int (Int32.ofNat o), .ref b])) rfl (by rw [hml]; rfl) c7 (argsL := [.ref b, .int (Int32.ofNat o), .int (Int32.ofNat len)]) (rest := []) rfl rfl (by show 2 * 0 + 0 ≤ _; decide) (hb hbytes d36) (⟨rfl, hA.mv X5.warmed.alike hh5, l1, l2, hp⟩)
  obtain ⟨e8, z8⟩ := E8
  obtain ⟨rfl, N, n1, n2, n3, n4, n5, n6⟩ := NewArr.mv _ T5 s _ _ hh5.symm (Vm.Alike.refl _) rfl e8
  rw [hh5] at z8
  have hB1 := hB.keep X8.warmed.alike (n6 _ _ hB.1)
  have hne : s.heap.size ≠ a := (Nat.ne_of_lt (Array.getElem?_eq_some_iff.mp hB.1).1).symm
  have c9 : Steps p.tables e below (s₁.setTop (entryFrame m #[.ref a, .ref b, .int (Int32.ofNat o), .int (Int32.ofNat len), .null] 6)) (T8.setTop (mkF m 39 #[.val (.ref a), .val (.ref b), .val (.int (Int32.ofNat o)), .val (.int (Int32.ofNat len)), .val .null, .unset] [.ref s.heap.size])) := g8
  have c10 : Steps p.tables e below (s₁.setTop (entryFrame m #[.ref a, .ref b, .int (Int32.ofNat o), .int (Int32.ofNat len), .null] 6)) (T8.setTop (mkF m 45 #[.val (.ref a), .val (.ref b), .val (.int (Int32.ofNat o)), .val (.int (Int32.ofNat len)), .val .null, .val (.ref s.heap.size)] [.int (Int32.ofNat N.slots.size), .ref s.heap.size, .ref a])) := by
    have hc : Steps p.tables e below (s₁.setTop (entryFrame m #[.ref a, .ref b, .int (Int32.ofNat o), .int (Int32.ofNat len), .null] 6)) (T8.setTop (mkF m 45 #[.val (.ref a), .val (.ref b), .val (.int (Int32.ofNat o)), .val (.int (Int32.ofNat len)), .val .null, .val (.ref s.heap.size)] [.int (Int32.ofNat len), .ref s.heap.size, .ref a])) := c9.trans (by
      refine XS.astore X8.here hexec rfl (hb hbytes d39) rfl rfl rfl ?_
      refine XS.aloadN X8.here hexec rfl (hb hbytes d41) rfl rfl ?_
      refine XS.aload X8.here hexec rfl (hb hbytes d42) rfl rfl ?_
      refine XS.iloadN X8.here hexec rfl (hb hbytes d44) rfl ?_
      exact Steps.refl _)
    rw [n4]; exact hc
  obtain ⟨v11, T11, X11, E11, g11⟩ := X8.callS hexec (CodL.law l s.heap.size N) hown (wks W (staticW "java/lang/String" 47 CodL.yN)) (wk W CodL.tab) (W := 1) (Nat.le_of_ble_eq_true rfl) (Nat.le_of_ble_eq_true rfl) (Nat.le_refl _) (by show 0 + len + 0 ≤ len; omega) (g := (mkF m 45 #[.val (.ref a), .val (.ref b), .val (.int (Int32.ofNat o)), .val (.int (Int32.ofNat len)), .val .null, .val (.ref s.heap.size)] [.int (Int32.ofNat N.slots.size), .ref s.heap.size, .ref a])) rfl (by rw [hml]; rfl) c10 (argsL := [.ref s.heap.size, .int (Int32.ofNat N.slots.size)]) (rest := [.ref a]) rfl rfl (by show 2 * 0 + (1 + 0) ≤ _; decide) (hb hbytes d45) (⟨rfl, n1⟩)
  obtain ⟨rfl, q11⟩ := E11
  have hB11 := hB1.mv (X8.warmed.alike.symm.trans X11.warmed.alike) q11
  have c12 : Steps p.tables e below (s₁.setTop (entryFrame m #[.ref a, .ref b, .int (Int32.ofNat o), .int (Int32.ofNat len), .null] 6)) (T11.setTop (mkF m 48 #[.val (.ref a), .val (.ref b), .val (.int (Int32.ofNat o)), .val (.int (Int32.ofNat len)), .val .null, .val (.ref s.heap.size)] [.int 0, .ref a])) := g11
  obtain ⟨T13, X13, p13, bl13, sl13, st13⟩ := X11.finit hexec hown (wk W (.fieldLink "java/lang/String" 15 "java/lang/String" "coder" "B")) (Or.inr ⟨_, (wk W (.laysFinal "java/lang/String" "java/lang/String" "coder" "B"))⟩) (Or.inl ⟨rfl, hnm⟩) f2 (Or.inl rfl) hB11 (t := .byte) (by decide +kernel) rfl (g := (mkF m 48 #[.val (.ref a), .val (.ref b), .val (.int (Int32.ofNat o)), .val (.int (Int32.ofNat len)), .val .null, .val (.ref s.heap.size)] [.int 0, .ref a])) rfl (rest := []) rfl (hb hbytes d48)
  have c14 : Steps p.tables e below (s₁.setTop (entryFrame m #[.ref a, .ref b, .int (Int32.ofNat o), .int (Int32.ofNat len), .null] 6)) (T13.setTop (mkF m 54 #[.val (.ref a), .val (.ref b), .val (.int (Int32.ofNat o)), .val (.int (Int32.ofNat len)), .val .null, .val (.ref s.heap.size)] [.ref s.heap.size, .ref a])) := (c12.trans (st13 _ (Steps.refl _))).trans (by
    refine XS.aloadN X13.here hexec rfl (hb hbytes d51) rfl rfl ?_
    refine XS.aload X13.here hexec rfl (hb hbytes d52) rfl rfl ?_
    exact Steps.refl _)
  obtain ⟨T15, X15, p15, bl15, sl15, st15⟩ := X13.finit hexec hown (wk W (.fieldLink "java/lang/String" 9 "java/lang/String" "value" "[B")) (Or.inr ⟨_, (wk W (.laysFinal "java/lang/String" "java/lang/String" "value" "[B"))⟩) (Or.inl ⟨rfl, hnm⟩) f1 (Or.inl rfl) bl13 (t := (.array .byte)) (by decide +kernel) rfl (g := (mkF m 54 #[.val (.ref a), .val (.ref b), .val (.int (Int32.ofNat o)), .val (.int (Int32.ofNat len)), .val .null, .val (.ref s.heap.size)] [.ref s.heap.size, .ref a])) rfl (rest := []) rfl (hb hbytes d54)
  have c16 : Steps p.tables e below (s₁.setTop (entryFrame m #[.ref a, .ref b, .int (Int32.ofNat o), .int (Int32.ofNat len), .null] 6)) (T15.setTop (mkF m 57 #[.val (.ref a), .val (.ref b), .val (.int (Int32.ofNat o)), .val (.int (Int32.ofNat len)), .val .null, .val (.ref s.heap.size)] [])) := c14.trans (st15 _ (Steps.refl _))
  have ap := apart (Or.inr ⟨_, (wk W (.laysFinal "java/lang/String" "java/lang/String" "value" "[B"))⟩) (Or.inr ⟨_, (wk W (.laysFinal "java/lang/String" "java/lang/String" "coder" "B"))⟩) f1 f2 (t₁ := .array .byte) (t₂ := .byte) (by decide +kernel) (by decide +kernel) (by decide)
  have al := X8.warmed.alike.symm.trans X15.warmed.alike
  have n7 : T11.heap[s.heap.size]? = some N := by rw [q11]; exact n1.1
  exact ⟨T15, none, _, _, _, X15, by simp, rfl, by omega, (fun _ => rfl), ⟨rfl, _, N, bl15, ((Same.refl D _).set _ (by simp)).set _ (by simp), sl15, (Cell.slots_setSlot_ne _ ap).trans sl13, n1.keep al (p15.other hne (p13.other hne n7)), n2, by rw [al.findClass]; exact n3, n4, n5, fun y c h1 h2 => p15.other h1 (p13.other h1 (by rw [q11]; exact n6 y c h2)), by rw [p15.2.2, p13.2.2, q11]; exact z8⟩, fun fs hl => c16.trans (X15.returnOut hexec hret (hb hbytes d57) hl)⟩
end New4
namespace New1
def yN : MethodName := ⟨"java/lang/String", "<init>", "([C)V"⟩
abbrev yB : ByteArray := jdk_42_method_3_code
theorem d0 : decode yB 0 = .ok (.aload_n 0, 1) := by decide +kernel
theorem d1 : decode yB 1 = .ok (.aload_n 1, 1) := by decide +kernel
theorem d2 : decode yB 2 = .ok (.iconst 0, 1) := by decide +kernel
theorem d3 : decode yB 3 = .ok (.aload_n 1, 1) := by decide +kernel
theorem d4 : decode yB 4 = .ok (.arraylength, 1) := by decide +kernel
theorem d5 : decode yB 5 = .ok (.aconst_null, 1) := by decide +kernel
theorem d6 : decode yB 6 = .ok (.invokespecial 27, 3) := by decide +kernel
theorem d9 : decode yB 9 = .ok (.return_, 1) := by decide +kernel
def site : List Cond := [New4.tab] ++ initW "java/lang/String" 27 New4.yN
def tab : Cond := tabOf yN yB 2 none site
def P (a : Addr) (D : Cell) (fV fC : Field) (b : Addr) (A : Cell) (z : Int32) (args : Array Value) (s : State) : Prop := args = #[.ref a, .ref b] ∧ Blank "java/lang/String" a D s ∧ Found "java/lang/String" "value" "[B" fV s ∧ Found "java/lang/String" "coder" "B" fC s ∧ Ch b A s ∧ StaticIs s "java/lang/String" "COMPACT_STRINGS" "Z" (.int z) ∧ ¬ z = 0 ∧ 0 < A.slots.size ∧ A.slots.size ≤ 536870912 ∧ ∀ i, i < A.slots.size → ¬ 255 < cv A i
def E (a : Addr) (D : Cell) (fV fC : Field) (A : Cell) (r : Option Value) (s u : State) : Prop := Got a D fV fC A 0 A.slots.size r s u
/-- new String(chars), not empty, no char above 255: a Latin-1 String of their low bytes -/
theorem law (l : Launch) (a : Addr) (D : Cell) (fV fC : Field) (b : Addr) (A : Cell) (z : Int32) : Law l yN 2 1 3 52 yB 2 none site (P a D fV fC b A z) (E a D fV fC A) [⟨a, fC.slot⟩, ⟨a, fV.slot⟩] 1 A.slots.size := by
  refine Law.of_walk (plainFor_of_name (by decide +kernel)) (by decide +kernel) (by decide +kernel) (by decide) (fun _ _ h => by rw [h.1]; rfl) (fun _ U U' hal hh h => ⟨h.1, h.2.1.mv hal hh, h.2.2.1.al hal, h.2.2.2.1.al hal, h.2.2.2.2.1.mv hal hh, h.2.2.2.2.2.1.there hal hh, h.2.2.2.2.2.2⟩) (fun r U U' V V' h1 hal h2 h => Got.mv r U U' V V' h1 hal h2 h) ?_
  intro p e s m args below meth c s₁ X0 hexec hbytes hml hret hlk hnm hown hh0 W hP
  obtain ⟨rfl, hB, f1, f2, hA, s1, hz, l0, l2, hp⟩ := hP
  have c1 : Steps p.tables e below (s₁.setTop (entryFrame m #[.ref a, .ref b] 2)) (s₁.setTop (mkF m 0 #[.val (.ref a), .val (.ref b)] [])) := entry rfl
  have c2 : Steps p.tables e below (s₁.setTop (entryFrame m #[.ref a, .ref b] 2)) (s₁.setTop (mkF m 6 #[.val (.ref a), .val (.ref b)] [.null, .int (Int32.ofNat A.slots.size), .int 0, .ref b, .ref a])) := c1.trans (by
    refine XS.aloadN X0.here hexec rfl (hb hbytes d0) rfl rfl ?_
    refine XS.aloadN X0.here hexec rfl (hb hbytes d1) rfl rfl ?_
    refine iconstV X0.here hexec rfl 0 (hb hbytes d2) (by decide) ?_
    refine XS.aloadN X0.here hexec rfl (hb hbytes d3) rfl rfl ?_
    refine X0.alen hexec (hA.1.mv X0.warmed.alike hh0) rfl rfl (hb hbytes d4) ?_
    refine XS.aconstNull X0.here hexec rfl (hb hbytes d5) ?_
    exact Steps.refl _)
  obtain ⟨v3, T3, X3, E3, g3⟩ := X0.callN hexec (New4.law l a D fV fC b A z 0 A.slots.size) rfl hown (wks W (initW "java/lang/String" 27 New4.yN)) (W New4.tab (by simp only [site, List.mem_cons, List.mem_append, true_or, or_true])) (W := 0) (Nat.le_of_ble_eq_true rfl) (Nat.le_of_ble_eq_true rfl) (Nat.le_refl _) (by show 0 + A.slots.size ≤ A.slots.size; omega) (g := (mkF m 6 #[.val (.ref a), .val (.ref b)] [.null, .int (Int32.ofNat A.slots.size), .int (Int32.ofNat 0), .ref b, .ref a])) rfl (by rw [hml]; rfl) c2 (argsL := [.ref b, .int (Int32.ofNat 0), .int (Int32.ofNat A.slots.size), .null]) (rest := []) rfl rfl (by show 2 * 0 + 0 ≤ _; decide) (hb hbytes d6) (⟨rfl, hB.mv X0.warmed.alike hh0, f1.al X0.warmed.alike, f2.al X0.warmed.alike, hA.mv X0.warmed.alike hh0, s1.there X0.warmed.alike hh0, hz, l0, by omega, l2, fun i hi => by rw [Nat.zero_add]; exact hp i hi⟩)
  have e0 := Got.mv _ s₁ s _ _ hh0.symm (Vm.Alike.refl _) rfl E3
  obtain rfl := e0.1
  have c4 : Steps p.tables e below (s₁.setTop (entryFrame m #[.ref a, .ref b] 2)) (T3.setTop (mkF m 9 #[.val (.ref a), .val (.ref b)] [])) := g3
  exact ⟨T3, none, _, _, _, X3, by simp, rfl, by omega, (fun _ => rfl), e0, fun fs hl => c4.trans (X3.returnOut hexec hret (hb hbytes d9) hl)⟩
theorem pays {l : Launch} {R : Room} {p : Program} {e : Env} {below : List Frame} {s : State} {sargs : Array Value} {len W : Nat} (a : Addr) (D : Cell) (fV fC : Field) (b : Addr) (A : Cell) (z : Int32) (htab : tab.before sargs s = true) (hfr : 4 ≤ R.frames) (hlo : W + 65 ≤ R.locals) :
    Back l R p e below s sargs yN len W (fun A₁ a₁ => A₁.cells + 1 ≤ R.cells ∧ A₁.slots + A.slots.size ≤ R.slots ∧ P a D fV fC b A z a₁ A₁.U) (fun A₁ _ v₁ B₁ => E a D fV fC A v₁ A₁.U B₁.U ∧ B₁.locs = A₁.locs ++ [⟨a, fC.slot⟩, ⟨a, fV.slot⟩] ∧ B₁.cells = A₁.cells + 1 ∧ B₁.slots = A₁.slots + A.slots.size) :=
  (law l a D fV fC b A z).pays htab hfr (by omega)
end New1
/-- the byte, read back as charAt reads it, is the char -/
theorem lo8_mask {x : Int32} (h0 : ¬ x < 0) (h1 : ¬ 255 < x) : lo8 x &&& 255 = x := by
  have t : ∀ k : Fin 256, lo8 (Int32.ofNat k.val) &&& 255 = Int32.ofNat k.val := by decide +kernel
  rw [Int32.lt_iff_toInt_lt] at h0 h1
  have e0 : (0 : Int32).toInt = 0 := rfl
  have e1 : (255 : Int32).toInt = 255 := rfl
  obtain ⟨k, hk⟩ : ∃ k : Nat, x.toInt = k := ⟨x.toInt.toNat, by omega⟩
  have hx : x = Int32.ofNat k := Int32.toInt_inj.mp (by rw [hk, Int32.toInt_ofNat_small (by omega)])
  rw [hx]
  exact t ⟨k, by omega⟩
end StrChars
namespace StrChars.Road
open Jvm Sem ClassFile Op Lib Jvm.Stand Jvm.Free Jvm.Free.XT
open Jvm.Lib.Cold (StaticIs)
abbrev ST : String := "java/lang/String"
/-- every table word that New1's law asks, flat -/
abbrev words : List Jvm.Cond := [.code New1.yN New1.yB 2 none, .initialized ST, .methodLink ST 27 New4.yN, .instanceMethod New4.yN,
  .code New4.yN New4.yB 6 none, .fieldLink ST 38 ST "COMPACT_STRINGS" "Z", .laysFinal ST ST "value" "[B", .fieldLink ST 9 ST "value" "[B", .laysFinal ST ST "coder" "B", .fieldLink ST 15 ST "coder" "B",
  .methodLink ST 1 Lib.objectInit, .instanceMethod Lib.objectInit, .code Lib.objectInit ⟨#[0xb1]⟩ 1 none, .methodLink ST 177 Cmp3.yN, .static Cmp3.yN, .methodLink ST 47 CodL.yN, .static CodL.yN,
  .code Cmp3.yN Cmp3.yB 6 (some (.array .byte)), .initialized U16, .arrayClass .byte, .methodLink U16 115 Cmp5.yN, .static Cmp5.yN, .code Cmp5.yN Cmp5.yB 7 (some .int), .code CodL.yN CodL.yB 2 (some .byte)]
theorem tab_of {a : Array Value} {s : State} (h : ∀ w ∈ words, w.before a s = true) : New1.tab.before a s = true := by
  have h5 : Cmp5.tab.before a s = true := unparts (wk h (.code Cmp5.yN Cmp5.yB 7 (some .int))) (wks h (.initialized Cmp5.yN.cls :: Cmp5.site))
  have hc : CodL.tab.before a s = true := unparts (wk h (.code CodL.yN CodL.yB 2 (some .byte))) (wks h (.initialized CodL.yN.cls :: CodL.site))
  have q5 : ∀ w ∈ Cmp5.tab :: words, w.before a s = true := fun w hw => (List.mem_cons.mp hw).elim (fun e => e ▸ h5) (h w)
  have h3 : Cmp3.tab.before a s = true := unparts (wk q5 (.code Cmp3.yN Cmp3.yB 6 (some (.array .byte)))) (wks q5 (.initialized Cmp3.yN.cls :: Cmp3.site))
  have q3 : ∀ w ∈ Cmp3.tab :: CodL.tab :: words, w.before a s = true := fun w hw => (List.mem_cons.mp hw).elim (fun e => e ▸ h3) fun hw => (List.mem_cons.mp hw).elim (fun e => e ▸ hc) (h w)
  have h4 : New4.tab.before a s = true := unparts (wk q3 (.code New4.yN New4.yB 6 none)) (wks q3 (.initialized New4.yN.cls :: New4.site))
  have q4 : ∀ w ∈ New4.tab :: words, w.before a s = true := fun w hw => (List.mem_cons.mp hw).elim (fun e => e ▸ h4) (h w)
  exact unparts (wk q4 (.code New1.yN New1.yB 2 none)) (wks q4 (.initialized New1.yN.cls :: New1.site))
/-- the words ride from the start Z to the walk's own state -/
theorem moved {Z s : State} {a0 args : Array Value} (hZ : Z.Warmed39 s.vm) (hw : ∀ d ∈ words, d.before a0 Z = true) : ∀ d ∈ words, d.before args s = true := fun d hd => by
  have q := hw d hd
  have t : ∀ d ∈ words, d = .arrayClass .byte ∨ (d.onTables && d.keepsFace) = true := by decide +kernel
  rcases t d hd with rfl | t
  · exact RoadKit.mvA hZ q
  · exact RoadKit.mv hZ q t
/-- WHAT COMES BACK, over the tables of the start Z: h the heap at the call, h' behind it -/
def Q (Z : State) (x : Addr) (A : Cell) (h : Heap) (v : Option Value) (h' : Heap) (L : List Loc) : Prop := v = none ∧ (∀ y ∈ L, y.base = x) ∧ RoadKit.Keep h h' [x] ∧ h'.size = h.size + 1 ∧ RoadKit.Exa Z h' x ST ∧ RoadKit.Fld Z h' x ST "value" "[B" (.ref h.size) ∧ RoadKit.Fld Z h' x ST "coder" "B" (.int 0) ∧
  (∃ V : Cell, RoadKit.Arr Z h' h.size V .byte ∧ V.vm = .none ∧ Z.vm.findClass "[B" = some V.cls ∧ V.slots.size = A.slots.size ∧ ∀ j, j < A.slots.size → V.slots[j]? = some (.int (lo8 (cv A j)))) ∧
  ∀ (O n d : String) (w : Value), RoadKit.Fld Z h x O n d w → RoadKit.slotOf Z O n d ≠ RoadKit.slotOf Z ST "value" "[B" → RoadKit.slotOf Z O n d ≠ RoadKit.slotOf Z ST "coder" "B" → RoadKit.Fld Z h' x O n d w
/-- **new String(chars) AT A CALL, IN THE ROAD'S FORM**: for specialBack behind newO: x the fresh String, b the char[] with the cell A -/
theorem back {p : Program} {l : Launch} {e : Env} {R : Room} {s : State} {args : Array Value} {below : List Frame} {len W : Nat} {Z : State} {a0 : Array Value} {h : Heap} (hZ : Z.Warmed39 s.vm) (hw : ∀ d ∈ words, d.before a0 Z = true) {kI : Nat} (wi : (Jvm.Cond.instantiable ST kI).before a0 Z = true)
    {x b : Addr} {A : Cell} {z : Int32} {v0 c0 : Value} (E : RoadKit.Exa Z h x ST) (V : RoadKit.Fld Z h x ST "value" "[B" v0) (C : RoadKit.Fld Z h x ST "coder" "B" c0) (K : RoadKit.Arr Z h b A .char) (hty : Typed .char A) (S : RoadKit.Sta Z h ST "COMPACT_STRINGS" "Z" (.int z)) (hz : ¬ z = 0)
    (l0 : 0 < A.slots.size) (l2 : A.slots.size ≤ 536870912) (hp : ∀ i, i < A.slots.size → ¬ 255 < cv A i) (hfr : 4 ≤ R.frames) (hlo : W + 65 ≤ R.locals) :
    Back l R p e below s args New1.yN len W (fun P a => a = #[.ref x, .ref b] ∧ P.U.heap = h ∧ P.cells + 1 ≤ R.cells ∧ P.slots + A.slots.size ≤ R.slots)
      (fun P _ v B => ∃ L, Q Z x A h v B.U.heap L ∧ B.locs = P.locs ++ L ∧ B.cells = P.cells + 1 ∧ B.slots = P.slots + A.slots.size) := by
  intro m meth c P g ig mk a X hg hsize hdg hW hn hp'
  obtain ⟨rfl, rfl, r1, r2⟩ := hp'
  have al : Z.vm.Alike P.U.vm := hZ.alike.trans X.warmed.alike
  obtain ⟨D, cfV, kV, iV, fV, hD, gV, stV, knV, obV, asV, slV⟩ := id V
  obtain ⟨D', cfC, kC, iC, fC, hD', gC, stC, -, -, asC, slC⟩ := id C
  cases hD.symm.trans hD'
  obtain ⟨D2, kD, e1, e2, e3, e4, e5⟩ := id E
  cases hD.symm.trans e1
  obtain ⟨c2, k2, i1, i2, i3, -⟩ := Cond.instantiable_spec wi
  cases e2.symm.trans i1
  cases e3.symm.trans i2
  obtain ⟨kU, u1, u2⟩ := al.2.2 _ _ e3
  have hB : Blank ST x D P.U := ⟨hD, ⟨knV, fun q hq => by rw [hq] at obV; cases obV⟩, by rw [al.findClass]; exact e2, kU, u1, by rw [u2]; exact i3, by rw [u2]; exact e5 i3⟩
  have F1 : Found ST "value" "[B" fV P.U := ⟨SBG.found_only al ⟨cfV, kV, iV, gV⟩, stV⟩
  have F2 : Found ST "coder" "B" fC P.U := ⟨SBG.found_only al ⟨cfC, kC, iC, gC⟩, stC⟩
  have hA : Ch b A P.U := ⟨⟨K.1, State.isArrayOf_alike al K.2.1, K.2.2, by omega⟩, hty⟩
  have hS : StaticIs P.U ST "COMPACT_STRINGS" "Z" (.int z) := by
    obtain ⟨cfS, iS, kS, fS, st, cS, t1, t2, t3, t4, t5, t6, t7⟩ := S
    exact StaticIs.there (s := { Z with heap := P.U.heap }) ⟨cfS, iS, kS, fS, st, cS, t1, t2, t3, t4, t5, (fun q => by rw [q] at t6; cases t6), t7⟩ al rfl
  obtain ⟨v, B, X', ⟨⟨hv, E', V', q1, q2, q3, q4, q5, q6, q7, q8, q9, q10, q11⟩, hl, hc, hs⟩, st⟩ := New1.pays x D fV fC b A z (tab_of (moved hZ hw)) hfr hlo m meth c P g ig mk _ X hg hsize hdg hW hn ⟨r1, r2, rfl, hB, F1, F2, hA, hS, hz, l0, l2, hp⟩
  have al' : Z.vm.Alike B.U.vm := hZ.alike.trans X'.warmed.alike
  have hsz : E'.slots.size = D.slots.size := by
    obtain ⟨-, -, -, kB, w1, w2, w3⟩ := q1
    obtain ⟨kB', y1, y2⟩ := al'.2.2 _ _ e3
    rw [q2.2.1] at w1
    cases w1.symm.trans y1
    rw [w3, e5 i3, y2]
  refine ⟨v, B, X', ⟨_, ⟨hv, ?_, ⟨by omega, fun y cy hy hn' => q10 y cy (by simpa using hn') hy, fun y cy hy => ?_⟩, q11, ⟨E', _, q1.1, by rw [q2.2.1]; exact e2, by rw [q2.2.1]; exact e3, by rw [q2.1]; exact obV, fun _ => by rw [hsz]; exact e5 i3⟩,
    ⟨E', cfV, kV, iV, fV, q1.1, gV, stV, by rw [q2.1]; exact knV, by rw [q2.1]; exact obV, by rw [q2.2.1]; exact asV, q3⟩, ⟨E', cfC, kC, iC, fC, q1.1, gC, stC, by rw [q2.1]; exact knV, by rw [q2.1]; exact obV, by rw [q2.2.1]; exact asC, q4⟩,
    ⟨V', ⟨q5.1, State.isArrayOf_alike al'.symm q5.2.1, q5.2.2.1⟩, q6, by rw [← al'.findClass]; exact q7, q8, fun j hj => by have := q9 j hj; rwa [Nat.zero_add] at this⟩, fun O n d w F n1 n2 => ?_⟩, hl, hc, hs⟩, st⟩
  · intro y hy
    simp only [List.mem_cons, List.not_mem_nil, or_false] at hy
    rcases hy with rfl | rfl <;> rfl
  · by_cases q : y = x
    · subst q
      cases hD.symm.trans hy
      exact ⟨E', q1.1, q2.2.1, q2.1, hsz⟩
    · exact ⟨cy, q10 y cy q hy, rfl, rfl, rfl⟩
  · obtain ⟨D3, cf, k, i, f, g1, g2, g3, g4, g5, g6, g7⟩ := F
    cases hD.symm.trans g1
    simp only [RoadKit.slotOf, g2, gV, gC, Option.map_some, Option.getD_some] at n1 n2
    exact ⟨E', cf, k, i, f, q1.1, g2, g3, by rw [q2.1]; exact g4, by rw [q2.1]; exact g5, by rw [q2.2.1]; exact g6, by rw [q2.2.2 f.slot (by simp [n1, n2])]; exact g7⟩
end StrChars.Road
namespace StrChars.Road
open Jvm Sem ClassFile Op Lib Jvm.Stand Jvm.Free Jvm.Free.XT
/-- WHAT COMES BACK, the byte[] as a list of values -/
def QA (Z : State) (x : Addr) (zn : Int32) (cs : List Int32) (h : Heap) (v : Option Value) (h' : Heap) (L : List Loc) : Prop := v = none ∧ (∀ y ∈ L, y.base = x) ∧ RoadKit.Keep h h' [x] ∧ h'.size = h.size + 1 ∧ RoadKit.Exa Z h' x ST ∧ RoadKit.Fld Z h' x ST "value" "[B" (.ref h.size) ∧ RoadKit.Fld Z h' x ST "coder" "B" (.int 0) ∧
  (∃ kb, Z.vm.findClass "[B" = some kb ∧ RoadKit.Arv Z h' h.size kb .byte zn (cs.map fun c => .int (lo8 c)) (.int 0)) ∧
  ∀ (O n d : String) (w : Value), RoadKit.Fld Z h x O n d w → RoadKit.slotOf Z O n d ≠ RoadKit.slotOf Z ST "value" "[B" → RoadKit.slotOf Z O n d ≠ RoadKit.slotOf Z ST "coder" "B" → RoadKit.Fld Z h' x O n d w
/-- **new String(chars) AT A CALL, THE ARRAYS AS LISTS**: the char[] at b holds cs, not empty, no char above 255 -/
theorem backArv {p : Program} {l : Launch} {e : Env} {R : Room} {s : State} {args : Array Value} {below : List Frame} {len W : Nat} {Z : State} {a0 : Array Value} {h : Heap} (hZ : Z.Warmed39 s.vm) (hw : ∀ d ∈ words, d.before a0 Z = true) {kI : Nat} (wi : (Jvm.Cond.instantiable ST kI).before a0 Z = true)
    {x b : Addr} {k : ClassId} {zn z : Int32} {cs : List Int32} {dv v0 c0 : Value} (E : RoadKit.Exa Z h x ST) (V : RoadKit.Fld Z h x ST "value" "[B" v0) (C : RoadKit.Fld Z h x ST "coder" "B" c0) (K : RoadKit.Arv Z h b k .char zn (cs.map Value.int) dv) (S : RoadKit.Sta Z h ST "COMPACT_STRINGS" "Z" (.int z)) (hz : ¬ z = 0)
    (hlen : zn.toNatClampNeg = cs.length) (h0 : 0 < cs.length) (hbig : cs.length ≤ 536870912) (hall : ∀ c ∈ cs, ¬ 255 < c) (hfr : 4 ≤ R.frames) (hlo : W + 65 ≤ R.locals) :
    Back l R p e below s args New1.yN len W (fun P a => a = #[.ref x, .ref b] ∧ P.U.heap = h ∧ P.cells + 1 ≤ R.cells ∧ P.slots + cs.length ≤ R.slots)
      (fun P _ v B => ∃ L, QA Z x zn cs h v B.U.heap L ∧ B.locs = P.locs ++ L ∧ B.cells = P.cells + 1 ∧ B.slots = P.slots + cs.length) := by
  obtain ⟨A, K1, K2, K3, K4, K5, K6⟩ := K
  have e : A.slots.size = cs.length := K3.trans hlen
  have hat : ∀ (i : Nat) (hi : i < cs.length), A.slots[i]? = some (.int cs[i]) := fun i hi => by rw [K5 i (by omega)]; simp [List.getD_eq_getElem?_getD, hi]
  have hcv : ∀ (i : Nat) (hi : i < cs.length), cv A i = cs[i] := fun i hi => by unfold cv; rw [hat i hi]
  have hty : Typed .char A := fun i v hv => by
    have hi : i < A.slots.size := (Array.getElem?_eq_some_iff.mp hv).1
    have q := K5 i hi
    rw [hv] at q
    rw [Option.some.inj q]
    exact K6 i hi
  refine Back.mono (back hZ hw wi E V C K1 hty S hz (by omega) (by omega) (fun i hi => by rw [hcv i (by omega)]; exact hall _ (List.getElem_mem _)) hfr hlo) (fun P a hp => ⟨hp.1, hp.2.1, hp.2.2.1, by rw [e]; exact hp.2.2.2⟩) (fun P a v B hp hq => ?_)
  obtain ⟨L, ⟨q1, q2, q3, q4, q5, q6, q7, ⟨V', v1, v2, v3, v4, v5⟩, q9⟩, hl, hc, hs⟩ := hq
  refine ⟨L, ⟨q1, q2, q3, q4, q5, q6, q7, ⟨V'.cls, v3, V', v1, rfl, by rw [v4, e, hlen], K4, fun i hi => ?_, fun i hi => ?_⟩, q9⟩, hl, hc, by rw [hs, e]⟩
  · have hi' : i < cs.length := by omega
    rw [v5 i (by omega), hcv i hi']; simp [List.getD_eq_getElem?_getD, hi']
  · have hi' : i < cs.length := by omega
    simp only [List.getD_eq_getElem?_getD, List.getElem?_map, List.getElem?_eq_getElem hi', Option.map_some, Option.getD_some]
    exact fits_lo8 _
end StrChars.Road
namespace StrChars.Road
open Jvm Sem ClassFile Op Lib Jvm.Stand Jvm.Free Jvm.Free.XT
/-- WHAT COMES BACK, in the writer's own shape -/
def QV (Z : State) (x : Addr) (N : Int32) (bs : List Int32) (h : Heap) (n0 : Nat) (v : Option Value) (h' : Heap) (L : List Loc) : Prop := v = none ∧ RoadKit.Fr n0 L ∧ RoadKit.Keep h h' [x] ∧ RoadKit.Exa Z h' x ST ∧ RoadKit.Fld Z h' x ST "coder" "B" (.int 0) ∧
  ∃ (t : Addr) (kb : ClassId), n0 ≤ t ∧ h.size ≤ t ∧ ¬ t = x ∧ RoadKit.Fld Z h' x ST "value" "[B" (.ref t) ∧ RoadKit.Arv Z h' t kb .byte N (bs.map Value.int) (.int 0)
/-- **new String(chars) AT A CALL, FOR THE WRITER**: a char[] of n known ints, each 0 to 255 -/
theorem backV {p : Program} {l : Launch} {e : Env} {R : Room} {s : State} {args : Array Value} {below : List Frame} {len W : Nat} {Z : State} {a0 : Array Value} {h : Heap} (hZ : Z.Warmed39 s.vm) (hw : ∀ d ∈ words, d.before a0 Z = true) {kI : Nat} (wi : (Jvm.Cond.instantiable ST kI).before a0 Z = true)
    {x b : Addr} {kC : ClassId} {cs bs : List Int32} {d v0 c0 : Value} {z N : Int32} {n n0 : Nat} (hx0 : n0 ≤ x) (hh0 : n0 ≤ h.size) (E : RoadKit.Exa Z h x ST) (V : RoadKit.Fld Z h x ST "value" "[B" v0) (C : RoadKit.Fld Z h x ST "coder" "B" c0) (K : RoadKit.Arv Z h b kC .char N (cs.map Value.int) d) (S : RoadKit.Sta Z h ST "COMPACT_STRINGS" "Z" (.int z)) (hz : ¬ z = 0)
    (hn : cs.length = n) (hN : N = Int32.ofNat n) (l0 : 0 < n) (l2 : n ≤ 4000) (hp : ∀ c ∈ cs, ¬ c < 0 ∧ ¬ (255 : Int32) < c) (hb : bs = cs.map (fun c => c.toInt8.toInt32)) (hfr : 4 ≤ R.frames) (hlo : W + 65 ≤ R.locals) :
    Back l R p e below s args (⟨"java/lang/String", "<init>", "([C)V"⟩ : MethodName) len W (fun P a => a = #[.ref x, .ref b] ∧ P.U.heap = h ∧ P.cells + 1 ≤ R.cells ∧ P.slots + n ≤ R.slots)
      (fun P _ v B => ∃ L, QV Z x N bs h n0 v B.U.heap L ∧ B.locs = P.locs ++ L ∧ B.cells = P.cells + 1 ∧ B.slots = P.slots + n) := by
  subst hn hN hb
  refine Back.mono (backArv hZ hw wi E V C K S hz (n32 (by omega)) l0 (by omega) (fun c hc => (hp c hc).2) hfr hlo) (fun P a hp => hp) (fun P a v B hp hq => ?_)
  obtain ⟨L, ⟨q1, q2, q3, q4, q5, q6, q7, ⟨kb, v1, v2⟩, q9⟩, hl, hc, hs⟩ := hq
  exact ⟨L, ⟨q1, fun y hy => by rw [q2 y hy]; exact hx0, q3, q5, q7, h.size, kb, hh0, Nat.le_refl _, Nat.ne_of_gt E.lt, q6, by rw [List.map_map]; exact v2⟩, hl, hc, hs⟩
end StrChars.Road
namespace StrChars
open Jvm Sem ClassFile Op Lib Jvm.Stand Jvm.Free.XT Jvm.Free.ALB Jvm.Free.JM Jvm.Free
open Jvm.Lib.Cold (StaticIs)
def hi8 (x : Int32) : Int32 := lo8 (x >>> ((8 : Int32) &&& 31))
/-- what StringUTF16.getChar makes of two bytes -/
def pairCh (u v : Int32) : Int32 := (((u &&& 255) <<< ((0 : Int32) &&& 31)) ||| ((v &&& 255) <<< ((8 : Int32) &&& 31))).toUInt32.toUInt16.toUInt32.toInt32
theorem lo8_and (x : Int32) : (lo8 x &&& 255).toBitVec.toNat = x.toBitVec.toNat % 256 := by
  have h : (lo8 x).toBitVec = (x.toBitVec.signExtend 8).signExtend 32 := by rw [lo8, Int8.toBitVec_toInt32, Int32.toBitVec_toInt8]
  rw [Int32.toBitVec_and, BitVec.toNat_and, h]
  have e : ((x.toBitVec.signExtend 8).signExtend 32).toNat % 256 = x.toBitVec.toNat % 256 := by
    rw [BitVec.toNat_signExtend]
    have hlt := x.toBitVec.isLt
    simp only [BitVec.toNat_setWidth, BitVec.toNat_signExtend]
    split <;> split <;> omega
  rw [← e]
  exact Nat.and_two_pow_sub_one_eq_mod _ 8
theorem pair_says {c : Int32} (h0 : ¬ c < 0) (h1 : ¬ 65535 < c) : pairCh (lo8 c) (hi8 c) = c := by
  rw [Int32.lt_iff_toInt_lt] at h0 h1
  have e0 : (0 : Int32).toInt = 0 := rfl
  have e1 : (65535 : Int32).toInt = 65535 := rfl
  have hc : c.toInt = c.toBitVec.toNat := by
    have := c.toBitVec.isLt
    have e : c.toInt = c.toBitVec.toInt := rfl
    rw [e] at h0 h1
    rw [e]
    rw [BitVec.toInt_eq_toNat_cond] at h0 h1 ⊢
    split at h0 <;> split <;> omega
  have hn : c.toBitVec.toNat < 65536 := by omega
  have a1 := lo8_and c
  have a2 : (hi8 c &&& 255).toBitVec.toNat = c.toBitVec.toNat / 256 := by
    rw [hi8, lo8_and]
    have e : ((8 : Int32) &&& 31) = 8 := by decide
    rw [e, Int32.toBitVec_shiftRight]
    have e2 : ((8 : Int32).toBitVec.smod 32) = 8#32 := by decide
    rw [e2, BitVec.sshiftRight_eq', BitVec.toNat_sshiftRight_of_msb_false (by rw [BitVec.msb_eq_false_iff_two_mul_lt]; omega)]
    show c.toBitVec.toNat >>> 8 % 256 = _
    rw [Nat.shiftRight_eq_div_pow]
    omega
  unfold pairCh
  apply Int32.toBitVec_inj.mp
  apply BitVec.eq_of_toNat_eq
  have f0 : ((0 : Int32) &&& 31) = 0 := by decide
  have f8 : ((8 : Int32) &&& 31) = 8 := by decide
  rw [f0, f8]
  have g : (((lo8 c &&& 255) <<< (0 : Int32)) ||| ((hi8 c &&& 255) <<< (8 : Int32))).toBitVec.toNat = c.toBitVec.toNat := by
    rw [Int32.toBitVec_or, Int32.toBitVec_shiftLeft, Int32.toBitVec_shiftLeft]
    have s0 : ((0 : Int32).toBitVec.smod 32) = 0#32 := by decide
    have s8 : ((8 : Int32).toBitVec.smod 32) = 8#32 := by decide
    rw [s0, s8, BitVec.toNat_or]
    simp only [BitVec.shiftLeft_eq', BitVec.toNat_shiftLeft, a1, a2]
    show (c.toBitVec.toNat % 256) <<< 0 % 2 ^ 32 ||| (c.toBitVec.toNat / 256) <<< 8 % 2 ^ 32 = _
    rw [Nat.shiftLeft_zero, Nat.mod_eq_of_lt (show c.toBitVec.toNat % 256 < 2 ^ 32 by omega), Nat.mod_eq_of_lt (show (c.toBitVec.toNat / 256) <<< 8 < 2 ^ 32 by rw [Nat.shiftLeft_eq]; omega), Nat.or_comm, ← Nat.shiftLeft_add_eq_or_of_lt (by omega), Nat.shiftLeft_eq]
    omega
  show BitVec.toNat (((((lo8 c &&& 255) <<< (0 : Int32)) ||| ((hi8 c &&& 255) <<< (8 : Int32))).toBitVec.setWidth 16).setWidth 32) = _
  rw [BitVec.toNat_setWidth, BitVec.toNat_setWidth, g]
  omega
end StrChars
namespace StrChars
open Jvm Sem ClassFile Op Lib Jvm.Stand Jvm.Free.XT Jvm.Free.ALB Jvm.Free.JM Jvm.Free
open Jvm.Lib.Cold (StaticIs)
/-- the array's cell V codes the n chars f 0 .. f (n - 1) by the coder cd, as the JDK does: coder 1 just where some char is above 255 -/
def Cod (cd : Int32) (n : Nat) (f : Nat → Int32) (V : Cell) : Prop := (cd = 0 ∧ V.slots.size = n ∧ ∀ j, j < n → V.slots[j]? = some (.int (lo8 (f j))) ∧ ¬ 255 < f j) ∨ (cd = 1 ∧ V.slots.size = 2 * n ∧ (∀ j, j < n → V.slots[2 * j]? = some (.int (lo8 (f j))) ∧ V.slots[2 * j + 1]? = some (.int (hi8 (f j)))) ∧ ∃ j, j < n ∧ 255 < f j)
/-- **x is a String of the n chars f 0 .. f (n - 1)**, Latin-1 or UTF-16; its array at t has the cell V -/
def Txt (x t : Addr) (V : Cell) (cd : Int32) (n : Nat) (f : Nat → Int32) (U : State) : Prop := Exact "java/lang/String" x U ∧ Has x "java/lang/String" "value" "[B" (.ref t) U ∧ Has x "java/lang/String" "coder" "B" (.int cd) U ∧ XT.Arr .byte t V U ∧ Cod cd n f V ∧ ∀ j, j < n → ¬ f j < 0 ∧ ¬ 65535 < f j
theorem Txt.mv {x t : Addr} {V : Cell} {cd : Int32} {n : Nat} {f : Nat → Int32} {U U' : State} (h : Txt x t V cd n f U) (hal : U.vm.Alike U'.vm) (hh : U'.heap = U.heap) : Txt x t V cd n f U' := ⟨h.1.mv hal hh, h.2.1.mv hal hh, h.2.2.1.mv hal hh, h.2.2.2.1.mv hal hh, h.2.2.2.2⟩
end StrChars
namespace StrChars.Road
open Jvm Sem ClassFile Op Lib Jvm.Stand Jvm.Free Jvm.Free.XT
open Jvm.Lib.Cold (StaticIs)
theorem consq {a : Array Value} {s : State} {c : Jvm.Cond} {L : List Jvm.Cond} (h0 : c.before a s = true) (h : ∀ w ∈ L, w.before a s = true) : ∀ w ∈ c :: L, w.before a s = true := fun w hw => (List.mem_cons.mp hw).elim (fun e => e ▸ h0) (h w)
/-- the bytes of the chars cs, low before high -/
def wideBytes : List Int32 → List Value
  | [] => []
  | c :: cs => .int (lo8 c) :: .int (hi8 c) :: wideBytes cs
theorem wide_lo (d : Value) : ∀ (cs : List Int32) (j : Nat), j < cs.length → (wideBytes cs).getD (2 * j) d = .int (lo8 (cs.getD j 0))
  | [], j, h => absurd h (Nat.not_lt_zero j)
  | c :: cs, 0, _ => rfl
  | c :: cs, j + 1, h => by
    have q := wide_lo d cs j (by simpa using h)
    rw [show 2 * (j + 1) = 2 * j + 1 + 1 from by omega]
    simpa [wideBytes] using q
theorem wide_hi (d : Value) : ∀ (cs : List Int32) (j : Nat), j < cs.length → (wideBytes cs).getD (2 * j + 1) d = .int (hi8 (cs.getD j 0))
  | [], j, h => absurd h (Nat.not_lt_zero j)
  | c :: cs, 0, _ => rfl
  | c :: cs, j + 1, h => by
    have q := wide_hi d cs j (by simpa using h)
    rw [show 2 * (j + 1) + 1 = 2 * j + 1 + 1 + 1 from by omega]
    simpa [wideBytes] using q
theorem low_at (d : Value) (cs : List Int32) (j : Nat) (h : j < cs.length) : (cs.map fun c => Value.int (lo8 c)).getD j d = .int (lo8 (cs.getD j 0)) := by
  simp [List.getD_eq_getElem?_getD, h]
/-- an array of N2 bytes vs codes the chars cs by the coder cd -/
def CodA (cs : List Int32) (cd N2 : Int32) (vs : List Value) : Prop := (cd = 0 ∧ N2 = Int32.ofNat cs.length ∧ vs = (cs.map fun c => Value.int (lo8 c)) ∧ ∀ c ∈ cs, ¬ 255 < c) ∨ (cd = 1 ∧ N2 = Int32.ofNat (2 * cs.length) ∧ vs = wideBytes cs ∧ ∃ c ∈ cs, 255 < c)
theorem CodA.cod {cs : List Int32} {cd N2 : Int32} {vs : List Value} {V : Cell} (h : CodA cs cd N2 vs) (hn : 2 * cs.length < 2 ^ 31) (hs : V.slots.size = N2.toNatClampNeg) (hv : RoadKit.Has V vs (.int 0)) : Cod cd cs.length (fun j => cs.getD j 0) V := by
  rcases h with ⟨rfl, rfl, rfl, h⟩ | ⟨rfl, rfl, rfl, c, hc, hw⟩
  · rw [n32 (by omega)] at hs
    exact Or.inl ⟨rfl, hs, fun j hj => ⟨by rw [hv j (by omega), low_at _ _ _ hj], by
      have e : cs.getD j 0 = cs[j] := by simp [List.getD_eq_getElem?_getD, hj]
      show ¬ 255 < cs.getD j 0
      rw [e]; exact h _ (List.getElem_mem _)⟩⟩
  · rw [n32 (by omega)] at hs
    obtain ⟨j, hj, rfl⟩ := List.getElem_of_mem hc
    exact Or.inr ⟨rfl, hs, fun j hj => ⟨by rw [hv _ (by omega), wide_lo _ _ _ hj], by rw [hv _ (by omega), wide_hi _ _ _ hj]⟩, j, hj, by
      have e : cs.getD j 0 = cs[j] := by simp [List.getD_eq_getElem?_getD, hj]
      show 255 < cs.getD j 0
      rw [e]; exact hw⟩
/-- an object of exactly java/lang/String, its two fields found: as the laws ask it -/
theorem strObj {Z U : State} {a0 : Array Value} {kI : Nat} (wi : (Jvm.Cond.instantiable ST kI).before a0 Z = true) (al : Z.vm.Alike U.vm) {x : Addr} {v0 c0 : Value} (E : RoadKit.Exa Z U.heap x ST) (V : RoadKit.Fld Z U.heap x ST "value" "[B" v0) (C : RoadKit.Fld Z U.heap x ST "coder" "B" c0) :
    ∃ (D : Cell) (fV fC : Field), Blank ST x D U ∧ Found ST "value" "[B" fV U ∧ Found ST "coder" "B" fC U ∧ D.slots[fV.slot]? = some v0 ∧ D.slots[fC.slot]? = some c0 ∧ RoadKit.slotOf Z ST "value" "[B" = fV.slot ∧ RoadKit.slotOf Z ST "coder" "B" = fC.slot := by
  obtain ⟨D, cfV, kV, iV, fV, hD, gV, stV, knV, obV, asV, slV⟩ := V
  obtain ⟨D', cfC, kC, iC, fC, hD', gC, stC, -, -, asC, slC⟩ := C
  cases hD.symm.trans hD'
  obtain ⟨D2, kD, e1, e2, e3, e4, e5⟩ := E
  cases hD.symm.trans e1
  obtain ⟨c2, k2, i1, i2, i3, -⟩ := Cond.instantiable_spec wi
  cases e2.symm.trans i1
  cases e3.symm.trans i2
  obtain ⟨kU, u1, u2⟩ := al.2.2 _ _ e3
  exact ⟨D, fV, fC, ⟨hD, ⟨knV, fun q hq => by rw [hq] at obV; cases obV⟩, by rw [al.findClass]; exact e2, kU, u1, by rw [u2]; exact i3, by rw [u2]; exact e5 i3⟩, ⟨SBG.found_only al ⟨cfV, kV, iV, gV⟩, stV⟩, ⟨SBG.found_only al ⟨cfC, kC, iC, gC⟩, stC⟩, slV, slC, by simp [RoadKit.slotOf, gV], by simp [RoadKit.slotOf, gC]⟩
theorem sta_is {Z U : State} (al : Z.vm.Alike U.vm) {C n d : String} {v : Value} (S : RoadKit.Sta Z U.heap C n d v) : StaticIs U C n d v := by
  obtain ⟨cfS, iS, kS, fS, st, cS, t1, t2, t3, t4, t5, t6, t7⟩ := S
  exact StaticIs.there (s := { Z with heap := U.heap }) ⟨cfS, iS, kS, fS, st, cS, t1, t2, t3, t4, t5, (fun q => by rw [q] at t6; cases t6), t7⟩ al rfl
end StrChars.Road
namespace StrChars
open Jvm Sem ClassFile Op Lib Jvm.Stand Jvm.Free.XT Jvm.Free.ALB Jvm.Free.JM Jvm.Free
open Jvm.Lib.Cold (StaticIs)
/-- what place i of a byte[]'s cell holds -/
def yv (A : Cell) (i : Nat) : Int32 := match A.slots[i]? with | some (.int x) => x | _ => 0
theorem yv_get {a : Addr} {A : Cell} {U : State} (h : XT.Arr .byte a A U) (ht : Typed .byte A) {i : Nat} (hi : i < A.slots.size) : A.slots[i]? = some (.int (yv A i)) := by
  have e := Array.getElem?_eq_getElem hi
  have f := ht i _ e
  unfold yv; rw [e]
  generalize A.slots[i] = v at f
  cases v <;> simp [fits] at f ⊢
/-- the two arrays are equal, place for place -/
def EqC (A B : Cell) : Prop := A.slots.size = B.slots.size ∧ ∀ i, i < A.slots.size → yv A i = yv B i
/-- a boolean that says whether p -/
def Says01 (q : Prop) (r : Option Value) (s u : State) : Prop := ∃ v : Int32, r = some (.int v) ∧ u.heap = s.heap ∧ ((v = 1 ∧ q) ∨ (v = 0 ∧ ¬ q))
theorem Says01.mv {q : Prop} : ∀ r (U U' V V' : State), U'.heap = U.heap → V.vm.Alike V'.vm → V'.heap = V.heap → Says01 q r U V → Says01 q r U' V' :=
  fun r U U' V V' h1 _ h2 ⟨v, a, b, c⟩ => ⟨v, a, by rw [h1, h2]; exact b, c⟩
namespace LEq
def yN : MethodName := ⟨"java/lang/StringLatin1", "equals", "([B[B)Z"⟩
abbrev yB : ByteArray := jdk_43_method_13_code
theorem d0 : decode yB 0 = .ok (.aload_n 0, 1) := by decide +kernel
theorem d1 : decode yB 1 = .ok (.arraylength, 1) := by decide +kernel
theorem d2 : decode yB 2 = .ok (.aload_n 1, 1) := by decide +kernel
theorem d3 : decode yB 3 = .ok (.arraylength, 1) := by decide +kernel
theorem d4 : decode yB 4 = .ok (.if_icmp (.ne) 30, 3) := by decide +kernel
theorem d7 : decode yB 7 = .ok (.iconst 0, 1) := by decide +kernel
theorem d8 : decode yB 8 = .ok (.istore_n 2, 1) := by decide +kernel
theorem d9 : decode yB 9 = .ok (.iload_n 2, 1) := by decide +kernel
theorem d10 : decode yB 10 = .ok (.aload_n 0, 1) := by decide +kernel
theorem d11 : decode yB 11 = .ok (.arraylength, 1) := by decide +kernel
theorem d12 : decode yB 12 = .ok (.if_icmp (.ge) 20, 3) := by decide +kernel
theorem d15 : decode yB 15 = .ok (.aload_n 0, 1) := by decide +kernel
theorem d16 : decode yB 16 = .ok (.iload_n 2, 1) := by decide +kernel
theorem d17 : decode yB 17 = .ok (.baload, 1) := by decide +kernel
theorem d18 : decode yB 18 = .ok (.aload_n 1, 1) := by decide +kernel
theorem d19 : decode yB 19 = .ok (.iload_n 2, 1) := by decide +kernel
theorem d20 : decode yB 20 = .ok (.baload, 1) := by decide +kernel
theorem d21 : decode yB 21 = .ok (.if_icmp (.eq) 5, 3) := by decide +kernel
theorem d24 : decode yB 24 = .ok (.iconst 0, 1) := by decide +kernel
theorem d25 : decode yB 25 = .ok (.ireturn, 1) := by decide +kernel
theorem d26 : decode yB 26 = .ok (.iinc 2 1, 3) := by decide +kernel
theorem d29 : decode yB 29 = .ok (.goto (-20), 3) := by decide +kernel
theorem d32 : decode yB 32 = .ok (.iconst 1, 1) := by decide +kernel
theorem d33 : decode yB 33 = .ok (.ireturn, 1) := by decide +kernel
theorem d34 : decode yB 34 = .ok (.iconst 0, 1) := by decide +kernel
theorem d35 : decode yB 35 = .ok (.ireturn, 1) := by decide +kernel
def site : List Cond := []
def tab : Cond := tabOf yN yB 3 (some .boolean) site
def P (a : Addr) (A : Cell) (b : Addr) (B : Cell) (args : Array Value) (s : State) : Prop := args = #[.ref a, .ref b] ∧ XT.Arr .byte a A s ∧ Typed .byte A ∧ XT.Arr .byte b B s ∧ Typed .byte B
/-- whether two byte[] are equal, place for place -/
theorem law (l : Launch) (a : Addr) (A : Cell) (b : Addr) (B : Cell) : Law l yN 2 2 0 0 yB 3 (some .boolean) site (P a A b B) (Says01 (EqC A B)) [] 0 0 := by
  refine Law.of_walk (plainFor_of_name (by decide +kernel)) (by decide +kernel) (by decide +kernel) (by decide) (fun _ _ h => by rw [h.1]; rfl) (fun _ U U' hal hh h => ⟨h.1, h.2.1.mv hal hh, h.2.2.1, h.2.2.2.1.mv hal hh, h.2.2.2.2⟩) (fun r U U' V V' h1 hal h2 h => Says01.mv r U U' V V' h1 hal h2 h) ?_
  intro p e s m args below meth c s₁ X0 hexec hbytes hml hret hlk hnm hown hh0 W hP
  obtain ⟨rfl, hA, tA, hB, tB⟩ := hP
  have a31 := hA.2.2.2
  have b31 := hB.2.2.2
  have hA0 := hA.mv X0.warmed.alike hh0
  have hB0 := hB.mv X0.warmed.alike hh0
  have c1 : Steps p.tables e below (s₁.setTop (entryFrame m #[.ref a, .ref b] 3)) (s₁.setTop (mkF m 0 #[.val (.ref a), .val (.ref b), .unset] [])) := entry rfl
  have c2 : Steps p.tables e below (s₁.setTop (entryFrame m #[.ref a, .ref b] 3)) (s₁.setTop (mkF m 4 #[.val (.ref a), .val (.ref b), .unset] [.int (Int32.ofNat B.slots.size), .int (Int32.ofNat A.slots.size)])) := c1.trans (by
    refine XS.aloadN X0.here hexec rfl (hb hbytes d0) rfl rfl ?_
    refine X0.alen hexec hA0 rfl rfl (hb hbytes d1) ?_
    refine XS.aloadN X0.here hexec rfl (hb hbytes d2) rfl rfl ?_
    refine X0.alen hexec hB0 rfl rfl (hb hbytes d3) ?_
    exact Steps.refl _)
  by_cases hs : A.slots.size = B.slots.size
  · have c3 : Steps p.tables e below (s₁.setTop (entryFrame m #[.ref a, .ref b] 3)) (s₁.setTop (mkF m 9 #[.val (.ref a), .val (.ref b), .val (.int 0)] [])) := c2.trans (by
      refine XS.icmpNo X0.here hexec rfl (hb hbytes d4) rfl (ii_ne_f (by rw [hs])) ?_
      refine iconstV X0.here hexec rfl 0 (hb hbytes d7) (by decide) ?_
      refine XS.istoreN X0.here hexec rfl (hb hbytes d8) rfl rfl ?_
      exact Steps.refl _)
    have loop : ∀ (r i : Nat), i + r = A.slots.size → (∀ j, j < i → yv A j = yv B j) → Steps p.tables e below (s₁.setTop (entryFrame m #[.ref a, .ref b] 3)) (s₁.setTop (mkF m 9 #[.val (.ref a), .val (.ref b), .val (.int (Int32.ofNat i))] [])) → ∃ (pc : Nat) (Ls : Array Slot) (v : Int32), (pc = 25 ∨ pc = 33) ∧ ((v = 1 ∧ EqC A B) ∨ (v = 0 ∧ ¬ EqC A B)) ∧ Steps p.tables e below (s₁.setTop (entryFrame m #[.ref a, .ref b] 3)) (s₁.setTop (mkF m pc Ls [.int v])) := by
      intro r
      induction r with
      | zero =>
        intro i hi he cl
        exact ⟨33, _, 1, Or.inr rfl, Or.inl ⟨rfl, hs, fun j hj => he j (by omega)⟩, cl.trans (by
          refine XS.iloadN X0.here hexec rfl (hb hbytes d9) rfl ?_
          refine XS.aloadN X0.here hexec rfl (hb hbytes d10) rfl rfl ?_
          refine X0.alen hexec hA0 rfl rfl (hb hbytes d11) ?_
          refine XS.icmpYes X0.here hexec rfl (pc0 := 12) rfl (hb hbytes d12) rfl (ii_ge_t (nlt32 (by omega) (by omega))) (by decide) rfl ?_
          refine iconstV X0.here hexec rfl 1 (hb hbytes d32) (by decide) ?_
          exact Steps.refl _)⟩
      | succ r ih =>
        intro i hi he cl
        have c4 : Steps p.tables e below (s₁.setTop (entryFrame m #[.ref a, .ref b] 3)) (s₁.setTop (mkF m 21 #[.val (.ref a), .val (.ref b), .val (.int (Int32.ofNat i))] [.int (yv B i), .int (yv A i)])) := cl.trans (by
          refine XS.iloadN X0.here hexec rfl (hb hbytes d9) rfl ?_
          refine XS.aloadN X0.here hexec rfl (hb hbytes d10) rfl rfl ?_
          refine X0.alen hexec hA0 rfl rfl (hb hbytes d11) ?_
          refine XS.icmpNo X0.here hexec rfl (hb hbytes d12) rfl (ii_ge_f (lt32 (by omega) (by omega))) ?_
          refine XS.aloadN X0.here hexec rfl (hb hbytes d15) rfl rfl ?_
          refine XS.iloadN X0.here hexec rfl (hb hbytes d16) rfl ?_
          refine X0.aget hexec hA0 rfl (yv_get hA tA (i := i) (by omega)) rfl rfl (hb hbytes d17) ?_
          refine XS.aloadN X0.here hexec rfl (hb hbytes d18) rfl rfl ?_
          refine XS.iloadN X0.here hexec rfl (hb hbytes d19) rfl ?_
          refine X0.aget hexec hB0 rfl (yv_get hB tB (i := i) (by omega)) rfl rfl (hb hbytes d20) ?_
          exact Steps.refl _)
        by_cases hv : yv A i = yv B i
        · have c5 : Steps p.tables e below (s₁.setTop (entryFrame m #[.ref a, .ref b] 3)) (s₁.setTop (mkF m 9 #[.val (.ref a), .val (.ref b), .val (.int (Int32.ofNat i + 1))] [])) := c4.trans (by
            refine XS.icmpYes X0.here hexec rfl (pc0 := 21) rfl (hb hbytes d21) rfl (ii_eq_t hv) (by decide) rfl ?_
            refine iincV X0.here hexec rfl 1 (hb hbytes d26) (by decide) rfl rfl ?_
            refine XS.goto X0.here hexec rfl (pc0 := 29) rfl (hb hbytes d29) (by decide) rfl ?_
            exact Steps.refl _)
          rw [succ32] at c5
          exact ih (i + 1) (by omega) (fun j hj => by
            by_cases e : j = i
            · rw [e]; exact hv
            · exact he j (by omega)) c5
        · exact ⟨25, _, 0, Or.inl rfl, Or.inr ⟨rfl, fun q => hv (q.2 i (by omega))⟩, c4.trans (by
            refine XS.icmpNo X0.here hexec rfl (hb hbytes d21) rfl (ii_eq_f hv) ?_
            refine iconstV X0.here hexec rfl 0 (hb hbytes d24) (by decide) ?_
            exact Steps.refl _)⟩
    obtain ⟨pc, Ls, v, hpc, hv, cz⟩ := loop A.slots.size 0 (by omega) (fun j hj => absurd hj (Nat.not_lt_zero j)) c3
    have nv : narrow .boolean (.int v) = .int v := by rcases hv with ⟨rfl, -⟩ | ⟨rfl, -⟩ <;> rfl
    rcases hpc with rfl | rfl
    · exact ⟨s₁, some (.int v), _, _, _, X0, rfl, rfl, rfl, (fun h => by cases h), ⟨v, rfl, hh0, hv⟩, fun fs hl => cz.trans (X0.ireturnOut hexec hret nv (Or.inr (Or.inl rfl)) (hb hbytes d25) hl)⟩
    · exact ⟨s₁, some (.int v), _, _, _, X0, rfl, rfl, rfl, (fun h => by cases h), ⟨v, rfl, hh0, hv⟩, fun fs hl => cz.trans (X0.ireturnOut hexec hret nv (Or.inr (Or.inl rfl)) (hb hbytes d33) hl)⟩
  · have c3 : Steps p.tables e below (s₁.setTop (entryFrame m #[.ref a, .ref b] 3)) (s₁.setTop (mkF m 35 #[.val (.ref a), .val (.ref b), .unset] [.int 0])) := c2.trans (by
      refine XS.icmpYes X0.here hexec rfl (pc0 := 4) rfl (hb hbytes d4) rfl (ii_ne_t (ne32 a31 b31 hs)) (by decide) rfl ?_
      refine iconstV X0.here hexec rfl 0 (hb hbytes d34) (by decide) ?_
      exact Steps.refl _)
    exact ⟨s₁, some (.int 0), _, _, _, X0, rfl, rfl, rfl, (fun h => by cases h), ⟨0, rfl, hh0, Or.inr ⟨rfl, fun q => hs q.1⟩⟩, fun fs hl => c3.trans (X0.ireturnOut hexec hret rfl (Or.inr (Or.inl rfl)) (hb hbytes d35) hl)⟩
end LEq
theorem Cod.ty {cd : Int32} {n : Nat} {f : Nat → Int32} {V : Cell} (h : Cod cd n f V) : Typed .byte V := fun i v hv => by
  have hi : i < V.slots.size := (Array.getElem?_eq_some_iff.mp hv).1
  rcases h with ⟨-, k1, k2⟩ | ⟨-, k1, k2, -⟩
  · rw [(k2 i (by omega)).1] at hv; cases hv; exact fits_lo8 _
  · rcases Nat.mod_two_eq_zero_or_one i with e | e
    · obtain ⟨j, rfl⟩ : ∃ j, i = 2 * j := ⟨i / 2, by omega⟩
      rw [(k2 j (by omega)).1] at hv; cases hv; exact fits_lo8 _
    · obtain ⟨j, rfl⟩ : ∃ j, i = 2 * j + 1 := ⟨i / 2, by omega⟩
      rw [(k2 j (by omega)).2] at hv; cases hv; exact fits_lo8 _
/-- the same text -/
def SameT (n : Nat) (f : Nat → Int32) (k : Nat) (g : Nat → Int32) : Prop := n = k ∧ ∀ j, j < n → f j = g j
theorem lo8_inj {x y : Int32} (h0 : ¬ x < 0) (h1 : ¬ 255 < x) (k0 : ¬ y < 0) (k1 : ¬ 255 < y) (h : lo8 x = lo8 y) : x = y := by
  rw [← lo8_mask h0 h1, ← lo8_mask k0 k1, h]
/-- arrays coded by one coder are equal just where the texts are -/
theorem Cod.eqv {cd : Int32} {n k : Nat} {f g : Nat → Int32} {V V' : Cell} (h : Cod cd n f V) (h' : Cod cd k g V') (hf : ∀ j, j < n → ¬ f j < 0 ∧ ¬ 65535 < f j) (hg : ∀ j, j < k → ¬ g j < 0 ∧ ¬ 65535 < g j) : EqC V V' ↔ SameT n f k g := by
  have yvv : ∀ {W : Cell} {i : Nat} {x : Int32}, W.slots[i]? = some (.int x) → yv W i = x := fun q => by unfold yv; rw [q]
  rcases h with ⟨rfl, k1, k2⟩ | ⟨rfl, k1, k2, -⟩
  · rcases h' with ⟨-, m1, m2⟩ | ⟨e, -⟩
    · constructor
      · rintro ⟨e1, e2⟩
        refine ⟨by omega, fun j hj => ?_⟩
        have q := e2 j (by omega)
        rw [yvv (k2 j hj).1, yvv (m2 j (by omega)).1] at q
        exact lo8_inj (hf j hj).1 (k2 j hj).2 (hg j (by omega)).1 (m2 j (by omega)).2 q
      · rintro ⟨rfl, e2⟩
        refine ⟨by omega, fun j hj => ?_⟩
        rw [yvv (k2 j (by omega)).1, yvv (m2 j (by omega)).1, e2 j (by omega)]
    · exact absurd e (by decide)
  · rcases h' with ⟨e, -⟩ | ⟨-, m1, m2, -⟩
    · exact absurd e (by decide)
    · constructor
      · rintro ⟨e1, e2⟩
        refine ⟨by omega, fun j hj => ?_⟩
        have q1 := e2 (2 * j) (by omega)
        have q2 := e2 (2 * j + 1) (by omega)
        rw [yvv (k2 j hj).1, yvv (m2 j (by omega)).1] at q1
        rw [yvv (k2 j hj).2, yvv (m2 j (by omega)).2] at q2
        rw [← pair_says (hf j hj).1 (hf j hj).2, ← pair_says (hg j (by omega)).1 (hg j (by omega)).2, q1, q2]
      · rintro ⟨rfl, e2⟩
        refine ⟨by omega, fun i hi => ?_⟩
        rcases Nat.mod_two_eq_zero_or_one i with e | e
        · obtain ⟨j, rfl⟩ : ∃ j, i = 2 * j := ⟨i / 2, by omega⟩
          rw [yvv (k2 j (by omega)).1, yvv (m2 j (by omega)).1, e2 j (by omega)]
        · obtain ⟨j, rfl⟩ : ∃ j, i = 2 * j + 1 := ⟨i / 2, by omega⟩
          rw [yvv (k2 j (by omega)).2, yvv (m2 j (by omega)).2, e2 j (by omega)]
/-- two codings differ: so do the texts -/
theorem Cod.dif {cd cd' : Int32} {n k : Nat} {f g : Nat → Int32} {V V' : Cell} (h : Cod cd n f V) (h' : Cod cd' k g V') (hne : ¬ cd = cd') : ¬ SameT n f k g := by
  rintro ⟨rfl, e⟩
  rcases h with ⟨rfl, -, k2⟩ | ⟨rfl, -, -, j, hj, hw⟩
  · rcases h' with ⟨rfl, -⟩ | ⟨-, -, -, j, hj, hw⟩
    · exact hne rfl
    · exact (k2 j hj).2 (by rw [e j hj]; exact hw)
  · rcases h' with ⟨-, -, m2⟩ | ⟨rfl, -⟩
    · exact (m2 j hj).2 (by rw [← e j hj]; exact hw)
    · exact hne rfl
/-- an object of exactly C is an instance of C -/
theorem cinst {p : Program} {l : Launch} {e : Env} {R : Room} {s : State} {m : MethodId} {args : Array Value} {below : List Frame} {meth : Method} {c : Code} {T : State} {locs : List Loc} {cells slots : Nat} (X : Stand p l e R s m args below meth c T locs cells slots) (hexec : p.tables.exec = Jvm.exec) {own C : String} {index : Nat} (hown : s.vm.findClass own = some m.cls) (hlink : (Cond.classLink own index C).before args s = true) {a : Addr} (hE : Exact C a T)
    {g : JFrame} (hg : g.method = m) {rest : List Value} (hstack : g.stack = .ref a :: rest) (hdg : decode c.code g.pc = .ok (.instanceof index, 3)) :
    ∃ T', Stand p l e R s m args below meth c T' locs cells slots ∧ T'.heap = T.heap ∧ ∀ target, Steps p.tables e below (T'.setTop { g with pc := g.pc + 3, stack := .int 1 :: rest }) target → Steps p.tables e below (T.setTop g) target := by
  obtain ⟨cB, h1, D, h2, h3, h4⟩ := hE
  have h1' : s.vm.findClass C = some cB := by rw [← X.warmed.alike.findClass]; exact h1
  obtain ⟨vm', X', st⟩ := X.instanceofYes hexec hown hlink h2 h4 h1' (by rw [h3]; exact Jvm.Free.SB.assignable_self _ _) hg hstack hdg
  exact ⟨_, X', rfl, st⟩
theorem cself {p : Program} {l : Launch} {e : Env} {R : Room} {s : State} {m : MethodId} {args : Array Value} {below : List Frame} {meth : Method} {c : Code} {T : State} {locs : List Loc} {cells slots : Nat} (X : Stand p l e R s m args below meth c T locs cells slots) (hexec : p.tables.exec = Jvm.exec) {own C : String} {index : Nat} (hown : s.vm.findClass own = some m.cls) (hlink : (Cond.classLink own index C).before args s = true) {a : Addr} (hE : Exact C a T)
    {g : JFrame} (hg : g.method = m) {rest : List Value} (hstack : g.stack = .ref a :: rest) (hdg : decode c.code g.pc = .ok (.checkcast index, 3)) :
    ∃ T', Stand p l e R s m args below meth c T' locs cells slots ∧ T'.heap = T.heap ∧ ∀ target, Steps p.tables e below (T'.setTop { g with pc := g.pc + 3, stack := .ref a :: rest }) target → Steps p.tables e below (T.setTop g) target := by
  obtain ⟨cB, h1, D, h2, h3, h4⟩ := hE
  have h1' : s.vm.findClass C = some cB := by rw [← X.warmed.alike.findClass]; exact h1
  obtain ⟨vm', X', st⟩ := X.checkcastYes hexec hown hlink h2 h4 h1' (by rw [h3]; exact Jvm.Free.SB.assignable_self _ _) hg hstack hdg
  exact ⟨_, X', rfl, fun t h => st t (by rw [← hstack] at h; exact h)⟩
namespace SEq
def yN : MethodName := ⟨"java/lang/String", "equals", "(Ljava/lang/Object;)Z"⟩
abbrev yB : ByteArray := jdk_42_method_66_code
theorem d0 : decode yB 0 = .ok (.aload_n 0, 1) := by decide +kernel
theorem d1 : decode yB 1 = .ok (.aload_n 1, 1) := by decide +kernel
theorem d2 : decode yB 2 = .ok (.if_acmp (.ne) 5, 3) := by decide +kernel
theorem d5 : decode yB 5 = .ok (.iconst 1, 1) := by decide +kernel
theorem d6 : decode yB 6 = .ok (.ireturn, 1) := by decide +kernel
theorem d7 : decode yB 7 = .ok (.aload_n 1, 1) := by decide +kernel
theorem d8 : decode yB 8 = .ok (.instanceof 10, 3) := by decide +kernel
theorem d11 : decode yB 11 = .ok (.ifCond (.eq) 43, 3) := by decide +kernel
theorem d14 : decode yB 14 = .ok (.aload_n 1, 1) := by decide +kernel
theorem d15 : decode yB 15 = .ok (.checkcast 10, 3) := by decide +kernel
theorem d18 : decode yB 18 = .ok (.astore_n 2, 1) := by decide +kernel
theorem d19 : decode yB 19 = .ok (.getstatic 38, 3) := by decide +kernel
theorem d22 : decode yB 22 = .ok (.ifCond (.eq) 14, 3) := by decide +kernel
theorem d25 : decode yB 25 = .ok (.aload_n 0, 1) := by decide +kernel
theorem d26 : decode yB 26 = .ok (.getfield 15, 3) := by decide +kernel
theorem d29 : decode yB 29 = .ok (.aload_n 2, 1) := by decide +kernel
theorem d30 : decode yB 30 = .ok (.getfield 15, 3) := by decide +kernel
theorem d33 : decode yB 33 = .ok (.if_icmp (.ne) 21, 3) := by decide +kernel
theorem d36 : decode yB 36 = .ok (.aload_n 0, 1) := by decide +kernel
theorem d37 : decode yB 37 = .ok (.getfield 9, 3) := by decide +kernel
theorem d40 : decode yB 40 = .ok (.aload_n 2, 1) := by decide +kernel
theorem d41 : decode yB 41 = .ok (.getfield 9, 3) := by decide +kernel
theorem d44 : decode yB 44 = .ok (.invokestatic 541, 3) := by decide +kernel
theorem d47 : decode yB 47 = .ok (.ifCond (.eq) 7, 3) := by decide +kernel
theorem d50 : decode yB 50 = .ok (.iconst 1, 1) := by decide +kernel
theorem d51 : decode yB 51 = .ok (.goto 4, 3) := by decide +kernel
theorem d54 : decode yB 54 = .ok (.iconst 0, 1) := by decide +kernel
theorem d55 : decode yB 55 = .ok (.ireturn, 1) := by decide +kernel
def site : List Cond := [.classLink "java/lang/String" 10 "java/lang/String", .fieldLink "java/lang/String" 38 "java/lang/String" "COMPACT_STRINGS" "Z", .fieldLink "java/lang/String" 15 "java/lang/String" "coder" "B", .fieldLink "java/lang/String" 9 "java/lang/String" "value" "[B", LEq.tab] ++ staticW "java/lang/String" 541 LEq.yN
def tab : Cond := tabOf yN yB 3 (some .boolean) site
def P (x t : Addr) (V : Cell) (cd : Int32) (n : Nat) (f : Nat → Int32) (y t' : Addr) (V' : Cell) (cd' : Int32) (k : Nat) (g : Nat → Int32) (z : Int32) (args : Array Value) (s : State) : Prop := args = #[.ref x, .ref y] ∧ Txt x t V cd n f s ∧ Txt y t' V' cd' k g s ∧ StaticIs s "java/lang/String" "COMPACT_STRINGS" "Z" (.int z) ∧ ¬ z = 0
/-- equals(Object) of two Strings: whether the texts are the same -/
theorem law (l : Launch) (x t : Addr) (V : Cell) (cd : Int32) (n : Nat) (f : Nat → Int32) (y t' : Addr) (V' : Cell) (cd' : Int32) (k : Nat) (g : Nat → Int32) (z : Int32) : Law l yN 2 1 1 14 yB 3 (some .boolean) site (P x t V cd n f y t' V' cd' k g z) (Says01 (SameT n f k g)) [] 0 0 := by
  refine Law.of_walk (plainFor_of_name (by decide +kernel)) (by decide +kernel) (by decide +kernel) (by decide) (fun _ _ h => by rw [h.1]; rfl) (fun _ U U' hal hh h => ⟨h.1, h.2.1.mv hal hh, h.2.2.1.mv hal hh, h.2.2.2.1.there hal hh, h.2.2.2.2⟩) (fun r U U' V V' h1 hal h2 h => Says01.mv r U U' V V' h1 hal h2 h) ?_
  intro p e s m args below meth c s₁ X0 hexec hbytes hml hret hlk hnm hown hh0 W hP
  obtain ⟨rfl, hx, hy, s1, hz⟩ := hP
  have c1 : Steps p.tables e below (s₁.setTop (entryFrame m #[.ref x, .ref y] 3)) (s₁.setTop (mkF m 2 #[.val (.ref x), .val (.ref y), .unset] [.ref y, .ref x])) := Steps.trans (entry rfl) (by
    show Steps p.tables e below (s₁.setTop (mkF m 0 #[.val (.ref x), .val (.ref y), .unset] [])) _
    refine XS.aloadN X0.here hexec rfl (hb hbytes d0) rfl rfl ?_
    refine XS.aloadN X0.here hexec rfl (hb hbytes d1) rfl rfl ?_
    exact Steps.refl _)
  by_cases hxy : x = y
  · have c2 : Steps p.tables e below (s₁.setTop (entryFrame m #[.ref x, .ref y] 3)) (s₁.setTop (mkF m 6 #[.val (.ref x), .val (.ref y), .unset] [.int 1])) := c1.trans (by
      refine acmpNo X0.here hexec rfl (hb hbytes d2) rfl rfl rfl (by simp [acmp, hxy]) ?_
      refine iconstV X0.here hexec rfl 1 (hb hbytes d5) (by decide) ?_
      exact Steps.refl _)
    subst hxy
    have ec : cd = cd' := by
      obtain ⟨D, fd, a1, a2, a3⟩ := hx.2.2.1
      obtain ⟨D', fd', b1, b2, b3⟩ := hy.2.2.1
      cases a1.symm.trans b1
      obtain ⟨q1, q2, q3, q4⟩ := a2.1
      obtain ⟨r1, r2, r3, r4⟩ := b2.1
      cases q4.symm.trans r4
      cases a3.symm.trans b3; rfl
    have et : t = t' := by
      obtain ⟨D, fd, a1, a2, a3⟩ := hx.2.1
      obtain ⟨D', fd', b1, b2, b3⟩ := hy.2.1
      cases a1.symm.trans b1
      obtain ⟨q1, q2, q3, q4⟩ := a2.1
      obtain ⟨r1, r2, r3, r4⟩ := b2.1
      cases q4.symm.trans r4
      cases a3.symm.trans b3; rfl
    subst ec et
    have ev : V = V' := by cases hx.2.2.2.1.1.symm.trans hy.2.2.2.1.1; rfl
    subst ev
    have hs : SameT n f k g := (Cod.eqv hx.2.2.2.2.1 hy.2.2.2.2.1 hx.2.2.2.2.2 hy.2.2.2.2.2).mp ⟨rfl, fun _ _ => rfl⟩
    exact ⟨s₁, some (.int 1), _, _, _, X0, rfl, rfl, rfl, (fun h => by cases h), ⟨1, rfl, hh0, Or.inl ⟨rfl, hs⟩⟩, fun fs hl => c2.trans (X0.ireturnOut hexec hret rfl (Or.inr (Or.inl rfl)) (hb hbytes d6) hl)⟩
  · have c2 : Steps p.tables e below (s₁.setTop (entryFrame m #[.ref x, .ref y] 3)) (s₁.setTop (mkF m 8 #[.val (.ref x), .val (.ref y), .unset] [.ref y])) := c1.trans (by
      refine acmpYes X0.here hexec rfl (pc0 := 2) rfl (hb hbytes d2) rfl rfl rfl (by simp [acmp, hxy]) (by decide) rfl ?_
      refine XS.aloadN X0.here hexec rfl (hb hbytes d7) rfl rfl ?_
      exact Steps.refl _)
    obtain ⟨T3, X3, q3, st3⟩ := cinst X0 hexec hown (wk W (.classLink "java/lang/String" 10 "java/lang/String")) (hy.mv X0.warmed.alike hh0).1 (g := (mkF m 8 #[.val (.ref x), .val (.ref y), .unset] [.ref y])) rfl (rest := []) rfl (hb hbytes d8)
    have hh3 := q3.trans hh0
    have c4 : Steps p.tables e below (s₁.setTop (entryFrame m #[.ref x, .ref y] 3)) (T3.setTop (mkF m 15 #[.val (.ref x), .val (.ref y), .unset] [.ref y])) := (c2.trans (st3 _ (Steps.refl _))).trans (by
      refine XS.ifNo X3.here hexec rfl (hb hbytes d11) rfl (i0_eq_f (by decide)) ?_
      refine XS.aloadN X3.here hexec rfl (hb hbytes d14) rfl rfl ?_
      exact Steps.refl _)
    obtain ⟨T5, X5, q5, st5⟩ := cself X3 hexec hown (wk W (.classLink "java/lang/String" 10 "java/lang/String")) (hy.mv X3.warmed.alike hh3).1 (g := (mkF m 15 #[.val (.ref x), .val (.ref y), .unset] [.ref y])) rfl (rest := []) rfl (hb hbytes d15)
    have hh5 := q5.trans hh3
    have c6 : Steps p.tables e below (s₁.setTop (entryFrame m #[.ref x, .ref y] 3)) (T5.setTop (mkF m 19 #[.val (.ref x), .val (.ref y), .val (.ref y)] [])) := (c4.trans (st5 _ (Steps.refl _))).trans (by
      refine XS.astoreN X5.here hexec rfl (hb hbytes d18) rfl rfl rfl ?_
      exact Steps.refl _)
    obtain ⟨T7, X7, q7, st7⟩ := X5.sget hexec hown (wk W (.fieldLink "java/lang/String" 38 "java/lang/String" "COMPACT_STRINGS" "Z")) s1 (fun _ _ h => by rw [hh5]; exact h) (g := (mkF m 19 #[.val (.ref x), .val (.ref y), .val (.ref y)] [])) rfl (hb hbytes d19)
    have hh7 := q7.trans hh5
    have c8 : Steps p.tables e below (s₁.setTop (entryFrame m #[.ref x, .ref y] 3)) (T7.setTop (mkF m 26 #[.val (.ref x), .val (.ref y), .val (.ref y)] [.ref x])) := (c6.trans (st7 _ (Steps.refl _))).trans (by
      refine XS.ifNo X7.here hexec rfl (hb hbytes d22) rfl (i0_eq_f hz) ?_
      refine XS.aloadN X7.here hexec rfl (hb hbytes d25) rfl rfl ?_
      exact Steps.refl _)
    obtain ⟨T9, X9, q9, st9⟩ := X7.hget hexec hown (wk W (.fieldLink "java/lang/String" 15 "java/lang/String" "coder" "B")) (hx.mv X7.warmed.alike hh7).2.2.1 (g := (mkF m 26 #[.val (.ref x), .val (.ref y), .val (.ref y)] [.ref x])) rfl (rest := []) rfl (hb hbytes d26)
    have hh9 := q9.trans hh7
    have c10 : Steps p.tables e below (s₁.setTop (entryFrame m #[.ref x, .ref y] 3)) (T9.setTop (mkF m 30 #[.val (.ref x), .val (.ref y), .val (.ref y)] [.ref y, .int cd])) := (c8.trans (st9 _ (Steps.refl _))).trans (by
      refine XS.aloadN X9.here hexec rfl (hb hbytes d29) rfl rfl ?_
      exact Steps.refl _)
    obtain ⟨T11, X11, q11, st11⟩ := X9.hget hexec hown (wk W (.fieldLink "java/lang/String" 15 "java/lang/String" "coder" "B")) (hy.mv X9.warmed.alike hh9).2.2.1 (g := (mkF m 30 #[.val (.ref x), .val (.ref y), .val (.ref y)] [.ref y, .int cd])) rfl (rest := [.int cd]) rfl (hb hbytes d30)
    have hh11 := q11.trans hh9
    have c12 : Steps p.tables e below (s₁.setTop (entryFrame m #[.ref x, .ref y] 3)) (T11.setTop (mkF m 33 #[.val (.ref x), .val (.ref y), .val (.ref y)] [.int cd', .int cd])) := c10.trans (st11 _ (Steps.refl _))
    by_cases hcd : cd = cd'
    · subst hcd
      have c13 : Steps p.tables e below (s₁.setTop (entryFrame m #[.ref x, .ref y] 3)) (T11.setTop (mkF m 37 #[.val (.ref x), .val (.ref y), .val (.ref y)] [.ref x])) := c12.trans (by
        refine XS.icmpNo X11.here hexec rfl (hb hbytes d33) rfl (ii_ne_f rfl) ?_
        refine XS.aloadN X11.here hexec rfl (hb hbytes d36) rfl rfl ?_
        exact Steps.refl _)
      obtain ⟨T14, X14, q14, st14⟩ := X11.hget hexec hown (wk W (.fieldLink "java/lang/String" 9 "java/lang/String" "value" "[B")) (hx.mv X11.warmed.alike hh11).2.1 (g := (mkF m 37 #[.val (.ref x), .val (.ref y), .val (.ref y)] [.ref x])) rfl (rest := []) rfl (hb hbytes d37)
      have hh14 := q14.trans hh11
      have c15 : Steps p.tables e below (s₁.setTop (entryFrame m #[.ref x, .ref y] 3)) (T14.setTop (mkF m 41 #[.val (.ref x), .val (.ref y), .val (.ref y)] [.ref y, .ref t])) := (c13.trans (st14 _ (Steps.refl _))).trans (by
        refine XS.aloadN X14.here hexec rfl (hb hbytes d40) rfl rfl ?_
        exact Steps.refl _)
      obtain ⟨T16, X16, q16, st16⟩ := X14.hget hexec hown (wk W (.fieldLink "java/lang/String" 9 "java/lang/String" "value" "[B")) (hy.mv X14.warmed.alike hh14).2.1 (g := (mkF m 41 #[.val (.ref x), .val (.ref y), .val (.ref y)] [.ref y, .ref t])) rfl (rest := [.ref t]) rfl (hb hbytes d41)
      have hh16 := q16.trans hh14
      have c17 : Steps p.tables e below (s₁.setTop (entryFrame m #[.ref x, .ref y] 3)) (T16.setTop (mkF m 44 #[.val (.ref x), .val (.ref y), .val (.ref y)] [.ref t', .ref t])) := c15.trans (st16 _ (Steps.refl _))
      obtain ⟨v18, T18, X18, E18, g18⟩ := X16.callS hexec (LEq.law l t V t' V') hown (wks W (staticW "java/lang/String" 541 LEq.yN)) (wk W LEq.tab) (W := 0) (Nat.le_of_ble_eq_true rfl) (Nat.le_of_ble_eq_true rfl) (Nat.le_refl _) (Nat.le_refl _) (g := (mkF m 44 #[.val (.ref x), .val (.ref y), .val (.ref y)] [.ref t', .ref t])) rfl (by rw [hml]; rfl) c17 (argsL := [.ref t, .ref t']) (rest := []) rfl rfl (by show 2 * 0 + 0 ≤ _; decide) (hb hbytes d44) (⟨rfl, hx.2.2.2.1.mv X16.warmed.alike hh16, hx.2.2.2.2.1.ty, hy.2.2.2.1.mv X16.warmed.alike hh16, hy.2.2.2.2.1.ty⟩)
      obtain ⟨v, rfl, q18, hv⟩ := E18
      have iff := Cod.eqv hx.2.2.2.2.1 hy.2.2.2.2.1 hx.2.2.2.2.2 hy.2.2.2.2.2
      rcases hv with ⟨rfl, he⟩ | ⟨rfl, he⟩
      · have c19 : Steps p.tables e below (s₁.setTop (entryFrame m #[.ref x, .ref y] 3)) (T18.setTop (mkF m 55 #[.val (.ref x), .val (.ref y), .val (.ref y)] [.int 1])) := Steps.trans g18 (by
          refine XS.ifNo X18.here hexec rfl (hb hbytes d47) rfl (i0_eq_f (by decide)) ?_
          refine iconstV X18.here hexec rfl 1 (hb hbytes d50) (by decide) ?_
          refine XS.goto X18.here hexec rfl (pc0 := 51) rfl (hb hbytes d51) (by decide) rfl ?_
          exact Steps.refl _)
        exact ⟨T18, some (.int 1), _, _, _, X18, rfl, rfl, rfl, (fun h => by cases h), ⟨1, rfl, q18.trans hh16, Or.inl ⟨rfl, iff.mp he⟩⟩, fun fs hl => c19.trans (X18.ireturnOut hexec hret rfl (Or.inr (Or.inl rfl)) (hb hbytes d55) hl)⟩
      · have c19 : Steps p.tables e below (s₁.setTop (entryFrame m #[.ref x, .ref y] 3)) (T18.setTop (mkF m 55 #[.val (.ref x), .val (.ref y), .val (.ref y)] [.int 0])) := Steps.trans g18 (by
          refine XS.ifYes X18.here hexec rfl (pc0 := 47) rfl (hb hbytes d47) rfl (i0_eq_t rfl) (by decide) rfl ?_
          refine iconstV X18.here hexec rfl 0 (hb hbytes d54) (by decide) ?_
          exact Steps.refl _)
        exact ⟨T18, some (.int 0), _, _, _, X18, rfl, rfl, rfl, (fun h => by cases h), ⟨0, rfl, q18.trans hh16, Or.inr ⟨rfl, fun q => he (iff.mpr q)⟩⟩, fun fs hl => c19.trans (X18.ireturnOut hexec hret rfl (Or.inr (Or.inl rfl)) (hb hbytes d55) hl)⟩
    · have c13 : Steps p.tables e below (s₁.setTop (entryFrame m #[.ref x, .ref y] 3)) (T11.setTop (mkF m 55 #[.val (.ref x), .val (.ref y), .val (.ref y)] [.int 0])) := c12.trans (by
        refine XS.icmpYes X11.here hexec rfl (pc0 := 33) rfl (hb hbytes d33) rfl (ii_ne_t hcd) (by decide) rfl ?_
        refine iconstV X11.here hexec rfl 0 (hb hbytes d54) (by decide) ?_
        exact Steps.refl _)
      exact ⟨T11, some (.int 0), _, _, _, X11, rfl, rfl, rfl, (fun h => by cases h), ⟨0, rfl, hh11, Or.inr ⟨rfl, Cod.dif hx.2.2.2.2.1 hy.2.2.2.2.1 hcd⟩⟩, fun fs hl => c13.trans (X11.ireturnOut hexec hret rfl (Or.inr (Or.inl rfl)) (hb hbytes d55) hl)⟩
theorem pays {l : Launch} {R : Room} {p : Program} {e : Env} {below : List Frame} {s : State} {sargs : Array Value} {len W : Nat} (x t : Addr) (V : Cell) (cd : Int32) (n : Nat) (f : Nat → Int32) (y t' : Addr) (V' : Cell) (cd' : Int32) (k : Nat) (g : Nat → Int32) (z : Int32) (htab : tab.before sargs s = true) (hfr : 2 ≤ R.frames) (hlo : W + 28 ≤ R.locals) :
    Back l R p e below s sargs yN len W (fun A₁ a₁ => A₁.cells + 0 ≤ R.cells ∧ A₁.slots + 0 ≤ R.slots ∧ P x t V cd n f y t' V' cd' k g z a₁ A₁.U) (fun A₁ _ v₁ B₁ => Says01 (SameT n f k g) v₁ A₁.U B₁.U ∧ B₁.locs = A₁.locs ++ [] ∧ B₁.cells = A₁.cells + 0 ∧ B₁.slots = A₁.slots + 0) :=
  (law l x t V cd n f y t' V' cd' k g z).pays htab hfr (by omega)
end SEq
end StrChars
namespace StrChars.Road
open Jvm Sem ClassFile Op Lib Jvm.Stand Jvm.Free Jvm.Free.XT
open Jvm.Lib.Cold (StaticIs)
/-- the words of String.equals(Object) -/
abbrev wordsEq : List Jvm.Cond := [.code SEq.yN SEq.yB 3 (some .boolean), .initialized ST, .classLink ST 10 ST, .fieldLink ST 38 ST "COMPACT_STRINGS" "Z", .fieldLink ST 15 ST "coder" "B", .fieldLink ST 9 ST "value" "[B", .methodLink ST 541 LEq.yN, .static LEq.yN, .code LEq.yN LEq.yB 3 (some .boolean), .initialized "java/lang/StringLatin1"]
theorem tabEq_of {a : Array Value} {s : State} (h : ∀ w ∈ wordsEq, w.before a s = true) : SEq.tab.before a s = true := by
  have hl : LEq.tab.before a s = true := unparts (wk h (.code LEq.yN LEq.yB 3 (some .boolean))) (wks h (.initialized LEq.yN.cls :: LEq.site))
  have q := consq hl h
  exact unparts (wk q (.code SEq.yN SEq.yB 3 (some .boolean))) (wks q (.initialized SEq.yN.cls :: SEq.site))
theorem movedEq {Z s : State} {a0 args : Array Value} (hZ : Z.Warmed39 s.vm) (hw : ∀ d ∈ wordsEq, d.before a0 Z = true) : ∀ d ∈ wordsEq, d.before args s = true := fun d hd => by
  have t : ∀ d ∈ wordsEq, (d.onTables && d.keepsFace) = true := by decide +kernel
  exact RoadKit.mv hZ (hw d hd) (t d hd)
/-- the road's facts of a String, as the laws ask it -/
theorem txt_of {Z U : State} {a0 : Array Value} {kI : Nat} (wi : (Jvm.Cond.instantiable ST kI).before a0 Z = true) (al : Z.vm.Alike U.vm) {x t : Addr} {kb : ClassId} {cs : List Int32} {cd N2 : Int32} {vs : List Value} (E : RoadKit.Exa Z U.heap x ST) (V : RoadKit.Fld Z U.heap x ST "value" "[B" (.ref t)) (C : RoadKit.Fld Z U.heap x ST "coder" "B" (.int cd)) (K : RoadKit.Arv Z U.heap t kb .byte N2 vs (.int 0)) (hc : CodA cs cd N2 vs) (hb : ∀ c ∈ cs, ¬ c < 0 ∧ ¬ (65535 : Int32) < c) (l2 : cs.length ≤ 4000) :
    ∃ A, Txt x t A cd cs.length (fun j => cs.getD j 0) U := by
  obtain ⟨A, K1, K2, K3, K4, K5, K6⟩ := K
  have hcod := hc.cod (by omega) K3 K5
  obtain ⟨D, fV, fC, hB, F1, F2, g1, g2, -, -⟩ := strObj wi al E V C
  exact ⟨A, ⟨_, hB.2.2.1, D, hB.1, rfl, by cases q : D.vm <;> first | rfl | exact absurd q (hB.2.1.2 _)⟩, Has.of hB F1 g1, Has.of hB F2 g2, ⟨K1.1, State.isArrayOf_alike al K1.2.1, K1.2.2, by rcases hcod with ⟨-, q, -⟩ | ⟨-, q, -⟩ <;> omega⟩, hcod, fun j hj => by
    have e : cs.getD j 0 = cs[j] := by simp [List.getD_eq_getElem?_getD, hj]
    show ¬ cs.getD j 0 < 0 ∧ ¬ 65535 < cs.getD j 0
    rw [e]; exact hb _ (List.getElem_mem _)⟩
theorem same_list (cs ds : List Int32) : SameT cs.length (fun j => cs.getD j 0) ds.length (fun j => ds.getD j 0) ↔ cs = ds := by
  constructor
  · rintro ⟨e, q⟩
    refine List.ext_getElem e fun j h1 h2 => ?_
    have := q j h1
    simpa [List.getD_eq_getElem?_getD, h1, h2] using this
  · rintro rfl
    exact ⟨rfl, fun _ _ => rfl⟩
/-- **equals(Object) OF TWO SUCH STRINGS**: 1 just where the chars are the same -/
theorem eqW {p : Program} {l : Launch} {e : Env} {R : Room} {s : State} {args : Array Value} {below : List Frame} {len W : Nat} {Z : State} {a0 : Array Value} {h : Heap} (hZ : Z.Warmed39 s.vm) (hw : ∀ d ∈ wordsEq, d.before a0 Z = true) {kI : Nat} (wi : (Jvm.Cond.instantiable ST kI).before a0 Z = true)
    {x t : Addr} {kb : ClassId} {cs : List Int32} {cd N2 : Int32} {vs : List Value} (E : RoadKit.Exa Z h x ST) (V : RoadKit.Fld Z h x ST "value" "[B" (.ref t)) (C : RoadKit.Fld Z h x ST "coder" "B" (.int cd)) (K : RoadKit.Arv Z h t kb .byte N2 vs (.int 0)) (hc : CodA cs cd N2 vs) (hb : ∀ c ∈ cs, ¬ c < 0 ∧ ¬ (65535 : Int32) < c) (l2 : cs.length ≤ 4000)
    {y t' : Addr} {kb' : ClassId} {ds : List Int32} {cd' N2' : Int32} {vs' : List Value} (E' : RoadKit.Exa Z h y ST) (V' : RoadKit.Fld Z h y ST "value" "[B" (.ref t')) (C' : RoadKit.Fld Z h y ST "coder" "B" (.int cd')) (K' : RoadKit.Arv Z h t' kb' .byte N2' vs' (.int 0)) (hc' : CodA ds cd' N2' vs') (hb' : ∀ c ∈ ds, ¬ c < 0 ∧ ¬ (65535 : Int32) < c) (l2' : ds.length ≤ 4000)
    {z : Int32} (S : RoadKit.Sta Z h ST "COMPACT_STRINGS" "Z" (.int z)) (hz : ¬ z = 0) (hfr : 2 ≤ R.frames) (hlo : W + 28 ≤ R.locals) :
    Back l R p e below s args (⟨"java/lang/String", "equals", "(Ljava/lang/Object;)Z"⟩ : MethodName) len W (fun P a => a = #[.ref x, .ref y] ∧ P.U.heap = h ∧ P.cells + 0 ≤ R.cells ∧ P.slots + 0 ≤ R.slots)
      (fun P _ v B => ∃ L, (((v = some (.int 1) ∧ cs = ds) ∨ (v = some (.int 0) ∧ ¬ cs = ds)) ∧ L = [] ∧ B.U.heap = h) ∧ B.locs = P.locs ++ L ∧ B.cells = P.cells + 0 ∧ B.slots = P.slots + 0) := by
  intro m meth c P g ig mk a X hg hsize hdg hW hn hp'
  obtain ⟨rfl, rfl, r1, r2⟩ := hp'
  have al : Z.vm.Alike P.U.vm := hZ.alike.trans X.warmed.alike
  obtain ⟨A, hx⟩ := txt_of wi al E V C K hc hb l2
  obtain ⟨A', hy⟩ := txt_of wi al E' V' C' K' hc' hb' l2'
  obtain ⟨v, B, X', ⟨⟨w, hv, hh, hq⟩, hl, hk, hs⟩, st⟩ := SEq.pays x t A cd cs.length (fun j => cs.getD j 0) y t' A' cd' ds.length (fun j => ds.getD j 0) z (tabEq_of (movedEq hZ hw)) hfr hlo m meth c P g ig mk _ X hg hsize hdg hW hn ⟨r1, r2, rfl, hx, hy, sta_is al S, hz⟩
  refine ⟨v, B, X', ⟨[], ⟨?_, rfl, hh⟩, hl, hk, hs⟩, st⟩
  rcases hq with ⟨rfl, q⟩ | ⟨rfl, q⟩
  · exact Or.inl ⟨hv, (same_list cs ds).mp q⟩
  · exact Or.inr ⟨hv, fun e => q ((same_list cs ds).mpr e)⟩
end StrChars.Road
namespace StrChars.Road
open Jvm Sem ClassFile Op Lib Jvm.Stand Jvm.Free Jvm.Free.XT
open Jvm.Lib.Cold (StaticIs)
/-- what backV says of its String, as the contracts of this text ask it: cs's low bytes, coder 0 -/
theorem codOf {cs : List Int32} {n : Nat} (hn : cs.length = n) (hb : ∀ c ∈ cs, ¬ 255 < c) : CodA cs 0 (Int32.ofNat n) ((cs.map lo8).map Value.int) := Or.inl ⟨rfl, by rw [hn], by simp [List.map_map, Function.comp_def], hb⟩
end StrChars.Road
end Jvm.Pilot.@@N@@

namespace Jvm.Pilot.@@N@@
open Jvm Jvm.ClassFile Sem Op Lib Jvm.Free Jvm.Stand Jvm.LawKit Jvm.RoadKit Bundle Jvm.Pilot.@@N@@.Jvm.D
theorem W_0 {Z : State} {aw : Array Value} (hw : ∀ d ∈ tables_1, d.before aw Z = true) : (Jvm.Cond.methodLink "com/example/vouchsafe/vouchsafe/message/NameIdPolicyAcceptsPinLaw" (26 : Nat) ({ cls := "com/example/vouchsafe/vouchsafe/message/NameIdPolicyAcceptsPinLaw", name := "drawn", desc := "(I)Ljava/lang/String;" } : Jvm.MethodName)).before aw Z = true := hw _ (List.mem_of_getElem? (i := 0) rfl)
theorem W_1 {Z : State} {aw : Array Value} (hw : ∀ d ∈ tables_1, d.before aw Z = true) : (Jvm.Cond.static ({ cls := "com/example/vouchsafe/vouchsafe/message/NameIdPolicyAcceptsPinLaw", name := "drawn", desc := "(I)Ljava/lang/String;" } : Jvm.MethodName)).before aw Z = true := hw _ (List.mem_of_getElem? (i := 1) rfl)
theorem W_2 {Z : State} {aw : Array Value} (hw : ∀ d ∈ tables_1, d.before aw Z = true) : (Jvm.Cond.initialized "com/example/vouchsafe/vouchsafe/message/NameIdPolicyAcceptsPinLaw").before aw Z = true := hw _ (List.mem_of_getElem? (i := 2) rfl)
theorem W_3 {Z : State} {aw : Array Value} (hw : ∀ d ∈ tables_1, d.before aw Z = true) : (Jvm.Cond.code ({ cls := "com/example/vouchsafe/vouchsafe/message/NameIdPolicyAcceptsPinLaw", name := "drawn", desc := "(I)Ljava/lang/String;" } : Jvm.MethodName) method_2_code (5 : Nat) (Option.some (Jvm.ClassFile.FieldType.object "java/lang/String"))).before aw Z = true := hw _ (List.mem_of_getElem? (i := 3) rfl)
theorem W_4 {Z : State} {aw : Array Value} (hw : ∀ d ∈ tables_1, d.before aw Z = true) : (Jvm.Cond.classLink "com/example/vouchsafe/vouchsafe/message/NameIdPolicyAcceptsPinLaw" (7 : Nat) "java/lang/String").before aw Z = true := hw _ (List.mem_of_getElem? (i := 4) rfl)
theorem W_5 {Z : State} {aw : Array Value} (hw : ∀ d ∈ tables_1, d.before aw Z = true) : (Jvm.Cond.instantiable "java/lang/String" (4 : Nat)).before aw Z = true := hw _ (List.mem_of_getElem? (i := 5) rfl)
theorem W_6 {Z : State} {aw : Array Value} (hw : ∀ d ∈ tables_1, d.before aw Z = true) : (Jvm.Cond.initialized "java/lang/String").before aw Z = true := hw _ (List.mem_of_getElem? (i := 6) rfl)
theorem W_7 {Z : State} {aw : Array Value} (hw : ∀ d ∈ tables_1, d.before aw Z = true) : (Jvm.Cond.arrayClass Jvm.ClassFile.FieldType.char).before aw Z = true := hw _ (List.mem_of_getElem? (i := 7) rfl)
theorem W_8 {Z : State} {aw : Array Value} (hw : ∀ d ∈ tables_1, d.before aw Z = true) : (Jvm.Cond.methodLink "com/example/vouchsafe/vouchsafe/message/NameIdPolicyAcceptsPinLaw" (9 : Nat) ({ cls := "java/lang/String", name := "<init>", desc := "([C)V" } : Jvm.MethodName)).before aw Z = true := hw _ (List.mem_of_getElem? (i := 8) rfl)
theorem W_9 {Z : State} {aw : Array Value} (hw : ∀ d ∈ tables_1, d.before aw Z = true) : (Jvm.Cond.instanceMethod ({ cls := "java/lang/String", name := "<init>", desc := "([C)V" } : Jvm.MethodName)).before aw Z = true := hw _ (List.mem_of_getElem? (i := 9) rfl)
theorem W_10 {Z : State} {aw : Array Value} (hw : ∀ d ∈ tables_1, d.before aw Z = true) : (Jvm.Cond.code ({ cls := "java/lang/String", name := "<init>", desc := "([C)V" } : Jvm.MethodName) jdk_42_method_3_code (2 : Nat) (Option.none : Option Jvm.ClassFile.FieldType)).before aw Z = true := hw _ (List.mem_of_getElem? (i := 10) rfl)
theorem W_11 {Z : State} {aw : Array Value} (hw : ∀ d ∈ tables_1, d.before aw Z = true) : (Jvm.Cond.methodLink "java/lang/String" (27 : Nat) ({ cls := "java/lang/String", name := "<init>", desc := "([CIILjava/lang/Void;)V" } : Jvm.MethodName)).before aw Z = true := hw _ (List.mem_of_getElem? (i := 11) rfl)
theorem W_12 {Z : State} {aw : Array Value} (hw : ∀ d ∈ tables_1, d.before aw Z = true) : (Jvm.Cond.instanceMethod ({ cls := "java/lang/String", name := "<init>", desc := "([CIILjava/lang/Void;)V" } : Jvm.MethodName)).before aw Z = true := hw _ (List.mem_of_getElem? (i := 12) rfl)
theorem W_14 {Z : State} {aw : Array Value} (hw : ∀ d ∈ tables_1, d.before aw Z = true) : (Jvm.Cond.code ({ cls := "java/lang/String", name := "<init>", desc := "([CIILjava/lang/Void;)V" } : Jvm.MethodName) jdk_42_method_149_code (6 : Nat) (Option.none : Option Jvm.ClassFile.FieldType)).before aw Z = true := hw _ (List.mem_of_getElem? (i := 14) rfl)
theorem W_15 {Z : State} {aw : Array Value} (hw : ∀ d ∈ tables_1, d.before aw Z = true) : (Jvm.Cond.methodLink "java/lang/String" (1 : Nat) ({ cls := "java/lang/Object", name := "<init>", desc := "()V" } : Jvm.MethodName)).before aw Z = true := hw _ (List.mem_of_getElem? (i := 15) rfl)
theorem W_16 {Z : State} {aw : Array Value} (hw : ∀ d ∈ tables_1, d.before aw Z = true) : (Jvm.Cond.instanceMethod ({ cls := "java/lang/Object", name := "<init>", desc := "()V" } : Jvm.MethodName)).before aw Z = true := hw _ (List.mem_of_getElem? (i := 16) rfl)
theorem W_17 {Z : State} {aw : Array Value} (hw : ∀ d ∈ tables_1, d.before aw Z = true) : (Jvm.Cond.code ({ cls := "java/lang/Object", name := "<init>", desc := "()V" } : Jvm.MethodName) object_method_1_code (1 : Nat) (Option.none : Option Jvm.ClassFile.FieldType)).before aw Z = true := hw _ (List.mem_of_getElem? (i := 17) rfl)
theorem W_18 {Z : State} {aw : Array Value} (hw : ∀ d ∈ tables_1, d.before aw Z = true) : (Jvm.Cond.stringLink "java/lang/String" (7 : Nat) "").before aw Z = true := hw _ (List.mem_of_getElem? (i := 18) rfl)
theorem W_19 {Z : State} {aw : Array Value} (hw : ∀ d ∈ tables_1, d.before aw Z = true) : (Jvm.Cond.arrayClass Jvm.ClassFile.FieldType.byte).before aw Z = true := hw _ (List.mem_of_getElem? (i := 19) rfl)
theorem W_20 {Z : State} {aw : Array Value} (hw : ∀ d ∈ tables_1, d.before aw Z = true) : (Jvm.Cond.laysFinal "java/lang/String" "java/lang/String" "value" "[B").before aw Z = true := hw _ (List.mem_of_getElem? (i := 20) rfl)
theorem W_21 {Z : State} {aw : Array Value} (hw : ∀ d ∈ tables_1, d.before aw Z = true) : (Jvm.Cond.laysFinal "java/lang/String" "java/lang/String" "coder" "B").before aw Z = true := hw _ (List.mem_of_getElem? (i := 21) rfl)
theorem W_22 {Z : State} {aw : Array Value} (hw : ∀ d ∈ tables_1, d.before aw Z = true) : (Jvm.Cond.soleField "java/lang/String" "value").before aw Z = true := hw _ (List.mem_of_getElem? (i := 22) rfl)
theorem W_23 {Z : State} {aw : Array Value} (hw : ∀ d ∈ tables_1, d.before aw Z = true) : (Jvm.Cond.soleField "java/lang/String" "coder").before aw Z = true := hw _ (List.mem_of_getElem? (i := 23) rfl)
theorem W_24 {Z : State} {aw : Array Value} (hw : ∀ d ∈ tables_1, d.before aw Z = true) : (Jvm.Cond.fieldLink "java/lang/String" (9 : Nat) "java/lang/String" "value" "[B").before aw Z = true := hw _ (List.mem_of_getElem? (i := 24) rfl)
theorem W_25 {Z : State} {aw : Array Value} (hw : ∀ d ∈ tables_1, d.before aw Z = true) : (Jvm.Cond.fieldLink "java/lang/String" (15 : Nat) "java/lang/String" "coder" "B").before aw Z = true := hw _ (List.mem_of_getElem? (i := 25) rfl)
theorem W_26 {Z : State} {aw : Array Value} (hw : ∀ d ∈ tables_1, d.before aw Z = true) : (Jvm.Cond.methodLink "com/example/vouchsafe/vouchsafe/message/NameIdPolicyAcceptsPinLaw" (22 : Nat) ({ cls := "java/util/Optional", name := "of", desc := "(Ljava/lang/Object;)Ljava/util/Optional;" } : Jvm.MethodName)).before aw Z = true := hw _ (List.mem_of_getElem? (i := 26) rfl)
theorem W_27 {Z : State} {aw : Array Value} (hw : ∀ d ∈ tables_1, d.before aw Z = true) : (Jvm.Cond.static ({ cls := "java/util/Optional", name := "of", desc := "(Ljava/lang/Object;)Ljava/util/Optional;" } : Jvm.MethodName)).before aw Z = true := hw _ (List.mem_of_getElem? (i := 27) rfl)
theorem W_28 {Z : State} {aw : Array Value} (hw : ∀ d ∈ tables_1, d.before aw Z = true) : (Jvm.Cond.initialized "java/util/Optional").before aw Z = true := hw _ (List.mem_of_getElem? (i := 28) rfl)
theorem W_29 {Z : State} {aw : Array Value} (hw : ∀ d ∈ tables_1, d.before aw Z = true) : (Jvm.Cond.code ({ cls := "java/util/Optional", name := "of", desc := "(Ljava/lang/Object;)Ljava/util/Optional;" } : Jvm.MethodName) jdk_32_method_3_code (1 : Nat) (Option.some (Jvm.ClassFile.FieldType.object "java/util/Optional"))).before aw Z = true := hw _ (List.mem_of_getElem? (i := 29) rfl)
theorem W_30 {Z : State} {aw : Array Value} (hw : ∀ d ∈ tables_1, d.before aw Z = true) : (Jvm.Cond.classLink "java/util/Optional" (2 : Nat) "java/util/Optional").before aw Z = true := hw _ (List.mem_of_getElem? (i := 30) rfl)
theorem W_31 {Z : State} {aw : Array Value} (hw : ∀ d ∈ tables_1, d.before aw Z = true) : (Jvm.Cond.instantiable "java/util/Optional" (1 : Nat)).before aw Z = true := hw _ (List.mem_of_getElem? (i := 31) rfl)
theorem W_32 {Z : State} {aw : Array Value} (hw : ∀ d ∈ tables_1, d.before aw Z = true) : (Jvm.Cond.methodLink "java/util/Optional" (17 : Nat) ({ cls := "java/util/Objects", name := "requireNonNull", desc := "(Ljava/lang/Object;)Ljava/lang/Object;" } : Jvm.MethodName)).before aw Z = true := hw _ (List.mem_of_getElem? (i := 32) rfl)
theorem W_33 {Z : State} {aw : Array Value} (hw : ∀ d ∈ tables_1, d.before aw Z = true) : (Jvm.Cond.static ({ cls := "java/util/Objects", name := "requireNonNull", desc := "(Ljava/lang/Object;)Ljava/lang/Object;" } : Jvm.MethodName)).before aw Z = true := hw _ (List.mem_of_getElem? (i := 33) rfl)
theorem W_34 {Z : State} {aw : Array Value} (hw : ∀ d ∈ tables_1, d.before aw Z = true) : (Jvm.Cond.initialized "java/util/Objects").before aw Z = true := hw _ (List.mem_of_getElem? (i := 34) rfl)
theorem W_35 {Z : State} {aw : Array Value} (hw : ∀ d ∈ tables_1, d.before aw Z = true) : (Jvm.Cond.code ({ cls := "java/util/Objects", name := "requireNonNull", desc := "(Ljava/lang/Object;)Ljava/lang/Object;" } : Jvm.MethodName) jdk_31_method_10_code (1 : Nat) (Option.some (Jvm.ClassFile.FieldType.object "java/lang/Object"))).before aw Z = true := hw _ (List.mem_of_getElem? (i := 35) rfl)
theorem W_36 {Z : State} {aw : Array Value} (hw : ∀ d ∈ tables_1, d.before aw Z = true) : (Jvm.Cond.methodLink "java/util/Optional" (23 : Nat) ({ cls := "java/util/Optional", name := "<init>", desc := "(Ljava/lang/Object;)V" } : Jvm.MethodName)).before aw Z = true := hw _ (List.mem_of_getElem? (i := 36) rfl)
theorem W_37 {Z : State} {aw : Array Value} (hw : ∀ d ∈ tables_1, d.before aw Z = true) : (Jvm.Cond.instanceMethod ({ cls := "java/util/Optional", name := "<init>", desc := "(Ljava/lang/Object;)V" } : Jvm.MethodName)).before aw Z = true := hw _ (List.mem_of_getElem? (i := 37) rfl)
theorem W_39 {Z : State} {aw : Array Value} (hw : ∀ d ∈ tables_1, d.before aw Z = true) : (Jvm.Cond.code ({ cls := "java/util/Optional", name := "<init>", desc := "(Ljava/lang/Object;)V" } : Jvm.MethodName) jdk_32_method_2_code (2 : Nat) (Option.none : Option Jvm.ClassFile.FieldType)).before aw Z = true := hw _ (List.mem_of_getElem? (i := 39) rfl)
theorem W_40 {Z : State} {aw : Array Value} (hw : ∀ d ∈ tables_1, d.before aw Z = true) : (Jvm.Cond.methodLink "java/util/Optional" (7 : Nat) ({ cls := "java/lang/Object", name := "<init>", desc := "()V" } : Jvm.MethodName)).before aw Z = true := hw _ (List.mem_of_getElem? (i := 40) rfl)
theorem W_41 {Z : State} {aw : Array Value} (hw : ∀ d ∈ tables_1, d.before aw Z = true) : (Jvm.Cond.fieldLink "java/util/Optional" (13 : Nat) "java/util/Optional" "value" "Ljava/lang/Object;").before aw Z = true := hw _ (List.mem_of_getElem? (i := 41) rfl)
theorem W_42 {Z : State} {aw : Array Value} (hw : ∀ d ∈ tables_1, d.before aw Z = true) : (Jvm.Cond.laysFinal "java/util/Optional" "java/util/Optional" "value" "Ljava/lang/Object;").before aw Z = true := hw _ (List.mem_of_getElem? (i := 42) rfl)
theorem W_43 {Z : State} {aw : Array Value} (hw : ∀ d ∈ tables_1, d.before aw Z = true) : (Jvm.Cond.methodLink "com/example/vouchsafe/vouchsafe/message/NameIdPolicyAcceptsPinLaw" (14 : Nat) ({ cls := "java/util/Optional", name := "empty", desc := "()Ljava/util/Optional;" } : Jvm.MethodName)).before aw Z = true := hw _ (List.mem_of_getElem? (i := 43) rfl)
theorem W_44 {Z : State} {aw : Array Value} (hw : ∀ d ∈ tables_1, d.before aw Z = true) : (Jvm.Cond.static ({ cls := "java/util/Optional", name := "empty", desc := "()Ljava/util/Optional;" } : Jvm.MethodName)).before aw Z = true := hw _ (List.mem_of_getElem? (i := 44) rfl)
theorem W_45 {Z : State} {aw : Array Value} (hw : ∀ d ∈ tables_1, d.before aw Z = true) : (Jvm.Cond.code ({ cls := "java/util/Optional", name := "empty", desc := "()Ljava/util/Optional;" } : Jvm.MethodName) jdk_32_method_1_code (1 : Nat) (Option.some (Jvm.ClassFile.FieldType.object "java/util/Optional"))).before aw Z = true := hw _ (List.mem_of_getElem? (i := 45) rfl)
theorem W_46 {Z : State} {aw : Array Value} (hw : ∀ d ∈ tables_1, d.before aw Z = true) : (Jvm.Cond.fieldLink "java/util/Optional" (1 : Nat) "java/util/Optional" "EMPTY" "Ljava/util/Optional;").before aw Z = true := hw _ (List.mem_of_getElem? (i := 46) rfl)
theorem W_47 {Z : State} {aw : Array Value} (hw : ∀ d ∈ tables_1, d.before aw Z = true) : (Jvm.Cond.methodLink "com/example/vouchsafe/vouchsafe/message/NameIdPolicyAcceptsPinLaw" (41 : Nat) ({ cls := "com/example/vouchsafe/vouchsafe/message/NameIdPolicyAcceptsPinLaw", name := "sameDrawn", desc := "(II)Z" } : Jvm.MethodName)).before aw Z = true := hw _ (List.mem_of_getElem? (i := 47) rfl)
theorem W_48 {Z : State} {aw : Array Value} (hw : ∀ d ∈ tables_1, d.before aw Z = true) : (Jvm.Cond.static ({ cls := "com/example/vouchsafe/vouchsafe/message/NameIdPolicyAcceptsPinLaw", name := "sameDrawn", desc := "(II)Z" } : Jvm.MethodName)).before aw Z = true := hw _ (List.mem_of_getElem? (i := 48) rfl)
theorem W_49 {Z : State} {aw : Array Value} (hw : ∀ d ∈ tables_1, d.before aw Z = true) : (Jvm.Cond.code ({ cls := "com/example/vouchsafe/vouchsafe/message/NameIdPolicyAcceptsPinLaw", name := "sameDrawn", desc := "(II)Z" } : Jvm.MethodName) method_3_code (5 : Nat) (Option.some Jvm.ClassFile.FieldType.boolean)).before aw Z = true := hw _ (List.mem_of_getElem? (i := 49) rfl)
theorem W_50 {Z : State} {aw : Array Value} (hw : ∀ d ∈ tables_1, d.before aw Z = true) : (Jvm.Cond.classLink "com/example/vouchsafe/vouchsafe/message/NameIdPolicyAcceptsPinLaw" (45 : Nat) "com/example/vouchsafe/vouchsafe/message/NameIdPolicy").before aw Z = true := hw _ (List.mem_of_getElem? (i := 50) rfl)
theorem W_51 {Z : State} {aw : Array Value} (hw : ∀ d ∈ tables_1, d.before aw Z = true) : (Jvm.Cond.instantiable "com/example/vouchsafe/vouchsafe/message/NameIdPolicy" (2 : Nat)).before aw Z = true := hw _ (List.mem_of_getElem? (i := 51) rfl)
theorem W_52 {Z : State} {aw : Array Value} (hw : ∀ d ∈ tables_1, d.before aw Z = true) : (Jvm.Cond.initialized "com/example/vouchsafe/vouchsafe/message/NameIdPolicy").before aw Z = true := hw _ (List.mem_of_getElem? (i := 52) rfl)
theorem W_53 {Z : State} {aw : Array Value} (hw : ∀ d ∈ tables_1, d.before aw Z = true) : (Jvm.Cond.methodLink "com/example/vouchsafe/vouchsafe/message/NameIdPolicyAcceptsPinLaw" (47 : Nat) ({ cls := "com/example/vouchsafe/vouchsafe/message/NameIdPolicy", name := "<init>", desc := "(Ljava/util/Optional;Ljava/util/Optional;)V" } : Jvm.MethodName)).before aw Z = true := hw _ (List.mem_of_getElem? (i := 53) rfl)
theorem W_54 {Z : State} {aw : Array Value} (hw : ∀ d ∈ tables_1, d.before aw Z = true) : (Jvm.Cond.instanceMethod ({ cls := "com/example/vouchsafe/vouchsafe/message/NameIdPolicy", name := "<init>", desc := "(Ljava/util/Optional;Ljava/util/Optional;)V" } : Jvm.MethodName)).before aw Z = true := hw _ (List.mem_of_getElem? (i := 54) rfl)
theorem W_55 {Z : State} {aw : Array Value} (hw : ∀ d ∈ tables_1, d.before aw Z = true) : (Jvm.Cond.code ({ cls := "com/example/vouchsafe/vouchsafe/message/NameIdPolicy", name := "<init>", desc := "(Ljava/util/Optional;Ljava/util/Optional;)V" } : Jvm.MethodName) prog_34_method_1_code (3 : Nat) (Option.none : Option Jvm.ClassFile.FieldType)).before aw Z = true := hw _ (List.mem_of_getElem? (i := 55) rfl)
theorem W_56 {Z : State} {aw : Array Value} (hw : ∀ d ∈ tables_1, d.before aw Z = true) : (Jvm.Cond.methodLink "com/example/vouchsafe/vouchsafe/message/NameIdPolicy" (1 : Nat) ({ cls := "java/lang/Record", name := "<init>", desc := "()V" } : Jvm.MethodName)).before aw Z = true := hw _ (List.mem_of_getElem? (i := 56) rfl)
theorem W_57 {Z : State} {aw : Array Value} (hw : ∀ d ∈ tables_1, d.before aw Z = true) : (Jvm.Cond.instanceMethod ({ cls := "java/lang/Record", name := "<init>", desc := "()V" } : Jvm.MethodName)).before aw Z = true := hw _ (List.mem_of_getElem? (i := 57) rfl)
theorem W_59 {Z : State} {aw : Array Value} (hw : ∀ d ∈ tables_1, d.before aw Z = true) : (Jvm.Cond.initialized "java/lang/Record").before aw Z = true := hw _ (List.mem_of_getElem? (i := 59) rfl)
theorem W_60 {Z : State} {aw : Array Value} (hw : ∀ d ∈ tables_1, d.before aw Z = true) : (Jvm.Cond.code ({ cls := "java/lang/Record", name := "<init>", desc := "()V" } : Jvm.MethodName) jdk_30_method_1_code (1 : Nat) (Option.none : Option Jvm.ClassFile.FieldType)).before aw Z = true := hw _ (List.mem_of_getElem? (i := 60) rfl)
theorem W_61 {Z : State} {aw : Array Value} (hw : ∀ d ∈ tables_1, d.before aw Z = true) : (Jvm.Cond.methodLink "java/lang/Record" (1 : Nat) ({ cls := "java/lang/Object", name := "<init>", desc := "()V" } : Jvm.MethodName)).before aw Z = true := hw _ (List.mem_of_getElem? (i := 61) rfl)
theorem W_62 {Z : State} {aw : Array Value} (hw : ∀ d ∈ tables_1, d.before aw Z = true) : (Jvm.Cond.stringLink "com/example/vouchsafe/vouchsafe/message/NameIdPolicy" (7 : Nat) "format").before aw Z = true := hw _ (List.mem_of_getElem? (i := 62) rfl)
theorem W_63 {Z : State} {aw : Array Value} (hw : ∀ d ∈ tables_1, d.before aw Z = true) : (Jvm.Cond.methodLink "com/example/vouchsafe/vouchsafe/message/NameIdPolicy" (9 : Nat) ({ cls := "java/util/Objects", name := "requireNonNull", desc := "(Ljava/lang/Object;Ljava/lang/String;)Ljava/lang/Object;" } : Jvm.MethodName)).before aw Z = true := hw _ (List.mem_of_getElem? (i := 63) rfl)
theorem W_64 {Z : State} {aw : Array Value} (hw : ∀ d ∈ tables_1, d.before aw Z = true) : (Jvm.Cond.static ({ cls := "java/util/Objects", name := "requireNonNull", desc := "(Ljava/lang/Object;Ljava/lang/String;)Ljava/lang/Object;" } : Jvm.MethodName)).before aw Z = true := hw _ (List.mem_of_getElem? (i := 64) rfl)
theorem W_65 {Z : State} {aw : Array Value} (hw : ∀ d ∈ tables_1, d.before aw Z = true) : (Jvm.Cond.code ({ cls := "java/util/Objects", name := "requireNonNull", desc := "(Ljava/lang/Object;Ljava/lang/String;)Ljava/lang/Object;" } : Jvm.MethodName) jdk_31_method_11_code (2 : Nat) (Option.some (Jvm.ClassFile.FieldType.object "java/lang/Object"))).before aw Z = true := hw _ (List.mem_of_getElem? (i := 65) rfl)
theorem W_66 {Z : State} {aw : Array Value} (hw : ∀ d ∈ tables_1, d.before aw Z = true) : (Jvm.Cond.stringLink "com/example/vouchsafe/vouchsafe/message/NameIdPolicy" (15 : Nat) "allowCreate").before aw Z = true := hw _ (List.mem_of_getElem? (i := 66) rfl)
theorem W_67 {Z : State} {aw : Array Value} (hw : ∀ d ∈ tables_1, d.before aw Z = true) : (Jvm.Cond.fieldLink "com/example/vouchsafe/vouchsafe/message/NameIdPolicy" (17 : Nat) "com/example/vouchsafe/vouchsafe/message/NameIdPolicy" "format" "Ljava/util/Optional;").before aw Z = true := hw _ (List.mem_of_getElem? (i := 67) rfl)
theorem W_68 {Z : State} {aw : Array Value} (hw : ∀ d ∈ tables_1, d.before aw Z = true) : (Jvm.Cond.laysFinal "com/example/vouchsafe/vouchsafe/message/NameIdPolicy" "com/example/vouchsafe/vouchsafe/message/NameIdPolicy" "format" "Ljava/util/Optional;").before aw Z = true := hw _ (List.mem_of_getElem? (i := 68) rfl)
theorem W_69 {Z : State} {aw : Array Value} (hw : ∀ d ∈ tables_1, d.before aw Z = true) : (Jvm.Cond.fieldLink "com/example/vouchsafe/vouchsafe/message/NameIdPolicy" (22 : Nat) "com/example/vouchsafe/vouchsafe/message/NameIdPolicy" "allowCreate" "Ljava/util/Optional;").before aw Z = true := hw _ (List.mem_of_getElem? (i := 69) rfl)
theorem W_70 {Z : State} {aw : Array Value} (hw : ∀ d ∈ tables_1, d.before aw Z = true) : (Jvm.Cond.laysFinal "com/example/vouchsafe/vouchsafe/message/NameIdPolicy" "com/example/vouchsafe/vouchsafe/message/NameIdPolicy" "allowCreate" "Ljava/util/Optional;").before aw Z = true := hw _ (List.mem_of_getElem? (i := 70) rfl)
theorem W_71 {Z : State} {aw : Array Value} (hw : ∀ d ∈ tables_1, d.before aw Z = true) : (Jvm.Cond.methodLink "com/example/vouchsafe/vouchsafe/message/NameIdPolicyAcceptsPinLaw" (50 : Nat) ({ cls := "com/example/vouchsafe/vouchsafe/message/NameIdPolicy", name := "accepts", desc := "(Ljava/lang/String;)Z" } : Jvm.MethodName)).before aw Z = true := hw _ (List.mem_of_getElem? (i := 71) rfl)
theorem W_72 {Z : State} {aw : Array Value} (hw : ∀ d ∈ tables_1, d.before aw Z = true) : (Jvm.Cond.declares ({ cls := "com/example/vouchsafe/vouchsafe/message/NameIdPolicy", name := "accepts", desc := "(Ljava/lang/String;)Z" } : Jvm.MethodName)).before aw Z = true := hw _ (List.mem_of_getElem? (i := 72) rfl)
theorem W_73 {Z : State} {aw : Array Value} (hw : ∀ d ∈ tables_1, d.before aw Z = true) : (Jvm.Cond.instanceMethod ({ cls := "com/example/vouchsafe/vouchsafe/message/NameIdPolicy", name := "accepts", desc := "(Ljava/lang/String;)Z" } : Jvm.MethodName)).before aw Z = true := hw _ (List.mem_of_getElem? (i := 73) rfl)
theorem W_74 {Z : State} {aw : Array Value} (hw : ∀ d ∈ tables_1, d.before aw Z = true) : (Jvm.Cond.selects "com/example/vouchsafe/vouchsafe/message/NameIdPolicy" ({ cls := "com/example/vouchsafe/vouchsafe/message/NameIdPolicy", name := "accepts", desc := "(Ljava/lang/String;)Z" } : Jvm.MethodName) ({ cls := "com/example/vouchsafe/vouchsafe/message/NameIdPolicy", name := "accepts", desc := "(Ljava/lang/String;)Z" } : Jvm.MethodName)).before aw Z = true := hw _ (List.mem_of_getElem? (i := 74) rfl)
theorem W_75 {Z : State} {aw : Array Value} (hw : ∀ d ∈ tables_1, d.before aw Z = true) : (Jvm.Cond.code ({ cls := "com/example/vouchsafe/vouchsafe/message/NameIdPolicy", name := "accepts", desc := "(Ljava/lang/String;)Z" } : Jvm.MethodName) prog_34_method_3_code (2 : Nat) (Option.some Jvm.ClassFile.FieldType.boolean)).before aw Z = true := hw _ (List.mem_of_getElem? (i := 75) rfl)
theorem W_76 {Z : State} {aw : Array Value} (hw : ∀ d ∈ tables_1, d.before aw Z = true) : (Jvm.Cond.methodLink "com/example/vouchsafe/vouchsafe/message/NameIdPolicy" (40 : Nat) ({ cls := "java/util/Optional", name := "isEmpty", desc := "()Z" } : Jvm.MethodName)).before aw Z = true := hw _ (List.mem_of_getElem? (i := 76) rfl)
theorem W_77 {Z : State} {aw : Array Value} (hw : ∀ d ∈ tables_1, d.before aw Z = true) : (Jvm.Cond.declares ({ cls := "java/util/Optional", name := "isEmpty", desc := "()Z" } : Jvm.MethodName)).before aw Z = true := hw _ (List.mem_of_getElem? (i := 77) rfl)
theorem W_78 {Z : State} {aw : Array Value} (hw : ∀ d ∈ tables_1, d.before aw Z = true) : (Jvm.Cond.instanceMethod ({ cls := "java/util/Optional", name := "isEmpty", desc := "()Z" } : Jvm.MethodName)).before aw Z = true := hw _ (List.mem_of_getElem? (i := 78) rfl)
theorem W_79 {Z : State} {aw : Array Value} (hw : ∀ d ∈ tables_1, d.before aw Z = true) : (Jvm.Cond.selects "java/util/Optional" ({ cls := "java/util/Optional", name := "isEmpty", desc := "()Z" } : Jvm.MethodName) ({ cls := "java/util/Optional", name := "isEmpty", desc := "()Z" } : Jvm.MethodName)).before aw Z = true := hw _ (List.mem_of_getElem? (i := 79) rfl)
theorem W_80 {Z : State} {aw : Array Value} (hw : ∀ d ∈ tables_1, d.before aw Z = true) : (Jvm.Cond.code ({ cls := "java/util/Optional", name := "isEmpty", desc := "()Z" } : Jvm.MethodName) jdk_32_method_7_code (1 : Nat) (Option.some Jvm.ClassFile.FieldType.boolean)).before aw Z = true := hw _ (List.mem_of_getElem? (i := 80) rfl)
theorem W_81 {Z : State} {aw : Array Value} (hw : ∀ d ∈ tables_1, d.before aw Z = true) : (Jvm.Cond.methodLink "com/example/vouchsafe/vouchsafe/message/NameIdPolicy" (46 : Nat) ({ cls := "java/util/Optional", name := "get", desc := "()Ljava/lang/Object;" } : Jvm.MethodName)).before aw Z = true := hw _ (List.mem_of_getElem? (i := 81) rfl)
theorem W_82 {Z : State} {aw : Array Value} (hw : ∀ d ∈ tables_1, d.before aw Z = true) : (Jvm.Cond.declares ({ cls := "java/util/Optional", name := "get", desc := "()Ljava/lang/Object;" } : Jvm.MethodName)).before aw Z = true := hw _ (List.mem_of_getElem? (i := 82) rfl)
theorem W_83 {Z : State} {aw : Array Value} (hw : ∀ d ∈ tables_1, d.before aw Z = true) : (Jvm.Cond.instanceMethod ({ cls := "java/util/Optional", name := "get", desc := "()Ljava/lang/Object;" } : Jvm.MethodName)).before aw Z = true := hw _ (List.mem_of_getElem? (i := 83) rfl)
theorem W_84 {Z : State} {aw : Array Value} (hw : ∀ d ∈ tables_1, d.before aw Z = true) : (Jvm.Cond.selects "java/util/Optional" ({ cls := "java/util/Optional", name := "get", desc := "()Ljava/lang/Object;" } : Jvm.MethodName) ({ cls := "java/util/Optional", name := "get", desc := "()Ljava/lang/Object;" } : Jvm.MethodName)).before aw Z = true := hw _ (List.mem_of_getElem? (i := 84) rfl)
theorem W_85 {Z : State} {aw : Array Value} (hw : ∀ d ∈ tables_1, d.before aw Z = true) : (Jvm.Cond.code ({ cls := "java/util/Optional", name := "get", desc := "()Ljava/lang/Object;" } : Jvm.MethodName) jdk_32_method_5_code (1 : Nat) (Option.some (Jvm.ClassFile.FieldType.object "java/lang/Object"))).before aw Z = true := hw _ (List.mem_of_getElem? (i := 85) rfl)
theorem W_86 {Z : State} {aw : Array Value} (hw : ∀ d ∈ tables_1, d.before aw Z = true) : (Jvm.Cond.classLink "com/example/vouchsafe/vouchsafe/message/NameIdPolicy" (50 : Nat) "java/lang/String").before aw Z = true := hw _ (List.mem_of_getElem? (i := 86) rfl)
theorem W_87 {Z : State} {aw : Array Value} (hw : ∀ d ∈ tables_1, d.before aw Z = true) : (Jvm.Cond.stringLink "com/example/vouchsafe/vouchsafe/message/NameIdPolicy" (52 : Nat) "urn:oasis:names:tc:SAML:1.1:nameid-format:unspecified").before aw Z = true := hw _ (List.mem_of_getElem? (i := 87) rfl)
theorem W_88 {Z : State} {aw : Array Value} (hw : ∀ d ∈ tables_1, d.before aw Z = true) : (Jvm.Cond.methodLink "com/example/vouchsafe/vouchsafe/message/NameIdPolicy" (54 : Nat) ({ cls := "java/lang/String", name := "equals", desc := "(Ljava/lang/Object;)Z" } : Jvm.MethodName)).before aw Z = true := hw _ (List.mem_of_getElem? (i := 88) rfl)
theorem W_89 {Z : State} {aw : Array Value} (hw : ∀ d ∈ tables_1, d.before aw Z = true) : (Jvm.Cond.declares ({ cls := "java/lang/String", name := "equals", desc := "(Ljava/lang/Object;)Z" } : Jvm.MethodName)).before aw Z = true := hw _ (List.mem_of_getElem? (i := 89) rfl)
theorem W_90 {Z : State} {aw : Array Value} (hw : ∀ d ∈ tables_1, d.before aw Z = true) : (Jvm.Cond.instanceMethod ({ cls := "java/lang/String", name := "equals", desc := "(Ljava/lang/Object;)Z" } : Jvm.MethodName)).before aw Z = true := hw _ (List.mem_of_getElem? (i := 90) rfl)
theorem W_91 {Z : State} {aw : Array Value} (hw : ∀ d ∈ tables_1, d.before aw Z = true) : (Jvm.Cond.selects "java/lang/String" ({ cls := "java/lang/String", name := "equals", desc := "(Ljava/lang/Object;)Z" } : Jvm.MethodName) ({ cls := "java/lang/String", name := "equals", desc := "(Ljava/lang/Object;)Z" } : Jvm.MethodName)).before aw Z = true := hw _ (List.mem_of_getElem? (i := 91) rfl)
theorem W_99 {Z : State} {aw : Array Value} (hw : ∀ d ∈ tables_1, d.before aw Z = true) : (Jvm.Cond.stringLink "com/example/vouchsafe/vouchsafe/message/NameIdPolicyAcceptsPinLaw" (20 : Nat) "urn:oasis:names:tc:SAML:1.1:nameid-format:unspecified").before aw Z = true := hw _ (List.mem_of_getElem? (i := 99) rfl)
theorem W_110 {Z : State} {aw : Array Value} (hw : ∀ d ∈ tables_1, d.before aw Z = true) : (Jvm.Cond.fieldLink "com/example/vouchsafe/vouchsafe/message/NameIdPolicyAcceptsPinLaw" (38 : Nat) "java/lang/Boolean" "FALSE" "Ljava/lang/Boolean;").before aw Z = true := hw _ (List.mem_of_getElem? (i := 110) rfl)
theorem W_112 {Z : State} {aw : Array Value} (hw : ∀ d ∈ tables_1, d.before aw Z = true) : (Jvm.Cond.fieldLink "com/example/vouchsafe/vouchsafe/message/NameIdPolicyAcceptsPinLaw" (32 : Nat) "java/lang/Boolean" "TRUE" "Ljava/lang/Boolean;").before aw Z = true := hw _ (List.mem_of_getElem? (i := 112) rfl)
theorem W_113 {Z : State} {aw : Array Value} (hw : ∀ d ∈ tables_1, d.before aw Z = true) : (Jvm.Cond.constant "com/example/vouchsafe/vouchsafe/message/NameIdPolicyAcceptsPinLaw" (13 : Nat) (16777215 : Int32)).before aw Z = true := hw _ (List.mem_of_getElem? (i := 113) rfl)
theorem W_114 {Z : State} {aw : Array Value} (hw : ∀ d ∈ tables_1, d.before aw Z = true) : (Jvm.Cond.constant "com/example/vouchsafe/vouchsafe/message/NameIdPolicyAcceptsPinLaw" (12 : Nat) (65535 : Int32)).before aw Z = true := hw _ (List.mem_of_getElem? (i := 114) rfl)
abbrev EL : List (String × Nat) := [("com/example/vouchsafe/vouchsafe/message/NameIdPolicy", 7), ("com/example/vouchsafe/vouchsafe/message/NameIdPolicy", 15), ("com/example/vouchsafe/vouchsafe/message/NameIdPolicy", 52), ("com/example/vouchsafe/vouchsafe/message/NameIdPolicyAcceptsPinLaw", 20), ("java/lang/String", 7)]
theorem ew {Z : State} {aw : Array Value} (hw : ∀ d ∈ tables_1, d.before aw Z = true) : EW Z aw EL := (EW.cons (W_62 hw) (by decide +kernel) (EW.cons (W_66 hw) (by decide +kernel) (EW.cons (W_87 hw) (by decide +kernel) (EW.cons (W_99 hw) (by decide +kernel) (EW.cons (W_18 hw) (by decide +kernel) EW.nil)))))
theorem strAtoms {Z : State} {aw : Array Value} (hw : ∀ d ∈ tables_1, d.before aw Z = true) : ∀ a ∈ Bundle.stringAtoms, a.before aw Z = true := by
  intro a ha
  simp only [Bundle.stringAtoms, List.mem_cons, List.not_mem_nil, or_false] at ha
  rcases ha with rfl | rfl | rfl | rfl | rfl | rfl | rfl
  · first | exact (W_6 hw) | exact (W_5 hw) | exact (W_19 hw) | exact (W_20 hw) | exact (W_21 hw) | exact (W_22 hw) | exact (W_23 hw)
  · first | exact (W_6 hw) | exact (W_5 hw) | exact (W_19 hw) | exact (W_20 hw) | exact (W_21 hw) | exact (W_22 hw) | exact (W_23 hw)
  · first | exact (W_6 hw) | exact (W_5 hw) | exact (W_19 hw) | exact (W_20 hw) | exact (W_21 hw) | exact (W_22 hw) | exact (W_23 hw)
  · first | exact (W_6 hw) | exact (W_5 hw) | exact (W_19 hw) | exact (W_20 hw) | exact (W_21 hw) | exact (W_22 hw) | exact (W_23 hw)
  · first | exact (W_6 hw) | exact (W_5 hw) | exact (W_19 hw) | exact (W_20 hw) | exact (W_21 hw) | exact (W_22 hw) | exact (W_23 hw)
  · first | exact (W_6 hw) | exact (W_5 hw) | exact (W_19 hw) | exact (W_20 hw) | exact (W_21 hw) | exact (W_22 hw) | exact (W_23 hw)
  · first | exact (W_6 hw) | exact (W_5 hw) | exact (W_19 hw) | exact (W_20 hw) | exact (W_21 hw) | exact (W_22 hw) | exact (W_23 hw)
theorem hwStr {Z : State} {aw : Array Value} (hw : ∀ d ∈ tables_1, d.before aw Z = true) : ∀ d ∈ StrChars.Road.words, d.before aw Z = true := fun d hd => hw d ((by decide +kernel : ∀ d ∈ StrChars.Road.words, d ∈ tables_1) d hd)
theorem hwEq {Z : State} {aw : Array Value} (hw : ∀ d ∈ tables_1, d.before aw Z = true) : ∀ d ∈ StrChars.Road.wordsEq, d.before aw Z = true := fun d hd => hw d ((by decide +kernel : ∀ d ∈ StrChars.Road.wordsEq, d ∈ tables_1) d hd)
theorem d_jdk_30_method_1_code_0 : decode jdk_30_method_1_code 0 = .ok (.aload_n 0, 1) := by decide +kernel
theorem d_jdk_30_method_1_code_1 : decode jdk_30_method_1_code 1 = .ok (.invokespecial 1, 3) := by decide +kernel
theorem d_jdk_30_method_1_code_4 : decode jdk_30_method_1_code 4 = .ok (.return_, 1) := by decide +kernel
theorem d_jdk_31_method_10_code_0 : decode jdk_31_method_10_code 0 = .ok (.aload_n 0, 1) := by decide +kernel
theorem d_jdk_31_method_10_code_1 : decode jdk_31_method_10_code 1 = .ok (.ifnonnull 11, 3) := by decide +kernel
theorem d_jdk_31_method_10_code_12 : decode jdk_31_method_10_code 12 = .ok (.aload_n 0, 1) := by decide +kernel
theorem d_jdk_31_method_10_code_13 : decode jdk_31_method_10_code 13 = .ok (.areturn, 1) := by decide +kernel
theorem d_jdk_31_method_11_code_0 : decode jdk_31_method_11_code 0 = .ok (.aload_n 0, 1) := by decide +kernel
theorem d_jdk_31_method_11_code_1 : decode jdk_31_method_11_code 1 = .ok (.ifnonnull 12, 3) := by decide +kernel
theorem d_jdk_31_method_11_code_13 : decode jdk_31_method_11_code 13 = .ok (.aload_n 0, 1) := by decide +kernel
theorem d_jdk_31_method_11_code_14 : decode jdk_31_method_11_code 14 = .ok (.areturn, 1) := by decide +kernel
theorem d_jdk_32_method_2_code_0 : decode jdk_32_method_2_code 0 = .ok (.aload_n 0, 1) := by decide +kernel
theorem d_jdk_32_method_2_code_1 : decode jdk_32_method_2_code 1 = .ok (.invokespecial 7, 3) := by decide +kernel
theorem d_jdk_32_method_2_code_4 : decode jdk_32_method_2_code 4 = .ok (.aload_n 0, 1) := by decide +kernel
theorem d_jdk_32_method_2_code_5 : decode jdk_32_method_2_code 5 = .ok (.aload_n 1, 1) := by decide +kernel
theorem d_jdk_32_method_2_code_6 : decode jdk_32_method_2_code 6 = .ok (.putfield 13, 3) := by decide +kernel
theorem d_jdk_32_method_2_code_9 : decode jdk_32_method_2_code 9 = .ok (.return_, 1) := by decide +kernel
theorem d_jdk_32_method_3_code_0 : decode jdk_32_method_3_code 0 = .ok (.new 2, 3) := by decide +kernel
theorem d_jdk_32_method_3_code_3 : decode jdk_32_method_3_code 3 = .ok (.dup, 1) := by decide +kernel
theorem d_jdk_32_method_3_code_4 : decode jdk_32_method_3_code 4 = .ok (.aload_n 0, 1) := by decide +kernel
theorem d_jdk_32_method_3_code_5 : decode jdk_32_method_3_code 5 = .ok (.invokestatic 17, 3) := by decide +kernel
theorem d_jdk_32_method_3_code_8 : decode jdk_32_method_3_code 8 = .ok (.invokespecial 23, 3) := by decide +kernel
theorem d_jdk_32_method_3_code_11 : decode jdk_32_method_3_code 11 = .ok (.areturn, 1) := by decide +kernel
theorem d_jdk_32_method_1_code_0 : decode jdk_32_method_1_code 0 = .ok (.getstatic 1, 3) := by decide +kernel
theorem d_jdk_32_method_1_code_3 : decode jdk_32_method_1_code 3 = .ok (.astore_n 0, 1) := by decide +kernel
theorem d_jdk_32_method_1_code_4 : decode jdk_32_method_1_code 4 = .ok (.aload_n 0, 1) := by decide +kernel
theorem d_jdk_32_method_1_code_5 : decode jdk_32_method_1_code 5 = .ok (.areturn, 1) := by decide +kernel
theorem d_jdk_32_method_7_code_0 : decode jdk_32_method_7_code 0 = .ok (.aload_n 0, 1) := by decide +kernel
theorem d_jdk_32_method_7_code_1 : decode jdk_32_method_7_code 1 = .ok (.getfield 13, 3) := by decide +kernel
theorem d_jdk_32_method_7_code_4 : decode jdk_32_method_7_code 4 = .ok (.ifnonnull 7, 3) := by decide +kernel
theorem d_jdk_32_method_7_code_7 : decode jdk_32_method_7_code 7 = .ok (.iconst 1, 1) := by decide +kernel
theorem d_jdk_32_method_7_code_8 : decode jdk_32_method_7_code 8 = .ok (.goto 4, 3) := by decide +kernel
theorem d_jdk_32_method_7_code_12 : decode jdk_32_method_7_code 12 = .ok (.ireturn, 1) := by decide +kernel
theorem d_jdk_32_method_7_code_11 : decode jdk_32_method_7_code 11 = .ok (.iconst 0, 1) := by decide +kernel
theorem d_jdk_32_method_5_code_0 : decode jdk_32_method_5_code 0 = .ok (.aload_n 0, 1) := by decide +kernel
theorem d_jdk_32_method_5_code_1 : decode jdk_32_method_5_code 1 = .ok (.getfield 13, 3) := by decide +kernel
theorem d_jdk_32_method_5_code_4 : decode jdk_32_method_5_code 4 = .ok (.ifnonnull 13, 3) := by decide +kernel
theorem d_jdk_32_method_5_code_17 : decode jdk_32_method_5_code 17 = .ok (.aload_n 0, 1) := by decide +kernel
theorem d_jdk_32_method_5_code_18 : decode jdk_32_method_5_code 18 = .ok (.getfield 13, 3) := by decide +kernel
theorem d_jdk_32_method_5_code_21 : decode jdk_32_method_5_code 21 = .ok (.areturn, 1) := by decide +kernel
theorem d_prog_34_method_1_code_0 : decode prog_34_method_1_code 0 = .ok (.aload_n 0, 1) := by decide +kernel
theorem d_prog_34_method_1_code_1 : decode prog_34_method_1_code 1 = .ok (.invokespecial 1, 3) := by decide +kernel
theorem d_prog_34_method_1_code_4 : decode prog_34_method_1_code 4 = .ok (.aload_n 1, 1) := by decide +kernel
theorem d_prog_34_method_1_code_5 : decode prog_34_method_1_code 5 = .ok (.ldc 7, 2) := by decide +kernel
theorem d_prog_34_method_1_code_7 : decode prog_34_method_1_code 7 = .ok (.invokestatic 9, 3) := by decide +kernel
theorem d_prog_34_method_1_code_10 : decode prog_34_method_1_code 10 = .ok (.pop, 1) := by decide +kernel
theorem d_prog_34_method_1_code_11 : decode prog_34_method_1_code 11 = .ok (.aload_n 2, 1) := by decide +kernel
theorem d_prog_34_method_1_code_12 : decode prog_34_method_1_code 12 = .ok (.ldc 15, 2) := by decide +kernel
theorem d_prog_34_method_1_code_14 : decode prog_34_method_1_code 14 = .ok (.invokestatic 9, 3) := by decide +kernel
theorem d_prog_34_method_1_code_17 : decode prog_34_method_1_code 17 = .ok (.pop, 1) := by decide +kernel
theorem d_prog_34_method_1_code_18 : decode prog_34_method_1_code 18 = .ok (.aload_n 0, 1) := by decide +kernel
theorem d_prog_34_method_1_code_19 : decode prog_34_method_1_code 19 = .ok (.aload_n 1, 1) := by decide +kernel
theorem d_prog_34_method_1_code_20 : decode prog_34_method_1_code 20 = .ok (.putfield 17, 3) := by decide +kernel
theorem d_prog_34_method_1_code_23 : decode prog_34_method_1_code 23 = .ok (.aload_n 0, 1) := by decide +kernel
theorem d_prog_34_method_1_code_24 : decode prog_34_method_1_code 24 = .ok (.aload_n 2, 1) := by decide +kernel
theorem d_prog_34_method_1_code_25 : decode prog_34_method_1_code 25 = .ok (.putfield 22, 3) := by decide +kernel
theorem d_prog_34_method_1_code_28 : decode prog_34_method_1_code 28 = .ok (.return_, 1) := by decide +kernel
theorem d_prog_34_method_3_code_0 : decode prog_34_method_3_code 0 = .ok (.aload_n 0, 1) := by decide +kernel
theorem d_prog_34_method_3_code_1 : decode prog_34_method_3_code 1 = .ok (.getfield 17, 3) := by decide +kernel
theorem d_prog_34_method_3_code_4 : decode prog_34_method_3_code 4 = .ok (.invokevirtual 40, 3) := by decide +kernel
theorem d_prog_34_method_3_code_7 : decode prog_34_method_3_code 7 = .ok (.ifCond .ne 38, 3) := by decide +kernel
theorem d_prog_34_method_3_code_45 : decode prog_34_method_3_code 45 = .ok (.iconst 1, 1) := by decide +kernel
theorem d_prog_34_method_3_code_46 : decode prog_34_method_3_code 46 = .ok (.goto 4, 3) := by decide +kernel
theorem d_prog_34_method_3_code_50 : decode prog_34_method_3_code 50 = .ok (.ireturn, 1) := by decide +kernel
theorem d_prog_34_method_3_code_10 : decode prog_34_method_3_code 10 = .ok (.aload_n 0, 1) := by decide +kernel
theorem d_prog_34_method_3_code_11 : decode prog_34_method_3_code 11 = .ok (.getfield 17, 3) := by decide +kernel
theorem d_prog_34_method_3_code_14 : decode prog_34_method_3_code 14 = .ok (.invokevirtual 46, 3) := by decide +kernel
theorem d_prog_34_method_3_code_17 : decode prog_34_method_3_code 17 = .ok (.checkcast 50, 3) := by decide +kernel
theorem d_prog_34_method_3_code_20 : decode prog_34_method_3_code 20 = .ok (.ldc 52, 2) := by decide +kernel
theorem d_prog_34_method_3_code_22 : decode prog_34_method_3_code 22 = .ok (.invokevirtual 54, 3) := by decide +kernel
theorem d_prog_34_method_3_code_25 : decode prog_34_method_3_code 25 = .ok (.ifCond .ne 20, 3) := by decide +kernel
theorem d_prog_34_method_3_code_28 : decode prog_34_method_3_code 28 = .ok (.aload_n 0, 1) := by decide +kernel
theorem d_prog_34_method_3_code_29 : decode prog_34_method_3_code 29 = .ok (.getfield 17, 3) := by decide +kernel
theorem d_prog_34_method_3_code_32 : decode prog_34_method_3_code 32 = .ok (.invokevirtual 46, 3) := by decide +kernel
theorem d_prog_34_method_3_code_35 : decode prog_34_method_3_code 35 = .ok (.checkcast 50, 3) := by decide +kernel
theorem d_prog_34_method_3_code_38 : decode prog_34_method_3_code 38 = .ok (.aload_n 1, 1) := by decide +kernel
theorem d_prog_34_method_3_code_39 : decode prog_34_method_3_code 39 = .ok (.invokevirtual 54, 3) := by decide +kernel
theorem d_prog_34_method_3_code_42 : decode prog_34_method_3_code 42 = .ok (.ifCond .eq 7, 3) := by decide +kernel
theorem d_prog_34_method_3_code_49 : decode prog_34_method_3_code 49 = .ok (.iconst 0, 1) := by decide +kernel
theorem d_jdk_42_method_149_code_0 : decode jdk_42_method_149_code 0 = .ok (.aload_n 0, 1) := by decide +kernel
theorem d_jdk_42_method_149_code_1 : decode jdk_42_method_149_code 1 = .ok (.invokespecial 1, 3) := by decide +kernel
theorem d_jdk_42_method_149_code_4 : decode jdk_42_method_149_code 4 = .ok (.iload_n 3, 1) := by decide +kernel
theorem d_jdk_42_method_149_code_5 : decode jdk_42_method_149_code 5 = .ok (.ifCond .ne 22, 3) := by decide +kernel
theorem d_jdk_42_method_149_code_8 : decode jdk_42_method_149_code 8 = .ok (.aload_n 0, 1) := by decide +kernel
theorem d_jdk_42_method_149_code_9 : decode jdk_42_method_149_code 9 = .ok (.ldc 7, 2) := by decide +kernel
theorem d_jdk_42_method_149_code_11 : decode jdk_42_method_149_code 11 = .ok (.getfield 9, 3) := by decide +kernel
theorem d_jdk_42_method_149_code_14 : decode jdk_42_method_149_code 14 = .ok (.putfield 9, 3) := by decide +kernel
theorem d_jdk_42_method_149_code_17 : decode jdk_42_method_149_code 17 = .ok (.aload_n 0, 1) := by decide +kernel
theorem d_jdk_42_method_149_code_18 : decode jdk_42_method_149_code 18 = .ok (.ldc 7, 2) := by decide +kernel
theorem d_jdk_42_method_149_code_20 : decode jdk_42_method_149_code 20 = .ok (.getfield 15, 3) := by decide +kernel
theorem d_jdk_42_method_149_code_23 : decode jdk_42_method_149_code 23 = .ok (.putfield 15, 3) := by decide +kernel
theorem d_jdk_42_method_149_code_26 : decode jdk_42_method_149_code 26 = .ok (.return_, 1) := by decide +kernel
theorem d_jdk_42_method_3_code_0 : decode jdk_42_method_3_code 0 = .ok (.aload_n 0, 1) := by decide +kernel
theorem d_jdk_42_method_3_code_1 : decode jdk_42_method_3_code 1 = .ok (.aload_n 1, 1) := by decide +kernel
theorem d_jdk_42_method_3_code_2 : decode jdk_42_method_3_code 2 = .ok (.iconst 0, 1) := by decide +kernel
theorem d_jdk_42_method_3_code_3 : decode jdk_42_method_3_code 3 = .ok (.aload_n 1, 1) := by decide +kernel
theorem d_jdk_42_method_3_code_4 : decode jdk_42_method_3_code 4 = .ok (.arraylength, 1) := by decide +kernel
theorem d_jdk_42_method_3_code_5 : decode jdk_42_method_3_code 5 = .ok (.aconst_null, 1) := by decide +kernel
theorem d_jdk_42_method_3_code_6 : decode jdk_42_method_3_code 6 = .ok (.invokespecial 27, 3) := by decide +kernel
theorem d_jdk_42_method_3_code_9 : decode jdk_42_method_3_code 9 = .ok (.return_, 1) := by decide +kernel
theorem d_method_2_code_0 : decode method_2_code 0 = .ok (.iload_n 0, 1) := by decide +kernel
theorem d_method_2_code_1 : decode method_2_code 1 = .ok (.bipush 24, 2) := by decide +kernel
theorem d_method_2_code_3 : decode method_2_code 3 = .ok (.iushr, 1) := by decide +kernel
theorem d_method_2_code_4 : decode method_2_code 4 = .ok (.iconst 3, 1) := by decide +kernel
theorem d_method_2_code_5 : decode method_2_code 5 = .ok (.iand, 1) := by decide +kernel
theorem d_method_2_code_6 : decode method_2_code 6 = .ok (.istore_n 1, 1) := by decide +kernel
theorem d_method_2_code_7 : decode method_2_code 7 = .ok (.iload_n 0, 1) := by decide +kernel
theorem d_method_2_code_8 : decode method_2_code 8 = .ok (.sipush 255, 3) := by decide +kernel
theorem d_method_2_code_11 : decode method_2_code 11 = .ok (.iand, 1) := by decide +kernel
theorem d_method_2_code_12 : decode method_2_code 12 = .ok (.i2c, 1) := by decide +kernel
theorem d_method_2_code_13 : decode method_2_code 13 = .ok (.istore_n 2, 1) := by decide +kernel
theorem d_method_2_code_14 : decode method_2_code 14 = .ok (.iload_n 0, 1) := by decide +kernel
theorem d_method_2_code_15 : decode method_2_code 15 = .ok (.bipush 8, 2) := by decide +kernel
theorem d_method_2_code_17 : decode method_2_code 17 = .ok (.iushr, 1) := by decide +kernel
theorem d_method_2_code_18 : decode method_2_code 18 = .ok (.sipush 255, 3) := by decide +kernel
theorem d_method_2_code_21 : decode method_2_code 21 = .ok (.iand, 1) := by decide +kernel
theorem d_method_2_code_22 : decode method_2_code 22 = .ok (.i2c, 1) := by decide +kernel
theorem d_method_2_code_23 : decode method_2_code 23 = .ok (.istore_n 3, 1) := by decide +kernel
theorem d_method_2_code_24 : decode method_2_code 24 = .ok (.iload_n 0, 1) := by decide +kernel
theorem d_method_2_code_25 : decode method_2_code 25 = .ok (.bipush 16, 2) := by decide +kernel
theorem d_method_2_code_27 : decode method_2_code 27 = .ok (.iushr, 1) := by decide +kernel
theorem d_method_2_code_28 : decode method_2_code 28 = .ok (.sipush 255, 3) := by decide +kernel
theorem d_method_2_code_31 : decode method_2_code 31 = .ok (.iand, 1) := by decide +kernel
theorem d_method_2_code_32 : decode method_2_code 32 = .ok (.i2c, 1) := by decide +kernel
theorem d_method_2_code_33 : decode method_2_code 33 = .ok (.istore 4, 2) := by decide +kernel
theorem d_method_2_code_35 : decode method_2_code 35 = .ok (.iload_n 1, 1) := by decide +kernel
theorem d_method_2_code_36 : decode method_2_code 36 = .ok (.ifCond .ne 14, 3) := by decide +kernel
theorem d_method_2_code_39 : decode method_2_code 39 = .ok (.new 7, 3) := by decide +kernel
theorem d_method_2_code_42 : decode method_2_code 42 = .ok (.dup, 1) := by decide +kernel
theorem d_method_2_code_43 : decode method_2_code 43 = .ok (.iconst 0, 1) := by decide +kernel
theorem d_method_2_code_44 : decode method_2_code 44 = .ok (.newarray .char, 2) := by decide +kernel
theorem d_method_2_code_46 : decode method_2_code 46 = .ok (.invokespecial 9, 3) := by decide +kernel
theorem d_method_2_code_49 : decode method_2_code 49 = .ok (.areturn, 1) := by decide +kernel
theorem d_method_2_code_50 : decode method_2_code 50 = .ok (.iload_n 1, 1) := by decide +kernel
theorem d_method_2_code_51 : decode method_2_code 51 = .ok (.iconst 1, 1) := by decide +kernel
theorem d_method_2_code_52 : decode method_2_code 52 = .ok (.if_icmp .ne 18, 3) := by decide +kernel
theorem d_method_2_code_55 : decode method_2_code 55 = .ok (.new 7, 3) := by decide +kernel
theorem d_method_2_code_58 : decode method_2_code 58 = .ok (.dup, 1) := by decide +kernel
theorem d_method_2_code_59 : decode method_2_code 59 = .ok (.iconst 1, 1) := by decide +kernel
theorem d_method_2_code_60 : decode method_2_code 60 = .ok (.newarray .char, 2) := by decide +kernel
theorem d_method_2_code_62 : decode method_2_code 62 = .ok (.dup, 1) := by decide +kernel
theorem d_method_2_code_63 : decode method_2_code 63 = .ok (.iconst 0, 1) := by decide +kernel
theorem d_method_2_code_64 : decode method_2_code 64 = .ok (.iload_n 2, 1) := by decide +kernel
theorem d_method_2_code_65 : decode method_2_code 65 = .ok (.castore, 1) := by decide +kernel
theorem d_method_2_code_66 : decode method_2_code 66 = .ok (.invokespecial 9, 3) := by decide +kernel
theorem d_method_2_code_69 : decode method_2_code 69 = .ok (.areturn, 1) := by decide +kernel
theorem d_method_2_code_70 : decode method_2_code 70 = .ok (.iload_n 1, 1) := by decide +kernel
theorem d_method_2_code_71 : decode method_2_code 71 = .ok (.iconst 2, 1) := by decide +kernel
theorem d_method_2_code_72 : decode method_2_code 72 = .ok (.if_icmp .ne 22, 3) := by decide +kernel
theorem d_method_2_code_75 : decode method_2_code 75 = .ok (.new 7, 3) := by decide +kernel
theorem d_method_2_code_78 : decode method_2_code 78 = .ok (.dup, 1) := by decide +kernel
theorem d_method_2_code_79 : decode method_2_code 79 = .ok (.iconst 2, 1) := by decide +kernel
theorem d_method_2_code_80 : decode method_2_code 80 = .ok (.newarray .char, 2) := by decide +kernel
theorem d_method_2_code_82 : decode method_2_code 82 = .ok (.dup, 1) := by decide +kernel
theorem d_method_2_code_83 : decode method_2_code 83 = .ok (.iconst 0, 1) := by decide +kernel
theorem d_method_2_code_84 : decode method_2_code 84 = .ok (.iload_n 2, 1) := by decide +kernel
theorem d_method_2_code_85 : decode method_2_code 85 = .ok (.castore, 1) := by decide +kernel
theorem d_method_2_code_86 : decode method_2_code 86 = .ok (.dup, 1) := by decide +kernel
theorem d_method_2_code_87 : decode method_2_code 87 = .ok (.iconst 1, 1) := by decide +kernel
theorem d_method_2_code_88 : decode method_2_code 88 = .ok (.iload_n 3, 1) := by decide +kernel
theorem d_method_2_code_89 : decode method_2_code 89 = .ok (.castore, 1) := by decide +kernel
theorem d_method_2_code_90 : decode method_2_code 90 = .ok (.invokespecial 9, 3) := by decide +kernel
theorem d_method_2_code_93 : decode method_2_code 93 = .ok (.areturn, 1) := by decide +kernel
theorem d_method_2_code_94 : decode method_2_code 94 = .ok (.new 7, 3) := by decide +kernel
theorem d_method_2_code_97 : decode method_2_code 97 = .ok (.dup, 1) := by decide +kernel
theorem d_method_2_code_98 : decode method_2_code 98 = .ok (.iconst 3, 1) := by decide +kernel
theorem d_method_2_code_99 : decode method_2_code 99 = .ok (.newarray .char, 2) := by decide +kernel
theorem d_method_2_code_101 : decode method_2_code 101 = .ok (.dup, 1) := by decide +kernel
theorem d_method_2_code_102 : decode method_2_code 102 = .ok (.iconst 0, 1) := by decide +kernel
theorem d_method_2_code_103 : decode method_2_code 103 = .ok (.iload_n 2, 1) := by decide +kernel
theorem d_method_2_code_104 : decode method_2_code 104 = .ok (.castore, 1) := by decide +kernel
theorem d_method_2_code_105 : decode method_2_code 105 = .ok (.dup, 1) := by decide +kernel
theorem d_method_2_code_106 : decode method_2_code 106 = .ok (.iconst 1, 1) := by decide +kernel
theorem d_method_2_code_107 : decode method_2_code 107 = .ok (.iload_n 3, 1) := by decide +kernel
theorem d_method_2_code_108 : decode method_2_code 108 = .ok (.castore, 1) := by decide +kernel
theorem d_method_2_code_109 : decode method_2_code 109 = .ok (.dup, 1) := by decide +kernel
theorem d_method_2_code_110 : decode method_2_code 110 = .ok (.iconst 2, 1) := by decide +kernel
theorem d_method_2_code_111 : decode method_2_code 111 = .ok (.iload 4, 2) := by decide +kernel
theorem d_method_2_code_113 : decode method_2_code 113 = .ok (.castore, 1) := by decide +kernel
theorem d_method_2_code_114 : decode method_2_code 114 = .ok (.invokespecial 9, 3) := by decide +kernel
theorem d_method_2_code_117 : decode method_2_code 117 = .ok (.areturn, 1) := by decide +kernel
theorem d_method_3_code_0 : decode method_3_code 0 = .ok (.iload_n 0, 1) := by decide +kernel
theorem d_method_3_code_1 : decode method_3_code 1 = .ok (.bipush 24, 2) := by decide +kernel
theorem d_method_3_code_3 : decode method_3_code 3 = .ok (.iushr, 1) := by decide +kernel
theorem d_method_3_code_4 : decode method_3_code 4 = .ok (.iconst 3, 1) := by decide +kernel
theorem d_method_3_code_5 : decode method_3_code 5 = .ok (.iand, 1) := by decide +kernel
theorem d_method_3_code_6 : decode method_3_code 6 = .ok (.istore_n 2, 1) := by decide +kernel
theorem d_method_3_code_7 : decode method_3_code 7 = .ok (.iload_n 1, 1) := by decide +kernel
theorem d_method_3_code_8 : decode method_3_code 8 = .ok (.bipush 24, 2) := by decide +kernel
theorem d_method_3_code_10 : decode method_3_code 10 = .ok (.iushr, 1) := by decide +kernel
theorem d_method_3_code_11 : decode method_3_code 11 = .ok (.iconst 3, 1) := by decide +kernel
theorem d_method_3_code_12 : decode method_3_code 12 = .ok (.iand, 1) := by decide +kernel
theorem d_method_3_code_13 : decode method_3_code 13 = .ok (.istore_n 3, 1) := by decide +kernel
theorem d_method_3_code_14 : decode method_3_code 14 = .ok (.iload_n 2, 1) := by decide +kernel
theorem d_method_3_code_15 : decode method_3_code 15 = .ok (.iload_n 3, 1) := by decide +kernel
theorem d_method_3_code_16 : decode method_3_code 16 = .ok (.if_icmp .eq 5, 3) := by decide +kernel
theorem d_method_3_code_21 : decode method_3_code 21 = .ok (.iload_n 2, 1) := by decide +kernel
theorem d_method_3_code_22 : decode method_3_code 22 = .ok (.ifCond .ne 9, 3) := by decide +kernel
theorem d_method_3_code_25 : decode method_3_code 25 = .ok (.iconst 0, 1) := by decide +kernel
theorem d_method_3_code_26 : decode method_3_code 26 = .ok (.istore 4, 2) := by decide +kernel
theorem d_method_3_code_28 : decode method_3_code 28 = .ok (.goto 32, 3) := by decide +kernel
theorem d_method_3_code_60 : decode method_3_code 60 = .ok (.iload_n 0, 1) := by decide +kernel
theorem d_method_3_code_61 : decode method_3_code 61 = .ok (.iload 4, 2) := by decide +kernel
theorem d_method_3_code_63 : decode method_3_code 63 = .ok (.iand, 1) := by decide +kernel
theorem d_method_3_code_64 : decode method_3_code 64 = .ok (.iload_n 1, 1) := by decide +kernel
theorem d_method_3_code_65 : decode method_3_code 65 = .ok (.iload 4, 2) := by decide +kernel
theorem d_method_3_code_67 : decode method_3_code 67 = .ok (.iand, 1) := by decide +kernel
theorem d_method_3_code_68 : decode method_3_code 68 = .ok (.if_icmp .ne 7, 3) := by decide +kernel
theorem d_method_3_code_71 : decode method_3_code 71 = .ok (.iconst 1, 1) := by decide +kernel
theorem d_method_3_code_72 : decode method_3_code 72 = .ok (.goto 4, 3) := by decide +kernel
theorem d_method_3_code_76 : decode method_3_code 76 = .ok (.ireturn, 1) := by decide +kernel
theorem d_method_3_code_31 : decode method_3_code 31 = .ok (.iload_n 2, 1) := by decide +kernel
theorem d_method_3_code_32 : decode method_3_code 32 = .ok (.iconst 1, 1) := by decide +kernel
theorem d_method_3_code_33 : decode method_3_code 33 = .ok (.if_icmp .ne 11, 3) := by decide +kernel
theorem d_method_3_code_36 : decode method_3_code 36 = .ok (.sipush 255, 3) := by decide +kernel
theorem d_method_3_code_39 : decode method_3_code 39 = .ok (.istore 4, 2) := by decide +kernel
theorem d_method_3_code_41 : decode method_3_code 41 = .ok (.goto 19, 3) := by decide +kernel
theorem d_method_3_code_75 : decode method_3_code 75 = .ok (.iconst 0, 1) := by decide +kernel
theorem d_method_3_code_44 : decode method_3_code 44 = .ok (.iload_n 2, 1) := by decide +kernel
theorem d_method_3_code_45 : decode method_3_code 45 = .ok (.iconst 2, 1) := by decide +kernel
theorem d_method_3_code_46 : decode method_3_code 46 = .ok (.if_icmp .ne 10, 3) := by decide +kernel
theorem d_method_3_code_49 : decode method_3_code 49 = .ok (.ldc 12, 2) := by decide +kernel
theorem d_method_3_code_51 : decode method_3_code 51 = .ok (.istore 4, 2) := by decide +kernel
theorem d_method_3_code_53 : decode method_3_code 53 = .ok (.goto 7, 3) := by decide +kernel
theorem d_method_3_code_56 : decode method_3_code 56 = .ok (.ldc 13, 2) := by decide +kernel
theorem d_method_3_code_58 : decode method_3_code 58 = .ok (.istore 4, 2) := by decide +kernel
theorem d_method_3_code_19 : decode method_3_code 19 = .ok (.iconst 0, 1) := by decide +kernel
theorem d_method_3_code_20 : decode method_3_code 20 = .ok (.ireturn, 1) := by decide +kernel
abbrev LIT_0 : List Int32 := [117, 114, 110, 58, 111, 97, 115, 105, 115, 58, 110, 97, 109, 101, 115, 58, 116, 99, 58, 83, 65, 77, 76, 58, 49, 46, 49, 58, 110, 97, 109, 101, 105, 100, 45, 102, 111, 114, 109, 97, 116, 58, 117, 110, 115, 112, 101, 99, 105, 102, 105, 101, 100]
theorem codL_0 : StrChars.Road.CodA LIT_0 0 (53 : Int32) [(.int (117 : Int32)), (.int (114 : Int32)), (.int (110 : Int32)), (.int (58 : Int32)), (.int (111 : Int32)), (.int (97 : Int32)), (.int (115 : Int32)), (.int (105 : Int32)), (.int (115 : Int32)), (.int (58 : Int32)), (.int (110 : Int32)), (.int (97 : Int32)), (.int (109 : Int32)), (.int (101 : Int32)), (.int (115 : Int32)), (.int (58 : Int32)), (.int (116 : Int32)), (.int (99 : Int32)), (.int (58 : Int32)), (.int (83 : Int32)), (.int (65 : Int32)), (.int (77 : Int32)), (.int (76 : Int32)), (.int (58 : Int32)), (.int (49 : Int32)), (.int (46 : Int32)), (.int (49 : Int32)), (.int (58 : Int32)), (.int (110 : Int32)), (.int (97 : Int32)), (.int (109 : Int32)), (.int (101 : Int32)), (.int (105 : Int32)), (.int (100 : Int32)), (.int (45 : Int32)), (.int (102 : Int32)), (.int (111 : Int32)), (.int (114 : Int32)), (.int (109 : Int32)), (.int (97 : Int32)), (.int (116 : Int32)), (.int (58 : Int32)), (.int (117 : Int32)), (.int (110 : Int32)), (.int (115 : Int32)), (.int (112 : Int32)), (.int (101 : Int32)), (.int (99 : Int32)), (.int (105 : Int32)), (.int (102 : Int32)), (.int (105 : Int32)), (.int (101 : Int32)), (.int (100 : Int32))] := Or.inl ⟨rfl, by decide, by decide +kernel, by decide +kernel⟩
theorem rgL_0 : ∀ c ∈ LIT_0, ¬ c < 0 ∧ ¬ (65535 : Int32) < c := by decide +kernel
theorem pn_1 : plainName "java/lang/Record" = true := by first | (simp [plainName, overriddenIn]; done) | decide +kernel
theorem pn_2 : plainName "java/util/Objects" = true := by first | (simp [plainName, overriddenIn]; done) | decide +kernel
theorem pn_3 : plainName "java/util/Optional" = true := by first | (simp [plainName, overriddenIn]; done) | decide +kernel
theorem pd_4 : parseMethodDescriptor "(Ljava/lang/Object;)Ljava/lang/Object;" = some ⟨[(.object "java/lang/Object")], some (.object "java/lang/Object")⟩ := by decide +kernel
theorem pd_5 : parseMethodDescriptor "(Ljava/lang/Object;)V" = some ⟨[(.object "java/lang/Object")], none⟩ := by decide +kernel
theorem pn_6 : plainName "com/example/vouchsafe/vouchsafe/message/NameIdPolicy" = true := by first | (simp [plainName, overriddenIn]; done) | decide +kernel
theorem pd_7 : parseMethodDescriptor "()V" = some ⟨[], none⟩ := by decide +kernel
abbrev LIT_8 : List Int32 := [102, 111, 114, 109, 97, 116]
theorem codL_8 : StrChars.Road.CodA LIT_8 0 (6 : Int32) [(.int (102 : Int32)), (.int (111 : Int32)), (.int (114 : Int32)), (.int (109 : Int32)), (.int (97 : Int32)), (.int (116 : Int32))] := Or.inl ⟨rfl, by decide, by decide +kernel, by decide +kernel⟩
theorem rgL_8 : ∀ c ∈ LIT_8, ¬ c < 0 ∧ ¬ (65535 : Int32) < c := by decide +kernel
theorem pd_9 : parseMethodDescriptor "(Ljava/lang/Object;Ljava/lang/String;)Ljava/lang/Object;" = some ⟨[(.object "java/lang/Object"), (.object "java/lang/String")], some (.object "java/lang/Object")⟩ := by decide +kernel
abbrev LIT_10 : List Int32 := [97, 108, 108, 111, 119, 67, 114, 101, 97, 116, 101]
theorem codL_10 : StrChars.Road.CodA LIT_10 0 (11 : Int32) [(.int (97 : Int32)), (.int (108 : Int32)), (.int (108 : Int32)), (.int (111 : Int32)), (.int (119 : Int32)), (.int (67 : Int32)), (.int (114 : Int32)), (.int (101 : Int32)), (.int (97 : Int32)), (.int (116 : Int32)), (.int (101 : Int32))] := Or.inl ⟨rfl, by decide, by decide +kernel, by decide +kernel⟩
theorem rgL_10 : ∀ c ∈ LIT_10, ¬ c < 0 ∧ ¬ (65535 : Int32) < c := by decide +kernel
theorem pd_11 : parseMethodDescriptor "()Z" = some ⟨[], some .boolean⟩ := by decide +kernel
theorem pd_12 : parseMethodDescriptor "()Ljava/lang/Object;" = some ⟨[], some (.object "java/lang/Object")⟩ := by decide +kernel
theorem pd_13 : parseMethodDescriptor "(Ljava/lang/Object;)Z" = some ⟨[(.object "java/lang/Object")], some .boolean⟩ := by decide +kernel
theorem pn_14 : plainName "java/lang/String" = true := by first | (simp [plainName, overriddenIn]; done) | decide +kernel
abbrev LIT_15 : List Int32 := []
theorem codL_15 : StrChars.Road.CodA LIT_15 0 (0 : Int32) [] := Or.inl ⟨rfl, by decide, by decide +kernel, by decide +kernel⟩
theorem rgL_15 : ∀ c ∈ LIT_15, ¬ c < 0 ∧ ¬ (65535 : Int32) < c := by decide +kernel
theorem pd_16 : parseMethodDescriptor "([CIILjava/lang/Void;)V" = some ⟨[(.array .char), .int, .int, (.object "java/lang/Void")], none⟩ := by decide +kernel
theorem pn_17 : plainName "com/example/vouchsafe/vouchsafe/message/NameIdPolicyAcceptsPinLaw" = true := by first | (simp [plainName, overriddenIn]; done) | decide +kernel
theorem pd_18 : parseMethodDescriptor "([C)V" = some ⟨[(.array .char)], none⟩ := by decide +kernel
theorem pd_19 : parseMethodDescriptor "(I)Ljava/lang/String;" = some ⟨[.int], some (.object "java/lang/String")⟩ := by decide +kernel
theorem pd_20 : parseMethodDescriptor "(Ljava/util/Optional;Ljava/util/Optional;)V" = some ⟨[(.object "java/util/Optional"), (.object "java/util/Optional")], none⟩ := by decide +kernel
theorem pd_21 : parseMethodDescriptor "(Ljava/lang/String;)Z" = some ⟨[(.object "java/lang/String")], some .boolean⟩ := by decide +kernel
theorem pd_22 : parseMethodDescriptor "(Ljava/lang/Object;)Ljava/util/Optional;" = some ⟨[(.object "java/lang/Object")], some (.object "java/util/Optional")⟩ := by decide +kernel
theorem pd_23 : parseMethodDescriptor "()Ljava/util/Optional;" = some ⟨[], some (.object "java/util/Optional")⟩ := by decide +kernel
theorem pd_24 : parseMethodDescriptor "(II)Z" = some ⟨[.int, .int], some .boolean⟩ := by decide +kernel
theorem m3 (x : Int32) : (x &&& (3 : Int32)) = 0 ∨ (x &&& (3 : Int32)) = 1 ∨ (x &&& (3 : Int32)) = 2 ∨ (x &&& (3 : Int32)) = 3 := by
  have h := c_mask x 3 2 (by decide) (by decide)
  have q : (x &&& (3 : Int32)).toInt = 0 ∨ (x &&& (3 : Int32)).toInt = 1 ∨ (x &&& (3 : Int32)).toInt = 2 ∨ (x &&& (3 : Int32)).toInt = 3 := by omega
  rcases q with q | q | q | q
  · exact Or.inl (Int32.toInt_inj.mp (q.trans (by decide)))
  · exact Or.inr (Or.inl (Int32.toInt_inj.mp (q.trans (by decide))))
  · exact Or.inr (Or.inr (Or.inl (Int32.toInt_inj.mp (q.trans (by decide)))))
  · exact Or.inr (Or.inr (Or.inr (Int32.toInt_inj.mp (q.trans (by decide)))))
theorem e10 : ¬ (1 : Int32) = 0 := by decide
theorem e20 : ¬ (2 : Int32) = 0 := by decide
theorem e21 : ¬ (2 : Int32) = 1 := by decide
theorem e30 : ¬ (3 : Int32) = 0 := by decide
theorem e31 : ¬ (3 : Int32) = 1 := by decide
theorem e32 : ¬ (3 : Int32) = 2 := by decide
def dln (x : Int32) : Int32 := (XT.ushr x (24 : Int32) &&& (3 : Int32))
def drw (x : Int32) : List Int32 := if dln x = 0 then [] else if dln x = 1 then [(x &&& (255 : Int32))] else if dln x = 2 then [(x &&& (255 : Int32)), (XT.ushr x (8 : Int32) &&& (255 : Int32))] else [(x &&& (255 : Int32)), (XT.ushr x (8 : Int32) &&& (255 : Int32)), (XT.ushr x (16 : Int32) &&& (255 : Int32))]
theorem drw_0 {x : Int32} (h : dln x = 0) : drw x = [] := by unfold drw; rw [if_pos h]
theorem drw_1 {x : Int32} (h0 : ¬ dln x = 0) (h : dln x = 1) : drw x = [(x &&& (255 : Int32))] := by unfold drw; rw [if_neg h0, if_pos h]
theorem drw_2 {x : Int32} (h0 : ¬ dln x = 0) (h1 : ¬ dln x = 1) (h : dln x = 2) : drw x = [(x &&& (255 : Int32)), (XT.ushr x (8 : Int32) &&& (255 : Int32))] := by unfold drw; rw [if_neg h0, if_neg h1, if_pos h]
theorem drw_3 {x : Int32} (h0 : ¬ dln x = 0) (h1 : ¬ dln x = 1) (h2 : ¬ dln x = 2) : drw x = [(x &&& (255 : Int32)), (XT.ushr x (8 : Int32) &&& (255 : Int32)), (XT.ushr x (16 : Int32) &&& (255 : Int32))] := by unfold drw; rw [if_neg h0, if_neg h1, if_neg h2]
theorem drw_rg (x : Int32) : ∀ c ∈ drw x, ¬ c < 0 ∧ ¬ (255 : Int32) < c := by
  by_cases h0 : dln x = 0
  · rw [drw_0 h0]; exact ch0
  · by_cases h1 : dln x = 1
    · rw [drw_1 h0 h1]; exact chS (m255_in _) ch0
    · by_cases h2 : dln x = 2
      · rw [drw_2 h0 h1 h2]; exact chS (m255_in _) (chS (m255_in _) ch0)
      · rw [drw_3 h0 h1 h2]; exact chS (m255_in _) (chS (m255_in _) (chS (m255_in _) ch0))
theorem drw_len (x : Int32) : (drw x).length ≤ 3 := by
  by_cases h0 : dln x = 0
  · rw [drw_0 h0]; simp
  · by_cases h1 : dln x = 1
    · rw [drw_1 h0 h1]; simp
    · by_cases h2 : dln x = 2
      · rw [drw_2 h0 h1 h2]; simp
      · rw [drw_3 h0 h1 h2]; simp
theorem drw_ln (x : Int32) : (drw x).length ≤ 4000 := Nat.le_trans (drw_len x) (by decide)
theorem drw_urn (x : Int32) : ¬ drw x = LIT_0 := fun q => by
  have h := drw_len x
  rw [q] at h
  exact absurd h (by decide)
theorem dln_4 (x : Int32) : dln x = 0 ∨ dln x = 1 ∨ dln x = 2 ∨ dln x = 3 := m3 _
theorem sd_ne {x y : Int32} (h : ¬ dln x = dln y) : ¬ drw x = drw y := fun q => by
  have k : ∀ z : Int32, (drw z).length = (dln z).toNatClampNeg := fun z => by
    rcases dln_4 z with e | e | e | e
    · rw [drw_0 e, e]; rfl
    · rw [drw_1 (by rw [e]; exact e10) e, e]; rfl
    · rw [drw_2 (by rw [e]; exact e20) (by rw [e]; exact e21) e, e]; rfl
    · rw [drw_3 (by rw [e]; exact e30) (by rw [e]; exact e31) (by rw [e]; exact e32), e]; rfl
  have kx := k x
  have ky := k y
  rw [q, ky] at kx
  apply h
  rcases dln_4 x with e | e | e | e <;> rcases dln_4 y with f | f | f | f <;> rw [e, f] at kx ⊢ <;> revert kx <;> decide
theorem sd_0 {x y : Int32} (h : dln x = dln y) (h0 : dln x = 0) : drw x = drw y := by rw [drw_0 h0, drw_0 (h.symm.trans h0)]
theorem sd_1 {x y : Int32} (h : dln x = dln y) (h0 : ¬ dln x = 0) (h1 : dln x = 1) : (x &&& (255 : Int32)) = (y &&& (255 : Int32)) ↔ drw x = drw y := by
  rw [drw_1 h0 h1, drw_1 (h ▸ h0) (h ▸ h1)]; simp
theorem cmsk (x : Int32) : (x &&& (255 : Int32)).toInt = x.toInt % 256 ∧ (x &&& (65535 : Int32)).toInt = x.toInt % 65536 ∧ (x &&& (16777215 : Int32)).toInt = x.toInt % 16777216 ∧ (XT.ushr x (8 : Int32) &&& (255 : Int32)).toInt = (x.toInt % 4294967296 / 256) % 256 ∧ (XT.ushr x (16 : Int32) &&& (255 : Int32)).toInt = (x.toInt % 4294967296 / 65536) % 256 := by
  have a1 := c_mask x 255 8 (by decide) (by decide)
  have a2 := c_mask x 65535 16 (by decide) (by decide)
  have a3 := c_mask x 16777215 24 (by decide) (by decide)
  have b1 := c_mask (XT.ushr x (8 : Int32)) 255 8 (by decide) (by decide)
  have b2 := c_mask (XT.ushr x (16 : Int32)) 255 8 (by decide) (by decide)
  have c1 : (XT.ushr x (8 : Int32)).toInt = (x.toInt % 4294967296) / (2 ^ 8 : Nat) := c_iushr x 8 8 (by decide) (by decide)
  have c2 : (XT.ushr x (16 : Int32)).toInt = (x.toInt % 4294967296) / (2 ^ 16 : Nat) := c_iushr x 16 16 (by decide) (by decide)
  rw [c1] at b1
  rw [c2] at b2
  exact ⟨a1, a2, a3, b1, b2⟩
theorem sd_2 {x y : Int32} (h : dln x = dln y) (h0 : ¬ dln x = 0) (h1 : ¬ dln x = 1) (h2 : dln x = 2) : (x &&& (65535 : Int32)) = (y &&& (65535 : Int32)) ↔ drw x = drw y := by
  rw [drw_2 h0 h1 h2, drw_2 (h ▸ h0) (h ▸ h1) (h ▸ h2)]
  obtain ⟨a1, a2, -, a4, -⟩ := cmsk x
  obtain ⟨b1, b2, -, b4, -⟩ := cmsk y
  simp only [List.cons.injEq, and_true]
  rw [← Int32.toInt_inj, ← Int32.toInt_inj, ← Int32.toInt_inj, a1, a2, a4, b1, b2, b4]
  generalize x.toInt = a
  generalize y.toInt = b
  omega
theorem sd_3 {x y : Int32} (h : dln x = dln y) (h0 : ¬ dln x = 0) (h1 : ¬ dln x = 1) (h2 : ¬ dln x = 2) : (x &&& (16777215 : Int32)) = (y &&& (16777215 : Int32)) ↔ drw x = drw y := by
  rw [drw_3 h0 h1 h2, drw_3 (h ▸ h0) (h ▸ h1) (h ▸ h2)]
  obtain ⟨a1, -, a3, a4, a5⟩ := cmsk x
  obtain ⟨b1, -, b3, b4, b5⟩ := cmsk y
  simp only [List.cons.injEq, and_true]
  rw [← Int32.toInt_inj, ← Int32.toInt_inj, ← Int32.toInt_inj, ← Int32.toInt_inj, a1, a3, a4, a5, b1, b3, b4, b5]
  generalize x.toInt = a
  generalize y.toInt = b
  omega
theorem and0 (x y : Int32) : (x &&& (0 : Int32)) = (y &&& (0 : Int32)) := by
  have a := c_mask x 0 0 (by decide) (by decide)
  have b := c_mask y 0 0 (by decide) (by decide)
  apply Int32.toInt_inj.mp
  omega
theorem or_ite {A B : Prop} [Decidable B] [Decidable (A ∨ B)] (h : ¬ A) : (if A ∨ B then (1 : Int32) else 0) = (if B then (1 : Int32) else 0) := by
  by_cases q : B
  · rw [if_pos q, if_pos (Or.inr q)]
  · rw [if_neg q, if_neg (fun z => z.elim h q)]
theorem cod0 : StrChars.Road.CodA [] 0 (0 : Int32) [] := Or.inl ⟨rfl, by decide, rfl, fun _ q => nomatch q⟩
theorem ef_recInit (m : MethodId) (a : Nat) : entryFrame m #[(.ref a)] 1 = mkF m 0 #[.val (.ref a)] [] := by first | (simp [entryFrame, mkF, argsToLocals, Value.category]; done) | rfl
set_option maxRecDepth 65536 in
set_option maxHeartbeats 40000000 in
theorem recInit (l : Launch) (Z : State) (aw : Array Value) (hw : ∀ d ∈ tables_1, d.before aw Z = true) (a : Nat) {h0 : Heap} {n0 : Nat} (O : Old Z n0 h0) :
    MET l Z (⟨"java/lang/Record", "<init>", "()V"⟩ : MethodName) jdk_30_method_1_code 1 none ({ frames := 1, cells := 0, slots := 0, locals := 12 } : Room) #[(.ref a)] h0 n0 (fun vv hh => vv = none ∧ hh = h0) := by
  refine metOf (plainFor_of_name pn_1) ?_
  intro p e s m below meth c T hx hby hml hrt hlk hnm hZ hown X e0
  replace hml : c.maxLocals = 1 := hml
  replace hnm : meth.name = "<init>" := hnm
  replace hown : s.vm.findClass "java/lang/Record" = some m.cls := hown
  have N := Fr.nil n0
  have zO := O.le
  refine goCast (ef_recInit m a) ?_
  show Goes _ _ _ _ _ _ _ _ (T.setTop (mkF m 0 #[.val (.ref a)] []))
  refine Goes.via (fun _ k => XS.aloadN X.here hx rfl (hb hby d_jdk_30_method_1_code_0) rfl rfl k) ?_
  show Goes _ _ _ _ _ _ _ _ (T.setTop (mkF m 1 #[.val (.ref a)] [(.ref a)]))
  obtain ⟨Tq1, Xq1, eq1, stq1⟩ := initO X hx hZ hown (W_61 hw) (W_16 hw) (W_17 hw) e0 (g := (mkF m 1 #[.val (.ref a)] [(.ref a)])) rfl (by rw [hml]; rfl) rfl (hb hby d_jdk_30_method_1_code_1) (by decide) (W := 0) (by show 2 * 0 + _ ≤ _; exact Nat.le_of_eq rfl) (by decide)
  refine Goes.via stq1 ?_
  show Goes _ _ _ _ _ _ _ _ (Tq1.setTop (mkF m 4 #[.val (.ref a)] []))
  refine goRetV Xq1 hx hrt hlk N (by decide) (by decide) (hb hby d_jdk_30_method_1_code_4) ?_
  try rw [eq1]
  exact ⟨rfl, rfl⟩
theorem ef_rnn1 (m : MethodId) (a : Nat) : entryFrame m #[(.ref a)] 1 = mkF m 0 #[.val (.ref a)] [] := by first | (simp [entryFrame, mkF, argsToLocals, Value.category]; done) | rfl
set_option maxRecDepth 65536 in
set_option maxHeartbeats 40000000 in
theorem rnn1 (l : Launch) (Z : State) (aw : Array Value) (hw : ∀ d ∈ tables_1, d.before aw Z = true) (a : Nat) {h0 : Heap} {n0 : Nat} (O : Old Z n0 h0) :
    MET l Z (⟨"java/util/Objects", "requireNonNull", "(Ljava/lang/Object;)Ljava/lang/Object;"⟩ : MethodName) jdk_31_method_10_code 1 (some (.object "java/lang/Object")) ({ frames := 0, cells := 0, slots := 0, locals := 0 } : Room) #[(.ref a)] h0 n0 (fun vv hh => vv = some (.ref a) ∧ hh = h0) := by
  refine metOf (plainFor_of_name pn_2) ?_
  intro p e s m below meth c T hx hby hml hrt hlk hnm hZ hown X e0
  replace hml : c.maxLocals = 1 := hml
  replace hnm : meth.name = "requireNonNull" := hnm
  replace hown : s.vm.findClass "java/util/Objects" = some m.cls := hown
  have N := Fr.nil n0
  have zO := O.le
  refine goCast (ef_rnn1 m a) ?_
  show Goes _ _ _ _ _ _ _ _ (T.setTop (mkF m 0 #[.val (.ref a)] []))
  refine Goes.via (fun _ k => XS.aloadN X.here hx rfl (hb hby d_jdk_31_method_10_code_0) rfl rfl k) ?_
  show Goes _ _ _ _ _ _ _ _ (T.setTop (mkF m 1 #[.val (.ref a)] [(.ref a)]))
  refine Goes.via (fun _ k => XT.ifnonnullYes X.here hx rfl (pc0 := 1) (pc' := 12) rfl (hb hby d_jdk_31_method_10_code_1) rfl (by decide) (by decide) k) ?_
  show Goes _ _ _ _ _ _ _ _ (T.setTop (mkF m 12 #[.val (.ref a)] []))
  refine Goes.via (fun _ k => XS.aloadN X.here hx rfl (hb hby d_jdk_31_method_10_code_12) rfl rfl k) ?_
  show Goes _ _ _ _ _ _ _ _ (T.setTop (mkF m 13 #[.val (.ref a)] [(.ref a)]))
  refine goRetA X hx hrt rfl hlk N (by decide) (by decide) rfl (hb hby d_jdk_31_method_10_code_13) ?_
  try rw [e0]
  exact ⟨rfl, rfl⟩
theorem ef_rnn2 (m : MethodId) (a : Nat) (b : Nat) : entryFrame m #[(.ref a), (.ref b)] 2 = mkF m 0 #[.val (.ref a), .val (.ref b)] [] := by first | (simp [entryFrame, mkF, argsToLocals, Value.category]; done) | rfl
set_option maxRecDepth 65536 in
set_option maxHeartbeats 40000000 in
theorem rnn2 (l : Launch) (Z : State) (aw : Array Value) (hw : ∀ d ∈ tables_1, d.before aw Z = true) (a : Nat) (b : Nat) {h0 : Heap} {n0 : Nat} (O : Old Z n0 h0) :
    MET l Z (⟨"java/util/Objects", "requireNonNull", "(Ljava/lang/Object;Ljava/lang/String;)Ljava/lang/Object;"⟩ : MethodName) jdk_31_method_11_code 2 (some (.object "java/lang/Object")) ({ frames := 0, cells := 0, slots := 0, locals := 0 } : Room) #[(.ref a), (.ref b)] h0 n0 (fun vv hh => vv = some (.ref a) ∧ hh = h0) := by
  refine metOf (plainFor_of_name pn_2) ?_
  intro p e s m below meth c T hx hby hml hrt hlk hnm hZ hown X e0
  replace hml : c.maxLocals = 2 := hml
  replace hnm : meth.name = "requireNonNull" := hnm
  replace hown : s.vm.findClass "java/util/Objects" = some m.cls := hown
  have N := Fr.nil n0
  have zO := O.le
  refine goCast (ef_rnn2 m a b) ?_
  show Goes _ _ _ _ _ _ _ _ (T.setTop (mkF m 0 #[.val (.ref a), .val (.ref b)] []))
  refine Goes.via (fun _ k => XS.aloadN X.here hx rfl (hb hby d_jdk_31_method_11_code_0) rfl rfl k) ?_
  show Goes _ _ _ _ _ _ _ _ (T.setTop (mkF m 1 #[.val (.ref a), .val (.ref b)] [(.ref a)]))
  refine Goes.via (fun _ k => XT.ifnonnullYes X.here hx rfl (pc0 := 1) (pc' := 13) rfl (hb hby d_jdk_31_method_11_code_1) rfl (by decide) (by decide) k) ?_
  show Goes _ _ _ _ _ _ _ _ (T.setTop (mkF m 13 #[.val (.ref a), .val (.ref b)] []))
  refine Goes.via (fun _ k => XS.aloadN X.here hx rfl (hb hby d_jdk_31_method_11_code_13) rfl rfl k) ?_
  show Goes _ _ _ _ _ _ _ _ (T.setTop (mkF m 14 #[.val (.ref a), .val (.ref b)] [(.ref a)]))
  refine goRetA X hx hrt rfl hlk N (by decide) (by decide) rfl (hb hby d_jdk_31_method_11_code_14) ?_
  try rw [e0]
  exact ⟨rfl, rfl⟩
theorem ef_optInit (m : MethodId) (a : Nat) (v : Nat) : entryFrame m #[(.ref a), (.ref v)] 2 = mkF m 0 #[.val (.ref a), .val (.ref v)] [] := by first | (simp [entryFrame, mkF, argsToLocals, Value.category]; done) | rfl
set_option maxRecDepth 65536 in
set_option maxHeartbeats 40000000 in
theorem optInit (l : Launch) (Z : State) (aw : Array Value) (hw : ∀ d ∈ tables_1, d.before aw Z = true) (a : Nat) (v : Nat) {h0 : Heap} {n0 : Nat} (O : Old Z n0 h0) (E : Exa Z h0 a "java/util/Optional") (F : Fld Z h0 a "java/util/Optional" "value" "Ljava/lang/Object;" .null) (ga : n0 ≤ a) :
    MET l Z (⟨"java/util/Optional", "<init>", "(Ljava/lang/Object;)V"⟩ : MethodName) jdk_32_method_2_code 2 none ({ frames := 1, cells := 0, slots := 0, locals := 12 } : Room) #[(.ref a), (.ref v)] h0 n0 (fun vv hh => vv = none ∧ Keep h0 hh [a] ∧ Exa Z hh a "java/util/Optional" ∧ Fld Z hh a "java/util/Optional" "value" "Ljava/lang/Object;" (.ref v)) := by
  refine metOf (plainFor_of_name pn_3) ?_
  intro p e s m below meth c T hx hby hml hrt hlk hnm hZ hown X e0
  replace hml : c.maxLocals = 2 := hml
  replace hnm : meth.name = "<init>" := hnm
  replace hown : s.vm.findClass "java/util/Optional" = some m.cls := hown
  have N := Fr.nil n0
  have zO := O.le
  refine goCast (ef_optInit m a v) ?_
  have lt_a := lt_nat E.lt
  show Goes _ _ _ _ _ _ _ _ (T.setTop (mkF m 0 #[.val (.ref a), .val (.ref v)] []))
  refine Goes.via (fun _ k => XS.aloadN X.here hx rfl (hb hby d_jdk_32_method_2_code_0) rfl rfl k) ?_
  show Goes _ _ _ _ _ _ _ _ (T.setTop (mkF m 1 #[.val (.ref a), .val (.ref v)] [(.ref a)]))
  obtain ⟨Tq1, Xq1, eq1, stq1⟩ := initO X hx hZ hown (W_40 hw) (W_16 hw) (W_17 hw) e0 (g := (mkF m 1 #[.val (.ref a), .val (.ref v)] [(.ref a)])) rfl (by rw [hml]; rfl) rfl (hb hby d_jdk_32_method_2_code_1) (by decide) (W := 0) (by show 2 * 0 + _ ≤ _; exact Nat.le_of_eq rfl) (by decide)
  refine Goes.via stq1 ?_
  show Goes _ _ _ _ _ _ _ _ (Tq1.setTop (mkF m 4 #[.val (.ref a), .val (.ref v)] []))
  refine Goes.via (fun _ k => XS.aloadN Xq1.here hx rfl (hb hby d_jdk_32_method_2_code_4) rfl rfl k) ?_
  show Goes _ _ _ _ _ _ _ _ (Tq1.setTop (mkF m 5 #[.val (.ref a), .val (.ref v)] [(.ref a)]))
  refine Goes.via (fun _ k => XS.aloadN Xq1.here hx rfl (hb hby d_jdk_32_method_2_code_5) rfl rfl k) ?_
  show Goes _ _ _ _ _ _ _ _ (Tq1.setTop (mkF m 6 #[.val (.ref a), .val (.ref v)] [(.ref v), (.ref a)]))
  obtain ⟨Tq2, hq2, Xq2, eq2, Wq2, stq2⟩ := putF Xq1 hx hZ hown (host := "") (Or.inl (W_41 hw)) Via.refl eq1 F E (Or.inr ⟨(W_42 hw), rfl, hnm⟩) (W_31 hw) (ty := (.object "java/lang/Object")) (by decide) rfl rfl (g := (mkF m 6 #[.val (.ref a), .val (.ref v)] [(.ref v), (.ref a)])) rfl rfl (hb hby d_jdk_32_method_2_code_6)
  have Nq2 := Fr.snoc Xq2 N (by omega)
  have zq2 := Wq2.size
  have Oq2 := O.wr Wq2 (by omega)
  have Fq2 : Fld Z hq2 a "java/util/Optional" "value" "Ljava/lang/Object;" (.ref v) := F.same Wq2
  refine Goes.via stq2 ?_
  show Goes _ _ _ _ _ _ _ _ (Tq2.setTop (mkF m 9 #[.val (.ref a), .val (.ref v)] []))
  refine goRetV Xq2 hx hrt hlk Nq2 (by decide) (by decide) (hb hby d_jdk_32_method_2_code_9) ?_
  try rw [eq2]
  have fq3 : Exa Z hq2 a "java/util/Optional" := (E.wr Wq2)
  exact ⟨rfl, ((Keep.refl _ [a]).wr Wq2 (Or.inl (by simp))), fq3, Fq2⟩
theorem ef_optOf (m : MethodId) (v : Nat) : entryFrame m #[(.ref v)] 1 = mkF m 0 #[.val (.ref v)] [] := by first | (simp [entryFrame, mkF, argsToLocals, Value.category]; done) | rfl
set_option maxRecDepth 65536 in
set_option maxHeartbeats 40000000 in
theorem optOf (l : Launch) (Z : State) (aw : Array Value) (hw : ∀ d ∈ tables_1, d.before aw Z = true) (v : Nat) {h0 : Heap} {n0 : Nat} (O : Old Z n0 h0) :
    MET l Z (⟨"java/util/Optional", "of", "(Ljava/lang/Object;)Ljava/util/Optional;"⟩ : MethodName) jdk_32_method_3_code 1 (some (.object "java/util/Optional")) ({ frames := 2, cells := 1, slots := 1, locals := 28 } : Room) #[(.ref v)] h0 n0 (fun vv hh => ∃ r : Nat, vv = some (.ref r) ∧ h0.size ≤ r ∧ Keep h0 hh [] ∧ Exa Z hh r "java/util/Optional" ∧ Fld Z hh r "java/util/Optional" "value" "Ljava/lang/Object;" (.ref v)) := by
  refine metOf (plainFor_of_name pn_3) ?_
  intro p e s m below meth c T hx hby hml hrt hlk hnm hZ hown X e0
  replace hml : c.maxLocals = 1 := hml
  replace hnm : meth.name = "of" := hnm
  replace hown : s.vm.findClass "java/util/Optional" = some m.cls := hown
  have N := Fr.nil n0
  have zO := O.le
  refine goCast (ef_optOf m v) ?_
  show Goes _ _ _ _ _ _ _ _ (T.setTop (mkF m 0 #[.val (.ref v)] []))
  obtain ⟨Tq1, hq1, Xq1, eq1, Eq1, Aq1, Dq1, -, stq1⟩ := newO X hx hZ hown (W_30 hw) (W_31 hw) (W_28 hw) e0 (g := (mkF m 0 #[.val (.ref v)] [])) rfl (hb hby d_jdk_32_method_3_code_0) (by decide) (by decide)
  obtain ⟨bq1, gq1⟩ : ∃ z, z = h0.size := ⟨_, rfl⟩
  rw [← gq1] at Aq1 Dq1 stq1
  have zq1 := Eq1.1
  have Oq1 := O.ext Eq1
  have lq1 := lt_nat Aq1.lt
  refine Goes.via stq1 ?_
  show Goes _ _ _ _ _ _ _ _ (Tq1.setTop (mkF m 3 #[.val (.ref v)] [(.ref bq1)]))
  refine Goes.via (fun _ k => XS.dup Xq1.here hx rfl (hb hby d_jdk_32_method_3_code_3) rfl rfl k) ?_
  show Goes _ _ _ _ _ _ _ _ (Tq1.setTop (mkF m 4 #[.val (.ref v)] [(.ref bq1), (.ref bq1)]))
  refine Goes.via (fun _ k => XS.aloadN Xq1.here hx rfl (hb hby d_jdk_32_method_3_code_4) rfl rfl k) ?_
  show Goes _ _ _ _ _ _ _ _ (Tq1.setTop (mkF m 5 #[.val (.ref v)] [(.ref v), (.ref bq1), (.ref bq1)]))
  obtain ⟨vq2, Tq2, Lq2, Xq2, qq2, nq2, stq2⟩ := callSt Xq1 hx hZ hown (rnn1 l Z aw hw v Oq1) (W_32 hw) (W_33 hw) (W_34 hw) (W_35 hw) (by decide) eq1 (by decide) (W := 2) (by decide) (by decide) (by decide) (g := (mkF m 5 #[.val (.ref v)] [(.ref v), (.ref bq1), (.ref bq1)])) rfl (by rw [hml]; rfl) (argsL := [(.ref v)]) (rest := [(.ref bq1), (.ref bq1)]) rfl (lenOf pd_4 rfl) rfl (by show 2 * 0 + _ ≤ _; exact Nat.le_of_eq rfl) (hb hby d_jdk_32_method_3_code_5)
  obtain ⟨rfl, pq2_0⟩ := qq2
  have Nq2 := Fr.app N nq2
  refine Goes.via stq2 ?_
  show Goes _ _ _ _ _ _ _ _ (Tq2.setTop (mkF m 8 #[.val (.ref v)] [(.ref v), (.ref bq1), (.ref bq1)]))
  obtain ⟨vq3, Tq3, Lq3, Xq3, qq3, nq3, stq3⟩ := callSp Xq2 hx hZ hown (optInit l Z aw hw bq1 v Oq1 Aq1 (Dq1 (Or.inr (W_42 hw)) (ty := (.object "java/lang/Object")) (by decide)) (by omega)) rfl (W_36 hw) (W_37 hw) (W_28 hw) (W_39 hw) (by decide) pq2_0 (by decide) (W := 1) (by decide) (by decide) (by decide) (g := (mkF m 8 #[.val (.ref v)] [(.ref v), (.ref bq1), (.ref bq1)])) rfl (by rw [hml]; rfl) (a := bq1) (argsL := [(.ref v)]) (rest := [(.ref bq1)]) rfl (lenOf pd_5 rfl) rfl (by show 2 * 0 + _ ≤ _; exact Nat.le_of_eq rfl) (hb hby d_jdk_32_method_3_code_8)
  obtain ⟨rfl, pq3_0, pq3_1, pq3_2⟩ := qq3
  have Nq3 := Fr.app Nq2 nq3
  have zq3 := pq3_0.1
  have Oq3 := Oq1.keep pq3_0 (allS (by omega) all0)
  have ltpq3_1 := lt_nat pq3_1.lt
  refine Goes.via stq3 ?_
  show Goes _ _ _ _ _ _ _ _ (Tq3.setTop (mkF m 11 #[.val (.ref v)] [(.ref bq1)]))
  refine goRetA Xq3 hx hrt rfl hlk Nq3 (by decide) (by decide) rfl (hb hby d_jdk_32_method_3_code_11) ?_
  exact ⟨bq1, rfl, by omega, (((Keep.refl _ []).ext Eq1).trans pq3_0 (allS (Or.inr (by omega)) all0)), pq3_1, pq3_2⟩
theorem ef_optEmpty (m : MethodId) : entryFrame m #[] 1 = mkF m 0 #[.unset] [] := by first | (simp [entryFrame, mkF, argsToLocals, Value.category]; done) | rfl
set_option maxRecDepth 65536 in
set_option maxHeartbeats 40000000 in
theorem optEmpty (l : Launch) (Z : State) (aw : Array Value) (hw : ∀ d ∈ tables_1, d.before aw Z = true) (em : Nat) {h0 : Heap} {n0 : Nat} (O : Old Z n0 h0) (SE : Sta Z Z.heap "java/util/Optional" "EMPTY" "Ljava/util/Optional;" (.ref em)) :
    MET l Z (⟨"java/util/Optional", "empty", "()Ljava/util/Optional;"⟩ : MethodName) jdk_32_method_1_code 1 (some (.object "java/util/Optional")) ({ frames := 0, cells := 0, slots := 0, locals := 0 } : Room) #[] h0 n0 (fun vv hh => vv = some (.ref em) ∧ hh = h0) := by
  refine metOf (plainFor_of_name pn_3) ?_
  intro p e s m below meth c T hx hby hml hrt hlk hnm hZ hown X e0
  replace hml : c.maxLocals = 1 := hml
  replace hnm : meth.name = "empty" := hnm
  replace hown : s.vm.findClass "java/util/Optional" = some m.cls := hown
  have N := Fr.nil n0
  have zO := O.le
  refine goCast (ef_optEmpty m) ?_
  show Goes _ _ _ _ _ _ _ _ (T.setTop (mkF m 0 #[.unset] []))
  have fq2 : Sta Z h0 "java/util/Optional" "EMPTY" "Ljava/util/Optional;" (.ref em) := (SE.ext O.2)
  obtain ⟨Tq1, Xq1, eq1, stq1⟩ := getS2 X hx hZ hown (host := "") (Or.inl (W_46 hw)) Via.refl e0 fq2 (g := (mkF m 0 #[.unset] [])) rfl (hb hby d_jdk_32_method_1_code_0)
  refine Goes.via stq1 ?_
  show Goes _ _ _ _ _ _ _ _ (Tq1.setTop (mkF m 3 #[.unset] [(.ref em)]))
  refine Goes.via (fun _ k => XS.astoreN Xq1.here hx rfl (hb hby d_jdk_32_method_1_code_3) rfl rfl (l' := #[.val (.ref em)]) rfl k) ?_
  show Goes _ _ _ _ _ _ _ _ (Tq1.setTop (mkF m 4 #[.val (.ref em)] []))
  refine Goes.via (fun _ k => XS.aloadN Xq1.here hx rfl (hb hby d_jdk_32_method_1_code_4) rfl rfl k) ?_
  show Goes _ _ _ _ _ _ _ _ (Tq1.setTop (mkF m 5 #[.val (.ref em)] [(.ref em)]))
  refine goRetA Xq1 hx hrt rfl hlk N (by decide) (by decide) rfl (hb hby d_jdk_32_method_1_code_5) ?_
  try rw [eq1]
  exact ⟨rfl, rfl⟩
theorem ef_isEmE (m : MethodId) (a : Nat) : entryFrame m #[(.ref a)] 1 = mkF m 0 #[.val (.ref a)] [] := by first | (simp [entryFrame, mkF, argsToLocals, Value.category]; done) | rfl
set_option maxRecDepth 65536 in
set_option maxHeartbeats 40000000 in
theorem isEmE (l : Launch) (Z : State) (aw : Array Value) (hw : ∀ d ∈ tables_1, d.before aw Z = true) (a : Nat) {h0 : Heap} {n0 : Nat} (O : Old Z n0 h0) (F : Fld Z h0 a "java/util/Optional" "value" "Ljava/lang/Object;" .null) :
    MET l Z (⟨"java/util/Optional", "isEmpty", "()Z"⟩ : MethodName) jdk_32_method_7_code 1 (some .boolean) ({ frames := 0, cells := 0, slots := 0, locals := 0 } : Room) #[(.ref a)] h0 n0 (fun vv hh => vv = some (.int (1 : Int32)) ∧ hh = h0) := by
  refine metOf (plainFor_of_name pn_3) ?_
  intro p e s m below meth c T hx hby hml hrt hlk hnm hZ hown X e0
  replace hml : c.maxLocals = 1 := hml
  replace hnm : meth.name = "isEmpty" := hnm
  replace hown : s.vm.findClass "java/util/Optional" = some m.cls := hown
  have N := Fr.nil n0
  have zO := O.le
  refine goCast (ef_isEmE m a) ?_
  have lt_a := lt_nat F.lt
  show Goes _ _ _ _ _ _ _ _ (T.setTop (mkF m 0 #[.val (.ref a)] []))
  refine Goes.via (fun _ k => XS.aloadN X.here hx rfl (hb hby d_jdk_32_method_7_code_0) rfl rfl k) ?_
  show Goes _ _ _ _ _ _ _ _ (T.setTop (mkF m 1 #[.val (.ref a)] [(.ref a)]))
  obtain ⟨Tq1, Xq1, eq1, stq1⟩ := getF X hx hZ hown (host := "") (Or.inl (W_41 hw)) Via.refl e0 F (g := (mkF m 1 #[.val (.ref a)] [(.ref a)])) rfl rfl (hb hby d_jdk_32_method_7_code_1)
  refine Goes.via stq1 ?_
  show Goes _ _ _ _ _ _ _ _ (Tq1.setTop (mkF m 4 #[.val (.ref a)] [.null]))
  refine Goes.via (fun _ k => XT.ifnonnullNo Xq1.here hx rfl (hb hby d_jdk_32_method_7_code_4) rfl k) ?_
  show Goes _ _ _ _ _ _ _ _ (Tq1.setTop (mkF m 7 #[.val (.ref a)] []))
  refine Goes.via (fun _ k => XT.iconstV Xq1.here hx rfl (1 : Int32) (hb hby d_jdk_32_method_7_code_7) (by decide) k) ?_
  show Goes _ _ _ _ _ _ _ _ (Tq1.setTop (mkF m 8 #[.val (.ref a)] [(.int (1 : Int32))]))
  refine Goes.via (fun _ k => XS.goto Xq1.here hx rfl (pc0 := 8) (pc' := 12) rfl (hb hby d_jdk_32_method_7_code_8) (by decide) (by decide) k) ?_
  show Goes _ _ _ _ _ _ _ _ (Tq1.setTop (mkF m 12 #[.val (.ref a)] [(.int (1 : Int32))]))
  refine goRetN Xq1 hx hrt (by simp) hlk N (by decide) (by decide) (hb hby d_jdk_32_method_7_code_12) ?_
  try rw [eq1]
  exact ⟨rfl, rfl⟩
theorem ef_isEmS (m : MethodId) (a : Nat) : entryFrame m #[(.ref a)] 1 = mkF m 0 #[.val (.ref a)] [] := by first | (simp [entryFrame, mkF, argsToLocals, Value.category]; done) | rfl
set_option maxRecDepth 65536 in
set_option maxHeartbeats 40000000 in
theorem isEmS (l : Launch) (Z : State) (aw : Array Value) (hw : ∀ d ∈ tables_1, d.before aw Z = true) (a : Nat) (v : Nat) {h0 : Heap} {n0 : Nat} (O : Old Z n0 h0) (F : Fld Z h0 a "java/util/Optional" "value" "Ljava/lang/Object;" (.ref v)) :
    MET l Z (⟨"java/util/Optional", "isEmpty", "()Z"⟩ : MethodName) jdk_32_method_7_code 1 (some .boolean) ({ frames := 0, cells := 0, slots := 0, locals := 0 } : Room) #[(.ref a)] h0 n0 (fun vv hh => vv = some (.int (0 : Int32)) ∧ hh = h0) := by
  refine metOf (plainFor_of_name pn_3) ?_
  intro p e s m below meth c T hx hby hml hrt hlk hnm hZ hown X e0
  replace hml : c.maxLocals = 1 := hml
  replace hnm : meth.name = "isEmpty" := hnm
  replace hown : s.vm.findClass "java/util/Optional" = some m.cls := hown
  have N := Fr.nil n0
  have zO := O.le
  refine goCast (ef_isEmS m a) ?_
  have lt_a := lt_nat F.lt
  show Goes _ _ _ _ _ _ _ _ (T.setTop (mkF m 0 #[.val (.ref a)] []))
  refine Goes.via (fun _ k => XS.aloadN X.here hx rfl (hb hby d_jdk_32_method_7_code_0) rfl rfl k) ?_
  show Goes _ _ _ _ _ _ _ _ (T.setTop (mkF m 1 #[.val (.ref a)] [(.ref a)]))
  obtain ⟨Tq1, Xq1, eq1, stq1⟩ := getF X hx hZ hown (host := "") (Or.inl (W_41 hw)) Via.refl e0 F (g := (mkF m 1 #[.val (.ref a)] [(.ref a)])) rfl rfl (hb hby d_jdk_32_method_7_code_1)
  refine Goes.via stq1 ?_
  show Goes _ _ _ _ _ _ _ _ (Tq1.setTop (mkF m 4 #[.val (.ref a)] [(.ref v)]))
  refine Goes.via (fun _ k => XT.ifnonnullYes Xq1.here hx rfl (pc0 := 4) (pc' := 11) rfl (hb hby d_jdk_32_method_7_code_4) rfl (by decide) (by decide) k) ?_
  show Goes _ _ _ _ _ _ _ _ (Tq1.setTop (mkF m 11 #[.val (.ref a)] []))
  refine Goes.via (fun _ k => XT.iconstV Xq1.here hx rfl (0 : Int32) (hb hby d_jdk_32_method_7_code_11) (by decide) k) ?_
  show Goes _ _ _ _ _ _ _ _ (Tq1.setTop (mkF m 12 #[.val (.ref a)] [(.int (0 : Int32))]))
  refine goRetN Xq1 hx hrt (by simp) hlk N (by decide) (by decide) (hb hby d_jdk_32_method_7_code_12) ?_
  try rw [eq1]
  exact ⟨rfl, rfl⟩
theorem ef_optGet (m : MethodId) (a : Nat) : entryFrame m #[(.ref a)] 1 = mkF m 0 #[.val (.ref a)] [] := by first | (simp [entryFrame, mkF, argsToLocals, Value.category]; done) | rfl
set_option maxRecDepth 65536 in
set_option maxHeartbeats 40000000 in
theorem optGet (l : Launch) (Z : State) (aw : Array Value) (hw : ∀ d ∈ tables_1, d.before aw Z = true) (a : Nat) (v : Nat) {h0 : Heap} {n0 : Nat} (O : Old Z n0 h0) (F : Fld Z h0 a "java/util/Optional" "value" "Ljava/lang/Object;" (.ref v)) :
    MET l Z (⟨"java/util/Optional", "get", "()Ljava/lang/Object;"⟩ : MethodName) jdk_32_method_5_code 1 (some (.object "java/lang/Object")) ({ frames := 0, cells := 0, slots := 0, locals := 0 } : Room) #[(.ref a)] h0 n0 (fun vv hh => vv = some (.ref v) ∧ hh = h0) := by
  refine metOf (plainFor_of_name pn_3) ?_
  intro p e s m below meth c T hx hby hml hrt hlk hnm hZ hown X e0
  replace hml : c.maxLocals = 1 := hml
  replace hnm : meth.name = "get" := hnm
  replace hown : s.vm.findClass "java/util/Optional" = some m.cls := hown
  have N := Fr.nil n0
  have zO := O.le
  refine goCast (ef_optGet m a) ?_
  have lt_a := lt_nat F.lt
  show Goes _ _ _ _ _ _ _ _ (T.setTop (mkF m 0 #[.val (.ref a)] []))
  refine Goes.via (fun _ k => XS.aloadN X.here hx rfl (hb hby d_jdk_32_method_5_code_0) rfl rfl k) ?_
  show Goes _ _ _ _ _ _ _ _ (T.setTop (mkF m 1 #[.val (.ref a)] [(.ref a)]))
  obtain ⟨Tq1, Xq1, eq1, stq1⟩ := getF X hx hZ hown (host := "") (Or.inl (W_41 hw)) Via.refl e0 F (g := (mkF m 1 #[.val (.ref a)] [(.ref a)])) rfl rfl (hb hby d_jdk_32_method_5_code_1)
  refine Goes.via stq1 ?_
  show Goes _ _ _ _ _ _ _ _ (Tq1.setTop (mkF m 4 #[.val (.ref a)] [(.ref v)]))
  refine Goes.via (fun _ k => XT.ifnonnullYes Xq1.here hx rfl (pc0 := 4) (pc' := 17) rfl (hb hby d_jdk_32_method_5_code_4) rfl (by decide) (by decide) k) ?_
  show Goes _ _ _ _ _ _ _ _ (Tq1.setTop (mkF m 17 #[.val (.ref a)] []))
  refine Goes.via (fun _ k => XS.aloadN Xq1.here hx rfl (hb hby d_jdk_32_method_5_code_17) rfl rfl k) ?_
  show Goes _ _ _ _ _ _ _ _ (Tq1.setTop (mkF m 18 #[.val (.ref a)] [(.ref a)]))
  obtain ⟨Tq2, Xq2, eq2, stq2⟩ := getF Xq1 hx hZ hown (host := "") (Or.inl (W_41 hw)) Via.refl eq1 F (g := (mkF m 18 #[.val (.ref a)] [(.ref a)])) rfl rfl (hb hby d_jdk_32_method_5_code_18)
  refine Goes.via stq2 ?_
  show Goes _ _ _ _ _ _ _ _ (Tq2.setTop (mkF m 21 #[.val (.ref a)] [(.ref v)]))
  refine goRetA Xq2 hx hrt rfl hlk N (by decide) (by decide) rfl (hb hby d_jdk_32_method_5_code_21) ?_
  try rw [eq2]
  exact ⟨rfl, rfl⟩
theorem ef_npInit (m : MethodId) (a : Nat) (f1 : Nat) (g1 : Nat) : entryFrame m #[(.ref a), (.ref f1), (.ref g1)] 3 = mkF m 0 #[.val (.ref a), .val (.ref f1), .val (.ref g1)] [] := by first | (simp [entryFrame, mkF, argsToLocals, Value.category]; done) | rfl
set_option maxRecDepth 65536 in
set_option maxHeartbeats 40000000 in
theorem npInit (l : Launch) (Z : State) (aw : Array Value) (hw : ∀ d ∈ tables_1, d.before aw Z = true) (a : Nat) (f1 : Nat) (g1 : Nat) {h0 : Heap} {n0 : Nat} (O : Old Z n0 h0) (E : Exa Z h0 a "com/example/vouchsafe/vouchsafe/message/NameIdPolicy") (F : Fld Z h0 a "com/example/vouchsafe/vouchsafe/message/NameIdPolicy" "format" "Ljava/util/Optional;" .null) (G : Fld Z h0 a "com/example/vouchsafe/vouchsafe/message/NameIdPolicy" "allowCreate" "Ljava/util/Optional;" .null) (ga : n0 ≤ a) :
    METW l Z (⟨"com/example/vouchsafe/vouchsafe/message/NameIdPolicy", "<init>", "(Ljava/util/Optional;Ljava/util/Optional;)V"⟩ : MethodName) prog_34_method_1_code 3 none ({ frames := 2, cells := 4, slots := 80, locals := 30 } : Room) #[(.ref a), (.ref f1), (.ref g1)] EL [a] h0 n0 (fun vv hh => vv = none ∧ Keep h0 hh [a] ∧ Exa Z hh a "com/example/vouchsafe/vouchsafe/message/NameIdPolicy" ∧ Fld Z hh a "com/example/vouchsafe/vouchsafe/message/NameIdPolicy" "format" "Ljava/util/Optional;" (.ref f1)) := by
  refine metOfW (plainFor_of_name pn_6) ?_
  intro p e s m below meth c T vm0 hx hby hml hrt hlk hnm hZ hown X e0 hS C0 hSL
  replace hml : c.maxLocals = 3 := hml
  replace hnm : meth.name = "<init>" := hnm
  replace hown : vm0.findClass "com/example/vouchsafe/vouchsafe/message/NameIdPolicy" = some m.cls := hown
  have N := Fr.nil n0
  have zO := O.le
  refine goCastW (ef_npInit m a f1 g1) ?_
  have lt_a := lt_nat E.lt
  show GoesW _ _ _ _ _ _ _ _ (T.setTop (mkF m 0 #[.val (.ref a), .val (.ref f1), .val (.ref g1)] []))
  refine GoesW.via (fun _ k => XS.aloadN X.here hx rfl (hb hby d_prog_34_method_1_code_0) rfl rfl k) ?_
  show GoesW _ _ _ _ _ _ _ _ (T.setTop (mkF m 1 #[.val (.ref a), .val (.ref f1), .val (.ref g1)] [(.ref a)]))
  obtain ⟨vq1, Tq1, Lq1, Xq1, qq1, nq1, stq1⟩ := callSp X hx hZ hown (recInit l Z aw hw a O) rfl (W_56 hw) (W_57 hw) (W_59 hw) (W_60 hw) (by decide) e0 (by decide) (W := 0) (by decide) (by decide) (by decide) (g := (mkF m 1 #[.val (.ref a), .val (.ref f1), .val (.ref g1)] [(.ref a)])) rfl (by rw [hml]; rfl) (a := a) (argsL := []) (rest := []) rfl (lenOf pd_7 rfl) rfl (by show 2 * 0 + _ ≤ _; exact Nat.le_of_eq rfl) (hb hby d_prog_34_method_1_code_1)
  obtain ⟨rfl, pq1_0⟩ := qq1
  have Nq1 := Fr.app N nq1
  refine GoesW.via stq1 ?_
  show GoesW _ _ _ _ _ _ _ _ (Tq1.setTop (mkF m 4 #[.val (.ref a), .val (.ref f1), .val (.ref g1)] []))
  refine GoesW.via (fun _ k => XS.aloadN Xq1.here hx rfl (hb hby d_prog_34_method_1_code_4) rfl rfl k) ?_
  show GoesW _ _ _ _ _ _ _ _ (Tq1.setTop (mkF m 5 #[.val (.ref a), .val (.ref f1), .val (.ref g1)] [(.ref f1)]))
  obtain ⟨aq2, Tq2, hq2, kq2, wq2, kkq2, Xq2, eq2, Eq2, Sq2, hkq2, hZq2, hownq2, exq2, fcq2, fvq2, vaq2, laq2, lbq2, Rq2, -, sfq2, stq2⟩ := ldcCH Xq1 hx hZ hown (W_62 hw) (strAtoms hw) pq1_0 hS (by omega) (ew hw) (by decide) C0.1 (vs := [(.int (102 : Int32)), (.int (111 : Int32)), (.int (114 : Int32)), (.int (109 : Int32)), (.int (97 : Int32)), (.int (116 : Int32))]) (z := (6 : Int32)) ⟨by decide +kernel, by decide +kernel⟩ (by decide) (by decide) (g := (mkF m 5 #[.val (.ref a), .val (.ref f1), .val (.ref g1)] [(.ref f1)])) rfl (hb hby d_prog_34_method_1_code_5) (n := 24) (by decide +kernel) (by decide) (by decide) (by decide)
  replace laq2 := lt_nat laq2
  replace lbq2 := lt_nat lbq2
  have zq2 := Eq2.1
  have Oq2 := O.ext Eq2
  have Cq2 := C0.trans Rq2
  refine GoesW.via stq2 ?_
  show GoesW _ _ _ _ _ _ _ _ (Tq2.setTop (mkF m 7 #[.val (.ref a), .val (.ref f1), .val (.ref g1)] [(.ref aq2), (.ref f1)]))
  obtain ⟨vq3, Tq3, Lq3, Xq3, qq3, nq3, stq3⟩ := callSt Xq2 hx hZq2 hownq2 (rnn2 l Z aw hw f1 aq2 Oq2) (W_63 hw) (W_64 hw) (W_34 hw) (W_65 hw) (by decide) eq2 (by decide) (W := 0) (by decide) (by decide) (by decide) (g := (mkF m 7 #[.val (.ref a), .val (.ref f1), .val (.ref g1)] [(.ref aq2), (.ref f1)])) rfl (by rw [hml]; rfl) (argsL := [(.ref f1), (.ref aq2)]) (rest := []) rfl (lenOf pd_9 rfl) rfl (by show 2 * 0 + _ ≤ _; exact Nat.le_of_eq rfl) (hb hby d_prog_34_method_1_code_7)
  obtain ⟨rfl, pq3_0⟩ := qq3
  have Nq3 := Fr.app Nq1 nq3
  refine GoesW.via stq3 ?_
  show GoesW _ _ _ _ _ _ _ _ (Tq3.setTop (mkF m 10 #[.val (.ref a), .val (.ref f1), .val (.ref g1)] [(.ref f1)]))
  refine GoesW.via (fun _ k => XT.pop Xq3.here hx rfl (hb hby d_prog_34_method_1_code_10) rfl rfl k) ?_
  show GoesW _ _ _ _ _ _ _ _ (Tq3.setTop (mkF m 11 #[.val (.ref a), .val (.ref f1), .val (.ref g1)] []))
  refine GoesW.via (fun _ k => XS.aloadN Xq3.here hx rfl (hb hby d_prog_34_method_1_code_11) rfl rfl k) ?_
  show GoesW _ _ _ _ _ _ _ _ (Tq3.setTop (mkF m 12 #[.val (.ref a), .val (.ref f1), .val (.ref g1)] [(.ref g1)]))
  obtain ⟨aq4, Tq4, hq4, kq4, wq4, kkq4, Xq4, eq4, Eq4, Sq4, hkq4, hZq4, hownq4, exq4, fcq4, fvq4, vaq4, laq4, lbq4, Rq4, -, sfq4, stq4⟩ := ldcCH Xq3 hx hZq2 hownq2 (W_66 hw) (strAtoms hw) pq3_0 Sq2 (by omega) (ew hw) (by decide) Cq2.1 (vs := [(.int (97 : Int32)), (.int (108 : Int32)), (.int (108 : Int32)), (.int (111 : Int32)), (.int (119 : Int32)), (.int (67 : Int32)), (.int (114 : Int32)), (.int (101 : Int32)), (.int (97 : Int32)), (.int (116 : Int32)), (.int (101 : Int32))]) (z := (11 : Int32)) ⟨by decide +kernel, by decide +kernel⟩ (by decide) (by decide) (g := (mkF m 12 #[.val (.ref a), .val (.ref f1), .val (.ref g1)] [(.ref g1)])) rfl (hb hby d_prog_34_method_1_code_12) (n := 44) (by decide +kernel) (by decide) (by decide) (by decide)
  replace laq4 := lt_nat laq4
  replace lbq4 := lt_nat lbq4
  have zq4 := Eq4.1
  have Oq4 := Oq2.ext Eq4
  have Cq4 := Cq2.trans Rq4
  refine GoesW.via stq4 ?_
  show GoesW _ _ _ _ _ _ _ _ (Tq4.setTop (mkF m 14 #[.val (.ref a), .val (.ref f1), .val (.ref g1)] [(.ref aq4), (.ref g1)]))
  obtain ⟨vq5, Tq5, Lq5, Xq5, qq5, nq5, stq5⟩ := callSt Xq4 hx hZq4 hownq4 (rnn2 l Z aw hw g1 aq4 Oq4) (W_63 hw) (W_64 hw) (W_34 hw) (W_65 hw) (by decide) eq4 (by decide) (W := 0) (by decide) (by decide) (by decide) (g := (mkF m 14 #[.val (.ref a), .val (.ref f1), .val (.ref g1)] [(.ref aq4), (.ref g1)])) rfl (by rw [hml]; rfl) (argsL := [(.ref g1), (.ref aq4)]) (rest := []) rfl (lenOf pd_9 rfl) rfl (by show 2 * 0 + _ ≤ _; exact Nat.le_of_eq rfl) (hb hby d_prog_34_method_1_code_14)
  obtain ⟨rfl, pq5_0⟩ := qq5
  have Nq5 := Fr.app Nq3 nq5
  refine GoesW.via stq5 ?_
  show GoesW _ _ _ _ _ _ _ _ (Tq5.setTop (mkF m 17 #[.val (.ref a), .val (.ref f1), .val (.ref g1)] [(.ref g1)]))
  refine GoesW.via (fun _ k => XT.pop Xq5.here hx rfl (hb hby d_prog_34_method_1_code_17) rfl rfl k) ?_
  show GoesW _ _ _ _ _ _ _ _ (Tq5.setTop (mkF m 18 #[.val (.ref a), .val (.ref f1), .val (.ref g1)] []))
  refine GoesW.via (fun _ k => XS.aloadN Xq5.here hx rfl (hb hby d_prog_34_method_1_code_18) rfl rfl k) ?_
  show GoesW _ _ _ _ _ _ _ _ (Tq5.setTop (mkF m 19 #[.val (.ref a), .val (.ref f1), .val (.ref g1)] [(.ref a)]))
  refine GoesW.via (fun _ k => XS.aloadN Xq5.here hx rfl (hb hby d_prog_34_method_1_code_19) rfl rfl k) ?_
  show GoesW _ _ _ _ _ _ _ _ (Tq5.setTop (mkF m 20 #[.val (.ref a), .val (.ref f1), .val (.ref g1)] [(.ref f1), (.ref a)]))
  have fq7 : Fld Z hq4 a "com/example/vouchsafe/vouchsafe/message/NameIdPolicy" "format" "Ljava/util/Optional;" .null := ((F.ext Eq2).ext Eq4)
  have fq8 : Exa Z hq4 a "com/example/vouchsafe/vouchsafe/message/NameIdPolicy" := ((E.ext Eq2).ext Eq4)
  obtain ⟨Tq6, hq6, Xq6, eq6, Wq6, stq6⟩ := putF Xq5 hx hZq4 hownq4 (host := "") (Or.inl (W_67 hw)) Via.refl pq5_0 fq7 fq8 (Or.inr ⟨(W_68 hw), rfl, hnm⟩) (W_51 hw) (ty := (.object "java/util/Optional")) (by decide) rfl rfl (g := (mkF m 20 #[.val (.ref a), .val (.ref f1), .val (.ref g1)] [(.ref f1), (.ref a)])) rfl rfl (hb hby d_prog_34_method_1_code_20)
  have Nq6 := Fr.snoc Xq6 Nq5 (by omega)
  have fq9 : Safe Z EL Tq4.vm hq4 a := (CHr.safe Rq4 (lt_ok (by omega)) (CHr.safe Rq2 (lt_ok (by omega)) (hSL _ (by simp))))
  have zq6 := Wq6.size
  have Oq6 := Oq4.wr Wq6 (by omega)
  have Cq6 := Cq4.trans (CHr.wr Wq6 fq9 Cq4.1)
  have Fq6 : Fld Z hq6 a "com/example/vouchsafe/vouchsafe/message/NameIdPolicy" "format" "Ljava/util/Optional;" (.ref f1) := fq7.same Wq6
  refine GoesW.via stq6 ?_
  show GoesW _ _ _ _ _ _ _ _ (Tq6.setTop (mkF m 23 #[.val (.ref a), .val (.ref f1), .val (.ref g1)] []))
  refine GoesW.via (fun _ k => XS.aloadN Xq6.here hx rfl (hb hby d_prog_34_method_1_code_23) rfl rfl k) ?_
  show GoesW _ _ _ _ _ _ _ _ (Tq6.setTop (mkF m 24 #[.val (.ref a), .val (.ref f1), .val (.ref g1)] [(.ref a)]))
  refine GoesW.via (fun _ k => XS.aloadN Xq6.here hx rfl (hb hby d_prog_34_method_1_code_24) rfl rfl k) ?_
  show GoesW _ _ _ _ _ _ _ _ (Tq6.setTop (mkF m 25 #[.val (.ref a), .val (.ref f1), .val (.ref g1)] [(.ref g1), (.ref a)]))
  have fq11 : Fld Z hq6 a "com/example/vouchsafe/vouchsafe/message/NameIdPolicy" "allowCreate" "Ljava/util/Optional;" .null := (((G.ext Eq2).ext Eq4).other Wq6 (Or.inr (slot_ne (Or.inr (W_70 hw)) (Or.inr (W_68 hw)) (by decide) (t := (.object "java/util/Optional")) (t' := (.object "java/util/Optional")) (by decide) (by decide))))
  have fq12 : Exa Z hq6 a "com/example/vouchsafe/vouchsafe/message/NameIdPolicy" := (fq8.wr Wq6)
  obtain ⟨Tq10, hq10, Xq10, eq10, Wq10, stq10⟩ := putF Xq6 hx hZq4 hownq4 (host := "") (Or.inl (W_69 hw)) Via.refl eq6 fq11 fq12 (Or.inr ⟨(W_70 hw), rfl, hnm⟩) (W_51 hw) (ty := (.object "java/util/Optional")) (by decide) rfl rfl (g := (mkF m 25 #[.val (.ref a), .val (.ref f1), .val (.ref g1)] [(.ref g1), (.ref a)])) rfl rfl (hb hby d_prog_34_method_1_code_25)
  have Nq10 := Fr.snoc Xq10 Nq6 (by omega)
  have fq13 : Safe Z EL Tq4.vm hq6 a := (Safe.wr Wq6 fq9 Cq4.1 fq9)
  have zq10 := Wq10.size
  have Oq10 := Oq6.wr Wq10 (by omega)
  have Cq10 := Cq6.trans (CHr.wr Wq10 fq13 Cq6.1)
  have Fq10 : Fld Z hq10 a "com/example/vouchsafe/vouchsafe/message/NameIdPolicy" "allowCreate" "Ljava/util/Optional;" (.ref g1) := fq11.same Wq10
  refine GoesW.via stq10 ?_
  show GoesW _ _ _ _ _ _ _ _ (Tq10.setTop (mkF m 28 #[.val (.ref a), .val (.ref f1), .val (.ref g1)] []))
  refine goRetVW Xq10 hx hrt hlk Nq10 Sq4 (by rw [eq10]; omega) (by decide) (by decide) (hb hby d_prog_34_method_1_code_28) ?_
  intro hWm
  try rw [eq10]
  refine ⟨?_, Cq10.trans (CHv.at Xq10 hZq4 (ew hw) Cq10.1)⟩
  have fq14 : Exa Z hq10 a "com/example/vouchsafe/vouchsafe/message/NameIdPolicy" := (fq12.wr Wq10)
  have fq15 : Fld Z hq10 a "com/example/vouchsafe/vouchsafe/message/NameIdPolicy" "format" "Ljava/util/Optional;" (.ref f1) := (Fq6.other Wq10 (Or.inr (slot_ne (Or.inr (W_68 hw)) (Or.inr (W_70 hw)) (by decide) (t := (.object "java/util/Optional")) (t' := (.object "java/util/Optional")) (by decide) (by decide))))
  exact ⟨rfl, (((((Keep.refl _ [a]).ext Eq2).ext Eq4).wr Wq6 (Or.inl (by simp))).wr Wq10 (Or.inl (by simp))), fq14, fq15⟩
theorem ef_accE (m : MethodId) (a : Nat) (nm : Nat) : entryFrame m #[(.ref a), (.ref nm)] 2 = mkF m 0 #[.val (.ref a), .val (.ref nm)] [] := by first | (simp [entryFrame, mkF, argsToLocals, Value.category]; done) | rfl
set_option maxRecDepth 65536 in
set_option maxHeartbeats 40000000 in
theorem accE (l : Launch) (Z : State) (aw : Array Value) (hw : ∀ d ∈ tables_1, d.before aw Z = true) (a : Nat) (fo : Nat) (nm : Nat) {h0 : Heap} {n0 : Nat} (O : Old Z n0 h0) (F : Fld Z h0 a "com/example/vouchsafe/vouchsafe/message/NameIdPolicy" "format" "Ljava/util/Optional;" (.ref fo)) (EO : Exa Z h0 fo "java/util/Optional") (FO : Fld Z h0 fo "java/util/Optional" "value" "Ljava/lang/Object;" .null) :
    MET l Z (⟨"com/example/vouchsafe/vouchsafe/message/NameIdPolicy", "accepts", "(Ljava/lang/String;)Z"⟩ : MethodName) prog_34_method_3_code 2 (some .boolean) ({ frames := 1, cells := 0, slots := 0, locals := 14 } : Room) #[(.ref a), (.ref nm)] h0 n0 (fun vv hh => vv = some (.int (1 : Int32)) ∧ hh = h0) := by
  refine metOf (plainFor_of_name pn_6) ?_
  intro p e s m below meth c T hx hby hml hrt hlk hnm hZ hown X e0
  replace hml : c.maxLocals = 2 := hml
  replace hnm : meth.name = "accepts" := hnm
  replace hown : s.vm.findClass "com/example/vouchsafe/vouchsafe/message/NameIdPolicy" = some m.cls := hown
  have N := Fr.nil n0
  have zO := O.le
  refine goCast (ef_accE m a nm) ?_
  have lt_a := lt_nat F.lt
  have lt_fo := lt_nat EO.lt
  show Goes _ _ _ _ _ _ _ _ (T.setTop (mkF m 0 #[.val (.ref a), .val (.ref nm)] []))
  refine Goes.via (fun _ k => XS.aloadN X.here hx rfl (hb hby d_prog_34_method_3_code_0) rfl rfl k) ?_
  show Goes _ _ _ _ _ _ _ _ (T.setTop (mkF m 1 #[.val (.ref a), .val (.ref nm)] [(.ref a)]))
  obtain ⟨Tq1, Xq1, eq1, stq1⟩ := getF X hx hZ hown (host := "") (Or.inl (W_67 hw)) Via.refl e0 F (g := (mkF m 1 #[.val (.ref a), .val (.ref nm)] [(.ref a)])) rfl rfl (hb hby d_prog_34_method_3_code_1)
  refine Goes.via stq1 ?_
  show Goes _ _ _ _ _ _ _ _ (Tq1.setTop (mkF m 4 #[.val (.ref a), .val (.ref nm)] [(.ref fo)]))
  obtain ⟨vq2, Tq2, Lq2, Xq2, qq2, nq2, stq2⟩ := callVi Xq1 hx hZ hown (isEmE l Z aw hw fo O FO) (W_76 hw) (W_77 hw) (notFace_of_selects (args := #[]) (mvT hZ (W_79 hw))) (W_79 hw) (W_78 hw) (W_28 hw) (W_80 hw) (by decide) eq1 EO (by decide) (W := 0) (by decide) (by decide) (by decide) (g := (mkF m 4 #[.val (.ref a), .val (.ref nm)] [(.ref fo)])) rfl (by rw [hml]; rfl) (a := fo) (argsL := []) (rest := []) rfl (lenOf pd_11 rfl) rfl (by show 2 * 0 + _ ≤ _; exact Nat.le_of_eq rfl) (hb hby d_prog_34_method_3_code_4)
  obtain ⟨rfl, pq2_0⟩ := qq2
  have Nq2 := Fr.app N nq2
  refine Goes.via stq2 ?_
  show Goes _ _ _ _ _ _ _ _ (Tq2.setTop (mkF m 7 #[.val (.ref a), .val (.ref nm)] [(.int (1 : Int32))]))
  refine Goes.via (fun _ k => XS.ifYes Xq2.here hx rfl (pc0 := 7) (pc' := 45) rfl (hb hby d_prog_34_method_3_code_7) rfl (XT.i0_ne_t (by decide)) (by decide) (by decide) k) ?_
  show Goes _ _ _ _ _ _ _ _ (Tq2.setTop (mkF m 45 #[.val (.ref a), .val (.ref nm)] []))
  refine Goes.via (fun _ k => XT.iconstV Xq2.here hx rfl (1 : Int32) (hb hby d_prog_34_method_3_code_45) (by decide) k) ?_
  show Goes _ _ _ _ _ _ _ _ (Tq2.setTop (mkF m 46 #[.val (.ref a), .val (.ref nm)] [(.int (1 : Int32))]))
  refine Goes.via (fun _ k => XS.goto Xq2.here hx rfl (pc0 := 46) (pc' := 50) rfl (hb hby d_prog_34_method_3_code_46) (by decide) (by decide) k) ?_
  show Goes _ _ _ _ _ _ _ _ (Tq2.setTop (mkF m 50 #[.val (.ref a), .val (.ref nm)] [(.int (1 : Int32))]))
  refine goRetN Xq2 hx hrt (by simp) hlk Nq2 (by decide) (by decide) (hb hby d_prog_34_method_3_code_50) ?_
  try rw [pq2_0]
  exact ⟨rfl, rfl⟩
theorem ef_accS (m : MethodId) (a : Nat) (sB : Nat) : entryFrame m #[(.ref a), (.ref sB)] 2 = mkF m 0 #[.val (.ref a), .val (.ref sB)] [] := by first | (simp [entryFrame, mkF, argsToLocals, Value.category]; done) | rfl
set_option maxRecDepth 65536 in
set_option maxHeartbeats 40000000 in
theorem accS (l : Launch) (Z : State) (aw : Array Value) (hw : ∀ d ∈ tables_1, d.before aw Z = true) (a : Nat) (fo : Nat) (sA : Nat) (wA : Nat) (kA : ClassId) (NA : Int32) (vA : List Value) (csA : List Int32) (sB : Nat) (wB : Nat) (kB : ClassId) (NB : Int32) (vB : List Value) (csB : List Int32) (cz : Int32) {h0 : Heap} {n0 : Nat} (O : Old Z n0 h0) (CS : Sta Z Z.heap "java/lang/String" "COMPACT_STRINGS" "Z" (.int cz)) (F : Fld Z h0 a "com/example/vouchsafe/vouchsafe/message/NameIdPolicy" "format" "Ljava/util/Optional;" (.ref fo)) (EO : Exa Z h0 fo "java/util/Optional") (FO : Fld Z h0 fo "java/util/Optional" "value" "Ljava/lang/Object;" (.ref sA)) (ESA : Exa Z h0 sA "java/lang/String") (VSA : Fld Z h0 sA "java/lang/String" "value" "[B" (.ref wA)) (CSA : Fld Z h0 sA "java/lang/String" "coder" "B" (.int (0 : Int32))) (ASA : Arv Z h0 wA kA .byte NA vA (.int (0 : Int32))) (ESB : Exa Z h0 sB "java/lang/String") (VSB : Fld Z h0 sB "java/lang/String" "value" "[B" (.ref wB)) (CSB : Fld Z h0 sB "java/lang/String" "coder" "B" (.int (0 : Int32))) (ASB : Arv Z h0 wB kB .byte NB vB (.int (0 : Int32))) (hcz : ¬ cz = (0 : Int32)) (codA : StrChars.Road.CodA csA 0 NA vA) (rgA : ∀ c ∈ csA, ¬ c < 0 ∧ ¬ (65535 : Int32) < c) (lnA : csA.length ≤ 4000) (codB : StrChars.Road.CodA csB 0 NB vB) (rgB : ∀ c ∈ csB, ¬ c < 0 ∧ ¬ (65535 : Int32) < c) (lnB : csB.length ≤ 4000) :
    METW l Z (⟨"com/example/vouchsafe/vouchsafe/message/NameIdPolicy", "accepts", "(Ljava/lang/String;)Z"⟩ : MethodName) prog_34_method_3_code 2 (some .boolean) ({ frames := 2, cells := 2, slots := 216, locals := 44 } : Room) #[(.ref a), (.ref sB)] EL [] h0 n0 (fun vv hh => vv = some (.int (if csA = LIT_0 ∨ csA = csB then (1 : Int32) else 0)) ∧ Keep h0 hh []) := by
  refine metOfW (plainFor_of_name pn_6) ?_
  intro p e s m below meth c T vm0 hx hby hml hrt hlk hnm hZ hown X e0 hS C0 hSL
  replace hml : c.maxLocals = 2 := hml
  replace hnm : meth.name = "accepts" := hnm
  replace hown : vm0.findClass "com/example/vouchsafe/vouchsafe/message/NameIdPolicy" = some m.cls := hown
  have N := Fr.nil n0
  have zO := O.le
  refine goCastW (ef_accS m a sB) ?_
  have lt_a := lt_nat F.lt
  have lt_fo := lt_nat EO.lt
  have lt_sA := lt_nat ESA.lt
  have lt_wA := lt_nat ASA.lt
  have lt_sB := lt_nat ESB.lt
  have lt_wB := lt_nat ASB.lt
  show GoesW _ _ _ _ _ _ _ _ (T.setTop (mkF m 0 #[.val (.ref a), .val (.ref sB)] []))
  refine GoesW.via (fun _ k => XS.aloadN X.here hx rfl (hb hby d_prog_34_method_3_code_0) rfl rfl k) ?_
  show GoesW _ _ _ _ _ _ _ _ (T.setTop (mkF m 1 #[.val (.ref a), .val (.ref sB)] [(.ref a)]))
  obtain ⟨Tq1, Xq1, eq1, stq1⟩ := getF X hx hZ hown (host := "") (Or.inl (W_67 hw)) Via.refl e0 F (g := (mkF m 1 #[.val (.ref a), .val (.ref sB)] [(.ref a)])) rfl rfl (hb hby d_prog_34_method_3_code_1)
  refine GoesW.via stq1 ?_
  show GoesW _ _ _ _ _ _ _ _ (Tq1.setTop (mkF m 4 #[.val (.ref a), .val (.ref sB)] [(.ref fo)]))
  obtain ⟨vq2, Tq2, Lq2, Xq2, qq2, nq2, stq2⟩ := callVi Xq1 hx hZ hown (isEmS l Z aw hw fo sA O FO) (W_76 hw) (W_77 hw) (notFace_of_selects (args := #[]) (mvT hZ (W_79 hw))) (W_79 hw) (W_78 hw) (W_28 hw) (W_80 hw) (by decide) eq1 EO (by decide) (W := 0) (by decide) (by decide) (by decide) (g := (mkF m 4 #[.val (.ref a), .val (.ref sB)] [(.ref fo)])) rfl (by rw [hml]; rfl) (a := fo) (argsL := []) (rest := []) rfl (lenOf pd_11 rfl) rfl (by show 2 * 0 + _ ≤ _; exact Nat.le_of_eq rfl) (hb hby d_prog_34_method_3_code_4)
  obtain ⟨rfl, pq2_0⟩ := qq2
  have Nq2 := Fr.app N nq2
  refine GoesW.via stq2 ?_
  show GoesW _ _ _ _ _ _ _ _ (Tq2.setTop (mkF m 7 #[.val (.ref a), .val (.ref sB)] [(.int (0 : Int32))]))
  refine GoesW.via (fun _ k => XS.ifNo Xq2.here hx rfl (hb hby d_prog_34_method_3_code_7) rfl (XT.i0_ne_f (by decide)) k) ?_
  show GoesW _ _ _ _ _ _ _ _ (Tq2.setTop (mkF m 10 #[.val (.ref a), .val (.ref sB)] []))
  refine GoesW.via (fun _ k => XS.aloadN Xq2.here hx rfl (hb hby d_prog_34_method_3_code_10) rfl rfl k) ?_
  show GoesW _ _ _ _ _ _ _ _ (Tq2.setTop (mkF m 11 #[.val (.ref a), .val (.ref sB)] [(.ref a)]))
  obtain ⟨Tq3, Xq3, eq3, stq3⟩ := getF Xq2 hx hZ hown (host := "") (Or.inl (W_67 hw)) Via.refl pq2_0 F (g := (mkF m 11 #[.val (.ref a), .val (.ref sB)] [(.ref a)])) rfl rfl (hb hby d_prog_34_method_3_code_11)
  refine GoesW.via stq3 ?_
  show GoesW _ _ _ _ _ _ _ _ (Tq3.setTop (mkF m 14 #[.val (.ref a), .val (.ref sB)] [(.ref fo)]))
  obtain ⟨vq4, Tq4, Lq4, Xq4, qq4, nq4, stq4⟩ := callVi Xq3 hx hZ hown (optGet l Z aw hw fo sA O FO) (W_81 hw) (W_82 hw) (notFace_of_selects (args := #[]) (mvT hZ (W_84 hw))) (W_84 hw) (W_83 hw) (W_28 hw) (W_85 hw) (by decide) eq3 EO (by decide) (W := 0) (by decide) (by decide) (by decide) (g := (mkF m 14 #[.val (.ref a), .val (.ref sB)] [(.ref fo)])) rfl (by rw [hml]; rfl) (a := fo) (argsL := []) (rest := []) rfl (lenOf pd_12 rfl) rfl (by show 2 * 0 + _ ≤ _; exact Nat.le_of_eq rfl) (hb hby d_prog_34_method_3_code_14)
  obtain ⟨rfl, pq4_0⟩ := qq4
  have Nq4 := Fr.app Nq2 nq4
  refine GoesW.via stq4 ?_
  show GoesW _ _ _ _ _ _ _ _ (Tq4.setTop (mkF m 17 #[.val (.ref a), .val (.ref sB)] [(.ref sA)]))
  obtain ⟨Tq5, Xq5, eq5, stq5⟩ := castY Xq4 hx hZ hown (W_86 hw) pq4_0 (Ins.self ESA) (g := (mkF m 17 #[.val (.ref a), .val (.ref sB)] [(.ref sA)])) rfl rfl (hb hby d_prog_34_method_3_code_17)
  refine GoesW.via stq5 ?_
  show GoesW _ _ _ _ _ _ _ _ (Tq5.setTop (mkF m 20 #[.val (.ref a), .val (.ref sB)] [(.ref sA)]))
  obtain ⟨aq6, Tq6, hq6, kq6, wq6, kkq6, Xq6, eq6, Eq6, Sq6, hkq6, hZq6, hownq6, exq6, fcq6, fvq6, vaq6, laq6, lbq6, Rq6, -, sfq6, stq6⟩ := ldcCH Xq5 hx hZ hown (W_87 hw) (strAtoms hw) eq5 hS (by omega) (ew hw) (by decide) C0.1 (vs := [(.int (117 : Int32)), (.int (114 : Int32)), (.int (110 : Int32)), (.int (58 : Int32)), (.int (111 : Int32)), (.int (97 : Int32)), (.int (115 : Int32)), (.int (105 : Int32)), (.int (115 : Int32)), (.int (58 : Int32)), (.int (110 : Int32)), (.int (97 : Int32)), (.int (109 : Int32)), (.int (101 : Int32)), (.int (115 : Int32)), (.int (58 : Int32)), (.int (116 : Int32)), (.int (99 : Int32)), (.int (58 : Int32)), (.int (83 : Int32)), (.int (65 : Int32)), (.int (77 : Int32)), (.int (76 : Int32)), (.int (58 : Int32)), (.int (49 : Int32)), (.int (46 : Int32)), (.int (49 : Int32)), (.int (58 : Int32)), (.int (110 : Int32)), (.int (97 : Int32)), (.int (109 : Int32)), (.int (101 : Int32)), (.int (105 : Int32)), (.int (100 : Int32)), (.int (45 : Int32)), (.int (102 : Int32)), (.int (111 : Int32)), (.int (114 : Int32)), (.int (109 : Int32)), (.int (97 : Int32)), (.int (116 : Int32)), (.int (58 : Int32)), (.int (117 : Int32)), (.int (110 : Int32)), (.int (115 : Int32)), (.int (112 : Int32)), (.int (101 : Int32)), (.int (99 : Int32)), (.int (105 : Int32)), (.int (102 : Int32)), (.int (105 : Int32)), (.int (101 : Int32)), (.int (100 : Int32))]) (z := (53 : Int32)) ⟨by decide +kernel, by decide +kernel⟩ (by decide) (by decide) (g := (mkF m 20 #[.val (.ref a), .val (.ref sB)] [(.ref sA)])) rfl (hb hby d_prog_34_method_3_code_20) (n := 212) (by decide +kernel) (by decide) (by decide) (by decide)
  replace laq6 := lt_nat laq6
  replace lbq6 := lt_nat lbq6
  have zq6 := Eq6.1
  have Oq6 := O.ext Eq6
  have Cq6 := C0.trans Rq6
  refine GoesW.via stq6 ?_
  show GoesW _ _ _ _ _ _ _ _ (Tq6.setTop (mkF m 22 #[.val (.ref a), .val (.ref sB)] [(.ref aq6), (.ref sA)]))
  have fq8 : Exa Z hq6 sA "java/lang/String" := (ESA.ext Eq6)
  have fq9 : Fld Z hq6 sA "java/lang/String" "value" "[B" (.ref wA) := (VSA.ext Eq6)
  have fq10 : Fld Z hq6 sA "java/lang/String" "coder" "B" (.int (0 : Int32)) := (CSA.ext Eq6)
  have fq11 : Arv Z hq6 wA kA .byte NA vA (.int (0 : Int32)) := (ASA.ext Eq6)
  have fq12 : Sta Z hq6 "java/lang/String" "COMPACT_STRINGS" "Z" (.int cz) := (CS.ext Oq6.2)
  obtain ⟨vq7, Tq7, Lq7, Xq7, ⟨qq7, rfl, eq7⟩, stq7⟩ := callViB (Qb := fun v h' L => ((v = some (.int 1) ∧ csA = LIT_0) ∨ (v = some (.int 0) ∧ ¬ csA = LIT_0)) ∧ L = [] ∧ h' = hq6) Xq6 hx hZq6 hownq6 (StrChars.Road.eqW (W := 0) hZq6 (hwEq hw) (kI := 4) (W_5 hw) fq8 fq9 fq10 fq11 codA rgA lnA exq6 fvq6 fcq6 vaq6 codL_0 rgL_0 (Nat.le_of_ble_eq_true rfl) fq12 hcz (by decide) (by decide)) (W_88 hw) (W_89 hw) (notFace_of_selects (args := #[]) (mvT hZq6 (W_91 hw))) (W_91 hw) (W_90 hw) (by decide) eq6 fq8 (by decide) (by decide) (g := (mkF m 22 #[.val (.ref a), .val (.ref sB)] [(.ref aq6), (.ref sA)])) rfl (by rw [hml]; rfl) (a := sA) (argsL := [(.ref aq6)]) (rest := []) rfl (lenOf pd_13 rfl) rfl (by show 2 * 0 + _ ≤ _; exact Nat.le_of_eq rfl) (hb hby d_prog_34_method_3_code_22)
  have Nq7 := Fr.app Nq4 (Fr.nil n0)
  rcases qq7 with ⟨rfl, cq7⟩ | ⟨rfl, cq7⟩
  · skip
    refine GoesW.via stq7 ?_
    show GoesW _ _ _ _ _ _ _ _ (Tq7.setTop (mkF m 25 #[.val (.ref a), .val (.ref sB)] [(.int (1 : Int32))]))
    refine GoesW.via (fun _ k => XS.ifYes Xq7.here hx rfl (pc0 := 25) (pc' := 45) rfl (hb hby d_prog_34_method_3_code_25) rfl (XT.i0_ne_t (by decide)) (by decide) (by decide) k) ?_
    show GoesW _ _ _ _ _ _ _ _ (Tq7.setTop (mkF m 45 #[.val (.ref a), .val (.ref sB)] []))
    refine GoesW.via (fun _ k => XT.iconstV Xq7.here hx rfl (1 : Int32) (hb hby d_prog_34_method_3_code_45) (by decide) k) ?_
    show GoesW _ _ _ _ _ _ _ _ (Tq7.setTop (mkF m 46 #[.val (.ref a), .val (.ref sB)] [(.int (1 : Int32))]))
    refine GoesW.via (fun _ k => XS.goto Xq7.here hx rfl (pc0 := 46) (pc' := 50) rfl (hb hby d_prog_34_method_3_code_46) (by decide) (by decide) k) ?_
    show GoesW _ _ _ _ _ _ _ _ (Tq7.setTop (mkF m 50 #[.val (.ref a), .val (.ref sB)] [(.int (1 : Int32))]))
    refine goRetNW Xq7 hx hrt (by simp) hlk Nq7 Sq6 (by rw [eq7]; omega) (by decide) (by decide) (hb hby d_prog_34_method_3_code_50) ?_
    intro hWm
    try rw [eq7]
    refine ⟨?_, Cq6.trans (CHv.at Xq7 hZq6 (ew hw) Cq6.1)⟩
    exact ⟨congrArg (fun z => some (Value.int z)) (Eq.symm (if_pos (Or.inl cq7))), ((Keep.refl _ []).ext Eq6)⟩
  · skip
    refine GoesW.via stq7 ?_
    show GoesW _ _ _ _ _ _ _ _ (Tq7.setTop (mkF m 25 #[.val (.ref a), .val (.ref sB)] [(.int (0 : Int32))]))
    refine GoesW.via (fun _ k => XS.ifNo Xq7.here hx rfl (hb hby d_prog_34_method_3_code_25) rfl (XT.i0_ne_f (by decide)) k) ?_
    show GoesW _ _ _ _ _ _ _ _ (Tq7.setTop (mkF m 28 #[.val (.ref a), .val (.ref sB)] []))
    refine GoesW.via (fun _ k => XS.aloadN Xq7.here hx rfl (hb hby d_prog_34_method_3_code_28) rfl rfl k) ?_
    show GoesW _ _ _ _ _ _ _ _ (Tq7.setTop (mkF m 29 #[.val (.ref a), .val (.ref sB)] [(.ref a)]))
    have fq14 : Fld Z hq6 a "com/example/vouchsafe/vouchsafe/message/NameIdPolicy" "format" "Ljava/util/Optional;" (.ref fo) := (F.ext Eq6)
    obtain ⟨Tq13, Xq13, eq13, stq13⟩ := getF Xq7 hx hZq6 hownq6 (host := "") (Or.inl (W_67 hw)) Via.refl eq7 fq14 (g := (mkF m 29 #[.val (.ref a), .val (.ref sB)] [(.ref a)])) rfl rfl (hb hby d_prog_34_method_3_code_29)
    refine GoesW.via stq13 ?_
    show GoesW _ _ _ _ _ _ _ _ (Tq13.setTop (mkF m 32 #[.val (.ref a), .val (.ref sB)] [(.ref fo)]))
    have fq15 : Fld Z hq6 fo "java/util/Optional" "value" "Ljava/lang/Object;" (.ref sA) := (FO.ext Eq6)
    have fq17 : Exa Z hq6 fo "java/util/Optional" := (EO.ext Eq6)
    obtain ⟨vq16, Tq16, Lq16, Xq16, qq16, nq16, stq16⟩ := callVi Xq13 hx hZq6 hownq6 (optGet l Z aw hw fo sA Oq6 fq15) (W_81 hw) (W_82 hw) (notFace_of_selects (args := #[]) (mvT hZq6 (W_84 hw))) (W_84 hw) (W_83 hw) (W_28 hw) (W_85 hw) (by decide) eq13 fq17 (by decide) (W := 0) (by decide) (by decide) (by decide) (g := (mkF m 32 #[.val (.ref a), .val (.ref sB)] [(.ref fo)])) rfl (by rw [hml]; rfl) (a := fo) (argsL := []) (rest := []) rfl (lenOf pd_12 rfl) rfl (by show 2 * 0 + _ ≤ _; exact Nat.le_of_eq rfl) (hb hby d_prog_34_method_3_code_32)
    obtain ⟨rfl, pq16_0⟩ := qq16
    have Nq16 := Fr.app Nq7 nq16
    refine GoesW.via stq16 ?_
    show GoesW _ _ _ _ _ _ _ _ (Tq16.setTop (mkF m 35 #[.val (.ref a), .val (.ref sB)] [(.ref sA)]))
    obtain ⟨Tq18, Xq18, eq18, stq18⟩ := castY Xq16 hx hZq6 hownq6 (W_86 hw) pq16_0 (Ins.self fq8) (g := (mkF m 35 #[.val (.ref a), .val (.ref sB)] [(.ref sA)])) rfl rfl (hb hby d_prog_34_method_3_code_35)
    refine GoesW.via stq18 ?_
    show GoesW _ _ _ _ _ _ _ _ (Tq18.setTop (mkF m 38 #[.val (.ref a), .val (.ref sB)] [(.ref sA)]))
    refine GoesW.via (fun _ k => XS.aloadN Xq18.here hx rfl (hb hby d_prog_34_method_3_code_38) rfl rfl k) ?_
    show GoesW _ _ _ _ _ _ _ _ (Tq18.setTop (mkF m 39 #[.val (.ref a), .val (.ref sB)] [(.ref sB), (.ref sA)]))
    have fq20 : Exa Z hq6 sB "java/lang/String" := (ESB.ext Eq6)
    have fq21 : Fld Z hq6 sB "java/lang/String" "value" "[B" (.ref wB) := (VSB.ext Eq6)
    have fq22 : Fld Z hq6 sB "java/lang/String" "coder" "B" (.int (0 : Int32)) := (CSB.ext Eq6)
    have fq23 : Arv Z hq6 wB kB .byte NB vB (.int (0 : Int32)) := (ASB.ext Eq6)
    obtain ⟨vq19, Tq19, Lq19, Xq19, ⟨qq19, rfl, eq19⟩, stq19⟩ := callViB (Qb := fun v h' L => ((v = some (.int 1) ∧ csA = csB) ∨ (v = some (.int 0) ∧ ¬ csA = csB)) ∧ L = [] ∧ h' = hq6) Xq18 hx hZq6 hownq6 (StrChars.Road.eqW (W := 0) hZq6 (hwEq hw) (kI := 4) (W_5 hw) fq8 fq9 fq10 fq11 codA rgA lnA fq20 fq21 fq22 fq23 codB rgB lnB fq12 hcz (by decide) (by decide)) (W_88 hw) (W_89 hw) (notFace_of_selects (args := #[]) (mvT hZq6 (W_91 hw))) (W_91 hw) (W_90 hw) (by decide) eq18 fq8 (by decide) (by decide) (g := (mkF m 39 #[.val (.ref a), .val (.ref sB)] [(.ref sB), (.ref sA)])) rfl (by rw [hml]; rfl) (a := sA) (argsL := [(.ref sB)]) (rest := []) rfl (lenOf pd_13 rfl) rfl (by show 2 * 0 + _ ≤ _; exact Nat.le_of_eq rfl) (hb hby d_prog_34_method_3_code_39)
    have Nq19 := Fr.app Nq16 (Fr.nil n0)
    rcases qq19 with ⟨rfl, cq19⟩ | ⟨rfl, cq19⟩
    · skip
      refine GoesW.via stq19 ?_
      show GoesW _ _ _ _ _ _ _ _ (Tq19.setTop (mkF m 42 #[.val (.ref a), .val (.ref sB)] [(.int (1 : Int32))]))
      refine GoesW.via (fun _ k => XS.ifNo Xq19.here hx rfl (hb hby d_prog_34_method_3_code_42) rfl (XT.i0_eq_f (by decide)) k) ?_
      show GoesW _ _ _ _ _ _ _ _ (Tq19.setTop (mkF m 45 #[.val (.ref a), .val (.ref sB)] []))
      refine GoesW.via (fun _ k => XT.iconstV Xq19.here hx rfl (1 : Int32) (hb hby d_prog_34_method_3_code_45) (by decide) k) ?_
      show GoesW _ _ _ _ _ _ _ _ (Tq19.setTop (mkF m 46 #[.val (.ref a), .val (.ref sB)] [(.int (1 : Int32))]))
      refine GoesW.via (fun _ k => XS.goto Xq19.here hx rfl (pc0 := 46) (pc' := 50) rfl (hb hby d_prog_34_method_3_code_46) (by decide) (by decide) k) ?_
      show GoesW _ _ _ _ _ _ _ _ (Tq19.setTop (mkF m 50 #[.val (.ref a), .val (.ref sB)] [(.int (1 : Int32))]))
      refine goRetNW Xq19 hx hrt (by simp) hlk Nq19 Sq6 (by rw [eq19]; omega) (by decide) (by decide) (hb hby d_prog_34_method_3_code_50) ?_
      intro hWm
      try rw [eq19]
      refine ⟨?_, Cq6.trans (CHv.at Xq19 hZq6 (ew hw) Cq6.1)⟩
      exact ⟨congrArg (fun z => some (Value.int z)) (Eq.symm (if_pos (Or.inr cq19))), ((Keep.refl _ []).ext Eq6)⟩
    · skip
      refine GoesW.via stq19 ?_
      show GoesW _ _ _ _ _ _ _ _ (Tq19.setTop (mkF m 42 #[.val (.ref a), .val (.ref sB)] [(.int (0 : Int32))]))
      refine GoesW.via (fun _ k => XS.ifYes Xq19.here hx rfl (pc0 := 42) (pc' := 49) rfl (hb hby d_prog_34_method_3_code_42) rfl (XT.i0_eq_t (by decide)) (by decide) (by decide) k) ?_
      show GoesW _ _ _ _ _ _ _ _ (Tq19.setTop (mkF m 49 #[.val (.ref a), .val (.ref sB)] []))
      refine GoesW.via (fun _ k => XT.iconstV Xq19.here hx rfl (0 : Int32) (hb hby d_prog_34_method_3_code_49) (by decide) k) ?_
      show GoesW _ _ _ _ _ _ _ _ (Tq19.setTop (mkF m 50 #[.val (.ref a), .val (.ref sB)] [(.int (0 : Int32))]))
      refine goRetNW Xq19 hx hrt (by simp) hlk Nq19 Sq6 (by rw [eq19]; omega) (by decide) (by decide) (hb hby d_prog_34_method_3_code_50) ?_
      intro hWm
      try rw [eq19]
      refine ⟨?_, Cq6.trans (CHv.at Xq19 hZq6 (ew hw) Cq6.1)⟩
      exact ⟨congrArg (fun z => some (Value.int z)) (Eq.symm (if_neg (fun q => q.elim cq7 cq19))), ((Keep.refl _ []).ext Eq6)⟩
theorem ef_str4_0 (m : MethodId) (a : Nat) (q : Nat) : entryFrame m #[(.ref a), (.ref q), (.int (0 : Int32)), (.int (0 : Int32)), .null] 6 = mkF m 0 #[.val (.ref a), .val (.ref q), .val (.int (0 : Int32)), .val (.int (0 : Int32)), .val .null, .unset] [] := by first | (simp [entryFrame, mkF, argsToLocals, Value.category]; done) | rfl
set_option maxRecDepth 65536 in
set_option maxHeartbeats 40000000 in
theorem str4_0 (l : Launch) (Z : State) (aw : Array Value) (hw : ∀ d ∈ tables_1, d.before aw Z = true) (a : Nat) (q : Nat) {h0 : Heap} {n0 : Nat} (O : Old Z n0 h0) (E : Exa Z h0 a "java/lang/String") (Fv : Fld Z h0 a "java/lang/String" "value" "[B" .null) (Fc : Fld Z h0 a "java/lang/String" "coder" "B" (.int (0 : Int32))) (ga : n0 ≤ a) :
    METW l Z (⟨"java/lang/String", "<init>", "([CIILjava/lang/Void;)V"⟩ : MethodName) jdk_42_method_149_code 6 none ({ frames := 1, cells := 4, slots := 8, locals := 12 } : Room) #[(.ref a), (.ref q), (.int (0 : Int32)), (.int (0 : Int32)), .null] EL [a] h0 n0 (fun vv hh => ∃ b : Nat, ∃ kb : ClassId, vv = none ∧ Keep h0 hh [a] ∧ Exa Z hh a "java/lang/String" ∧ Fld Z hh a "java/lang/String" "value" "[B" (.ref b) ∧ Fld Z hh a "java/lang/String" "coder" "B" (.int (0 : Int32)) ∧ Arv Z hh b kb .byte (0 : Int32) [] (.int (0 : Int32))) := by
  refine metOfW (plainFor_of_name pn_14) ?_
  intro p e s m below meth c T vm0 hx hby hml hrt hlk hnm hZ hown X e0 hS C0 hSL
  replace hml : c.maxLocals = 6 := hml
  replace hnm : meth.name = "<init>" := hnm
  replace hown : vm0.findClass "java/lang/String" = some m.cls := hown
  have N := Fr.nil n0
  have zO := O.le
  refine goCastW (ef_str4_0 m a q) ?_
  have lt_a := lt_nat E.lt
  show GoesW _ _ _ _ _ _ _ _ (T.setTop (mkF m 0 #[.val (.ref a), .val (.ref q), .val (.int (0 : Int32)), .val (.int (0 : Int32)), .val .null, .unset] []))
  refine GoesW.via (fun _ k => XS.aloadN X.here hx rfl (hb hby d_jdk_42_method_149_code_0) rfl rfl k) ?_
  show GoesW _ _ _ _ _ _ _ _ (T.setTop (mkF m 1 #[.val (.ref a), .val (.ref q), .val (.int (0 : Int32)), .val (.int (0 : Int32)), .val .null, .unset] [(.ref a)]))
  obtain ⟨Tq1, Xq1, eq1, stq1⟩ := initO X hx hZ hown (W_15 hw) (W_16 hw) (W_17 hw) e0 (g := (mkF m 1 #[.val (.ref a), .val (.ref q), .val (.int (0 : Int32)), .val (.int (0 : Int32)), .val .null, .unset] [(.ref a)])) rfl (by rw [hml]; rfl) rfl (hb hby d_jdk_42_method_149_code_1) (by decide) (W := 0) (by show 2 * 0 + _ ≤ _; exact Nat.le_of_eq rfl) (by decide)
  refine GoesW.via stq1 ?_
  show GoesW _ _ _ _ _ _ _ _ (Tq1.setTop (mkF m 4 #[.val (.ref a), .val (.ref q), .val (.int (0 : Int32)), .val (.int (0 : Int32)), .val .null, .unset] []))
  refine GoesW.via (fun _ k => XS.iloadN Xq1.here hx rfl (hb hby d_jdk_42_method_149_code_4) rfl k) ?_
  show GoesW _ _ _ _ _ _ _ _ (Tq1.setTop (mkF m 5 #[.val (.ref a), .val (.ref q), .val (.int (0 : Int32)), .val (.int (0 : Int32)), .val .null, .unset] [(.int (0 : Int32))]))
  refine GoesW.via (fun _ k => XS.ifNo Xq1.here hx rfl (hb hby d_jdk_42_method_149_code_5) rfl (XT.i0_ne_f (by decide)) k) ?_
  show GoesW _ _ _ _ _ _ _ _ (Tq1.setTop (mkF m 8 #[.val (.ref a), .val (.ref q), .val (.int (0 : Int32)), .val (.int (0 : Int32)), .val .null, .unset] []))
  refine GoesW.via (fun _ k => XS.aloadN Xq1.here hx rfl (hb hby d_jdk_42_method_149_code_8) rfl rfl k) ?_
  show GoesW _ _ _ _ _ _ _ _ (Tq1.setTop (mkF m 9 #[.val (.ref a), .val (.ref q), .val (.int (0 : Int32)), .val (.int (0 : Int32)), .val .null, .unset] [(.ref a)]))
  obtain ⟨aq2, Tq2, hq2, kq2, wq2, kkq2, Xq2, eq2, Eq2, Sq2, hkq2, hZq2, hownq2, exq2, fcq2, fvq2, vaq2, laq2, lbq2, Rq2, -, sfq2, stq2⟩ := ldcCH Xq1 hx hZ hown (W_18 hw) (strAtoms hw) eq1 hS (by omega) (ew hw) (by decide) C0.1 (vs := []) (z := (0 : Int32)) ⟨by decide +kernel, by decide +kernel⟩ (by decide) (by decide) (g := (mkF m 9 #[.val (.ref a), .val (.ref q), .val (.int (0 : Int32)), .val (.int (0 : Int32)), .val .null, .unset] [(.ref a)])) rfl (hb hby d_jdk_42_method_149_code_9) (n := 0) (by decide +kernel) (by decide) (by decide) (by decide)
  replace laq2 := lt_nat laq2
  replace lbq2 := lt_nat lbq2
  have zq2 := Eq2.1
  have Oq2 := O.ext Eq2
  have Cq2 := C0.trans Rq2
  refine GoesW.via stq2 ?_
  show GoesW _ _ _ _ _ _ _ _ (Tq2.setTop (mkF m 11 #[.val (.ref a), .val (.ref q), .val (.int (0 : Int32)), .val (.int (0 : Int32)), .val .null, .unset] [(.ref aq2), (.ref a)]))
  obtain ⟨Tq3, Xq3, eq3, stq3⟩ := getF Xq2 hx hZq2 hownq2 (host := "") (Or.inl (W_24 hw)) Via.refl eq2 fvq2 (g := (mkF m 11 #[.val (.ref a), .val (.ref q), .val (.int (0 : Int32)), .val (.int (0 : Int32)), .val .null, .unset] [(.ref aq2), (.ref a)])) rfl rfl (hb hby d_jdk_42_method_149_code_11)
  refine GoesW.via stq3 ?_
  show GoesW _ _ _ _ _ _ _ _ (Tq3.setTop (mkF m 14 #[.val (.ref a), .val (.ref q), .val (.int (0 : Int32)), .val (.int (0 : Int32)), .val .null, .unset] [(.ref wq2), (.ref a)]))
  have fq4 : Safe Z EL Tq2.vm hq2 a := (CHr.safe Rq2 (lt_ok (by omega)) (hSL _ (by simp)))
  have nbq2 := ne2_nat (sfq2 _ fq4)
  have fq6 : Fld Z hq2 a "java/lang/String" "value" "[B" .null := (Fv.ext Eq2)
  have fq7 : Exa Z hq2 a "java/lang/String" := (E.ext Eq2)
  obtain ⟨Tq5, hq5, Xq5, eq5, Wq5, stq5⟩ := putF Xq3 hx hZq2 hownq2 (host := "") (Or.inl (W_24 hw)) Via.refl eq3 fq6 fq7 (Or.inr ⟨(W_20 hw), rfl, hnm⟩) (W_5 hw) (ty := (.array .byte)) (by decide) rfl rfl (g := (mkF m 14 #[.val (.ref a), .val (.ref q), .val (.int (0 : Int32)), .val (.int (0 : Int32)), .val .null, .unset] [(.ref wq2), (.ref a)])) rfl rfl (hb hby d_jdk_42_method_149_code_14)
  have Nq5 := Fr.snoc Xq5 N (by omega)
  have zq5 := Wq5.size
  have Oq5 := Oq2.wr Wq5 (by omega)
  have Cq5 := Cq2.trans (CHr.wr Wq5 fq4 Cq2.1)
  have Fq5 : Fld Z hq5 a "java/lang/String" "value" "[B" (.ref wq2) := fq6.same Wq5
  refine GoesW.via stq5 ?_
  show GoesW _ _ _ _ _ _ _ _ (Tq5.setTop (mkF m 17 #[.val (.ref a), .val (.ref q), .val (.int (0 : Int32)), .val (.int (0 : Int32)), .val .null, .unset] []))
  refine GoesW.via (fun _ k => XS.aloadN Xq5.here hx rfl (hb hby d_jdk_42_method_149_code_17) rfl rfl k) ?_
  show GoesW _ _ _ _ _ _ _ _ (Tq5.setTop (mkF m 18 #[.val (.ref a), .val (.ref q), .val (.int (0 : Int32)), .val (.int (0 : Int32)), .val .null, .unset] [(.ref a)]))
  obtain ⟨aq8, Tq8, hq8, kq8, wq8, kkq8, Xq8, eq8, Eq8, Sq8, hkq8, hZq8, hownq8, exq8, fcq8, fvq8, vaq8, laq8, lbq8, Rq8, -, sfq8, stq8⟩ := ldcCH Xq5 hx hZq2 hownq2 (W_18 hw) (strAtoms hw) eq5 Sq2 (by omega) (ew hw) (by decide) Cq5.1 (vs := []) (z := (0 : Int32)) ⟨by decide +kernel, by decide +kernel⟩ (by decide) (by decide) (g := (mkF m 18 #[.val (.ref a), .val (.ref q), .val (.int (0 : Int32)), .val (.int (0 : Int32)), .val .null, .unset] [(.ref a)])) rfl (hb hby d_jdk_42_method_149_code_18) (n := 0) (by decide +kernel) (by decide) (by decide) (by decide)
  replace laq8 := lt_nat laq8
  replace lbq8 := lt_nat lbq8
  have zq8 := Eq8.1
  have Oq8 := Oq5.ext Eq8
  have Cq8 := Cq5.trans Rq8
  refine GoesW.via stq8 ?_
  show GoesW _ _ _ _ _ _ _ _ (Tq8.setTop (mkF m 20 #[.val (.ref a), .val (.ref q), .val (.int (0 : Int32)), .val (.int (0 : Int32)), .val .null, .unset] [(.ref aq8), (.ref a)]))
  obtain ⟨Tq9, Xq9, eq9, stq9⟩ := getF Xq8 hx hZq8 hownq8 (host := "") (Or.inl (W_25 hw)) Via.refl eq8 fcq8 (g := (mkF m 20 #[.val (.ref a), .val (.ref q), .val (.int (0 : Int32)), .val (.int (0 : Int32)), .val .null, .unset] [(.ref aq8), (.ref a)])) rfl rfl (hb hby d_jdk_42_method_149_code_20)
  refine GoesW.via stq9 ?_
  show GoesW _ _ _ _ _ _ _ _ (Tq9.setTop (mkF m 23 #[.val (.ref a), .val (.ref q), .val (.int (0 : Int32)), .val (.int (0 : Int32)), .val .null, .unset] [(.int (0 : Int32)), (.ref a)]))
  have fq11 : Fld Z hq8 a "java/lang/String" "coder" "B" (.int (0 : Int32)) := (((Fc.ext Eq2).other Wq5 (Or.inr (slot_ne (Or.inr (W_21 hw)) (Or.inr (W_20 hw)) (by decide) (t := .byte) (t' := (.array .byte)) (by decide) (by decide)))).ext Eq8)
  have fq12 : Exa Z hq8 a "java/lang/String" := ((fq7.wr Wq5).ext Eq8)
  obtain ⟨Tq10, hq10, Xq10, eq10, Wq10, stq10⟩ := putFN Xq9 hx hZq8 hownq8 (W_25 hw) Via.refl eq9 fq11 fq12 (Or.inr ⟨(W_21 hw), rfl, hnm⟩) (W_5 hw) (ty := .byte) (v' := (.int (0 : Int32))) (by decide) (by rfl) (by decide) (g := (mkF m 23 #[.val (.ref a), .val (.ref q), .val (.int (0 : Int32)), .val (.int (0 : Int32)), .val .null, .unset] [(.int (0 : Int32)), (.ref a)])) rfl rfl (hb hby d_jdk_42_method_149_code_23)
  have Nq10 := Fr.snoc Xq10 Nq5 (by omega)
  have fq13 : Safe Z EL Tq8.vm hq8 a := (CHr.safe Rq8 (lt_ok (by omega)) (Safe.wr Wq5 fq4 Cq2.1 fq4))
  have zq10 := Wq10.size
  have Oq10 := Oq8.wr Wq10 (by omega)
  have Cq10 := Cq8.trans (CHr.wr Wq10 fq13 Cq8.1)
  have Fq10 : Fld Z hq10 a "java/lang/String" "coder" "B" (.int (0 : Int32)) := fq11.same Wq10
  refine GoesW.via stq10 ?_
  show GoesW _ _ _ _ _ _ _ _ (Tq10.setTop (mkF m 26 #[.val (.ref a), .val (.ref q), .val (.int (0 : Int32)), .val (.int (0 : Int32)), .val .null, .unset] []))
  refine goRetVW Xq10 hx hrt hlk Nq10 Sq8 (by rw [eq10]; omega) (by decide) (by decide) (hb hby d_jdk_42_method_149_code_26) ?_
  intro hWm
  try rw [eq10]
  refine ⟨?_, Cq10.trans (CHv.at Xq10 hZq8 (ew hw) Cq10.1)⟩
  have fq14 : Exa Z hq10 a "java/lang/String" := (fq12.wr Wq10)
  have fq15 : Fld Z hq10 a "java/lang/String" "value" "[B" (.ref wq2) := ((Fq5.ext Eq8).other Wq10 (Or.inr (slot_ne (Or.inr (W_20 hw)) (Or.inr (W_21 hw)) (by decide) (t := (.array .byte)) (t' := .byte) (by decide) (by decide))))
  have fq16 : Arv Z hq10 wq2 kkq2 .byte (0 : Int32) [] (.int (0 : Int32)) := (((vaq2.other Wq5 (ne_ok (by omega))).ext Eq8).other Wq10 (ne_ok (by omega)))
  exact ⟨wq2, _, rfl, (((((Keep.refl _ [a]).ext Eq2).wr Wq5 (Or.inl (by simp))).ext Eq8).wr Wq10 (Or.inl (by simp))), fq14, fq15, Fq10, fq16⟩
theorem ef_str_0 (m : MethodId) (a : Nat) (q : Nat) : entryFrame m #[(.ref a), (.ref q)] 2 = mkF m 0 #[.val (.ref a), .val (.ref q)] [] := by first | (simp [entryFrame, mkF, argsToLocals, Value.category]; done) | rfl
set_option maxRecDepth 65536 in
set_option maxHeartbeats 40000000 in
theorem str_0 (l : Launch) (Z : State) (aw : Array Value) (hw : ∀ d ∈ tables_1, d.before aw Z = true) (a : Nat) (q : Nat) (kq : ClassId) {h0 : Heap} {n0 : Nat} (O : Old Z n0 h0) (E : Exa Z h0 a "java/lang/String") (Fv : Fld Z h0 a "java/lang/String" "value" "[B" .null) (Fc : Fld Z h0 a "java/lang/String" "coder" "B" (.int (0 : Int32))) (Vq : Arv Z h0 q kq .char (0 : Int32) [] (.int (0 : Int32))) (ga : n0 ≤ a) :
    METW l Z (⟨"java/lang/String", "<init>", "([C)V"⟩ : MethodName) jdk_42_method_3_code 2 none ({ frames := 2, cells := 4, slots := 8, locals := 40 } : Room) #[(.ref a), (.ref q)] EL [a] h0 n0 (fun vv hh => ∃ b : Nat, ∃ kb : ClassId, vv = none ∧ Keep h0 hh [a] ∧ Exa Z hh a "java/lang/String" ∧ Fld Z hh a "java/lang/String" "value" "[B" (.ref b) ∧ Fld Z hh a "java/lang/String" "coder" "B" (.int (0 : Int32)) ∧ Arv Z hh b kb .byte (0 : Int32) [] (.int (0 : Int32))) := by
  refine metOfW (plainFor_of_name pn_14) ?_
  intro p e s m below meth c T vm0 hx hby hml hrt hlk hnm hZ hown X e0 hS C0 hSL
  replace hml : c.maxLocals = 2 := hml
  replace hnm : meth.name = "<init>" := hnm
  replace hown : vm0.findClass "java/lang/String" = some m.cls := hown
  have N := Fr.nil n0
  have zO := O.le
  refine goCastW (ef_str_0 m a q) ?_
  have lt_a := lt_nat E.lt
  have lt_q := lt_nat Vq.lt
  show GoesW _ _ _ _ _ _ _ _ (T.setTop (mkF m 0 #[.val (.ref a), .val (.ref q)] []))
  refine GoesW.via (fun _ k => XS.aloadN X.here hx rfl (hb hby d_jdk_42_method_3_code_0) rfl rfl k) ?_
  show GoesW _ _ _ _ _ _ _ _ (T.setTop (mkF m 1 #[.val (.ref a), .val (.ref q)] [(.ref a)]))
  refine GoesW.via (fun _ k => XS.aloadN X.here hx rfl (hb hby d_jdk_42_method_3_code_1) rfl rfl k) ?_
  show GoesW _ _ _ _ _ _ _ _ (T.setTop (mkF m 2 #[.val (.ref a), .val (.ref q)] [(.ref q), (.ref a)]))
  refine GoesW.via (fun _ k => XT.iconstV X.here hx rfl (0 : Int32) (hb hby d_jdk_42_method_3_code_2) (by decide) k) ?_
  show GoesW _ _ _ _ _ _ _ _ (T.setTop (mkF m 3 #[.val (.ref a), .val (.ref q)] [(.int (0 : Int32)), (.ref q), (.ref a)]))
  refine GoesW.via (fun _ k => XS.aloadN X.here hx rfl (hb hby d_jdk_42_method_3_code_3) rfl rfl k) ?_
  show GoesW _ _ _ _ _ _ _ _ (T.setTop (mkF m 4 #[.val (.ref a), .val (.ref q)] [(.ref q), (.int (0 : Int32)), (.ref q), (.ref a)]))
  obtain ⟨clq1, Arq1, -, Sq1, Nnq1, -, -⟩ := id Vq
  refine GoesW.via (X.arraylength hx (by rw [e0]; exact Arq1.1) (State.isArrayOf_alike hZ.alike Arq1.2.1) (g := (mkF m 4 #[.val (.ref a), .val (.ref q)] [(.ref q), (.int (0 : Int32)), (.ref q), (.ref a)])) rfl rfl (hb hby d_jdk_42_method_3_code_4)) ?_
  rw [len_of Sq1 Nnq1]
  show GoesW _ _ _ _ _ _ _ _ (T.setTop (mkF m 5 #[.val (.ref a), .val (.ref q)] [(.int (0 : Int32)), (.int (0 : Int32)), (.ref q), (.ref a)]))
  refine GoesW.via (fun _ k => XS.aconstNull X.here hx rfl (hb hby d_jdk_42_method_3_code_5) k) ?_
  show GoesW _ _ _ _ _ _ _ _ (T.setTop (mkF m 6 #[.val (.ref a), .val (.ref q)] [.null, (.int (0 : Int32)), (.int (0 : Int32)), (.ref q), (.ref a)]))
  obtain ⟨vq2, Tq2, Lq2, Xq2, Sq2, hZq2, hownq2, Rq2, qq2, nq2, stq2⟩ := callSpW X hx hZ hown hS (by rw [e0]; omega) (ew hw) C0.1 (allS (lt_ok (by omega)) all0) (allS (hSL _ (by simp)) all0) (str4_0 l Z aw hw a q O E Fv Fc (by omega)) rfl (W_11 hw) (W_12 hw) (W_6 hw) (W_14 hw) (by decide) e0 (by decide) (W := 0) (by decide) (by decide) (by decide) (g := (mkF m 6 #[.val (.ref a), .val (.ref q)] [.null, (.int (0 : Int32)), (.int (0 : Int32)), (.ref q), (.ref a)])) rfl (by rw [hml]; rfl) (a := a) (argsL := [(.ref q), (.int (0 : Int32)), (.int (0 : Int32)), .null]) (rest := []) rfl (lenOf pd_16 rfl) rfl (by show 2 * 0 + _ ≤ _; exact Nat.le_of_eq rfl) (hb hby d_jdk_42_method_3_code_6)
  obtain ⟨xb_q2, xkb_q2, rfl, pq2_0, pq2_1, pq2_2, pq2_3, pq2_4⟩ := qq2
  have Nq2 := Fr.app N nq2
  have zq2 := pq2_0.1
  have Oq2 := O.keep pq2_0 (allS (by omega) all0)
  have Cq2 := C0.trans Rq2
  have ltpq2_1 := lt_nat pq2_1.lt
  have ltpq2_4 := lt_nat pq2_4.lt
  refine GoesW.via stq2 ?_
  show GoesW _ _ _ _ _ _ _ _ (Tq2.setTop (mkF m 9 #[.val (.ref a), .val (.ref q)] []))
  refine goRetVW Xq2 hx hrt hlk Nq2 Sq2 (by omega) (by decide) (by decide) (hb hby d_jdk_42_method_3_code_9) ?_
  intro hWm
  refine ⟨?_, Cq2.trans (CHv.at Xq2 hZq2 (ew hw) Cq2.1)⟩
  exact ⟨xb_q2, _, rfl, ((Keep.refl _ [a]).trans pq2_0 (allS (Or.inl (by simp)) all0)), pq2_1, pq2_2, pq2_3, pq2_4⟩
theorem ef_drawnC (m : MethodId) (x : Int32) : entryFrame m #[(.int x)] 5 = mkF m 0 #[.val (.int x), .unset, .unset, .unset, .unset] [] := by first | (simp [entryFrame, mkF, argsToLocals, Value.category]; done) | rfl
set_option maxRecDepth 65536 in
set_option maxHeartbeats 40000000 in
theorem drawnC_c1 (l : Launch) (Z : State) (aw : Array Value) (hw : ∀ d ∈ tables_1, d.before aw Z = true) (x : Int32) (cz : Int32) (bq2 : Nat) (bq3 : Nat) (kq3 : ClassId) {p : Program} {e : Env} {s : State} {m : MethodId} {args : Array Value} {below : List Frame} {meth : Method} {c : Code} {T : State} {locs : List Loc} {cells slots n0 : Nat} {h0 h1 : Heap} (hx : p.tables.exec = Jvm.exec) (hby : c.code = method_2_code) (hml : c.maxLocals = 5) (hrt : meth.sig.returnType = some (.object "java/lang/String")) (hlk : meth.locks = false) (hnm : meth.name = "drawn") {vm0 vmE : Vm} {k0 : Nat} (hZ : Z.Warmed39 vm0) (hown : vm0.findClass "com/example/vouchsafe/vouchsafe/message/NameIdPolicyAcceptsPinLaw" = some m.cls) (X : Stand p l e ({ frames := 4, cells := 6, slots := 14, locals := 80 } : Room) (s.setVm vm0) m args below meth c T locs cells slots) (e0 : T.heap = h1) (N : Fr n0 locs) (hcells : cells ≤ 2) (hslots : slots ≤ 4) (O : Old Z n0 h1) (hS : s.Since vm0 k0) (hk0 : k0 ≤ h1.size) (C0 : CHr Z EL vmE h0 vm0 h1) (K0 : Keep h0 h1 []) (CS : Sta Z Z.heap "java/lang/String" "COMPACT_STRINGS" "Z" (.int cz)) (pf0 : Exa Z h1 bq2 "java/lang/String") (pf1 : Safe Z EL vm0 h1 bq2) (pf2 : Fld Z h1 bq2 "java/lang/String" "value" "[B" .null) (pf3 : Fld Z h1 bq2 "java/lang/String" "coder" "B" (.int (0 : Int32))) (pf4 : Arv Z h1 bq3 kq3 .char (0 : Int32) [] (.int (0 : Int32))) (hcz : ¬ cz = (0 : Int32)) (cq1 : ((XT.ushr x (24 : Int32)) &&& (3 : Int32)) = (0 : Int32)) (cn1 : n0 ≤ bq2) (cn2 : h0.size ≤ bq2) (cn3 : bq2 < bq3) :
    GoesW p e below s ({ frames := 4, cells := 6, slots := 14, locals := 80 } : Room).cells ({ frames := 4, cells := 6, slots := 14, locals := 80 } : Room).slots n0 (fun v vm h => (fun vv hh => ∃ r : Nat, ∃ tb : Nat, ∃ kt : ClassId, ∃ N1 : Int32, ∃ vs : List Value, vv = some (.ref r) ∧ h0.size ≤ r ∧ Keep h0 hh [] ∧ Exa Z hh r "java/lang/String" ∧ Fld Z hh r "java/lang/String" "value" "[B" (.ref tb) ∧ Fld Z hh r "java/lang/String" "coder" "B" (.int (0 : Int32)) ∧ Arv Z hh tb kt .byte N1 vs (.int (0 : Int32)) ∧ (StrChars.Road.CodA (drw x) 0 N1 vs)) v h ∧ CHr Z EL vmE h0 vm h) (T.setTop (mkF m 46 #[.val (.int x), .val (.int ((XT.ushr x (24 : Int32)) &&& (3 : Int32))), .val (.int (x &&& (255 : Int32))), .val (.int (XT.ushr x (8 : Int32) &&& (255 : Int32))), .val (.int (XT.ushr x (16 : Int32) &&& (255 : Int32)))] [(.ref bq3), (.ref bq2), (.ref bq2)])) := by
  have zO := O.le
  have zK := K0.1
  have lt_bq2 := lt_nat pf0.lt
  have lt_bq3 := lt_nat pf4.lt
  show GoesW _ _ _ _ _ _ _ _ (T.setTop (mkF m 46 #[.val (.int x), .val (.int ((XT.ushr x (24 : Int32)) &&& (3 : Int32))), .val (.int (x &&& (255 : Int32))), .val (.int (XT.ushr x (8 : Int32) &&& (255 : Int32))), .val (.int (XT.ushr x (16 : Int32) &&& (255 : Int32)))] [(.ref bq3), (.ref bq2), (.ref bq2)]))
  obtain ⟨vq8, Tq8, Lq8, Xq8, Sq8, hZq8, hownq8, Rq8, qq8, nq8, stq8⟩ := callSpW X hx hZ hown hS (by rw [e0]; omega) (ew hw) C0.1 (allS (lt_ok (by omega)) all0) (allS pf1 all0) (str_0 l Z aw hw bq2 bq3 kq3 O pf0 pf2 pf3 pf4 (by omega)) rfl (W_8 hw) (W_9 hw) (W_6 hw) (W_10 hw) (by decide) e0 (by decide) (W := 1) (by decide) (by show _ + 4 ≤ 6; omega) (by show _ + 8 ≤ 14; omega) (g := (mkF m 46 #[.val (.int x), .val (.int ((XT.ushr x (24 : Int32)) &&& (3 : Int32))), .val (.int (x &&& (255 : Int32))), .val (.int (XT.ushr x (8 : Int32) &&& (255 : Int32))), .val (.int (XT.ushr x (16 : Int32) &&& (255 : Int32)))] [(.ref bq3), (.ref bq2), (.ref bq2)])) rfl (by rw [hml]; rfl) (a := bq2) (argsL := [(.ref bq3)]) (rest := [(.ref bq2)]) rfl (lenOf pd_18 rfl) rfl (by show 2 * 0 + _ ≤ _; exact Nat.le_of_eq rfl) (hb hby d_method_2_code_46)
  dsimp only at Xq8
  obtain ⟨xb_q8, xkb_q8, rfl, pq8_0, pq8_1, pq8_2, pq8_3, pq8_4⟩ := qq8
  have Nq8 := Fr.app N nq8
  have zq8 := pq8_0.1
  have Oq8 := O.keep pq8_0 (allS (by omega) all0)
  have Cq8 := C0.trans Rq8
  have ltpq8_1 := lt_nat pq8_1.lt
  have ltpq8_4 := lt_nat pq8_4.lt
  refine GoesW.via stq8 ?_
  show GoesW _ _ _ _ _ _ _ _ (Tq8.setTop (mkF m 49 #[.val (.int x), .val (.int ((XT.ushr x (24 : Int32)) &&& (3 : Int32))), .val (.int (x &&& (255 : Int32))), .val (.int (XT.ushr x (8 : Int32) &&& (255 : Int32))), .val (.int (XT.ushr x (16 : Int32) &&& (255 : Int32)))] [(.ref bq2)]))
  refine goRetAW Xq8 hx hrt rfl hlk Nq8 Sq8 (by omega) (by show _ ≤ 6; omega) (by show _ ≤ 14; omega) rfl (hb hby d_method_2_code_49) ?_
  intro hWm
  refine ⟨?_, Cq8.trans (CHv.at Xq8 hZq8 (ew hw) Cq8.1)⟩
  exact ⟨bq2, xb_q8, xkb_q8, (0 : Int32), [], rfl, by omega, (K0.trans pq8_0 (allS (Or.inr (by omega)) all0)), pq8_1, pq8_2, pq8_3, pq8_4, (by rw [drw_0 cq1]; exact cod0)⟩
set_option maxRecDepth 65536 in
set_option maxHeartbeats 40000000 in
theorem drawnC_c2 (l : Launch) (Z : State) (aw : Array Value) (hw : ∀ d ∈ tables_1, d.before aw Z = true) (x : Int32) (cz : Int32) (bq9 : Nat) {p : Program} {e : Env} {s : State} {m : MethodId} {args : Array Value} {below : List Frame} {meth : Method} {c : Code} {T : State} {locs : List Loc} {cells slots n0 : Nat} {h0 h1 : Heap} (hx : p.tables.exec = Jvm.exec) (hby : c.code = method_2_code) (hml : c.maxLocals = 5) (hrt : meth.sig.returnType = some (.object "java/lang/String")) (hlk : meth.locks = false) (hnm : meth.name = "drawn") {vm0 vmE : Vm} {k0 : Nat} (hZ : Z.Warmed39 vm0) (hown : vm0.findClass "com/example/vouchsafe/vouchsafe/message/NameIdPolicyAcceptsPinLaw" = some m.cls) (X : Stand p l e ({ frames := 4, cells := 6, slots := 14, locals := 80 } : Room) (s.setVm vm0) m args below meth c T locs cells slots) (e0 : T.heap = h1) (N : Fr n0 locs) (hcells : cells ≤ 1) (hslots : slots ≤ 4) (O : Old Z n0 h1) (hS : s.Since vm0 k0) (hk0 : k0 ≤ h1.size) (C0 : CHr Z EL vmE h0 vm0 h1) (K0 : Keep h0 h1 []) (CS : Sta Z Z.heap "java/lang/String" "COMPACT_STRINGS" "Z" (.int cz)) (pf0 : Exa Z h1 bq9 "java/lang/String") (pf1 : Safe Z EL vm0 h1 bq9) (pf2 : Fld Z h1 bq9 "java/lang/String" "value" "[B" .null) (pf3 : Fld Z h1 bq9 "java/lang/String" "coder" "B" (.int (0 : Int32))) (hcz : ¬ cz = (0 : Int32)) (cq1 : ¬ (((XT.ushr x (24 : Int32)) &&& (3 : Int32)) = (0 : Int32))) (cq8 : ((XT.ushr x (24 : Int32)) &&& (3 : Int32)) = (1 : Int32)) (cn1 : n0 ≤ bq9) (cn2 : h0.size ≤ bq9) :
    GoesW p e below s ({ frames := 4, cells := 6, slots := 14, locals := 80 } : Room).cells ({ frames := 4, cells := 6, slots := 14, locals := 80 } : Room).slots n0 (fun v vm h => (fun vv hh => ∃ r : Nat, ∃ tb : Nat, ∃ kt : ClassId, ∃ N1 : Int32, ∃ vs : List Value, vv = some (.ref r) ∧ h0.size ≤ r ∧ Keep h0 hh [] ∧ Exa Z hh r "java/lang/String" ∧ Fld Z hh r "java/lang/String" "value" "[B" (.ref tb) ∧ Fld Z hh r "java/lang/String" "coder" "B" (.int (0 : Int32)) ∧ Arv Z hh tb kt .byte N1 vs (.int (0 : Int32)) ∧ (StrChars.Road.CodA (drw x) 0 N1 vs)) v h ∧ CHr Z EL vmE h0 vm h) (T.setTop (mkF m 58 #[.val (.int x), .val (.int ((XT.ushr x (24 : Int32)) &&& (3 : Int32))), .val (.int (x &&& (255 : Int32))), .val (.int (XT.ushr x (8 : Int32) &&& (255 : Int32))), .val (.int (XT.ushr x (16 : Int32) &&& (255 : Int32)))] [(.ref bq9)])) := by
  have zO := O.le
  have zK := K0.1
  have lt_bq9 := lt_nat pf0.lt
  show GoesW _ _ _ _ _ _ _ _ (T.setTop (mkF m 58 #[.val (.int x), .val (.int ((XT.ushr x (24 : Int32)) &&& (3 : Int32))), .val (.int (x &&& (255 : Int32))), .val (.int (XT.ushr x (8 : Int32) &&& (255 : Int32))), .val (.int (XT.ushr x (16 : Int32) &&& (255 : Int32)))] [(.ref bq9)]))
  refine GoesW.via (fun _ k => XS.dup X.here hx rfl (hb hby d_method_2_code_58) rfl rfl k) ?_
  show GoesW _ _ _ _ _ _ _ _ (T.setTop (mkF m 59 #[.val (.int x), .val (.int ((XT.ushr x (24 : Int32)) &&& (3 : Int32))), .val (.int (x &&& (255 : Int32))), .val (.int (XT.ushr x (8 : Int32) &&& (255 : Int32))), .val (.int (XT.ushr x (16 : Int32) &&& (255 : Int32)))] [(.ref bq9), (.ref bq9)]))
  refine GoesW.via (fun _ k => XT.iconstV X.here hx rfl (1 : Int32) (hb hby d_method_2_code_59) (by decide) k) ?_
  show GoesW _ _ _ _ _ _ _ _ (T.setTop (mkF m 60 #[.val (.int x), .val (.int ((XT.ushr x (24 : Int32)) &&& (3 : Int32))), .val (.int (x &&& (255 : Int32))), .val (.int (XT.ushr x (8 : Int32) &&& (255 : Int32))), .val (.int (XT.ushr x (16 : Int32) &&& (255 : Int32)))] [(.int (1 : Int32)), (.ref bq9), (.ref bq9)]))
  obtain ⟨Tq11, hq11, kq11, Xq11, eq11, Eq11, Aq11, stq11⟩ := newP (aty := .char) X hx hZ (W_7 hw) e0 (g := (mkF m 60 #[.val (.int x), .val (.int ((XT.ushr x (24 : Int32)) &&& (3 : Int32))), .val (.int (x &&& (255 : Int32))), .val (.int (XT.ushr x (8 : Int32) &&& (255 : Int32))), .val (.int (XT.ushr x (16 : Int32) &&& (255 : Int32)))] [(.int (1 : Int32)), (.ref bq9), (.ref bq9)])) rfl (hb hby d_method_2_code_60) rfl (by decide) (cap := 1) (by decide) (by decide) (by show _ + 1 ≤ 6; omega) (by show _ + 1 ≤ 14; omega)
  obtain ⟨bq11, gq11⟩ : ∃ z, z = h1.size := ⟨_, rfl⟩
  rw [← gq11] at Aq11 stq11
  have zq11 := Eq11.1
  have Oq11 := O.ext Eq11
  have Cq11 := C0.trans (CHr.ext Eq11 C0.1)
  have Vq11 : Arv Z hq11 bq11 kq11 .char (1 : Int32) [(.int (0 : Int32))] (.int (0 : Int32)) := (Arv.new Aq11 (by decide)).pad (pad_rep [] (.int (0 : Int32)) 1)
  have lq11 := lt_nat Vq11.lt
  refine GoesW.via stq11 ?_
  show GoesW _ _ _ _ _ _ _ _ (Tq11.setTop (mkF m 62 #[.val (.int x), .val (.int ((XT.ushr x (24 : Int32)) &&& (3 : Int32))), .val (.int (x &&& (255 : Int32))), .val (.int (XT.ushr x (8 : Int32) &&& (255 : Int32))), .val (.int (XT.ushr x (16 : Int32) &&& (255 : Int32)))] [(.ref bq11), (.ref bq9), (.ref bq9)]))
  refine GoesW.via (fun _ k => XS.dup Xq11.here hx rfl (hb hby d_method_2_code_62) rfl rfl k) ?_
  show GoesW _ _ _ _ _ _ _ _ (Tq11.setTop (mkF m 63 #[.val (.int x), .val (.int ((XT.ushr x (24 : Int32)) &&& (3 : Int32))), .val (.int (x &&& (255 : Int32))), .val (.int (XT.ushr x (8 : Int32) &&& (255 : Int32))), .val (.int (XT.ushr x (16 : Int32) &&& (255 : Int32)))] [(.ref bq11), (.ref bq11), (.ref bq9), (.ref bq9)]))
  refine GoesW.via (fun _ k => XT.iconstV Xq11.here hx rfl (0 : Int32) (hb hby d_method_2_code_63) (by decide) k) ?_
  show GoesW _ _ _ _ _ _ _ _ (Tq11.setTop (mkF m 64 #[.val (.int x), .val (.int ((XT.ushr x (24 : Int32)) &&& (3 : Int32))), .val (.int (x &&& (255 : Int32))), .val (.int (XT.ushr x (8 : Int32) &&& (255 : Int32))), .val (.int (XT.ushr x (16 : Int32) &&& (255 : Int32)))] [(.int (0 : Int32)), (.ref bq11), (.ref bq11), (.ref bq9), (.ref bq9)]))
  refine GoesW.via (fun _ k => XS.iloadN Xq11.here hx rfl (hb hby d_method_2_code_64) rfl k) ?_
  show GoesW _ _ _ _ _ _ _ _ (Tq11.setTop (mkF m 65 #[.val (.int x), .val (.int ((XT.ushr x (24 : Int32)) &&& (3 : Int32))), .val (.int (x &&& (255 : Int32))), .val (.int (XT.ushr x (8 : Int32) &&& (255 : Int32))), .val (.int (XT.ushr x (16 : Int32) &&& (255 : Int32)))] [(.int (x &&& (255 : Int32))), (.int (0 : Int32)), (.ref bq11), (.ref bq11), (.ref bq9), (.ref bq9)]))
  obtain ⟨clq12, Arq12, qq12, Sq12, Nnq12, Hq12, Gq12⟩ := id Vq11
  have hinq12 : ¬ ((0 : Int32) < 0 ∨ clq12.slots.size ≤ ((0 : Int32)).toNatClampNeg) := inb_of Sq12 ⟨by decide, by decide⟩
  obtain ⟨Tq12, hq12, Xq12, eq12, Wq12, stq12⟩ := stC Xq11 hx hZ eq11 Arq12 (j := (0 : Int32)) hinq12 (g := (mkF m 65 #[.val (.int x), .val (.int ((XT.ushr x (24 : Int32)) &&& (3 : Int32))), .val (.int (x &&& (255 : Int32))), .val (.int (XT.ushr x (8 : Int32) &&& (255 : Int32))), .val (.int (XT.ushr x (16 : Int32) &&& (255 : Int32)))] [(.int (x &&& (255 : Int32))), (.int (0 : Int32)), (.ref bq11), (.ref bq11), (.ref bq9), (.ref bq9)])) rfl rfl (hb hby d_method_2_code_65)
  have Nq12 := Fr.snoc Xq12 N (by omega)
  have zq12 := Wq12.size
  have Oq12 := Oq11.wr Wq12 (by omega)
  have Cq12 := Cq11.trans (CHr.wr Wq12 (Safe.arvO hZ.alike Vq11 (by decide)) Cq11.1)
  have Vq12 : Arv Z hq12 bq11 kq11 .char (1 : Int32) [(.int (nar .char (x &&& (255 : Int32))))] (.int (0 : Int32)) := Arv.set Arq12 qq12 Sq12 Nnq12 Hq12 Gq12 (fits_nar_char _) Wq12 0 rfl (Nat.le_of_ble_eq_true rfl)
  refine GoesW.via stq12 ?_
  show GoesW _ _ _ _ _ _ _ _ (Tq12.setTop (mkF m 66 #[.val (.int x), .val (.int ((XT.ushr x (24 : Int32)) &&& (3 : Int32))), .val (.int (x &&& (255 : Int32))), .val (.int (XT.ushr x (8 : Int32) &&& (255 : Int32))), .val (.int (XT.ushr x (16 : Int32) &&& (255 : Int32)))] [(.ref bq11), (.ref bq9), (.ref bq9)]))
  have VRq13 : Arv Z hq12 bq11 kq11 .char (1 : Int32) [(.int (x &&& (255 : Int32)))] (.int (0 : Int32)) := by
    have q := Vq12
    rw [narc_in (m255_in x)] at q
    exact q
  have fq15 : Exa Z hq12 bq9 "java/lang/String" := ((pf0.ext Eq11).wr Wq12)
  have fq16 : Fld Z hq12 bq9 "java/lang/String" "value" "[B" .null := ((pf2.ext Eq11).other Wq12 (Or.inl (ne_ok (by omega))))
  have fq17 : Fld Z hq12 bq9 "java/lang/String" "coder" "B" (.int (0 : Int32)) := ((pf3.ext Eq11).other Wq12 (Or.inl (ne_ok (by omega))))
  have fq18 : Sta Z hq12 "java/lang/String" "COMPACT_STRINGS" "Z" (.int cz) := (CS.ext Oq12.2)
  obtain ⟨vq14, Tq14, Lq14, Xq14, ⟨rfl, nq14, Kq14, exq14, fcq14, wq14, kkq14, -, hwq14, neq14, fvq14, vaq14⟩, stq14⟩ := callSpB (Qb := fun v h' L => StrChars.Road.QV Z bq9 (1 : Int32) (([(x &&& (255 : Int32))] : List Int32).map fun c => c.toInt8.toInt32) hq12 n0 v h' L) Xq12 hx hZ hown (StrChars.Road.backV (W := 1) hZ (hwStr hw) (kI := 4) (W_5 hw) (cs := ([(x &&& (255 : Int32))] : List Int32)) (bs := (([(x &&& (255 : Int32))] : List Int32).map fun c => c.toInt8.toInt32)) (n := 1) (n0 := n0) (by omega) (by omega) fq15 fq16 fq17 VRq13 fq18 hcz rfl rfl (by decide) (by decide) (chS (m255_in _) ch0) rfl (by decide) (by decide)) rfl (W_8 hw) (W_9 hw) (W_10 hw) (by decide) eq12 (by show _ + 1 ≤ 6; omega) (by show _ + 1 ≤ 14; omega) (g := (mkF m 66 #[.val (.int x), .val (.int ((XT.ushr x (24 : Int32)) &&& (3 : Int32))), .val (.int (x &&& (255 : Int32))), .val (.int (XT.ushr x (8 : Int32) &&& (255 : Int32))), .val (.int (XT.ushr x (16 : Int32) &&& (255 : Int32)))] [(.ref bq11), (.ref bq9), (.ref bq9)])) rfl (by rw [hml]; rfl) (a := bq9) (argsL := [(.ref bq11)]) (rest := [(.ref bq9)]) rfl (lenOf pd_18 rfl) rfl (by show 2 * 0 + _ ≤ _; exact Nat.le_of_eq rfl) (hb hby d_method_2_code_66)
  have Nq14 := Fr.app Nq12 nq14
  have fq19 : Safe Z EL vm0 hq12 bq9 := (Safe.wr Wq12 (Safe.arvO hZ.alike Vq11 (by decide)) Cq11.1 (Safe.ext Eq11 C0.1 pf1))
  have zq14 := Kq14.1
  have Oq14 := Oq12.keep Kq14 (allS (by omega) all0)
  have Cq14 := Cq12.trans (CHr.keep Kq14 (allS fq19 all0) Cq12.1)
  have ltq14 := lt_nat exq14.lt
  have ltbq14 := lt_nat vaq14.lt
  refine GoesW.via stq14 ?_
  show GoesW _ _ _ _ _ _ _ _ (Tq14.setTop (mkF m 69 #[.val (.int x), .val (.int ((XT.ushr x (24 : Int32)) &&& (3 : Int32))), .val (.int (x &&& (255 : Int32))), .val (.int (XT.ushr x (8 : Int32) &&& (255 : Int32))), .val (.int (XT.ushr x (16 : Int32) &&& (255 : Int32)))] [(.ref bq9)]))
  refine goRetAW Xq14 hx hrt rfl hlk Nq14 hS (by omega) (by show _ ≤ 6; omega) (by show _ ≤ 14; omega) rfl (hb hby d_method_2_code_69) ?_
  intro hWm
  refine ⟨?_, Cq14.trans (CHv.at Xq14 hZ (ew hw) Cq14.1)⟩
  exact ⟨bq9, wq14, kkq14, (1 : Int32), ((([(x &&& (255 : Int32))] : List Int32).map fun c => c.toInt8.toInt32).map Value.int), rfl, by omega, (((K0.ext Eq11).wr Wq12 (Or.inr (by omega))).trans Kq14 (allS (Or.inr (by omega)) all0)), exq14, fvq14, fcq14, vaq14, (by rw [drw_1 cq1 cq8]; exact (StrChars.Road.codOf (n := 1) rfl (fun c hc => ((chS (m255_in _) ch0) c hc).2)))⟩
set_option maxRecDepth 65536 in
set_option maxHeartbeats 40000000 in
theorem drawnC_c4 (l : Launch) (Z : State) (aw : Array Value) (hw : ∀ d ∈ tables_1, d.before aw Z = true) (x : Int32) (cz : Int32) (bq12 : Nat) (bq13 : Nat) (kq13 : ClassId) {p : Program} {e : Env} {s : State} {m : MethodId} {args : Array Value} {below : List Frame} {meth : Method} {c : Code} {T : State} {locs : List Loc} {cells slots n0 : Nat} {h0 h1 : Heap} (hx : p.tables.exec = Jvm.exec) (hby : c.code = method_2_code) (hml : c.maxLocals = 5) (hrt : meth.sig.returnType = some (.object "java/lang/String")) (hlk : meth.locks = false) (hnm : meth.name = "drawn") {vm0 vmE : Vm} {k0 : Nat} (hZ : Z.Warmed39 vm0) (hown : vm0.findClass "com/example/vouchsafe/vouchsafe/message/NameIdPolicyAcceptsPinLaw" = some m.cls) (X : Stand p l e ({ frames := 4, cells := 6, slots := 14, locals := 80 } : Room) (s.setVm vm0) m args below meth c T locs cells slots) (e0 : T.heap = h1) (N : Fr n0 locs) (hcells : cells ≤ 2) (hslots : slots ≤ 6) (O : Old Z n0 h1) (hS : s.Since vm0 k0) (hk0 : k0 ≤ h1.size) (C0 : CHr Z EL vmE h0 vm0 h1) (K0 : Keep h0 h1 []) (CS : Sta Z Z.heap "java/lang/String" "COMPACT_STRINGS" "Z" (.int cz)) (pf0 : Exa Z h1 bq12 "java/lang/String") (pf1 : Safe Z EL vm0 h1 bq12) (pf2 : Fld Z h1 bq12 "java/lang/String" "value" "[B" .null) (pf3 : Fld Z h1 bq12 "java/lang/String" "coder" "B" (.int (0 : Int32))) (pf4 : Arv Z h1 bq13 kq13 .char (2 : Int32) [(.int (0 : Int32)), (.int (0 : Int32))] (.int (0 : Int32))) (hcz : ¬ cz = (0 : Int32)) (cq1 : ¬ (((XT.ushr x (24 : Int32)) &&& (3 : Int32)) = (0 : Int32))) (cq8 : ¬ (((XT.ushr x (24 : Int32)) &&& (3 : Int32)) = (1 : Int32))) (cq11 : ((XT.ushr x (24 : Int32)) &&& (3 : Int32)) = (2 : Int32)) (cn1 : n0 ≤ bq12) (cn2 : h0.size ≤ bq12) (cn3 : bq12 < bq13) :
    GoesW p e below s ({ frames := 4, cells := 6, slots := 14, locals := 80 } : Room).cells ({ frames := 4, cells := 6, slots := 14, locals := 80 } : Room).slots n0 (fun v vm h => (fun vv hh => ∃ r : Nat, ∃ tb : Nat, ∃ kt : ClassId, ∃ N1 : Int32, ∃ vs : List Value, vv = some (.ref r) ∧ h0.size ≤ r ∧ Keep h0 hh [] ∧ Exa Z hh r "java/lang/String" ∧ Fld Z hh r "java/lang/String" "value" "[B" (.ref tb) ∧ Fld Z hh r "java/lang/String" "coder" "B" (.int (0 : Int32)) ∧ Arv Z hh tb kt .byte N1 vs (.int (0 : Int32)) ∧ (StrChars.Road.CodA (drw x) 0 N1 vs)) v h ∧ CHr Z EL vmE h0 vm h) (T.setTop (mkF m 82 #[.val (.int x), .val (.int ((XT.ushr x (24 : Int32)) &&& (3 : Int32))), .val (.int (x &&& (255 : Int32))), .val (.int (XT.ushr x (8 : Int32) &&& (255 : Int32))), .val (.int (XT.ushr x (16 : Int32) &&& (255 : Int32)))] [(.ref bq13), (.ref bq12), (.ref bq12)])) := by
  have zO := O.le
  have zK := K0.1
  have lt_bq12 := lt_nat pf0.lt
  have lt_bq13 := lt_nat pf4.lt
  show GoesW _ _ _ _ _ _ _ _ (T.setTop (mkF m 82 #[.val (.int x), .val (.int ((XT.ushr x (24 : Int32)) &&& (3 : Int32))), .val (.int (x &&& (255 : Int32))), .val (.int (XT.ushr x (8 : Int32) &&& (255 : Int32))), .val (.int (XT.ushr x (16 : Int32) &&& (255 : Int32)))] [(.ref bq13), (.ref bq12), (.ref bq12)]))
  refine GoesW.via (fun _ k => XS.dup X.here hx rfl (hb hby d_method_2_code_82) rfl rfl k) ?_
  show GoesW _ _ _ _ _ _ _ _ (T.setTop (mkF m 83 #[.val (.int x), .val (.int ((XT.ushr x (24 : Int32)) &&& (3 : Int32))), .val (.int (x &&& (255 : Int32))), .val (.int (XT.ushr x (8 : Int32) &&& (255 : Int32))), .val (.int (XT.ushr x (16 : Int32) &&& (255 : Int32)))] [(.ref bq13), (.ref bq13), (.ref bq12), (.ref bq12)]))
  refine GoesW.via (fun _ k => XT.iconstV X.here hx rfl (0 : Int32) (hb hby d_method_2_code_83) (by decide) k) ?_
  show GoesW _ _ _ _ _ _ _ _ (T.setTop (mkF m 84 #[.val (.int x), .val (.int ((XT.ushr x (24 : Int32)) &&& (3 : Int32))), .val (.int (x &&& (255 : Int32))), .val (.int (XT.ushr x (8 : Int32) &&& (255 : Int32))), .val (.int (XT.ushr x (16 : Int32) &&& (255 : Int32)))] [(.int (0 : Int32)), (.ref bq13), (.ref bq13), (.ref bq12), (.ref bq12)]))
  refine GoesW.via (fun _ k => XS.iloadN X.here hx rfl (hb hby d_method_2_code_84) rfl k) ?_
  show GoesW _ _ _ _ _ _ _ _ (T.setTop (mkF m 85 #[.val (.int x), .val (.int ((XT.ushr x (24 : Int32)) &&& (3 : Int32))), .val (.int (x &&& (255 : Int32))), .val (.int (XT.ushr x (8 : Int32) &&& (255 : Int32))), .val (.int (XT.ushr x (16 : Int32) &&& (255 : Int32)))] [(.int (x &&& (255 : Int32))), (.int (0 : Int32)), (.ref bq13), (.ref bq13), (.ref bq12), (.ref bq12)]))
  obtain ⟨clq18, Arq18, qq18, Sq18, Nnq18, Hq18, Gq18⟩ := id pf4
  have hinq18 : ¬ ((0 : Int32) < 0 ∨ clq18.slots.size ≤ ((0 : Int32)).toNatClampNeg) := inb_of Sq18 ⟨by decide, by decide⟩
  obtain ⟨Tq18, hq18, Xq18, eq18, Wq18, stq18⟩ := stC X hx hZ e0 Arq18 (j := (0 : Int32)) hinq18 (g := (mkF m 85 #[.val (.int x), .val (.int ((XT.ushr x (24 : Int32)) &&& (3 : Int32))), .val (.int (x &&& (255 : Int32))), .val (.int (XT.ushr x (8 : Int32) &&& (255 : Int32))), .val (.int (XT.ushr x (16 : Int32) &&& (255 : Int32)))] [(.int (x &&& (255 : Int32))), (.int (0 : Int32)), (.ref bq13), (.ref bq13), (.ref bq12), (.ref bq12)])) rfl rfl (hb hby d_method_2_code_85)
  have Nq18 := Fr.snoc Xq18 N (by omega)
  have zq18 := Wq18.size
  have Oq18 := O.wr Wq18 (by omega)
  have Cq18 := C0.trans (CHr.wr Wq18 (Safe.arvO hZ.alike pf4 (by decide)) C0.1)
  have Vq18 : Arv Z hq18 bq13 kq13 .char (2 : Int32) [(.int (nar .char (x &&& (255 : Int32)))), (.int (0 : Int32))] (.int (0 : Int32)) := Arv.set Arq18 qq18 Sq18 Nnq18 Hq18 Gq18 (fits_nar_char _) Wq18 0 rfl (Nat.le_of_ble_eq_true rfl)
  refine GoesW.via stq18 ?_
  show GoesW _ _ _ _ _ _ _ _ (Tq18.setTop (mkF m 86 #[.val (.int x), .val (.int ((XT.ushr x (24 : Int32)) &&& (3 : Int32))), .val (.int (x &&& (255 : Int32))), .val (.int (XT.ushr x (8 : Int32) &&& (255 : Int32))), .val (.int (XT.ushr x (16 : Int32) &&& (255 : Int32)))] [(.ref bq13), (.ref bq12), (.ref bq12)]))
  refine GoesW.via (fun _ k => XS.dup Xq18.here hx rfl (hb hby d_method_2_code_86) rfl rfl k) ?_
  show GoesW _ _ _ _ _ _ _ _ (Tq18.setTop (mkF m 87 #[.val (.int x), .val (.int ((XT.ushr x (24 : Int32)) &&& (3 : Int32))), .val (.int (x &&& (255 : Int32))), .val (.int (XT.ushr x (8 : Int32) &&& (255 : Int32))), .val (.int (XT.ushr x (16 : Int32) &&& (255 : Int32)))] [(.ref bq13), (.ref bq13), (.ref bq12), (.ref bq12)]))
  refine GoesW.via (fun _ k => XT.iconstV Xq18.here hx rfl (1 : Int32) (hb hby d_method_2_code_87) (by decide) k) ?_
  show GoesW _ _ _ _ _ _ _ _ (Tq18.setTop (mkF m 88 #[.val (.int x), .val (.int ((XT.ushr x (24 : Int32)) &&& (3 : Int32))), .val (.int (x &&& (255 : Int32))), .val (.int (XT.ushr x (8 : Int32) &&& (255 : Int32))), .val (.int (XT.ushr x (16 : Int32) &&& (255 : Int32)))] [(.int (1 : Int32)), (.ref bq13), (.ref bq13), (.ref bq12), (.ref bq12)]))
  refine GoesW.via (fun _ k => XS.iloadN Xq18.here hx rfl (hb hby d_method_2_code_88) rfl k) ?_
  show GoesW _ _ _ _ _ _ _ _ (Tq18.setTop (mkF m 89 #[.val (.int x), .val (.int ((XT.ushr x (24 : Int32)) &&& (3 : Int32))), .val (.int (x &&& (255 : Int32))), .val (.int (XT.ushr x (8 : Int32) &&& (255 : Int32))), .val (.int (XT.ushr x (16 : Int32) &&& (255 : Int32)))] [(.int (XT.ushr x (8 : Int32) &&& (255 : Int32))), (.int (1 : Int32)), (.ref bq13), (.ref bq13), (.ref bq12), (.ref bq12)]))
  obtain ⟨clq19, Arq19, qq19, Sq19, Nnq19, Hq19, Gq19⟩ := id Vq18
  have hinq19 : ¬ ((1 : Int32) < 0 ∨ clq19.slots.size ≤ ((1 : Int32)).toNatClampNeg) := inb_of Sq19 ⟨by decide, by decide⟩
  obtain ⟨Tq19, hq19, Xq19, eq19, Wq19, stq19⟩ := stC Xq18 hx hZ eq18 Arq19 (j := (1 : Int32)) hinq19 (g := (mkF m 89 #[.val (.int x), .val (.int ((XT.ushr x (24 : Int32)) &&& (3 : Int32))), .val (.int (x &&& (255 : Int32))), .val (.int (XT.ushr x (8 : Int32) &&& (255 : Int32))), .val (.int (XT.ushr x (16 : Int32) &&& (255 : Int32)))] [(.int (XT.ushr x (8 : Int32) &&& (255 : Int32))), (.int (1 : Int32)), (.ref bq13), (.ref bq13), (.ref bq12), (.ref bq12)])) rfl rfl (hb hby d_method_2_code_89)
  have Nq19 := Fr.snoc Xq19 Nq18 (by omega)
  have zq19 := Wq19.size
  have Oq19 := Oq18.wr Wq19 (by omega)
  have Cq19 := Cq18.trans (CHr.wr Wq19 (Safe.arvO hZ.alike Vq18 (by decide)) Cq18.1)
  have Vq19 : Arv Z hq19 bq13 kq13 .char (2 : Int32) [(.int (nar .char (x &&& (255 : Int32)))), (.int (nar .char (XT.ushr x (8 : Int32) &&& (255 : Int32))))] (.int (0 : Int32)) := Arv.set Arq19 qq19 Sq19 Nnq19 Hq19 Gq19 (fits_nar_char _) Wq19 1 rfl (Nat.le_of_ble_eq_true rfl)
  refine GoesW.via stq19 ?_
  show GoesW _ _ _ _ _ _ _ _ (Tq19.setTop (mkF m 90 #[.val (.int x), .val (.int ((XT.ushr x (24 : Int32)) &&& (3 : Int32))), .val (.int (x &&& (255 : Int32))), .val (.int (XT.ushr x (8 : Int32) &&& (255 : Int32))), .val (.int (XT.ushr x (16 : Int32) &&& (255 : Int32)))] [(.ref bq13), (.ref bq12), (.ref bq12)]))
  have VRq20 : Arv Z hq19 bq13 kq13 .char (2 : Int32) [(.int (x &&& (255 : Int32))), (.int (XT.ushr x (8 : Int32) &&& (255 : Int32)))] (.int (0 : Int32)) := by
    have q := Vq19
    rw [narc_in (m255_in x), narc_in (m255_in (XT.ushr x (8 : Int32)))] at q
    exact q
  have fq22 : Exa Z hq19 bq12 "java/lang/String" := ((pf0.wr Wq18).wr Wq19)
  have fq23 : Fld Z hq19 bq12 "java/lang/String" "value" "[B" .null := ((pf2.other Wq18 (Or.inl (ne_ok (by omega)))).other Wq19 (Or.inl (ne_ok (by omega))))
  have fq24 : Fld Z hq19 bq12 "java/lang/String" "coder" "B" (.int (0 : Int32)) := ((pf3.other Wq18 (Or.inl (ne_ok (by omega)))).other Wq19 (Or.inl (ne_ok (by omega))))
  have fq25 : Sta Z hq19 "java/lang/String" "COMPACT_STRINGS" "Z" (.int cz) := (CS.ext Oq19.2)
  obtain ⟨vq21, Tq21, Lq21, Xq21, ⟨rfl, nq21, Kq21, exq21, fcq21, wq21, kkq21, -, hwq21, neq21, fvq21, vaq21⟩, stq21⟩ := callSpB (Qb := fun v h' L => StrChars.Road.QV Z bq12 (2 : Int32) (([(x &&& (255 : Int32)), (XT.ushr x (8 : Int32) &&& (255 : Int32))] : List Int32).map fun c => c.toInt8.toInt32) hq19 n0 v h' L) Xq19 hx hZ hown (StrChars.Road.backV (W := 1) hZ (hwStr hw) (kI := 4) (W_5 hw) (cs := ([(x &&& (255 : Int32)), (XT.ushr x (8 : Int32) &&& (255 : Int32))] : List Int32)) (bs := (([(x &&& (255 : Int32)), (XT.ushr x (8 : Int32) &&& (255 : Int32))] : List Int32).map fun c => c.toInt8.toInt32)) (n := 2) (n0 := n0) (by omega) (by omega) fq22 fq23 fq24 VRq20 fq25 hcz rfl rfl (by decide) (by decide) (chS (m255_in _) (chS (m255_in _) ch0)) rfl (by decide) (by decide)) rfl (W_8 hw) (W_9 hw) (W_10 hw) (by decide) eq19 (by show _ + 1 ≤ 6; omega) (by show _ + 2 ≤ 14; omega) (g := (mkF m 90 #[.val (.int x), .val (.int ((XT.ushr x (24 : Int32)) &&& (3 : Int32))), .val (.int (x &&& (255 : Int32))), .val (.int (XT.ushr x (8 : Int32) &&& (255 : Int32))), .val (.int (XT.ushr x (16 : Int32) &&& (255 : Int32)))] [(.ref bq13), (.ref bq12), (.ref bq12)])) rfl (by rw [hml]; rfl) (a := bq12) (argsL := [(.ref bq13)]) (rest := [(.ref bq12)]) rfl (lenOf pd_18 rfl) rfl (by show 2 * 0 + _ ≤ _; exact Nat.le_of_eq rfl) (hb hby d_method_2_code_90)
  have Nq21 := Fr.app Nq19 nq21
  have fq26 : Safe Z EL vm0 hq19 bq12 := (Safe.wr Wq19 (Safe.arvO hZ.alike Vq18 (by decide)) Cq18.1 (Safe.wr Wq18 (Safe.arvO hZ.alike pf4 (by decide)) C0.1 pf1))
  have zq21 := Kq21.1
  have Oq21 := Oq19.keep Kq21 (allS (by omega) all0)
  have Cq21 := Cq19.trans (CHr.keep Kq21 (allS fq26 all0) Cq19.1)
  have ltq21 := lt_nat exq21.lt
  have ltbq21 := lt_nat vaq21.lt
  refine GoesW.via stq21 ?_
  show GoesW _ _ _ _ _ _ _ _ (Tq21.setTop (mkF m 93 #[.val (.int x), .val (.int ((XT.ushr x (24 : Int32)) &&& (3 : Int32))), .val (.int (x &&& (255 : Int32))), .val (.int (XT.ushr x (8 : Int32) &&& (255 : Int32))), .val (.int (XT.ushr x (16 : Int32) &&& (255 : Int32)))] [(.ref bq12)]))
  refine goRetAW Xq21 hx hrt rfl hlk Nq21 hS (by omega) (by show _ ≤ 6; omega) (by show _ ≤ 14; omega) rfl (hb hby d_method_2_code_93) ?_
  intro hWm
  refine ⟨?_, Cq21.trans (CHv.at Xq21 hZ (ew hw) Cq21.1)⟩
  exact ⟨bq12, wq21, kkq21, (2 : Int32), ((([(x &&& (255 : Int32)), (XT.ushr x (8 : Int32) &&& (255 : Int32))] : List Int32).map fun c => c.toInt8.toInt32).map Value.int), rfl, by omega, (((K0.wr Wq18 (Or.inr (by omega))).wr Wq19 (Or.inr (by omega))).trans Kq21 (allS (Or.inr (by omega)) all0)), exq21, fvq21, fcq21, vaq21, (by rw [drw_2 cq1 cq8 cq11]; exact (StrChars.Road.codOf (n := 2) rfl (fun c hc => ((chS (m255_in _) (chS (m255_in _) ch0)) c hc).2)))⟩
set_option maxRecDepth 65536 in
set_option maxHeartbeats 40000000 in
theorem drawnC_c5 (l : Launch) (Z : State) (aw : Array Value) (hw : ∀ d ∈ tables_1, d.before aw Z = true) (x : Int32) (cz : Int32) (bq18 : Nat) (bq19 : Nat) (kq19 : ClassId) {p : Program} {e : Env} {s : State} {m : MethodId} {args : Array Value} {below : List Frame} {meth : Method} {c : Code} {T : State} {locs : List Loc} {cells slots n0 : Nat} {h0 h1 : Heap} (hx : p.tables.exec = Jvm.exec) (hby : c.code = method_2_code) (hml : c.maxLocals = 5) (hrt : meth.sig.returnType = some (.object "java/lang/String")) (hlk : meth.locks = false) (hnm : meth.name = "drawn") {vm0 vmE : Vm} {k0 : Nat} (hZ : Z.Warmed39 vm0) (hown : vm0.findClass "com/example/vouchsafe/vouchsafe/message/NameIdPolicyAcceptsPinLaw" = some m.cls) (X : Stand p l e ({ frames := 4, cells := 6, slots := 14, locals := 80 } : Room) (s.setVm vm0) m args below meth c T locs cells slots) (e0 : T.heap = h1) (N : Fr n0 locs) (hcells : cells ≤ 2) (hslots : slots ≤ 7) (O : Old Z n0 h1) (hS : s.Since vm0 k0) (hk0 : k0 ≤ h1.size) (C0 : CHr Z EL vmE h0 vm0 h1) (K0 : Keep h0 h1 []) (CS : Sta Z Z.heap "java/lang/String" "COMPACT_STRINGS" "Z" (.int cz)) (pf0 : Exa Z h1 bq18 "java/lang/String") (pf1 : Safe Z EL vm0 h1 bq18) (pf2 : Fld Z h1 bq18 "java/lang/String" "value" "[B" .null) (pf3 : Fld Z h1 bq18 "java/lang/String" "coder" "B" (.int (0 : Int32))) (pf4 : Arv Z h1 bq19 kq19 .char (3 : Int32) [(.int (0 : Int32)), (.int (0 : Int32)), (.int (0 : Int32))] (.int (0 : Int32))) (hcz : ¬ cz = (0 : Int32)) (cq1 : ¬ (((XT.ushr x (24 : Int32)) &&& (3 : Int32)) = (0 : Int32))) (cq8 : ¬ (((XT.ushr x (24 : Int32)) &&& (3 : Int32)) = (1 : Int32))) (cq11 : ¬ (((XT.ushr x (24 : Int32)) &&& (3 : Int32)) = (2 : Int32))) (cn1 : n0 ≤ bq18) (cn2 : h0.size ≤ bq18) (cn3 : bq18 < bq19) :
    GoesW p e below s ({ frames := 4, cells := 6, slots := 14, locals := 80 } : Room).cells ({ frames := 4, cells := 6, slots := 14, locals := 80 } : Room).slots n0 (fun v vm h => (fun vv hh => ∃ r : Nat, ∃ tb : Nat, ∃ kt : ClassId, ∃ N1 : Int32, ∃ vs : List Value, vv = some (.ref r) ∧ h0.size ≤ r ∧ Keep h0 hh [] ∧ Exa Z hh r "java/lang/String" ∧ Fld Z hh r "java/lang/String" "value" "[B" (.ref tb) ∧ Fld Z hh r "java/lang/String" "coder" "B" (.int (0 : Int32)) ∧ Arv Z hh tb kt .byte N1 vs (.int (0 : Int32)) ∧ (StrChars.Road.CodA (drw x) 0 N1 vs)) v h ∧ CHr Z EL vmE h0 vm h) (T.setTop (mkF m 101 #[.val (.int x), .val (.int ((XT.ushr x (24 : Int32)) &&& (3 : Int32))), .val (.int (x &&& (255 : Int32))), .val (.int (XT.ushr x (8 : Int32) &&& (255 : Int32))), .val (.int (XT.ushr x (16 : Int32) &&& (255 : Int32)))] [(.ref bq19), (.ref bq18), (.ref bq18)])) := by
  have zO := O.le
  have zK := K0.1
  have lt_bq18 := lt_nat pf0.lt
  have lt_bq19 := lt_nat pf4.lt
  show GoesW _ _ _ _ _ _ _ _ (T.setTop (mkF m 101 #[.val (.int x), .val (.int ((XT.ushr x (24 : Int32)) &&& (3 : Int32))), .val (.int (x &&& (255 : Int32))), .val (.int (XT.ushr x (8 : Int32) &&& (255 : Int32))), .val (.int (XT.ushr x (16 : Int32) &&& (255 : Int32)))] [(.ref bq19), (.ref bq18), (.ref bq18)]))
  refine GoesW.via (fun _ k => XS.dup X.here hx rfl (hb hby d_method_2_code_101) rfl rfl k) ?_
  show GoesW _ _ _ _ _ _ _ _ (T.setTop (mkF m 102 #[.val (.int x), .val (.int ((XT.ushr x (24 : Int32)) &&& (3 : Int32))), .val (.int (x &&& (255 : Int32))), .val (.int (XT.ushr x (8 : Int32) &&& (255 : Int32))), .val (.int (XT.ushr x (16 : Int32) &&& (255 : Int32)))] [(.ref bq19), (.ref bq19), (.ref bq18), (.ref bq18)]))
  refine GoesW.via (fun _ k => XT.iconstV X.here hx rfl (0 : Int32) (hb hby d_method_2_code_102) (by decide) k) ?_
  show GoesW _ _ _ _ _ _ _ _ (T.setTop (mkF m 103 #[.val (.int x), .val (.int ((XT.ushr x (24 : Int32)) &&& (3 : Int32))), .val (.int (x &&& (255 : Int32))), .val (.int (XT.ushr x (8 : Int32) &&& (255 : Int32))), .val (.int (XT.ushr x (16 : Int32) &&& (255 : Int32)))] [(.int (0 : Int32)), (.ref bq19), (.ref bq19), (.ref bq18), (.ref bq18)]))
  refine GoesW.via (fun _ k => XS.iloadN X.here hx rfl (hb hby d_method_2_code_103) rfl k) ?_
  show GoesW _ _ _ _ _ _ _ _ (T.setTop (mkF m 104 #[.val (.int x), .val (.int ((XT.ushr x (24 : Int32)) &&& (3 : Int32))), .val (.int (x &&& (255 : Int32))), .val (.int (XT.ushr x (8 : Int32) &&& (255 : Int32))), .val (.int (XT.ushr x (16 : Int32) &&& (255 : Int32)))] [(.int (x &&& (255 : Int32))), (.int (0 : Int32)), (.ref bq19), (.ref bq19), (.ref bq18), (.ref bq18)]))
  obtain ⟨clq24, Arq24, qq24, Sq24, Nnq24, Hq24, Gq24⟩ := id pf4
  have hinq24 : ¬ ((0 : Int32) < 0 ∨ clq24.slots.size ≤ ((0 : Int32)).toNatClampNeg) := inb_of Sq24 ⟨by decide, by decide⟩
  obtain ⟨Tq24, hq24, Xq24, eq24, Wq24, stq24⟩ := stC X hx hZ e0 Arq24 (j := (0 : Int32)) hinq24 (g := (mkF m 104 #[.val (.int x), .val (.int ((XT.ushr x (24 : Int32)) &&& (3 : Int32))), .val (.int (x &&& (255 : Int32))), .val (.int (XT.ushr x (8 : Int32) &&& (255 : Int32))), .val (.int (XT.ushr x (16 : Int32) &&& (255 : Int32)))] [(.int (x &&& (255 : Int32))), (.int (0 : Int32)), (.ref bq19), (.ref bq19), (.ref bq18), (.ref bq18)])) rfl rfl (hb hby d_method_2_code_104)
  have Nq24 := Fr.snoc Xq24 N (by omega)
  have zq24 := Wq24.size
  have Oq24 := O.wr Wq24 (by omega)
  have Cq24 := C0.trans (CHr.wr Wq24 (Safe.arvO hZ.alike pf4 (by decide)) C0.1)
  have Vq24 : Arv Z hq24 bq19 kq19 .char (3 : Int32) [(.int (nar .char (x &&& (255 : Int32)))), (.int (0 : Int32)), (.int (0 : Int32))] (.int (0 : Int32)) := Arv.set Arq24 qq24 Sq24 Nnq24 Hq24 Gq24 (fits_nar_char _) Wq24 0 rfl (Nat.le_of_ble_eq_true rfl)
  refine GoesW.via stq24 ?_
  show GoesW _ _ _ _ _ _ _ _ (Tq24.setTop (mkF m 105 #[.val (.int x), .val (.int ((XT.ushr x (24 : Int32)) &&& (3 : Int32))), .val (.int (x &&& (255 : Int32))), .val (.int (XT.ushr x (8 : Int32) &&& (255 : Int32))), .val (.int (XT.ushr x (16 : Int32) &&& (255 : Int32)))] [(.ref bq19), (.ref bq18), (.ref bq18)]))
  refine GoesW.via (fun _ k => XS.dup Xq24.here hx rfl (hb hby d_method_2_code_105) rfl rfl k) ?_
  show GoesW _ _ _ _ _ _ _ _ (Tq24.setTop (mkF m 106 #[.val (.int x), .val (.int ((XT.ushr x (24 : Int32)) &&& (3 : Int32))), .val (.int (x &&& (255 : Int32))), .val (.int (XT.ushr x (8 : Int32) &&& (255 : Int32))), .val (.int (XT.ushr x (16 : Int32) &&& (255 : Int32)))] [(.ref bq19), (.ref bq19), (.ref bq18), (.ref bq18)]))
  refine GoesW.via (fun _ k => XT.iconstV Xq24.here hx rfl (1 : Int32) (hb hby d_method_2_code_106) (by decide) k) ?_
  show GoesW _ _ _ _ _ _ _ _ (Tq24.setTop (mkF m 107 #[.val (.int x), .val (.int ((XT.ushr x (24 : Int32)) &&& (3 : Int32))), .val (.int (x &&& (255 : Int32))), .val (.int (XT.ushr x (8 : Int32) &&& (255 : Int32))), .val (.int (XT.ushr x (16 : Int32) &&& (255 : Int32)))] [(.int (1 : Int32)), (.ref bq19), (.ref bq19), (.ref bq18), (.ref bq18)]))
  refine GoesW.via (fun _ k => XS.iloadN Xq24.here hx rfl (hb hby d_method_2_code_107) rfl k) ?_
  show GoesW _ _ _ _ _ _ _ _ (Tq24.setTop (mkF m 108 #[.val (.int x), .val (.int ((XT.ushr x (24 : Int32)) &&& (3 : Int32))), .val (.int (x &&& (255 : Int32))), .val (.int (XT.ushr x (8 : Int32) &&& (255 : Int32))), .val (.int (XT.ushr x (16 : Int32) &&& (255 : Int32)))] [(.int (XT.ushr x (8 : Int32) &&& (255 : Int32))), (.int (1 : Int32)), (.ref bq19), (.ref bq19), (.ref bq18), (.ref bq18)]))
  obtain ⟨clq25, Arq25, qq25, Sq25, Nnq25, Hq25, Gq25⟩ := id Vq24
  have hinq25 : ¬ ((1 : Int32) < 0 ∨ clq25.slots.size ≤ ((1 : Int32)).toNatClampNeg) := inb_of Sq25 ⟨by decide, by decide⟩
  obtain ⟨Tq25, hq25, Xq25, eq25, Wq25, stq25⟩ := stC Xq24 hx hZ eq24 Arq25 (j := (1 : Int32)) hinq25 (g := (mkF m 108 #[.val (.int x), .val (.int ((XT.ushr x (24 : Int32)) &&& (3 : Int32))), .val (.int (x &&& (255 : Int32))), .val (.int (XT.ushr x (8 : Int32) &&& (255 : Int32))), .val (.int (XT.ushr x (16 : Int32) &&& (255 : Int32)))] [(.int (XT.ushr x (8 : Int32) &&& (255 : Int32))), (.int (1 : Int32)), (.ref bq19), (.ref bq19), (.ref bq18), (.ref bq18)])) rfl rfl (hb hby d_method_2_code_108)
  have Nq25 := Fr.snoc Xq25 Nq24 (by omega)
  have zq25 := Wq25.size
  have Oq25 := Oq24.wr Wq25 (by omega)
  have Cq25 := Cq24.trans (CHr.wr Wq25 (Safe.arvO hZ.alike Vq24 (by decide)) Cq24.1)
  have Vq25 : Arv Z hq25 bq19 kq19 .char (3 : Int32) [(.int (nar .char (x &&& (255 : Int32)))), (.int (nar .char (XT.ushr x (8 : Int32) &&& (255 : Int32)))), (.int (0 : Int32))] (.int (0 : Int32)) := Arv.set Arq25 qq25 Sq25 Nnq25 Hq25 Gq25 (fits_nar_char _) Wq25 1 rfl (Nat.le_of_ble_eq_true rfl)
  refine GoesW.via stq25 ?_
  show GoesW _ _ _ _ _ _ _ _ (Tq25.setTop (mkF m 109 #[.val (.int x), .val (.int ((XT.ushr x (24 : Int32)) &&& (3 : Int32))), .val (.int (x &&& (255 : Int32))), .val (.int (XT.ushr x (8 : Int32) &&& (255 : Int32))), .val (.int (XT.ushr x (16 : Int32) &&& (255 : Int32)))] [(.ref bq19), (.ref bq18), (.ref bq18)]))
  refine GoesW.via (fun _ k => XS.dup Xq25.here hx rfl (hb hby d_method_2_code_109) rfl rfl k) ?_
  show GoesW _ _ _ _ _ _ _ _ (Tq25.setTop (mkF m 110 #[.val (.int x), .val (.int ((XT.ushr x (24 : Int32)) &&& (3 : Int32))), .val (.int (x &&& (255 : Int32))), .val (.int (XT.ushr x (8 : Int32) &&& (255 : Int32))), .val (.int (XT.ushr x (16 : Int32) &&& (255 : Int32)))] [(.ref bq19), (.ref bq19), (.ref bq18), (.ref bq18)]))
  refine GoesW.via (fun _ k => XT.iconstV Xq25.here hx rfl (2 : Int32) (hb hby d_method_2_code_110) (by decide) k) ?_
  show GoesW _ _ _ _ _ _ _ _ (Tq25.setTop (mkF m 111 #[.val (.int x), .val (.int ((XT.ushr x (24 : Int32)) &&& (3 : Int32))), .val (.int (x &&& (255 : Int32))), .val (.int (XT.ushr x (8 : Int32) &&& (255 : Int32))), .val (.int (XT.ushr x (16 : Int32) &&& (255 : Int32)))] [(.int (2 : Int32)), (.ref bq19), (.ref bq19), (.ref bq18), (.ref bq18)]))
  refine GoesW.via (fun _ k => XS.iload Xq25.here hx rfl (hb hby d_method_2_code_111) rfl k) ?_
  show GoesW _ _ _ _ _ _ _ _ (Tq25.setTop (mkF m 113 #[.val (.int x), .val (.int ((XT.ushr x (24 : Int32)) &&& (3 : Int32))), .val (.int (x &&& (255 : Int32))), .val (.int (XT.ushr x (8 : Int32) &&& (255 : Int32))), .val (.int (XT.ushr x (16 : Int32) &&& (255 : Int32)))] [(.int (XT.ushr x (16 : Int32) &&& (255 : Int32))), (.int (2 : Int32)), (.ref bq19), (.ref bq19), (.ref bq18), (.ref bq18)]))
  obtain ⟨clq26, Arq26, qq26, Sq26, Nnq26, Hq26, Gq26⟩ := id Vq25
  have hinq26 : ¬ ((2 : Int32) < 0 ∨ clq26.slots.size ≤ ((2 : Int32)).toNatClampNeg) := inb_of Sq26 ⟨by decide, by decide⟩
  obtain ⟨Tq26, hq26, Xq26, eq26, Wq26, stq26⟩ := stC Xq25 hx hZ eq25 Arq26 (j := (2 : Int32)) hinq26 (g := (mkF m 113 #[.val (.int x), .val (.int ((XT.ushr x (24 : Int32)) &&& (3 : Int32))), .val (.int (x &&& (255 : Int32))), .val (.int (XT.ushr x (8 : Int32) &&& (255 : Int32))), .val (.int (XT.ushr x (16 : Int32) &&& (255 : Int32)))] [(.int (XT.ushr x (16 : Int32) &&& (255 : Int32))), (.int (2 : Int32)), (.ref bq19), (.ref bq19), (.ref bq18), (.ref bq18)])) rfl rfl (hb hby d_method_2_code_113)
  have Nq26 := Fr.snoc Xq26 Nq25 (by omega)
  have zq26 := Wq26.size
  have Oq26 := Oq25.wr Wq26 (by omega)
  have Cq26 := Cq25.trans (CHr.wr Wq26 (Safe.arvO hZ.alike Vq25 (by decide)) Cq25.1)
  have Vq26 : Arv Z hq26 bq19 kq19 .char (3 : Int32) [(.int (nar .char (x &&& (255 : Int32)))), (.int (nar .char (XT.ushr x (8 : Int32) &&& (255 : Int32)))), (.int (nar .char (XT.ushr x (16 : Int32) &&& (255 : Int32))))] (.int (0 : Int32)) := Arv.set Arq26 qq26 Sq26 Nnq26 Hq26 Gq26 (fits_nar_char _) Wq26 2 rfl (Nat.le_of_ble_eq_true rfl)
  refine GoesW.via stq26 ?_
  show GoesW _ _ _ _ _ _ _ _ (Tq26.setTop (mkF m 114 #[.val (.int x), .val (.int ((XT.ushr x (24 : Int32)) &&& (3 : Int32))), .val (.int (x &&& (255 : Int32))), .val (.int (XT.ushr x (8 : Int32) &&& (255 : Int32))), .val (.int (XT.ushr x (16 : Int32) &&& (255 : Int32)))] [(.ref bq19), (.ref bq18), (.ref bq18)]))
  have VRq27 : Arv Z hq26 bq19 kq19 .char (3 : Int32) [(.int (x &&& (255 : Int32))), (.int (XT.ushr x (8 : Int32) &&& (255 : Int32))), (.int (XT.ushr x (16 : Int32) &&& (255 : Int32)))] (.int (0 : Int32)) := by
    have q := Vq26
    rw [narc_in (m255_in x), narc_in (m255_in (XT.ushr x (8 : Int32))), narc_in (m255_in (XT.ushr x (16 : Int32)))] at q
    exact q
  have fq29 : Exa Z hq26 bq18 "java/lang/String" := (((pf0.wr Wq24).wr Wq25).wr Wq26)
  have fq30 : Fld Z hq26 bq18 "java/lang/String" "value" "[B" .null := (((pf2.other Wq24 (Or.inl (ne_ok (by omega)))).other Wq25 (Or.inl (ne_ok (by omega)))).other Wq26 (Or.inl (ne_ok (by omega))))
  have fq31 : Fld Z hq26 bq18 "java/lang/String" "coder" "B" (.int (0 : Int32)) := (((pf3.other Wq24 (Or.inl (ne_ok (by omega)))).other Wq25 (Or.inl (ne_ok (by omega)))).other Wq26 (Or.inl (ne_ok (by omega))))
  have fq32 : Sta Z hq26 "java/lang/String" "COMPACT_STRINGS" "Z" (.int cz) := (CS.ext Oq26.2)
  obtain ⟨vq28, Tq28, Lq28, Xq28, ⟨rfl, nq28, Kq28, exq28, fcq28, wq28, kkq28, -, hwq28, neq28, fvq28, vaq28⟩, stq28⟩ := callSpB (Qb := fun v h' L => StrChars.Road.QV Z bq18 (3 : Int32) (([(x &&& (255 : Int32)), (XT.ushr x (8 : Int32) &&& (255 : Int32)), (XT.ushr x (16 : Int32) &&& (255 : Int32))] : List Int32).map fun c => c.toInt8.toInt32) hq26 n0 v h' L) Xq26 hx hZ hown (StrChars.Road.backV (W := 1) hZ (hwStr hw) (kI := 4) (W_5 hw) (cs := ([(x &&& (255 : Int32)), (XT.ushr x (8 : Int32) &&& (255 : Int32)), (XT.ushr x (16 : Int32) &&& (255 : Int32))] : List Int32)) (bs := (([(x &&& (255 : Int32)), (XT.ushr x (8 : Int32) &&& (255 : Int32)), (XT.ushr x (16 : Int32) &&& (255 : Int32))] : List Int32).map fun c => c.toInt8.toInt32)) (n := 3) (n0 := n0) (by omega) (by omega) fq29 fq30 fq31 VRq27 fq32 hcz rfl rfl (by decide) (by decide) (chS (m255_in _) (chS (m255_in _) (chS (m255_in _) ch0))) rfl (by decide) (by decide)) rfl (W_8 hw) (W_9 hw) (W_10 hw) (by decide) eq26 (by show _ + 1 ≤ 6; omega) (by show _ + 3 ≤ 14; omega) (g := (mkF m 114 #[.val (.int x), .val (.int ((XT.ushr x (24 : Int32)) &&& (3 : Int32))), .val (.int (x &&& (255 : Int32))), .val (.int (XT.ushr x (8 : Int32) &&& (255 : Int32))), .val (.int (XT.ushr x (16 : Int32) &&& (255 : Int32)))] [(.ref bq19), (.ref bq18), (.ref bq18)])) rfl (by rw [hml]; rfl) (a := bq18) (argsL := [(.ref bq19)]) (rest := [(.ref bq18)]) rfl (lenOf pd_18 rfl) rfl (by show 2 * 0 + _ ≤ _; exact Nat.le_of_eq rfl) (hb hby d_method_2_code_114)
  have Nq28 := Fr.app Nq26 nq28
  have fq33 : Safe Z EL vm0 hq26 bq18 := (Safe.wr Wq26 (Safe.arvO hZ.alike Vq25 (by decide)) Cq25.1 (Safe.wr Wq25 (Safe.arvO hZ.alike Vq24 (by decide)) Cq24.1 (Safe.wr Wq24 (Safe.arvO hZ.alike pf4 (by decide)) C0.1 pf1)))
  have zq28 := Kq28.1
  have Oq28 := Oq26.keep Kq28 (allS (by omega) all0)
  have Cq28 := Cq26.trans (CHr.keep Kq28 (allS fq33 all0) Cq26.1)
  have ltq28 := lt_nat exq28.lt
  have ltbq28 := lt_nat vaq28.lt
  refine GoesW.via stq28 ?_
  show GoesW _ _ _ _ _ _ _ _ (Tq28.setTop (mkF m 117 #[.val (.int x), .val (.int ((XT.ushr x (24 : Int32)) &&& (3 : Int32))), .val (.int (x &&& (255 : Int32))), .val (.int (XT.ushr x (8 : Int32) &&& (255 : Int32))), .val (.int (XT.ushr x (16 : Int32) &&& (255 : Int32)))] [(.ref bq18)]))
  refine goRetAW Xq28 hx hrt rfl hlk Nq28 hS (by omega) (by show _ ≤ 6; omega) (by show _ ≤ 14; omega) rfl (hb hby d_method_2_code_117) ?_
  intro hWm
  refine ⟨?_, Cq28.trans (CHv.at Xq28 hZ (ew hw) Cq28.1)⟩
  exact ⟨bq18, wq28, kkq28, (3 : Int32), ((([(x &&& (255 : Int32)), (XT.ushr x (8 : Int32) &&& (255 : Int32)), (XT.ushr x (16 : Int32) &&& (255 : Int32))] : List Int32).map fun c => c.toInt8.toInt32).map Value.int), rfl, by omega, ((((K0.wr Wq24 (Or.inr (by omega))).wr Wq25 (Or.inr (by omega))).wr Wq26 (Or.inr (by omega))).trans Kq28 (allS (Or.inr (by omega)) all0)), exq28, fvq28, fcq28, vaq28, (by rw [drw_3 cq1 cq8 cq11]; exact (StrChars.Road.codOf (n := 3) rfl (fun c hc => ((chS (m255_in _) (chS (m255_in _) (chS (m255_in _) ch0))) c hc).2)))⟩
set_option maxRecDepth 65536 in
set_option maxHeartbeats 40000000 in
theorem drawnC_c3 (l : Launch) (Z : State) (aw : Array Value) (hw : ∀ d ∈ tables_1, d.before aw Z = true) (x : Int32) (cz : Int32) {p : Program} {e : Env} {s : State} {m : MethodId} {args : Array Value} {below : List Frame} {meth : Method} {c : Code} {T : State} {locs : List Loc} {cells slots n0 : Nat} {h0 h1 : Heap} (hx : p.tables.exec = Jvm.exec) (hby : c.code = method_2_code) (hml : c.maxLocals = 5) (hrt : meth.sig.returnType = some (.object "java/lang/String")) (hlk : meth.locks = false) (hnm : meth.name = "drawn") {vm0 vmE : Vm} {k0 : Nat} (hZ : Z.Warmed39 vm0) (hown : vm0.findClass "com/example/vouchsafe/vouchsafe/message/NameIdPolicyAcceptsPinLaw" = some m.cls) (X : Stand p l e ({ frames := 4, cells := 6, slots := 14, locals := 80 } : Room) (s.setVm vm0) m args below meth c T locs cells slots) (e0 : T.heap = h1) (N : Fr n0 locs) (hcells : cells ≤ 0) (hslots : slots ≤ 0) (O : Old Z n0 h1) (hS : s.Since vm0 k0) (hk0 : k0 ≤ h1.size) (C0 : CHr Z EL vmE h0 vm0 h1) (K0 : Keep h0 h1 []) (CS : Sta Z Z.heap "java/lang/String" "COMPACT_STRINGS" "Z" (.int cz)) (hcz : ¬ cz = (0 : Int32)) (cq1 : ¬ (((XT.ushr x (24 : Int32)) &&& (3 : Int32)) = (0 : Int32))) (cq8 : ¬ (((XT.ushr x (24 : Int32)) &&& (3 : Int32)) = (1 : Int32))) :
    GoesW p e below s ({ frames := 4, cells := 6, slots := 14, locals := 80 } : Room).cells ({ frames := 4, cells := 6, slots := 14, locals := 80 } : Room).slots n0 (fun v vm h => (fun vv hh => ∃ r : Nat, ∃ tb : Nat, ∃ kt : ClassId, ∃ N1 : Int32, ∃ vs : List Value, vv = some (.ref r) ∧ h0.size ≤ r ∧ Keep h0 hh [] ∧ Exa Z hh r "java/lang/String" ∧ Fld Z hh r "java/lang/String" "value" "[B" (.ref tb) ∧ Fld Z hh r "java/lang/String" "coder" "B" (.int (0 : Int32)) ∧ Arv Z hh tb kt .byte N1 vs (.int (0 : Int32)) ∧ (StrChars.Road.CodA (drw x) 0 N1 vs)) v h ∧ CHr Z EL vmE h0 vm h) (T.setTop (mkF m 71 #[.val (.int x), .val (.int ((XT.ushr x (24 : Int32)) &&& (3 : Int32))), .val (.int (x &&& (255 : Int32))), .val (.int (XT.ushr x (8 : Int32) &&& (255 : Int32))), .val (.int (XT.ushr x (16 : Int32) &&& (255 : Int32)))] [(.int ((XT.ushr x (24 : Int32)) &&& (3 : Int32)))])) := by
  have zO := O.le
  have zK := K0.1
  show GoesW _ _ _ _ _ _ _ _ (T.setTop (mkF m 71 #[.val (.int x), .val (.int ((XT.ushr x (24 : Int32)) &&& (3 : Int32))), .val (.int (x &&& (255 : Int32))), .val (.int (XT.ushr x (8 : Int32) &&& (255 : Int32))), .val (.int (XT.ushr x (16 : Int32) &&& (255 : Int32)))] [(.int ((XT.ushr x (24 : Int32)) &&& (3 : Int32)))]))
  refine GoesW.via (fun _ k => XT.iconstV X.here hx rfl (2 : Int32) (hb hby d_method_2_code_71) (by decide) k) ?_
  show GoesW _ _ _ _ _ _ _ _ (T.setTop (mkF m 72 #[.val (.int x), .val (.int ((XT.ushr x (24 : Int32)) &&& (3 : Int32))), .val (.int (x &&& (255 : Int32))), .val (.int (XT.ushr x (8 : Int32) &&& (255 : Int32))), .val (.int (XT.ushr x (16 : Int32) &&& (255 : Int32)))] [(.int (2 : Int32)), (.int ((XT.ushr x (24 : Int32)) &&& (3 : Int32)))]))
  by_cases cq11 : ((XT.ushr x (24 : Int32)) &&& (3 : Int32)) = (2 : Int32)
  · skip
    refine GoesW.via (fun _ k => XS.icmpNo X.here hx rfl (hb hby d_method_2_code_72) rfl (XT.ii_ne_f cq11) k) ?_
    show GoesW _ _ _ _ _ _ _ _ (T.setTop (mkF m 75 #[.val (.int x), .val (.int ((XT.ushr x (24 : Int32)) &&& (3 : Int32))), .val (.int (x &&& (255 : Int32))), .val (.int (XT.ushr x (8 : Int32) &&& (255 : Int32))), .val (.int (XT.ushr x (16 : Int32) &&& (255 : Int32)))] []))
    obtain ⟨Tq12, hq12, Xq12, eq12, Eq12, Aq12, Dq12, -, stq12⟩ := newO X hx hZ hown (W_4 hw) (W_5 hw) (W_6 hw) e0 (g := (mkF m 75 #[.val (.int x), .val (.int ((XT.ushr x (24 : Int32)) &&& (3 : Int32))), .val (.int (x &&& (255 : Int32))), .val (.int (XT.ushr x (8 : Int32) &&& (255 : Int32))), .val (.int (XT.ushr x (16 : Int32) &&& (255 : Int32)))] [])) rfl (hb hby d_method_2_code_75) (by show _ + 1 ≤ 6; omega) (by show _ + 4 ≤ 14; omega)
    obtain ⟨bq12, gq12⟩ : ∃ z, z = h1.size := ⟨_, rfl⟩
    rw [← gq12] at Aq12 Dq12 stq12
    have zq12 := Eq12.1
    have Oq12 := O.ext Eq12
    have Cq12 := C0.trans (CHr.ext Eq12 C0.1)
    have lq12 := lt_nat Aq12.lt
    refine GoesW.via stq12 ?_
    show GoesW _ _ _ _ _ _ _ _ (Tq12.setTop (mkF m 78 #[.val (.int x), .val (.int ((XT.ushr x (24 : Int32)) &&& (3 : Int32))), .val (.int (x &&& (255 : Int32))), .val (.int (XT.ushr x (8 : Int32) &&& (255 : Int32))), .val (.int (XT.ushr x (16 : Int32) &&& (255 : Int32)))] [(.ref bq12)]))
    refine GoesW.via (fun _ k => XS.dup Xq12.here hx rfl (hb hby d_method_2_code_78) rfl rfl k) ?_
    show GoesW _ _ _ _ _ _ _ _ (Tq12.setTop (mkF m 79 #[.val (.int x), .val (.int ((XT.ushr x (24 : Int32)) &&& (3 : Int32))), .val (.int (x &&& (255 : Int32))), .val (.int (XT.ushr x (8 : Int32) &&& (255 : Int32))), .val (.int (XT.ushr x (16 : Int32) &&& (255 : Int32)))] [(.ref bq12), (.ref bq12)]))
    refine GoesW.via (fun _ k => XT.iconstV Xq12.here hx rfl (2 : Int32) (hb hby d_method_2_code_79) (by decide) k) ?_
    show GoesW _ _ _ _ _ _ _ _ (Tq12.setTop (mkF m 80 #[.val (.int x), .val (.int ((XT.ushr x (24 : Int32)) &&& (3 : Int32))), .val (.int (x &&& (255 : Int32))), .val (.int (XT.ushr x (8 : Int32) &&& (255 : Int32))), .val (.int (XT.ushr x (16 : Int32) &&& (255 : Int32)))] [(.int (2 : Int32)), (.ref bq12), (.ref bq12)]))
    obtain ⟨Tq13, hq13, kq13, Xq13, eq13, Eq13, Aq13, stq13⟩ := newP (aty := .char) Xq12 hx hZ (W_7 hw) eq12 (g := (mkF m 80 #[.val (.int x), .val (.int ((XT.ushr x (24 : Int32)) &&& (3 : Int32))), .val (.int (x &&& (255 : Int32))), .val (.int (XT.ushr x (8 : Int32) &&& (255 : Int32))), .val (.int (XT.ushr x (16 : Int32) &&& (255 : Int32)))] [(.int (2 : Int32)), (.ref bq12), (.ref bq12)])) rfl (hb hby d_method_2_code_80) rfl (by decide) (cap := 2) (by decide) (by decide) (by show _ + 1 ≤ 6; omega) (by show _ + 2 ≤ 14; omega)
    obtain ⟨bq13, gq13⟩ : ∃ z, z = hq12.size := ⟨_, rfl⟩
    rw [← gq13] at Aq13 stq13
    have zq13 := Eq13.1
    have Oq13 := Oq12.ext Eq13
    have Cq13 := Cq12.trans (CHr.ext Eq13 Cq12.1)
    have Vq13 : Arv Z hq13 bq13 kq13 .char (2 : Int32) [(.int (0 : Int32)), (.int (0 : Int32))] (.int (0 : Int32)) := (Arv.new Aq13 (by decide)).pad (pad_rep [] (.int (0 : Int32)) 2)
    have lq13 := lt_nat Vq13.lt
    refine GoesW.via stq13 ?_
    show GoesW _ _ _ _ _ _ _ _ (Tq13.setTop (mkF m 82 #[.val (.int x), .val (.int ((XT.ushr x (24 : Int32)) &&& (3 : Int32))), .val (.int (x &&& (255 : Int32))), .val (.int (XT.ushr x (8 : Int32) &&& (255 : Int32))), .val (.int (XT.ushr x (16 : Int32) &&& (255 : Int32)))] [(.ref bq13), (.ref bq12), (.ref bq12)]))
    have fq14 : Exa Z hq13 bq12 "java/lang/String" := (Aq12.ext Eq13)
    have fq15 : Safe Z EL vm0 hq13 bq12 := (Safe.ext Eq13 Cq12.1 (Safe.ext Eq12 C0.1 (Safe.new (Nat.le_of_eq gq12.symm))))
    have fq16 : Fld Z hq13 bq12 "java/lang/String" "value" "[B" .null := ((Dq12 (Or.inr (W_20 hw)) (ty := (.array .byte)) (by decide)).ext Eq13)
    have fq17 : Fld Z hq13 bq12 "java/lang/String" "coder" "B" (.int (0 : Int32)) := ((Dq12 (Or.inr (W_21 hw)) (ty := .byte) (by decide)).ext Eq13)
    exact drawnC_c4 l Z aw hw x cz bq12 bq13 kq13 hx hby hml hrt hlk hnm hZ hown Xq13 eq13 N (by omega) (by omega) Oq13 hS (by omega) Cq13 ((K0.ext Eq12).ext Eq13) CS fq14 fq15 fq16 fq17 Vq13 hcz cq1 cq8 cq11 (by omega) (by omega) (by omega)
  · skip
    refine GoesW.via (fun _ k => XS.icmpYes X.here hx rfl (pc0 := 72) (pc' := 94) rfl (hb hby d_method_2_code_72) rfl (XT.ii_ne_t cq11) (by decide) (by decide) k) ?_
    show GoesW _ _ _ _ _ _ _ _ (T.setTop (mkF m 94 #[.val (.int x), .val (.int ((XT.ushr x (24 : Int32)) &&& (3 : Int32))), .val (.int (x &&& (255 : Int32))), .val (.int (XT.ushr x (8 : Int32) &&& (255 : Int32))), .val (.int (XT.ushr x (16 : Int32) &&& (255 : Int32)))] []))
    obtain ⟨Tq18, hq18, Xq18, eq18, Eq18, Aq18, Dq18, -, stq18⟩ := newO X hx hZ hown (W_4 hw) (W_5 hw) (W_6 hw) e0 (g := (mkF m 94 #[.val (.int x), .val (.int ((XT.ushr x (24 : Int32)) &&& (3 : Int32))), .val (.int (x &&& (255 : Int32))), .val (.int (XT.ushr x (8 : Int32) &&& (255 : Int32))), .val (.int (XT.ushr x (16 : Int32) &&& (255 : Int32)))] [])) rfl (hb hby d_method_2_code_94) (by show _ + 1 ≤ 6; omega) (by show _ + 4 ≤ 14; omega)
    obtain ⟨bq18, gq18⟩ : ∃ z, z = h1.size := ⟨_, rfl⟩
    rw [← gq18] at Aq18 Dq18 stq18
    have zq18 := Eq18.1
    have Oq18 := O.ext Eq18
    have Cq18 := C0.trans (CHr.ext Eq18 C0.1)
    have lq18 := lt_nat Aq18.lt
    refine GoesW.via stq18 ?_
    show GoesW _ _ _ _ _ _ _ _ (Tq18.setTop (mkF m 97 #[.val (.int x), .val (.int ((XT.ushr x (24 : Int32)) &&& (3 : Int32))), .val (.int (x &&& (255 : Int32))), .val (.int (XT.ushr x (8 : Int32) &&& (255 : Int32))), .val (.int (XT.ushr x (16 : Int32) &&& (255 : Int32)))] [(.ref bq18)]))
    refine GoesW.via (fun _ k => XS.dup Xq18.here hx rfl (hb hby d_method_2_code_97) rfl rfl k) ?_
    show GoesW _ _ _ _ _ _ _ _ (Tq18.setTop (mkF m 98 #[.val (.int x), .val (.int ((XT.ushr x (24 : Int32)) &&& (3 : Int32))), .val (.int (x &&& (255 : Int32))), .val (.int (XT.ushr x (8 : Int32) &&& (255 : Int32))), .val (.int (XT.ushr x (16 : Int32) &&& (255 : Int32)))] [(.ref bq18), (.ref bq18)]))
    refine GoesW.via (fun _ k => XT.iconstV Xq18.here hx rfl (3 : Int32) (hb hby d_method_2_code_98) (by decide) k) ?_
    show GoesW _ _ _ _ _ _ _ _ (Tq18.setTop (mkF m 99 #[.val (.int x), .val (.int ((XT.ushr x (24 : Int32)) &&& (3 : Int32))), .val (.int (x &&& (255 : Int32))), .val (.int (XT.ushr x (8 : Int32) &&& (255 : Int32))), .val (.int (XT.ushr x (16 : Int32) &&& (255 : Int32)))] [(.int (3 : Int32)), (.ref bq18), (.ref bq18)]))
    obtain ⟨Tq19, hq19, kq19, Xq19, eq19, Eq19, Aq19, stq19⟩ := newP (aty := .char) Xq18 hx hZ (W_7 hw) eq18 (g := (mkF m 99 #[.val (.int x), .val (.int ((XT.ushr x (24 : Int32)) &&& (3 : Int32))), .val (.int (x &&& (255 : Int32))), .val (.int (XT.ushr x (8 : Int32) &&& (255 : Int32))), .val (.int (XT.ushr x (16 : Int32) &&& (255 : Int32)))] [(.int (3 : Int32)), (.ref bq18), (.ref bq18)])) rfl (hb hby d_method_2_code_99) rfl (by decide) (cap := 3) (by decide) (by decide) (by show _ + 1 ≤ 6; omega) (by show _ + 3 ≤ 14; omega)
    obtain ⟨bq19, gq19⟩ : ∃ z, z = hq18.size := ⟨_, rfl⟩
    rw [← gq19] at Aq19 stq19
    have zq19 := Eq19.1
    have Oq19 := Oq18.ext Eq19
    have Cq19 := Cq18.trans (CHr.ext Eq19 Cq18.1)
    have Vq19 : Arv Z hq19 bq19 kq19 .char (3 : Int32) [(.int (0 : Int32)), (.int (0 : Int32)), (.int (0 : Int32))] (.int (0 : Int32)) := (Arv.new Aq19 (by decide)).pad (pad_rep [] (.int (0 : Int32)) 3)
    have lq19 := lt_nat Vq19.lt
    refine GoesW.via stq19 ?_
    show GoesW _ _ _ _ _ _ _ _ (Tq19.setTop (mkF m 101 #[.val (.int x), .val (.int ((XT.ushr x (24 : Int32)) &&& (3 : Int32))), .val (.int (x &&& (255 : Int32))), .val (.int (XT.ushr x (8 : Int32) &&& (255 : Int32))), .val (.int (XT.ushr x (16 : Int32) &&& (255 : Int32)))] [(.ref bq19), (.ref bq18), (.ref bq18)]))
    have fq20 : Exa Z hq19 bq18 "java/lang/String" := (Aq18.ext Eq19)
    have fq21 : Safe Z EL vm0 hq19 bq18 := (Safe.ext Eq19 Cq18.1 (Safe.ext Eq18 C0.1 (Safe.new (Nat.le_of_eq gq18.symm))))
    have fq22 : Fld Z hq19 bq18 "java/lang/String" "value" "[B" .null := ((Dq18 (Or.inr (W_20 hw)) (ty := (.array .byte)) (by decide)).ext Eq19)
    have fq23 : Fld Z hq19 bq18 "java/lang/String" "coder" "B" (.int (0 : Int32)) := ((Dq18 (Or.inr (W_21 hw)) (ty := .byte) (by decide)).ext Eq19)
    exact drawnC_c5 l Z aw hw x cz bq18 bq19 kq19 hx hby hml hrt hlk hnm hZ hown Xq19 eq19 N (by omega) (by omega) Oq19 hS (by omega) Cq19 ((K0.ext Eq18).ext Eq19) CS fq20 fq21 fq22 fq23 Vq19 hcz cq1 cq8 cq11 (by omega) (by omega) (by omega)
set_option maxRecDepth 65536 in
set_option maxHeartbeats 40000000 in
theorem drawnC (l : Launch) (Z : State) (aw : Array Value) (hw : ∀ d ∈ tables_1, d.before aw Z = true) (x : Int32) (cz : Int32) {h0 : Heap} {n0 : Nat} (O : Old Z n0 h0) (CS : Sta Z Z.heap "java/lang/String" "COMPACT_STRINGS" "Z" (.int cz)) (hcz : ¬ cz = (0 : Int32)) :
    METW l Z (⟨"com/example/vouchsafe/vouchsafe/message/NameIdPolicyAcceptsPinLaw", "drawn", "(I)Ljava/lang/String;"⟩ : MethodName) method_2_code 5 (some (.object "java/lang/String")) ({ frames := 4, cells := 6, slots := 14, locals := 80 } : Room) #[(.int x)] EL [] h0 n0 (fun vv hh => ∃ r : Nat, ∃ tb : Nat, ∃ kt : ClassId, ∃ N1 : Int32, ∃ vs : List Value, vv = some (.ref r) ∧ h0.size ≤ r ∧ Keep h0 hh [] ∧ Exa Z hh r "java/lang/String" ∧ Fld Z hh r "java/lang/String" "value" "[B" (.ref tb) ∧ Fld Z hh r "java/lang/String" "coder" "B" (.int (0 : Int32)) ∧ Arv Z hh tb kt .byte N1 vs (.int (0 : Int32)) ∧ (StrChars.Road.CodA (drw x) 0 N1 vs)) := by
  refine metOfW (plainFor_of_name pn_17) ?_
  intro p e s m below meth c T vm0 hx hby hml hrt hlk hnm hZ hown X e0 hS C0 hSL
  replace hml : c.maxLocals = 5 := hml
  replace hnm : meth.name = "drawn" := hnm
  replace hown : vm0.findClass "com/example/vouchsafe/vouchsafe/message/NameIdPolicyAcceptsPinLaw" = some m.cls := hown
  have N := Fr.nil n0
  have zO := O.le
  refine goCastW (ef_drawnC m x) ?_
  show GoesW _ _ _ _ _ _ _ _ (T.setTop (mkF m 0 #[.val (.int x), .unset, .unset, .unset, .unset] []))
  refine GoesW.via (fun _ k => XS.iloadN X.here hx rfl (hb hby d_method_2_code_0) rfl k) ?_
  show GoesW _ _ _ _ _ _ _ _ (T.setTop (mkF m 1 #[.val (.int x), .unset, .unset, .unset, .unset] [(.int x)]))
  refine GoesW.via (fun _ k => XT.bipushV X.here hx rfl (24 : Int32) (hb hby d_method_2_code_1) (by decide) k) ?_
  show GoesW _ _ _ _ _ _ _ _ (T.setTop (mkF m 3 #[.val (.int x), .unset, .unset, .unset, .unset] [(.int (24 : Int32)), (.int x)]))
  refine GoesW.via (fun _ k => XT.iushr X.here hx rfl (hb hby d_method_2_code_3) rfl k) ?_
  show GoesW _ _ _ _ _ _ _ _ (T.setTop (mkF m 4 #[.val (.int x), .unset, .unset, .unset, .unset] [(.int (XT.ushr x (24 : Int32)))]))
  refine GoesW.via (fun _ k => XT.iconstV X.here hx rfl (3 : Int32) (hb hby d_method_2_code_4) (by decide) k) ?_
  show GoesW _ _ _ _ _ _ _ _ (T.setTop (mkF m 5 #[.val (.int x), .unset, .unset, .unset, .unset] [(.int (3 : Int32)), (.int (XT.ushr x (24 : Int32)))]))
  refine GoesW.via (fun _ k => XS.iand X.here hx rfl (hb hby d_method_2_code_5) rfl k) ?_
  show GoesW _ _ _ _ _ _ _ _ (T.setTop (mkF m 6 #[.val (.int x), .unset, .unset, .unset, .unset] [(.int ((XT.ushr x (24 : Int32)) &&& (3 : Int32)))]))
  refine GoesW.via (fun _ k => XS.istoreN X.here hx rfl (hb hby d_method_2_code_6) rfl (l' := #[.val (.int x), .val (.int ((XT.ushr x (24 : Int32)) &&& (3 : Int32))), .unset, .unset, .unset]) rfl k) ?_
  show GoesW _ _ _ _ _ _ _ _ (T.setTop (mkF m 7 #[.val (.int x), .val (.int ((XT.ushr x (24 : Int32)) &&& (3 : Int32))), .unset, .unset, .unset] []))
  refine GoesW.via (fun _ k => XS.iloadN X.here hx rfl (hb hby d_method_2_code_7) rfl k) ?_
  show GoesW _ _ _ _ _ _ _ _ (T.setTop (mkF m 8 #[.val (.int x), .val (.int ((XT.ushr x (24 : Int32)) &&& (3 : Int32))), .unset, .unset, .unset] [(.int x)]))
  refine GoesW.via (fun _ k => XT.sipushV X.here hx rfl (255 : Int32) (hb hby d_method_2_code_8) (by decide) k) ?_
  show GoesW _ _ _ _ _ _ _ _ (T.setTop (mkF m 11 #[.val (.int x), .val (.int ((XT.ushr x (24 : Int32)) &&& (3 : Int32))), .unset, .unset, .unset] [(.int (255 : Int32)), (.int x)]))
  refine GoesW.via (fun _ k => XS.iand X.here hx rfl (hb hby d_method_2_code_11) rfl k) ?_
  show GoesW _ _ _ _ _ _ _ _ (T.setTop (mkF m 12 #[.val (.int x), .val (.int ((XT.ushr x (24 : Int32)) &&& (3 : Int32))), .unset, .unset, .unset] [(.int (x &&& (255 : Int32)))]))
  refine GoesW.via (fun _ k => XT.i2c X.here hx rfl (hb hby d_method_2_code_12) rfl k) ?_
  show GoesW _ _ _ _ _ _ _ _ (T.setTop (mkF m 13 #[.val (.int x), .val (.int ((XT.ushr x (24 : Int32)) &&& (3 : Int32))), .unset, .unset, .unset] [(.int (x &&& (255 : Int32)).toUInt32.toUInt16.toUInt32.toInt32)]))
  rw [show (x &&& (255 : Int32)).toUInt32.toUInt16.toUInt32.toInt32 = (x &&& (255 : Int32)) from (i2c_in (m255_in _))]
  show GoesW _ _ _ _ _ _ _ _ (T.setTop (mkF m 13 #[.val (.int x), .val (.int ((XT.ushr x (24 : Int32)) &&& (3 : Int32))), .unset, .unset, .unset] [(.int (x &&& (255 : Int32)))]))
  refine GoesW.via (fun _ k => XS.istoreN X.here hx rfl (hb hby d_method_2_code_13) rfl (l' := #[.val (.int x), .val (.int ((XT.ushr x (24 : Int32)) &&& (3 : Int32))), .val (.int (x &&& (255 : Int32))), .unset, .unset]) rfl k) ?_
  show GoesW _ _ _ _ _ _ _ _ (T.setTop (mkF m 14 #[.val (.int x), .val (.int ((XT.ushr x (24 : Int32)) &&& (3 : Int32))), .val (.int (x &&& (255 : Int32))), .unset, .unset] []))
  refine GoesW.via (fun _ k => XS.iloadN X.here hx rfl (hb hby d_method_2_code_14) rfl k) ?_
  show GoesW _ _ _ _ _ _ _ _ (T.setTop (mkF m 15 #[.val (.int x), .val (.int ((XT.ushr x (24 : Int32)) &&& (3 : Int32))), .val (.int (x &&& (255 : Int32))), .unset, .unset] [(.int x)]))
  refine GoesW.via (fun _ k => XT.bipushV X.here hx rfl (8 : Int32) (hb hby d_method_2_code_15) (by decide) k) ?_
  show GoesW _ _ _ _ _ _ _ _ (T.setTop (mkF m 17 #[.val (.int x), .val (.int ((XT.ushr x (24 : Int32)) &&& (3 : Int32))), .val (.int (x &&& (255 : Int32))), .unset, .unset] [(.int (8 : Int32)), (.int x)]))
  refine GoesW.via (fun _ k => XT.iushr X.here hx rfl (hb hby d_method_2_code_17) rfl k) ?_
  show GoesW _ _ _ _ _ _ _ _ (T.setTop (mkF m 18 #[.val (.int x), .val (.int ((XT.ushr x (24 : Int32)) &&& (3 : Int32))), .val (.int (x &&& (255 : Int32))), .unset, .unset] [(.int (XT.ushr x (8 : Int32)))]))
  refine GoesW.via (fun _ k => XT.sipushV X.here hx rfl (255 : Int32) (hb hby d_method_2_code_18) (by decide) k) ?_
  show GoesW _ _ _ _ _ _ _ _ (T.setTop (mkF m 21 #[.val (.int x), .val (.int ((XT.ushr x (24 : Int32)) &&& (3 : Int32))), .val (.int (x &&& (255 : Int32))), .unset, .unset] [(.int (255 : Int32)), (.int (XT.ushr x (8 : Int32)))]))
  refine GoesW.via (fun _ k => XS.iand X.here hx rfl (hb hby d_method_2_code_21) rfl k) ?_
  show GoesW _ _ _ _ _ _ _ _ (T.setTop (mkF m 22 #[.val (.int x), .val (.int ((XT.ushr x (24 : Int32)) &&& (3 : Int32))), .val (.int (x &&& (255 : Int32))), .unset, .unset] [(.int ((XT.ushr x (8 : Int32)) &&& (255 : Int32)))]))
  refine GoesW.via (fun _ k => XT.i2c X.here hx rfl (hb hby d_method_2_code_22) rfl k) ?_
  show GoesW _ _ _ _ _ _ _ _ (T.setTop (mkF m 23 #[.val (.int x), .val (.int ((XT.ushr x (24 : Int32)) &&& (3 : Int32))), .val (.int (x &&& (255 : Int32))), .unset, .unset] [(.int ((XT.ushr x (8 : Int32)) &&& (255 : Int32)).toUInt32.toUInt16.toUInt32.toInt32)]))
  rw [show ((XT.ushr x (8 : Int32)) &&& (255 : Int32)).toUInt32.toUInt16.toUInt32.toInt32 = (XT.ushr x (8 : Int32) &&& (255 : Int32)) from (i2c_in (m255_in _))]
  show GoesW _ _ _ _ _ _ _ _ (T.setTop (mkF m 23 #[.val (.int x), .val (.int ((XT.ushr x (24 : Int32)) &&& (3 : Int32))), .val (.int (x &&& (255 : Int32))), .unset, .unset] [(.int (XT.ushr x (8 : Int32) &&& (255 : Int32)))]))
  refine GoesW.via (fun _ k => XS.istoreN X.here hx rfl (hb hby d_method_2_code_23) rfl (l' := #[.val (.int x), .val (.int ((XT.ushr x (24 : Int32)) &&& (3 : Int32))), .val (.int (x &&& (255 : Int32))), .val (.int (XT.ushr x (8 : Int32) &&& (255 : Int32))), .unset]) rfl k) ?_
  show GoesW _ _ _ _ _ _ _ _ (T.setTop (mkF m 24 #[.val (.int x), .val (.int ((XT.ushr x (24 : Int32)) &&& (3 : Int32))), .val (.int (x &&& (255 : Int32))), .val (.int (XT.ushr x (8 : Int32) &&& (255 : Int32))), .unset] []))
  refine GoesW.via (fun _ k => XS.iloadN X.here hx rfl (hb hby d_method_2_code_24) rfl k) ?_
  show GoesW _ _ _ _ _ _ _ _ (T.setTop (mkF m 25 #[.val (.int x), .val (.int ((XT.ushr x (24 : Int32)) &&& (3 : Int32))), .val (.int (x &&& (255 : Int32))), .val (.int (XT.ushr x (8 : Int32) &&& (255 : Int32))), .unset] [(.int x)]))
  refine GoesW.via (fun _ k => XT.bipushV X.here hx rfl (16 : Int32) (hb hby d_method_2_code_25) (by decide) k) ?_
  show GoesW _ _ _ _ _ _ _ _ (T.setTop (mkF m 27 #[.val (.int x), .val (.int ((XT.ushr x (24 : Int32)) &&& (3 : Int32))), .val (.int (x &&& (255 : Int32))), .val (.int (XT.ushr x (8 : Int32) &&& (255 : Int32))), .unset] [(.int (16 : Int32)), (.int x)]))
  refine GoesW.via (fun _ k => XT.iushr X.here hx rfl (hb hby d_method_2_code_27) rfl k) ?_
  show GoesW _ _ _ _ _ _ _ _ (T.setTop (mkF m 28 #[.val (.int x), .val (.int ((XT.ushr x (24 : Int32)) &&& (3 : Int32))), .val (.int (x &&& (255 : Int32))), .val (.int (XT.ushr x (8 : Int32) &&& (255 : Int32))), .unset] [(.int (XT.ushr x (16 : Int32)))]))
  refine GoesW.via (fun _ k => XT.sipushV X.here hx rfl (255 : Int32) (hb hby d_method_2_code_28) (by decide) k) ?_
  show GoesW _ _ _ _ _ _ _ _ (T.setTop (mkF m 31 #[.val (.int x), .val (.int ((XT.ushr x (24 : Int32)) &&& (3 : Int32))), .val (.int (x &&& (255 : Int32))), .val (.int (XT.ushr x (8 : Int32) &&& (255 : Int32))), .unset] [(.int (255 : Int32)), (.int (XT.ushr x (16 : Int32)))]))
  refine GoesW.via (fun _ k => XS.iand X.here hx rfl (hb hby d_method_2_code_31) rfl k) ?_
  show GoesW _ _ _ _ _ _ _ _ (T.setTop (mkF m 32 #[.val (.int x), .val (.int ((XT.ushr x (24 : Int32)) &&& (3 : Int32))), .val (.int (x &&& (255 : Int32))), .val (.int (XT.ushr x (8 : Int32) &&& (255 : Int32))), .unset] [(.int ((XT.ushr x (16 : Int32)) &&& (255 : Int32)))]))
  refine GoesW.via (fun _ k => XT.i2c X.here hx rfl (hb hby d_method_2_code_32) rfl k) ?_
  show GoesW _ _ _ _ _ _ _ _ (T.setTop (mkF m 33 #[.val (.int x), .val (.int ((XT.ushr x (24 : Int32)) &&& (3 : Int32))), .val (.int (x &&& (255 : Int32))), .val (.int (XT.ushr x (8 : Int32) &&& (255 : Int32))), .unset] [(.int ((XT.ushr x (16 : Int32)) &&& (255 : Int32)).toUInt32.toUInt16.toUInt32.toInt32)]))
  rw [show ((XT.ushr x (16 : Int32)) &&& (255 : Int32)).toUInt32.toUInt16.toUInt32.toInt32 = (XT.ushr x (16 : Int32) &&& (255 : Int32)) from (i2c_in (m255_in _))]
  show GoesW _ _ _ _ _ _ _ _ (T.setTop (mkF m 33 #[.val (.int x), .val (.int ((XT.ushr x (24 : Int32)) &&& (3 : Int32))), .val (.int (x &&& (255 : Int32))), .val (.int (XT.ushr x (8 : Int32) &&& (255 : Int32))), .unset] [(.int (XT.ushr x (16 : Int32) &&& (255 : Int32)))]))
  refine GoesW.via (fun _ k => XS.istore X.here hx rfl (hb hby d_method_2_code_33) rfl (l' := #[.val (.int x), .val (.int ((XT.ushr x (24 : Int32)) &&& (3 : Int32))), .val (.int (x &&& (255 : Int32))), .val (.int (XT.ushr x (8 : Int32) &&& (255 : Int32))), .val (.int (XT.ushr x (16 : Int32) &&& (255 : Int32)))]) rfl k) ?_
  show GoesW _ _ _ _ _ _ _ _ (T.setTop (mkF m 35 #[.val (.int x), .val (.int ((XT.ushr x (24 : Int32)) &&& (3 : Int32))), .val (.int (x &&& (255 : Int32))), .val (.int (XT.ushr x (8 : Int32) &&& (255 : Int32))), .val (.int (XT.ushr x (16 : Int32) &&& (255 : Int32)))] []))
  refine GoesW.via (fun _ k => XS.iloadN X.here hx rfl (hb hby d_method_2_code_35) rfl k) ?_
  show GoesW _ _ _ _ _ _ _ _ (T.setTop (mkF m 36 #[.val (.int x), .val (.int ((XT.ushr x (24 : Int32)) &&& (3 : Int32))), .val (.int (x &&& (255 : Int32))), .val (.int (XT.ushr x (8 : Int32) &&& (255 : Int32))), .val (.int (XT.ushr x (16 : Int32) &&& (255 : Int32)))] [(.int ((XT.ushr x (24 : Int32)) &&& (3 : Int32)))]))
  by_cases cq1 : ((XT.ushr x (24 : Int32)) &&& (3 : Int32)) = (0 : Int32)
  · skip
    refine GoesW.via (fun _ k => XS.ifNo X.here hx rfl (hb hby d_method_2_code_36) rfl (XT.i0_ne_f cq1) k) ?_
    show GoesW _ _ _ _ _ _ _ _ (T.setTop (mkF m 39 #[.val (.int x), .val (.int ((XT.ushr x (24 : Int32)) &&& (3 : Int32))), .val (.int (x &&& (255 : Int32))), .val (.int (XT.ushr x (8 : Int32) &&& (255 : Int32))), .val (.int (XT.ushr x (16 : Int32) &&& (255 : Int32)))] []))
    obtain ⟨Tq2, hq2, Xq2, eq2, Eq2, Aq2, Dq2, -, stq2⟩ := newO X hx hZ hown (W_4 hw) (W_5 hw) (W_6 hw) e0 (g := (mkF m 39 #[.val (.int x), .val (.int ((XT.ushr x (24 : Int32)) &&& (3 : Int32))), .val (.int (x &&& (255 : Int32))), .val (.int (XT.ushr x (8 : Int32) &&& (255 : Int32))), .val (.int (XT.ushr x (16 : Int32) &&& (255 : Int32)))] [])) rfl (hb hby d_method_2_code_39) (by decide) (by decide)
    obtain ⟨bq2, gq2⟩ : ∃ z, z = h0.size := ⟨_, rfl⟩
    rw [← gq2] at Aq2 Dq2 stq2
    have zq2 := Eq2.1
    have Oq2 := O.ext Eq2
    have Cq2 := C0.trans (CHr.ext Eq2 C0.1)
    have lq2 := lt_nat Aq2.lt
    refine GoesW.via stq2 ?_
    show GoesW _ _ _ _ _ _ _ _ (Tq2.setTop (mkF m 42 #[.val (.int x), .val (.int ((XT.ushr x (24 : Int32)) &&& (3 : Int32))), .val (.int (x &&& (255 : Int32))), .val (.int (XT.ushr x (8 : Int32) &&& (255 : Int32))), .val (.int (XT.ushr x (16 : Int32) &&& (255 : Int32)))] [(.ref bq2)]))
    refine GoesW.via (fun _ k => XS.dup Xq2.here hx rfl (hb hby d_method_2_code_42) rfl rfl k) ?_
    show GoesW _ _ _ _ _ _ _ _ (Tq2.setTop (mkF m 43 #[.val (.int x), .val (.int ((XT.ushr x (24 : Int32)) &&& (3 : Int32))), .val (.int (x &&& (255 : Int32))), .val (.int (XT.ushr x (8 : Int32) &&& (255 : Int32))), .val (.int (XT.ushr x (16 : Int32) &&& (255 : Int32)))] [(.ref bq2), (.ref bq2)]))
    refine GoesW.via (fun _ k => XT.iconstV Xq2.here hx rfl (0 : Int32) (hb hby d_method_2_code_43) (by decide) k) ?_
    show GoesW _ _ _ _ _ _ _ _ (Tq2.setTop (mkF m 44 #[.val (.int x), .val (.int ((XT.ushr x (24 : Int32)) &&& (3 : Int32))), .val (.int (x &&& (255 : Int32))), .val (.int (XT.ushr x (8 : Int32) &&& (255 : Int32))), .val (.int (XT.ushr x (16 : Int32) &&& (255 : Int32)))] [(.int (0 : Int32)), (.ref bq2), (.ref bq2)]))
    obtain ⟨Tq3, hq3, kq3, Xq3, eq3, Eq3, Aq3, stq3⟩ := newP (aty := .char) Xq2 hx hZ (W_7 hw) eq2 (g := (mkF m 44 #[.val (.int x), .val (.int ((XT.ushr x (24 : Int32)) &&& (3 : Int32))), .val (.int (x &&& (255 : Int32))), .val (.int (XT.ushr x (8 : Int32) &&& (255 : Int32))), .val (.int (XT.ushr x (16 : Int32) &&& (255 : Int32)))] [(.int (0 : Int32)), (.ref bq2), (.ref bq2)])) rfl (hb hby d_method_2_code_44) rfl (by decide) (cap := 0) (by decide) (by decide) (by decide) (by decide)
    obtain ⟨bq3, gq3⟩ : ∃ z, z = hq2.size := ⟨_, rfl⟩
    rw [← gq3] at Aq3 stq3
    have zq3 := Eq3.1
    have Oq3 := Oq2.ext Eq3
    have Cq3 := Cq2.trans (CHr.ext Eq3 Cq2.1)
    have Vq3 : Arv Z hq3 bq3 kq3 .char (0 : Int32) [] (.int (0 : Int32)) := (Arv.new Aq3 (by decide)).pad (pad_rep [] (.int (0 : Int32)) 0)
    have lq3 := lt_nat Vq3.lt
    refine GoesW.via stq3 ?_
    show GoesW _ _ _ _ _ _ _ _ (Tq3.setTop (mkF m 46 #[.val (.int x), .val (.int ((XT.ushr x (24 : Int32)) &&& (3 : Int32))), .val (.int (x &&& (255 : Int32))), .val (.int (XT.ushr x (8 : Int32) &&& (255 : Int32))), .val (.int (XT.ushr x (16 : Int32) &&& (255 : Int32)))] [(.ref bq3), (.ref bq2), (.ref bq2)]))
    have fq4 : Exa Z hq3 bq2 "java/lang/String" := (Aq2.ext Eq3)
    have fq5 : Safe Z EL vm0 hq3 bq2 := (Safe.ext Eq3 Cq2.1 (Safe.ext Eq2 C0.1 (Safe.new (Nat.le_of_eq gq2.symm))))
    have fq6 : Fld Z hq3 bq2 "java/lang/String" "value" "[B" .null := ((Dq2 (Or.inr (W_20 hw)) (ty := (.array .byte)) (by decide)).ext Eq3)
    have fq7 : Fld Z hq3 bq2 "java/lang/String" "coder" "B" (.int (0 : Int32)) := ((Dq2 (Or.inr (W_21 hw)) (ty := .byte) (by decide)).ext Eq3)
    exact drawnC_c1 l Z aw hw x cz bq2 bq3 kq3 hx hby hml hrt hlk hnm hZ hown Xq3 eq3 N (by decide) (by decide) Oq3 hS (by omega) Cq3 (((Keep.refl _ []).ext Eq2).ext Eq3) CS fq4 fq5 fq6 fq7 Vq3 hcz cq1 (by omega) (by omega) (by omega)
  · skip
    refine GoesW.via (fun _ k => XS.ifYes X.here hx rfl (pc0 := 36) (pc' := 50) rfl (hb hby d_method_2_code_36) rfl (XT.i0_ne_t cq1) (by decide) (by decide) k) ?_
    show GoesW _ _ _ _ _ _ _ _ (T.setTop (mkF m 50 #[.val (.int x), .val (.int ((XT.ushr x (24 : Int32)) &&& (3 : Int32))), .val (.int (x &&& (255 : Int32))), .val (.int (XT.ushr x (8 : Int32) &&& (255 : Int32))), .val (.int (XT.ushr x (16 : Int32) &&& (255 : Int32)))] []))
    refine GoesW.via (fun _ k => XS.iloadN X.here hx rfl (hb hby d_method_2_code_50) rfl k) ?_
    show GoesW _ _ _ _ _ _ _ _ (T.setTop (mkF m 51 #[.val (.int x), .val (.int ((XT.ushr x (24 : Int32)) &&& (3 : Int32))), .val (.int (x &&& (255 : Int32))), .val (.int (XT.ushr x (8 : Int32) &&& (255 : Int32))), .val (.int (XT.ushr x (16 : Int32) &&& (255 : Int32)))] [(.int ((XT.ushr x (24 : Int32)) &&& (3 : Int32)))]))
    refine GoesW.via (fun _ k => XT.iconstV X.here hx rfl (1 : Int32) (hb hby d_method_2_code_51) (by decide) k) ?_
    show GoesW _ _ _ _ _ _ _ _ (T.setTop (mkF m 52 #[.val (.int x), .val (.int ((XT.ushr x (24 : Int32)) &&& (3 : Int32))), .val (.int (x &&& (255 : Int32))), .val (.int (XT.ushr x (8 : Int32) &&& (255 : Int32))), .val (.int (XT.ushr x (16 : Int32) &&& (255 : Int32)))] [(.int (1 : Int32)), (.int ((XT.ushr x (24 : Int32)) &&& (3 : Int32)))]))
    by_cases cq8 : ((XT.ushr x (24 : Int32)) &&& (3 : Int32)) = (1 : Int32)
    · skip
      refine GoesW.via (fun _ k => XS.icmpNo X.here hx rfl (hb hby d_method_2_code_52) rfl (XT.ii_ne_f cq8) k) ?_
      show GoesW _ _ _ _ _ _ _ _ (T.setTop (mkF m 55 #[.val (.int x), .val (.int ((XT.ushr x (24 : Int32)) &&& (3 : Int32))), .val (.int (x &&& (255 : Int32))), .val (.int (XT.ushr x (8 : Int32) &&& (255 : Int32))), .val (.int (XT.ushr x (16 : Int32) &&& (255 : Int32)))] []))
      obtain ⟨Tq9, hq9, Xq9, eq9, Eq9, Aq9, Dq9, -, stq9⟩ := newO X hx hZ hown (W_4 hw) (W_5 hw) (W_6 hw) e0 (g := (mkF m 55 #[.val (.int x), .val (.int ((XT.ushr x (24 : Int32)) &&& (3 : Int32))), .val (.int (x &&& (255 : Int32))), .val (.int (XT.ushr x (8 : Int32) &&& (255 : Int32))), .val (.int (XT.ushr x (16 : Int32) &&& (255 : Int32)))] [])) rfl (hb hby d_method_2_code_55) (by decide) (by decide)
      obtain ⟨bq9, gq9⟩ : ∃ z, z = h0.size := ⟨_, rfl⟩
      rw [← gq9] at Aq9 Dq9 stq9
      have zq9 := Eq9.1
      have Oq9 := O.ext Eq9
      have Cq9 := C0.trans (CHr.ext Eq9 C0.1)
      have lq9 := lt_nat Aq9.lt
      refine GoesW.via stq9 ?_
      show GoesW _ _ _ _ _ _ _ _ (Tq9.setTop (mkF m 58 #[.val (.int x), .val (.int ((XT.ushr x (24 : Int32)) &&& (3 : Int32))), .val (.int (x &&& (255 : Int32))), .val (.int (XT.ushr x (8 : Int32) &&& (255 : Int32))), .val (.int (XT.ushr x (16 : Int32) &&& (255 : Int32)))] [(.ref bq9)]))
      have fq10 : Safe Z EL vm0 hq9 bq9 := (Safe.ext Eq9 C0.1 (Safe.new (Nat.le_of_eq gq9.symm)))
      exact drawnC_c2 l Z aw hw x cz bq9 hx hby hml hrt hlk hnm hZ hown Xq9 eq9 N (by decide) (by decide) Oq9 hS (by omega) Cq9 ((Keep.refl _ []).ext Eq9) CS Aq9 fq10 (Dq9 (Or.inr (W_20 hw)) (ty := (.array .byte)) (by decide)) (Dq9 (Or.inr (W_21 hw)) (ty := .byte) (by decide)) hcz cq1 cq8 (by omega) (by omega)
    · skip
      refine GoesW.via (fun _ k => XS.icmpYes X.here hx rfl (pc0 := 52) (pc' := 70) rfl (hb hby d_method_2_code_52) rfl (XT.ii_ne_t cq8) (by decide) (by decide) k) ?_
      show GoesW _ _ _ _ _ _ _ _ (T.setTop (mkF m 70 #[.val (.int x), .val (.int ((XT.ushr x (24 : Int32)) &&& (3 : Int32))), .val (.int (x &&& (255 : Int32))), .val (.int (XT.ushr x (8 : Int32) &&& (255 : Int32))), .val (.int (XT.ushr x (16 : Int32) &&& (255 : Int32)))] []))
      refine GoesW.via (fun _ k => XS.iloadN X.here hx rfl (hb hby d_method_2_code_70) rfl k) ?_
      show GoesW _ _ _ _ _ _ _ _ (T.setTop (mkF m 71 #[.val (.int x), .val (.int ((XT.ushr x (24 : Int32)) &&& (3 : Int32))), .val (.int (x &&& (255 : Int32))), .val (.int (XT.ushr x (8 : Int32) &&& (255 : Int32))), .val (.int (XT.ushr x (16 : Int32) &&& (255 : Int32)))] [(.int ((XT.ushr x (24 : Int32)) &&& (3 : Int32)))]))
      exact drawnC_c3 l Z aw hw x cz hx hby hml hrt hlk hnm hZ hown X e0 N (by decide) (by decide) O hS (by omega) C0 (Keep.refl _ []) CS hcz cq1 cq8
theorem ef_sameD (m : MethodId) (x : Int32) (y : Int32) : entryFrame m #[(.int x), (.int y)] 5 = mkF m 0 #[.val (.int x), .val (.int y), .unset, .unset, .unset] [] := by first | (simp [entryFrame, mkF, argsToLocals, Value.category]; done) | rfl
set_option maxRecDepth 65536 in
set_option maxHeartbeats 40000000 in
theorem sameD_c6 (l : Launch) (Z : State) (aw : Array Value) (hw : ∀ d ∈ tables_1, d.before aw Z = true) (x : Int32) (y : Int32) {p : Program} {e : Env} {s : State} {m : MethodId} {args : Array Value} {below : List Frame} {meth : Method} {c : Code} {T : State} {locs : List Loc} {cells slots n0 : Nat} {h0 : Heap} (hx : p.tables.exec = Jvm.exec) (hby : c.code = method_3_code) (hml : c.maxLocals = 5) (hrt : meth.sig.returnType = some .boolean) (hlk : meth.locks = false) (hnm : meth.name = "sameDrawn") (hZ : Z.Warmed39 s.vm) (hown : s.vm.findClass "com/example/vouchsafe/vouchsafe/message/NameIdPolicyAcceptsPinLaw" = some m.cls) (X : Stand p l e ({ frames := 0, cells := 0, slots := 0, locals := 0 } : Room) s m args below meth c T locs cells slots) (e0 : T.heap = h0) (N : Fr n0 locs) (hcells : cells ≤ 0) (hslots : slots ≤ 0) (O : Old Z n0 h0) (cq1 : ((XT.ushr x (24 : Int32)) &&& (3 : Int32)) = ((XT.ushr y (24 : Int32)) &&& (3 : Int32))) (cq2 : ((XT.ushr x (24 : Int32)) &&& (3 : Int32)) = (0 : Int32)) :
    Goes p e below s ({ frames := 0, cells := 0, slots := 0, locals := 0 } : Room).cells ({ frames := 0, cells := 0, slots := 0, locals := 0 } : Room).slots n0 (fun vv hh => vv = some (.int (if drw x = drw y then (1 : Int32) else 0)) ∧ hh = h0) (T.setTop (mkF m 28 #[.val (.int x), .val (.int y), .val (.int ((XT.ushr x (24 : Int32)) &&& (3 : Int32))), .val (.int ((XT.ushr y (24 : Int32)) &&& (3 : Int32))), .val (.int (0 : Int32))] [])) := by
  have zO := O.le
  show Goes _ _ _ _ _ _ _ _ (T.setTop (mkF m 28 #[.val (.int x), .val (.int y), .val (.int ((XT.ushr x (24 : Int32)) &&& (3 : Int32))), .val (.int ((XT.ushr y (24 : Int32)) &&& (3 : Int32))), .val (.int (0 : Int32))] []))
  refine Goes.via (fun _ k => XS.goto X.here hx rfl (pc0 := 28) (pc' := 60) rfl (hb hby d_method_3_code_28) (by decide) (by decide) k) ?_
  show Goes _ _ _ _ _ _ _ _ (T.setTop (mkF m 60 #[.val (.int x), .val (.int y), .val (.int ((XT.ushr x (24 : Int32)) &&& (3 : Int32))), .val (.int ((XT.ushr y (24 : Int32)) &&& (3 : Int32))), .val (.int (0 : Int32))] []))
  refine Goes.via (fun _ k => XS.iloadN X.here hx rfl (hb hby d_method_3_code_60) rfl k) ?_
  show Goes _ _ _ _ _ _ _ _ (T.setTop (mkF m 61 #[.val (.int x), .val (.int y), .val (.int ((XT.ushr x (24 : Int32)) &&& (3 : Int32))), .val (.int ((XT.ushr y (24 : Int32)) &&& (3 : Int32))), .val (.int (0 : Int32))] [(.int x)]))
  refine Goes.via (fun _ k => XS.iload X.here hx rfl (hb hby d_method_3_code_61) rfl k) ?_
  show Goes _ _ _ _ _ _ _ _ (T.setTop (mkF m 63 #[.val (.int x), .val (.int y), .val (.int ((XT.ushr x (24 : Int32)) &&& (3 : Int32))), .val (.int ((XT.ushr y (24 : Int32)) &&& (3 : Int32))), .val (.int (0 : Int32))] [(.int (0 : Int32)), (.int x)]))
  refine Goes.via (fun _ k => XS.iand X.here hx rfl (hb hby d_method_3_code_63) rfl k) ?_
  show Goes _ _ _ _ _ _ _ _ (T.setTop (mkF m 64 #[.val (.int x), .val (.int y), .val (.int ((XT.ushr x (24 : Int32)) &&& (3 : Int32))), .val (.int ((XT.ushr y (24 : Int32)) &&& (3 : Int32))), .val (.int (0 : Int32))] [(.int (x &&& (0 : Int32)))]))
  refine Goes.via (fun _ k => XS.iloadN X.here hx rfl (hb hby d_method_3_code_64) rfl k) ?_
  show Goes _ _ _ _ _ _ _ _ (T.setTop (mkF m 65 #[.val (.int x), .val (.int y), .val (.int ((XT.ushr x (24 : Int32)) &&& (3 : Int32))), .val (.int ((XT.ushr y (24 : Int32)) &&& (3 : Int32))), .val (.int (0 : Int32))] [(.int y), (.int (x &&& (0 : Int32)))]))
  refine Goes.via (fun _ k => XS.iload X.here hx rfl (hb hby d_method_3_code_65) rfl k) ?_
  show Goes _ _ _ _ _ _ _ _ (T.setTop (mkF m 67 #[.val (.int x), .val (.int y), .val (.int ((XT.ushr x (24 : Int32)) &&& (3 : Int32))), .val (.int ((XT.ushr y (24 : Int32)) &&& (3 : Int32))), .val (.int (0 : Int32))] [(.int (0 : Int32)), (.int y), (.int (x &&& (0 : Int32)))]))
  refine Goes.via (fun _ k => XS.iand X.here hx rfl (hb hby d_method_3_code_67) rfl k) ?_
  show Goes _ _ _ _ _ _ _ _ (T.setTop (mkF m 68 #[.val (.int x), .val (.int y), .val (.int ((XT.ushr x (24 : Int32)) &&& (3 : Int32))), .val (.int ((XT.ushr y (24 : Int32)) &&& (3 : Int32))), .val (.int (0 : Int32))] [(.int (y &&& (0 : Int32))), (.int (x &&& (0 : Int32)))]))
  refine Goes.via (fun _ k => XS.icmpNo X.here hx rfl (hb hby d_method_3_code_68) rfl (XT.ii_ne_f (and0 _ _)) k) ?_
  show Goes _ _ _ _ _ _ _ _ (T.setTop (mkF m 71 #[.val (.int x), .val (.int y), .val (.int ((XT.ushr x (24 : Int32)) &&& (3 : Int32))), .val (.int ((XT.ushr y (24 : Int32)) &&& (3 : Int32))), .val (.int (0 : Int32))] []))
  refine Goes.via (fun _ k => XT.iconstV X.here hx rfl (1 : Int32) (hb hby d_method_3_code_71) (by decide) k) ?_
  show Goes _ _ _ _ _ _ _ _ (T.setTop (mkF m 72 #[.val (.int x), .val (.int y), .val (.int ((XT.ushr x (24 : Int32)) &&& (3 : Int32))), .val (.int ((XT.ushr y (24 : Int32)) &&& (3 : Int32))), .val (.int (0 : Int32))] [(.int (1 : Int32))]))
  refine Goes.via (fun _ k => XS.goto X.here hx rfl (pc0 := 72) (pc' := 76) rfl (hb hby d_method_3_code_72) (by decide) (by decide) k) ?_
  show Goes _ _ _ _ _ _ _ _ (T.setTop (mkF m 76 #[.val (.int x), .val (.int y), .val (.int ((XT.ushr x (24 : Int32)) &&& (3 : Int32))), .val (.int ((XT.ushr y (24 : Int32)) &&& (3 : Int32))), .val (.int (0 : Int32))] [(.int (1 : Int32))]))
  refine goRetN X hx hrt (by simp) hlk N (by show _ ≤ 0; omega) (by show _ ≤ 0; omega) (hb hby d_method_3_code_76) ?_
  try rw [e0]
  exact ⟨congrArg (fun z => some (Value.int z)) (Eq.symm (if_pos (sd_0 cq1 cq2))), rfl⟩
set_option maxRecDepth 65536 in
set_option maxHeartbeats 40000000 in
theorem sameD_c8 (l : Launch) (Z : State) (aw : Array Value) (hw : ∀ d ∈ tables_1, d.before aw Z = true) (x : Int32) (y : Int32) {p : Program} {e : Env} {s : State} {m : MethodId} {args : Array Value} {below : List Frame} {meth : Method} {c : Code} {T : State} {locs : List Loc} {cells slots n0 : Nat} {h0 : Heap} (hx : p.tables.exec = Jvm.exec) (hby : c.code = method_3_code) (hml : c.maxLocals = 5) (hrt : meth.sig.returnType = some .boolean) (hlk : meth.locks = false) (hnm : meth.name = "sameDrawn") (hZ : Z.Warmed39 s.vm) (hown : s.vm.findClass "com/example/vouchsafe/vouchsafe/message/NameIdPolicyAcceptsPinLaw" = some m.cls) (X : Stand p l e ({ frames := 0, cells := 0, slots := 0, locals := 0 } : Room) s m args below meth c T locs cells slots) (e0 : T.heap = h0) (N : Fr n0 locs) (hcells : cells ≤ 0) (hslots : slots ≤ 0) (O : Old Z n0 h0) (cq1 : ((XT.ushr x (24 : Int32)) &&& (3 : Int32)) = ((XT.ushr y (24 : Int32)) &&& (3 : Int32))) (cq2 : ¬ (((XT.ushr x (24 : Int32)) &&& (3 : Int32)) = (0 : Int32))) (cq3 : ((XT.ushr x (24 : Int32)) &&& (3 : Int32)) = (1 : Int32)) :
    Goes p e below s ({ frames := 0, cells := 0, slots := 0, locals := 0 } : Room).cells ({ frames := 0, cells := 0, slots := 0, locals := 0 } : Room).slots n0 (fun vv hh => vv = some (.int (if drw x = drw y then (1 : Int32) else 0)) ∧ hh = h0) (T.setTop (mkF m 61 #[.val (.int x), .val (.int y), .val (.int ((XT.ushr x (24 : Int32)) &&& (3 : Int32))), .val (.int ((XT.ushr y (24 : Int32)) &&& (3 : Int32))), .val (.int (255 : Int32))] [(.int x)])) := by
  have zO := O.le
  show Goes _ _ _ _ _ _ _ _ (T.setTop (mkF m 61 #[.val (.int x), .val (.int y), .val (.int ((XT.ushr x (24 : Int32)) &&& (3 : Int32))), .val (.int ((XT.ushr y (24 : Int32)) &&& (3 : Int32))), .val (.int (255 : Int32))] [(.int x)]))
  refine Goes.via (fun _ k => XS.iload X.here hx rfl (hb hby d_method_3_code_61) rfl k) ?_
  show Goes _ _ _ _ _ _ _ _ (T.setTop (mkF m 63 #[.val (.int x), .val (.int y), .val (.int ((XT.ushr x (24 : Int32)) &&& (3 : Int32))), .val (.int ((XT.ushr y (24 : Int32)) &&& (3 : Int32))), .val (.int (255 : Int32))] [(.int (255 : Int32)), (.int x)]))
  refine Goes.via (fun _ k => XS.iand X.here hx rfl (hb hby d_method_3_code_63) rfl k) ?_
  show Goes _ _ _ _ _ _ _ _ (T.setTop (mkF m 64 #[.val (.int x), .val (.int y), .val (.int ((XT.ushr x (24 : Int32)) &&& (3 : Int32))), .val (.int ((XT.ushr y (24 : Int32)) &&& (3 : Int32))), .val (.int (255 : Int32))] [(.int (x &&& (255 : Int32)))]))
  refine Goes.via (fun _ k => XS.iloadN X.here hx rfl (hb hby d_method_3_code_64) rfl k) ?_
  show Goes _ _ _ _ _ _ _ _ (T.setTop (mkF m 65 #[.val (.int x), .val (.int y), .val (.int ((XT.ushr x (24 : Int32)) &&& (3 : Int32))), .val (.int ((XT.ushr y (24 : Int32)) &&& (3 : Int32))), .val (.int (255 : Int32))] [(.int y), (.int (x &&& (255 : Int32)))]))
  refine Goes.via (fun _ k => XS.iload X.here hx rfl (hb hby d_method_3_code_65) rfl k) ?_
  show Goes _ _ _ _ _ _ _ _ (T.setTop (mkF m 67 #[.val (.int x), .val (.int y), .val (.int ((XT.ushr x (24 : Int32)) &&& (3 : Int32))), .val (.int ((XT.ushr y (24 : Int32)) &&& (3 : Int32))), .val (.int (255 : Int32))] [(.int (255 : Int32)), (.int y), (.int (x &&& (255 : Int32)))]))
  refine Goes.via (fun _ k => XS.iand X.here hx rfl (hb hby d_method_3_code_67) rfl k) ?_
  show Goes _ _ _ _ _ _ _ _ (T.setTop (mkF m 68 #[.val (.int x), .val (.int y), .val (.int ((XT.ushr x (24 : Int32)) &&& (3 : Int32))), .val (.int ((XT.ushr y (24 : Int32)) &&& (3 : Int32))), .val (.int (255 : Int32))] [(.int (y &&& (255 : Int32))), (.int (x &&& (255 : Int32)))]))
  by_cases cq4 : (x &&& (255 : Int32)) = (y &&& (255 : Int32))
  · skip
    refine Goes.via (fun _ k => XS.icmpNo X.here hx rfl (hb hby d_method_3_code_68) rfl (XT.ii_ne_f cq4) k) ?_
    show Goes _ _ _ _ _ _ _ _ (T.setTop (mkF m 71 #[.val (.int x), .val (.int y), .val (.int ((XT.ushr x (24 : Int32)) &&& (3 : Int32))), .val (.int ((XT.ushr y (24 : Int32)) &&& (3 : Int32))), .val (.int (255 : Int32))] []))
    refine Goes.via (fun _ k => XT.iconstV X.here hx rfl (1 : Int32) (hb hby d_method_3_code_71) (by decide) k) ?_
    show Goes _ _ _ _ _ _ _ _ (T.setTop (mkF m 72 #[.val (.int x), .val (.int y), .val (.int ((XT.ushr x (24 : Int32)) &&& (3 : Int32))), .val (.int ((XT.ushr y (24 : Int32)) &&& (3 : Int32))), .val (.int (255 : Int32))] [(.int (1 : Int32))]))
    refine Goes.via (fun _ k => XS.goto X.here hx rfl (pc0 := 72) (pc' := 76) rfl (hb hby d_method_3_code_72) (by decide) (by decide) k) ?_
    show Goes _ _ _ _ _ _ _ _ (T.setTop (mkF m 76 #[.val (.int x), .val (.int y), .val (.int ((XT.ushr x (24 : Int32)) &&& (3 : Int32))), .val (.int ((XT.ushr y (24 : Int32)) &&& (3 : Int32))), .val (.int (255 : Int32))] [(.int (1 : Int32))]))
    refine goRetN X hx hrt (by simp) hlk N (by show _ ≤ 0; omega) (by show _ ≤ 0; omega) (hb hby d_method_3_code_76) ?_
    try rw [e0]
    exact ⟨congrArg (fun z => some (Value.int z)) (Eq.symm (if_pos ((sd_1 cq1 cq2 cq3).mp cq4))), rfl⟩
  · skip
    refine Goes.via (fun _ k => XS.icmpYes X.here hx rfl (pc0 := 68) (pc' := 75) rfl (hb hby d_method_3_code_68) rfl (XT.ii_ne_t cq4) (by decide) (by decide) k) ?_
    show Goes _ _ _ _ _ _ _ _ (T.setTop (mkF m 75 #[.val (.int x), .val (.int y), .val (.int ((XT.ushr x (24 : Int32)) &&& (3 : Int32))), .val (.int ((XT.ushr y (24 : Int32)) &&& (3 : Int32))), .val (.int (255 : Int32))] []))
    refine Goes.via (fun _ k => XT.iconstV X.here hx rfl (0 : Int32) (hb hby d_method_3_code_75) (by decide) k) ?_
    show Goes _ _ _ _ _ _ _ _ (T.setTop (mkF m 76 #[.val (.int x), .val (.int y), .val (.int ((XT.ushr x (24 : Int32)) &&& (3 : Int32))), .val (.int ((XT.ushr y (24 : Int32)) &&& (3 : Int32))), .val (.int (255 : Int32))] [(.int (0 : Int32))]))
    refine goRetN X hx hrt (by simp) hlk N (by show _ ≤ 0; omega) (by show _ ≤ 0; omega) (hb hby d_method_3_code_76) ?_
    try rw [e0]
    exact ⟨congrArg (fun z => some (Value.int z)) (Eq.symm (if_neg (fun q => cq4 ((sd_1 cq1 cq2 cq3).mpr q)))), rfl⟩
set_option maxRecDepth 65536 in
set_option maxHeartbeats 40000000 in
theorem sameD_c9 (l : Launch) (Z : State) (aw : Array Value) (hw : ∀ d ∈ tables_1, d.before aw Z = true) (x : Int32) (y : Int32) {p : Program} {e : Env} {s : State} {m : MethodId} {args : Array Value} {below : List Frame} {meth : Method} {c : Code} {T : State} {locs : List Loc} {cells slots n0 : Nat} {h0 : Heap} (hx : p.tables.exec = Jvm.exec) (hby : c.code = method_3_code) (hml : c.maxLocals = 5) (hrt : meth.sig.returnType = some .boolean) (hlk : meth.locks = false) (hnm : meth.name = "sameDrawn") (hZ : Z.Warmed39 s.vm) (hown : s.vm.findClass "com/example/vouchsafe/vouchsafe/message/NameIdPolicyAcceptsPinLaw" = some m.cls) (X : Stand p l e ({ frames := 0, cells := 0, slots := 0, locals := 0 } : Room) s m args below meth c T locs cells slots) (e0 : T.heap = h0) (N : Fr n0 locs) (hcells : cells ≤ 0) (hslots : slots ≤ 0) (O : Old Z n0 h0) (cq1 : ((XT.ushr x (24 : Int32)) &&& (3 : Int32)) = ((XT.ushr y (24 : Int32)) &&& (3 : Int32))) (cq2 : ¬ (((XT.ushr x (24 : Int32)) &&& (3 : Int32)) = (0 : Int32))) (cq3 : ¬ (((XT.ushr x (24 : Int32)) &&& (3 : Int32)) = (1 : Int32))) (cq4 : ((XT.ushr x (24 : Int32)) &&& (3 : Int32)) = (2 : Int32)) :
    Goes p e below s ({ frames := 0, cells := 0, slots := 0, locals := 0 } : Room).cells ({ frames := 0, cells := 0, slots := 0, locals := 0 } : Room).slots n0 (fun vv hh => vv = some (.int (if drw x = drw y then (1 : Int32) else 0)) ∧ hh = h0) (T.setTop (mkF m 51 #[.val (.int x), .val (.int y), .val (.int ((XT.ushr x (24 : Int32)) &&& (3 : Int32))), .val (.int ((XT.ushr y (24 : Int32)) &&& (3 : Int32))), .unset] [(.int (65535 : Int32))])) := by
  have zO := O.le
  show Goes _ _ _ _ _ _ _ _ (T.setTop (mkF m 51 #[.val (.int x), .val (.int y), .val (.int ((XT.ushr x (24 : Int32)) &&& (3 : Int32))), .val (.int ((XT.ushr y (24 : Int32)) &&& (3 : Int32))), .unset] [(.int (65535 : Int32))]))
  refine Goes.via (fun _ k => XS.istore X.here hx rfl (hb hby d_method_3_code_51) rfl (l' := #[.val (.int x), .val (.int y), .val (.int ((XT.ushr x (24 : Int32)) &&& (3 : Int32))), .val (.int ((XT.ushr y (24 : Int32)) &&& (3 : Int32))), .val (.int (65535 : Int32))]) rfl k) ?_
  show Goes _ _ _ _ _ _ _ _ (T.setTop (mkF m 53 #[.val (.int x), .val (.int y), .val (.int ((XT.ushr x (24 : Int32)) &&& (3 : Int32))), .val (.int ((XT.ushr y (24 : Int32)) &&& (3 : Int32))), .val (.int (65535 : Int32))] []))
  refine Goes.via (fun _ k => XS.goto X.here hx rfl (pc0 := 53) (pc' := 60) rfl (hb hby d_method_3_code_53) (by decide) (by decide) k) ?_
  show Goes _ _ _ _ _ _ _ _ (T.setTop (mkF m 60 #[.val (.int x), .val (.int y), .val (.int ((XT.ushr x (24 : Int32)) &&& (3 : Int32))), .val (.int ((XT.ushr y (24 : Int32)) &&& (3 : Int32))), .val (.int (65535 : Int32))] []))
  refine Goes.via (fun _ k => XS.iloadN X.here hx rfl (hb hby d_method_3_code_60) rfl k) ?_
  show Goes _ _ _ _ _ _ _ _ (T.setTop (mkF m 61 #[.val (.int x), .val (.int y), .val (.int ((XT.ushr x (24 : Int32)) &&& (3 : Int32))), .val (.int ((XT.ushr y (24 : Int32)) &&& (3 : Int32))), .val (.int (65535 : Int32))] [(.int x)]))
  refine Goes.via (fun _ k => XS.iload X.here hx rfl (hb hby d_method_3_code_61) rfl k) ?_
  show Goes _ _ _ _ _ _ _ _ (T.setTop (mkF m 63 #[.val (.int x), .val (.int y), .val (.int ((XT.ushr x (24 : Int32)) &&& (3 : Int32))), .val (.int ((XT.ushr y (24 : Int32)) &&& (3 : Int32))), .val (.int (65535 : Int32))] [(.int (65535 : Int32)), (.int x)]))
  refine Goes.via (fun _ k => XS.iand X.here hx rfl (hb hby d_method_3_code_63) rfl k) ?_
  show Goes _ _ _ _ _ _ _ _ (T.setTop (mkF m 64 #[.val (.int x), .val (.int y), .val (.int ((XT.ushr x (24 : Int32)) &&& (3 : Int32))), .val (.int ((XT.ushr y (24 : Int32)) &&& (3 : Int32))), .val (.int (65535 : Int32))] [(.int (x &&& (65535 : Int32)))]))
  refine Goes.via (fun _ k => XS.iloadN X.here hx rfl (hb hby d_method_3_code_64) rfl k) ?_
  show Goes _ _ _ _ _ _ _ _ (T.setTop (mkF m 65 #[.val (.int x), .val (.int y), .val (.int ((XT.ushr x (24 : Int32)) &&& (3 : Int32))), .val (.int ((XT.ushr y (24 : Int32)) &&& (3 : Int32))), .val (.int (65535 : Int32))] [(.int y), (.int (x &&& (65535 : Int32)))]))
  refine Goes.via (fun _ k => XS.iload X.here hx rfl (hb hby d_method_3_code_65) rfl k) ?_
  show Goes _ _ _ _ _ _ _ _ (T.setTop (mkF m 67 #[.val (.int x), .val (.int y), .val (.int ((XT.ushr x (24 : Int32)) &&& (3 : Int32))), .val (.int ((XT.ushr y (24 : Int32)) &&& (3 : Int32))), .val (.int (65535 : Int32))] [(.int (65535 : Int32)), (.int y), (.int (x &&& (65535 : Int32)))]))
  refine Goes.via (fun _ k => XS.iand X.here hx rfl (hb hby d_method_3_code_67) rfl k) ?_
  show Goes _ _ _ _ _ _ _ _ (T.setTop (mkF m 68 #[.val (.int x), .val (.int y), .val (.int ((XT.ushr x (24 : Int32)) &&& (3 : Int32))), .val (.int ((XT.ushr y (24 : Int32)) &&& (3 : Int32))), .val (.int (65535 : Int32))] [(.int (y &&& (65535 : Int32))), (.int (x &&& (65535 : Int32)))]))
  by_cases cq5 : (x &&& (65535 : Int32)) = (y &&& (65535 : Int32))
  · skip
    refine Goes.via (fun _ k => XS.icmpNo X.here hx rfl (hb hby d_method_3_code_68) rfl (XT.ii_ne_f cq5) k) ?_
    show Goes _ _ _ _ _ _ _ _ (T.setTop (mkF m 71 #[.val (.int x), .val (.int y), .val (.int ((XT.ushr x (24 : Int32)) &&& (3 : Int32))), .val (.int ((XT.ushr y (24 : Int32)) &&& (3 : Int32))), .val (.int (65535 : Int32))] []))
    refine Goes.via (fun _ k => XT.iconstV X.here hx rfl (1 : Int32) (hb hby d_method_3_code_71) (by decide) k) ?_
    show Goes _ _ _ _ _ _ _ _ (T.setTop (mkF m 72 #[.val (.int x), .val (.int y), .val (.int ((XT.ushr x (24 : Int32)) &&& (3 : Int32))), .val (.int ((XT.ushr y (24 : Int32)) &&& (3 : Int32))), .val (.int (65535 : Int32))] [(.int (1 : Int32))]))
    refine Goes.via (fun _ k => XS.goto X.here hx rfl (pc0 := 72) (pc' := 76) rfl (hb hby d_method_3_code_72) (by decide) (by decide) k) ?_
    show Goes _ _ _ _ _ _ _ _ (T.setTop (mkF m 76 #[.val (.int x), .val (.int y), .val (.int ((XT.ushr x (24 : Int32)) &&& (3 : Int32))), .val (.int ((XT.ushr y (24 : Int32)) &&& (3 : Int32))), .val (.int (65535 : Int32))] [(.int (1 : Int32))]))
    refine goRetN X hx hrt (by simp) hlk N (by show _ ≤ 0; omega) (by show _ ≤ 0; omega) (hb hby d_method_3_code_76) ?_
    try rw [e0]
    exact ⟨congrArg (fun z => some (Value.int z)) (Eq.symm (if_pos ((sd_2 cq1 cq2 cq3 cq4).mp cq5))), rfl⟩
  · skip
    refine Goes.via (fun _ k => XS.icmpYes X.here hx rfl (pc0 := 68) (pc' := 75) rfl (hb hby d_method_3_code_68) rfl (XT.ii_ne_t cq5) (by decide) (by decide) k) ?_
    show Goes _ _ _ _ _ _ _ _ (T.setTop (mkF m 75 #[.val (.int x), .val (.int y), .val (.int ((XT.ushr x (24 : Int32)) &&& (3 : Int32))), .val (.int ((XT.ushr y (24 : Int32)) &&& (3 : Int32))), .val (.int (65535 : Int32))] []))
    refine Goes.via (fun _ k => XT.iconstV X.here hx rfl (0 : Int32) (hb hby d_method_3_code_75) (by decide) k) ?_
    show Goes _ _ _ _ _ _ _ _ (T.setTop (mkF m 76 #[.val (.int x), .val (.int y), .val (.int ((XT.ushr x (24 : Int32)) &&& (3 : Int32))), .val (.int ((XT.ushr y (24 : Int32)) &&& (3 : Int32))), .val (.int (65535 : Int32))] [(.int (0 : Int32))]))
    refine goRetN X hx hrt (by simp) hlk N (by show _ ≤ 0; omega) (by show _ ≤ 0; omega) (hb hby d_method_3_code_76) ?_
    try rw [e0]
    exact ⟨congrArg (fun z => some (Value.int z)) (Eq.symm (if_neg (fun q => cq5 ((sd_2 cq1 cq2 cq3 cq4).mpr q)))), rfl⟩
set_option maxRecDepth 65536 in
set_option maxHeartbeats 40000000 in
theorem sameD_c10 (l : Launch) (Z : State) (aw : Array Value) (hw : ∀ d ∈ tables_1, d.before aw Z = true) (x : Int32) (y : Int32) {p : Program} {e : Env} {s : State} {m : MethodId} {args : Array Value} {below : List Frame} {meth : Method} {c : Code} {T : State} {locs : List Loc} {cells slots n0 : Nat} {h0 : Heap} (hx : p.tables.exec = Jvm.exec) (hby : c.code = method_3_code) (hml : c.maxLocals = 5) (hrt : meth.sig.returnType = some .boolean) (hlk : meth.locks = false) (hnm : meth.name = "sameDrawn") (hZ : Z.Warmed39 s.vm) (hown : s.vm.findClass "com/example/vouchsafe/vouchsafe/message/NameIdPolicyAcceptsPinLaw" = some m.cls) (X : Stand p l e ({ frames := 0, cells := 0, slots := 0, locals := 0 } : Room) s m args below meth c T locs cells slots) (e0 : T.heap = h0) (N : Fr n0 locs) (hcells : cells ≤ 0) (hslots : slots ≤ 0) (O : Old Z n0 h0) (cq1 : ((XT.ushr x (24 : Int32)) &&& (3 : Int32)) = ((XT.ushr y (24 : Int32)) &&& (3 : Int32))) (cq2 : ¬ (((XT.ushr x (24 : Int32)) &&& (3 : Int32)) = (0 : Int32))) (cq3 : ¬ (((XT.ushr x (24 : Int32)) &&& (3 : Int32)) = (1 : Int32))) (cq4 : ¬ (((XT.ushr x (24 : Int32)) &&& (3 : Int32)) = (2 : Int32))) :
    Goes p e below s ({ frames := 0, cells := 0, slots := 0, locals := 0 } : Room).cells ({ frames := 0, cells := 0, slots := 0, locals := 0 } : Room).slots n0 (fun vv hh => vv = some (.int (if drw x = drw y then (1 : Int32) else 0)) ∧ hh = h0) (T.setTop (mkF m 58 #[.val (.int x), .val (.int y), .val (.int ((XT.ushr x (24 : Int32)) &&& (3 : Int32))), .val (.int ((XT.ushr y (24 : Int32)) &&& (3 : Int32))), .unset] [(.int (16777215 : Int32))])) := by
  have zO := O.le
  show Goes _ _ _ _ _ _ _ _ (T.setTop (mkF m 58 #[.val (.int x), .val (.int y), .val (.int ((XT.ushr x (24 : Int32)) &&& (3 : Int32))), .val (.int ((XT.ushr y (24 : Int32)) &&& (3 : Int32))), .unset] [(.int (16777215 : Int32))]))
  refine Goes.via (fun _ k => XS.istore X.here hx rfl (hb hby d_method_3_code_58) rfl (l' := #[.val (.int x), .val (.int y), .val (.int ((XT.ushr x (24 : Int32)) &&& (3 : Int32))), .val (.int ((XT.ushr y (24 : Int32)) &&& (3 : Int32))), .val (.int (16777215 : Int32))]) rfl k) ?_
  show Goes _ _ _ _ _ _ _ _ (T.setTop (mkF m 60 #[.val (.int x), .val (.int y), .val (.int ((XT.ushr x (24 : Int32)) &&& (3 : Int32))), .val (.int ((XT.ushr y (24 : Int32)) &&& (3 : Int32))), .val (.int (16777215 : Int32))] []))
  refine Goes.via (fun _ k => XS.iloadN X.here hx rfl (hb hby d_method_3_code_60) rfl k) ?_
  show Goes _ _ _ _ _ _ _ _ (T.setTop (mkF m 61 #[.val (.int x), .val (.int y), .val (.int ((XT.ushr x (24 : Int32)) &&& (3 : Int32))), .val (.int ((XT.ushr y (24 : Int32)) &&& (3 : Int32))), .val (.int (16777215 : Int32))] [(.int x)]))
  refine Goes.via (fun _ k => XS.iload X.here hx rfl (hb hby d_method_3_code_61) rfl k) ?_
  show Goes _ _ _ _ _ _ _ _ (T.setTop (mkF m 63 #[.val (.int x), .val (.int y), .val (.int ((XT.ushr x (24 : Int32)) &&& (3 : Int32))), .val (.int ((XT.ushr y (24 : Int32)) &&& (3 : Int32))), .val (.int (16777215 : Int32))] [(.int (16777215 : Int32)), (.int x)]))
  refine Goes.via (fun _ k => XS.iand X.here hx rfl (hb hby d_method_3_code_63) rfl k) ?_
  show Goes _ _ _ _ _ _ _ _ (T.setTop (mkF m 64 #[.val (.int x), .val (.int y), .val (.int ((XT.ushr x (24 : Int32)) &&& (3 : Int32))), .val (.int ((XT.ushr y (24 : Int32)) &&& (3 : Int32))), .val (.int (16777215 : Int32))] [(.int (x &&& (16777215 : Int32)))]))
  refine Goes.via (fun _ k => XS.iloadN X.here hx rfl (hb hby d_method_3_code_64) rfl k) ?_
  show Goes _ _ _ _ _ _ _ _ (T.setTop (mkF m 65 #[.val (.int x), .val (.int y), .val (.int ((XT.ushr x (24 : Int32)) &&& (3 : Int32))), .val (.int ((XT.ushr y (24 : Int32)) &&& (3 : Int32))), .val (.int (16777215 : Int32))] [(.int y), (.int (x &&& (16777215 : Int32)))]))
  refine Goes.via (fun _ k => XS.iload X.here hx rfl (hb hby d_method_3_code_65) rfl k) ?_
  show Goes _ _ _ _ _ _ _ _ (T.setTop (mkF m 67 #[.val (.int x), .val (.int y), .val (.int ((XT.ushr x (24 : Int32)) &&& (3 : Int32))), .val (.int ((XT.ushr y (24 : Int32)) &&& (3 : Int32))), .val (.int (16777215 : Int32))] [(.int (16777215 : Int32)), (.int y), (.int (x &&& (16777215 : Int32)))]))
  refine Goes.via (fun _ k => XS.iand X.here hx rfl (hb hby d_method_3_code_67) rfl k) ?_
  show Goes _ _ _ _ _ _ _ _ (T.setTop (mkF m 68 #[.val (.int x), .val (.int y), .val (.int ((XT.ushr x (24 : Int32)) &&& (3 : Int32))), .val (.int ((XT.ushr y (24 : Int32)) &&& (3 : Int32))), .val (.int (16777215 : Int32))] [(.int (y &&& (16777215 : Int32))), (.int (x &&& (16777215 : Int32)))]))
  by_cases cq5 : (x &&& (16777215 : Int32)) = (y &&& (16777215 : Int32))
  · skip
    refine Goes.via (fun _ k => XS.icmpNo X.here hx rfl (hb hby d_method_3_code_68) rfl (XT.ii_ne_f cq5) k) ?_
    show Goes _ _ _ _ _ _ _ _ (T.setTop (mkF m 71 #[.val (.int x), .val (.int y), .val (.int ((XT.ushr x (24 : Int32)) &&& (3 : Int32))), .val (.int ((XT.ushr y (24 : Int32)) &&& (3 : Int32))), .val (.int (16777215 : Int32))] []))
    refine Goes.via (fun _ k => XT.iconstV X.here hx rfl (1 : Int32) (hb hby d_method_3_code_71) (by decide) k) ?_
    show Goes _ _ _ _ _ _ _ _ (T.setTop (mkF m 72 #[.val (.int x), .val (.int y), .val (.int ((XT.ushr x (24 : Int32)) &&& (3 : Int32))), .val (.int ((XT.ushr y (24 : Int32)) &&& (3 : Int32))), .val (.int (16777215 : Int32))] [(.int (1 : Int32))]))
    refine Goes.via (fun _ k => XS.goto X.here hx rfl (pc0 := 72) (pc' := 76) rfl (hb hby d_method_3_code_72) (by decide) (by decide) k) ?_
    show Goes _ _ _ _ _ _ _ _ (T.setTop (mkF m 76 #[.val (.int x), .val (.int y), .val (.int ((XT.ushr x (24 : Int32)) &&& (3 : Int32))), .val (.int ((XT.ushr y (24 : Int32)) &&& (3 : Int32))), .val (.int (16777215 : Int32))] [(.int (1 : Int32))]))
    refine goRetN X hx hrt (by simp) hlk N (by show _ ≤ 0; omega) (by show _ ≤ 0; omega) (hb hby d_method_3_code_76) ?_
    try rw [e0]
    exact ⟨congrArg (fun z => some (Value.int z)) (Eq.symm (if_pos ((sd_3 cq1 cq2 cq3 cq4).mp cq5))), rfl⟩
  · skip
    refine Goes.via (fun _ k => XS.icmpYes X.here hx rfl (pc0 := 68) (pc' := 75) rfl (hb hby d_method_3_code_68) rfl (XT.ii_ne_t cq5) (by decide) (by decide) k) ?_
    show Goes _ _ _ _ _ _ _ _ (T.setTop (mkF m 75 #[.val (.int x), .val (.int y), .val (.int ((XT.ushr x (24 : Int32)) &&& (3 : Int32))), .val (.int ((XT.ushr y (24 : Int32)) &&& (3 : Int32))), .val (.int (16777215 : Int32))] []))
    refine Goes.via (fun _ k => XT.iconstV X.here hx rfl (0 : Int32) (hb hby d_method_3_code_75) (by decide) k) ?_
    show Goes _ _ _ _ _ _ _ _ (T.setTop (mkF m 76 #[.val (.int x), .val (.int y), .val (.int ((XT.ushr x (24 : Int32)) &&& (3 : Int32))), .val (.int ((XT.ushr y (24 : Int32)) &&& (3 : Int32))), .val (.int (16777215 : Int32))] [(.int (0 : Int32))]))
    refine goRetN X hx hrt (by simp) hlk N (by show _ ≤ 0; omega) (by show _ ≤ 0; omega) (hb hby d_method_3_code_76) ?_
    try rw [e0]
    exact ⟨congrArg (fun z => some (Value.int z)) (Eq.symm (if_neg (fun q => cq5 ((sd_3 cq1 cq2 cq3 cq4).mpr q)))), rfl⟩
set_option maxRecDepth 65536 in
set_option maxHeartbeats 40000000 in
theorem sameD_c7 (l : Launch) (Z : State) (aw : Array Value) (hw : ∀ d ∈ tables_1, d.before aw Z = true) (x : Int32) (y : Int32) {p : Program} {e : Env} {s : State} {m : MethodId} {args : Array Value} {below : List Frame} {meth : Method} {c : Code} {T : State} {locs : List Loc} {cells slots n0 : Nat} {h0 : Heap} (hx : p.tables.exec = Jvm.exec) (hby : c.code = method_3_code) (hml : c.maxLocals = 5) (hrt : meth.sig.returnType = some .boolean) (hlk : meth.locks = false) (hnm : meth.name = "sameDrawn") (hZ : Z.Warmed39 s.vm) (hown : s.vm.findClass "com/example/vouchsafe/vouchsafe/message/NameIdPolicyAcceptsPinLaw" = some m.cls) (X : Stand p l e ({ frames := 0, cells := 0, slots := 0, locals := 0 } : Room) s m args below meth c T locs cells slots) (e0 : T.heap = h0) (N : Fr n0 locs) (hcells : cells ≤ 0) (hslots : slots ≤ 0) (O : Old Z n0 h0) (cq1 : ((XT.ushr x (24 : Int32)) &&& (3 : Int32)) = ((XT.ushr y (24 : Int32)) &&& (3 : Int32))) (cq2 : ¬ (((XT.ushr x (24 : Int32)) &&& (3 : Int32)) = (0 : Int32))) :
    Goes p e below s ({ frames := 0, cells := 0, slots := 0, locals := 0 } : Room).cells ({ frames := 0, cells := 0, slots := 0, locals := 0 } : Room).slots n0 (fun vv hh => vv = some (.int (if drw x = drw y then (1 : Int32) else 0)) ∧ hh = h0) (T.setTop (mkF m 33 #[.val (.int x), .val (.int y), .val (.int ((XT.ushr x (24 : Int32)) &&& (3 : Int32))), .val (.int ((XT.ushr y (24 : Int32)) &&& (3 : Int32))), .unset] [(.int (1 : Int32)), (.int ((XT.ushr x (24 : Int32)) &&& (3 : Int32)))])) := by
  have zO := O.le
  show Goes _ _ _ _ _ _ _ _ (T.setTop (mkF m 33 #[.val (.int x), .val (.int y), .val (.int ((XT.ushr x (24 : Int32)) &&& (3 : Int32))), .val (.int ((XT.ushr y (24 : Int32)) &&& (3 : Int32))), .unset] [(.int (1 : Int32)), (.int ((XT.ushr x (24 : Int32)) &&& (3 : Int32)))]))
  by_cases cq3 : ((XT.ushr x (24 : Int32)) &&& (3 : Int32)) = (1 : Int32)
  · skip
    refine Goes.via (fun _ k => XS.icmpNo X.here hx rfl (hb hby d_method_3_code_33) rfl (XT.ii_ne_f cq3) k) ?_
    show Goes _ _ _ _ _ _ _ _ (T.setTop (mkF m 36 #[.val (.int x), .val (.int y), .val (.int ((XT.ushr x (24 : Int32)) &&& (3 : Int32))), .val (.int ((XT.ushr y (24 : Int32)) &&& (3 : Int32))), .unset] []))
    refine Goes.via (fun _ k => XT.sipushV X.here hx rfl (255 : Int32) (hb hby d_method_3_code_36) (by decide) k) ?_
    show Goes _ _ _ _ _ _ _ _ (T.setTop (mkF m 39 #[.val (.int x), .val (.int y), .val (.int ((XT.ushr x (24 : Int32)) &&& (3 : Int32))), .val (.int ((XT.ushr y (24 : Int32)) &&& (3 : Int32))), .unset] [(.int (255 : Int32))]))
    refine Goes.via (fun _ k => XS.istore X.here hx rfl (hb hby d_method_3_code_39) rfl (l' := #[.val (.int x), .val (.int y), .val (.int ((XT.ushr x (24 : Int32)) &&& (3 : Int32))), .val (.int ((XT.ushr y (24 : Int32)) &&& (3 : Int32))), .val (.int (255 : Int32))]) rfl k) ?_
    show Goes _ _ _ _ _ _ _ _ (T.setTop (mkF m 41 #[.val (.int x), .val (.int y), .val (.int ((XT.ushr x (24 : Int32)) &&& (3 : Int32))), .val (.int ((XT.ushr y (24 : Int32)) &&& (3 : Int32))), .val (.int (255 : Int32))] []))
    refine Goes.via (fun _ k => XS.goto X.here hx rfl (pc0 := 41) (pc' := 60) rfl (hb hby d_method_3_code_41) (by decide) (by decide) k) ?_
    show Goes _ _ _ _ _ _ _ _ (T.setTop (mkF m 60 #[.val (.int x), .val (.int y), .val (.int ((XT.ushr x (24 : Int32)) &&& (3 : Int32))), .val (.int ((XT.ushr y (24 : Int32)) &&& (3 : Int32))), .val (.int (255 : Int32))] []))
    refine Goes.via (fun _ k => XS.iloadN X.here hx rfl (hb hby d_method_3_code_60) rfl k) ?_
    show Goes _ _ _ _ _ _ _ _ (T.setTop (mkF m 61 #[.val (.int x), .val (.int y), .val (.int ((XT.ushr x (24 : Int32)) &&& (3 : Int32))), .val (.int ((XT.ushr y (24 : Int32)) &&& (3 : Int32))), .val (.int (255 : Int32))] [(.int x)]))
    exact sameD_c8 l Z aw hw x y hx hby hml hrt hlk hnm hZ hown X e0 N (by omega) (by omega) O cq1 cq2 cq3
  · skip
    refine Goes.via (fun _ k => XS.icmpYes X.here hx rfl (pc0 := 33) (pc' := 44) rfl (hb hby d_method_3_code_33) rfl (XT.ii_ne_t cq3) (by decide) (by decide) k) ?_
    show Goes _ _ _ _ _ _ _ _ (T.setTop (mkF m 44 #[.val (.int x), .val (.int y), .val (.int ((XT.ushr x (24 : Int32)) &&& (3 : Int32))), .val (.int ((XT.ushr y (24 : Int32)) &&& (3 : Int32))), .unset] []))
    refine Goes.via (fun _ k => XS.iloadN X.here hx rfl (hb hby d_method_3_code_44) rfl k) ?_
    show Goes _ _ _ _ _ _ _ _ (T.setTop (mkF m 45 #[.val (.int x), .val (.int y), .val (.int ((XT.ushr x (24 : Int32)) &&& (3 : Int32))), .val (.int ((XT.ushr y (24 : Int32)) &&& (3 : Int32))), .unset] [(.int ((XT.ushr x (24 : Int32)) &&& (3 : Int32)))]))
    refine Goes.via (fun _ k => XT.iconstV X.here hx rfl (2 : Int32) (hb hby d_method_3_code_45) (by decide) k) ?_
    show Goes _ _ _ _ _ _ _ _ (T.setTop (mkF m 46 #[.val (.int x), .val (.int y), .val (.int ((XT.ushr x (24 : Int32)) &&& (3 : Int32))), .val (.int ((XT.ushr y (24 : Int32)) &&& (3 : Int32))), .unset] [(.int (2 : Int32)), (.int ((XT.ushr x (24 : Int32)) &&& (3 : Int32)))]))
    by_cases cq4 : ((XT.ushr x (24 : Int32)) &&& (3 : Int32)) = (2 : Int32)
    · skip
      refine Goes.via (fun _ k => XS.icmpNo X.here hx rfl (hb hby d_method_3_code_46) rfl (XT.ii_ne_f cq4) k) ?_
      show Goes _ _ _ _ _ _ _ _ (T.setTop (mkF m 49 #[.val (.int x), .val (.int y), .val (.int ((XT.ushr x (24 : Int32)) &&& (3 : Int32))), .val (.int ((XT.ushr y (24 : Int32)) &&& (3 : Int32))), .unset] []))
      refine Goes.via (fun _ k => X.ldcI hx hown (mvT hZ (W_114 hw)) (g := (mkF m 49 #[.val (.int x), .val (.int y), .val (.int ((XT.ushr x (24 : Int32)) &&& (3 : Int32))), .val (.int ((XT.ushr y (24 : Int32)) &&& (3 : Int32))), .unset] [])) rfl (hb hby d_method_3_code_49) k) ?_
      show Goes _ _ _ _ _ _ _ _ (T.setTop (mkF m 51 #[.val (.int x), .val (.int y), .val (.int ((XT.ushr x (24 : Int32)) &&& (3 : Int32))), .val (.int ((XT.ushr y (24 : Int32)) &&& (3 : Int32))), .unset] [(.int (65535 : Int32))]))
      exact sameD_c9 l Z aw hw x y hx hby hml hrt hlk hnm hZ hown X e0 N (by omega) (by omega) O cq1 cq2 cq3 cq4
    · skip
      refine Goes.via (fun _ k => XS.icmpYes X.here hx rfl (pc0 := 46) (pc' := 56) rfl (hb hby d_method_3_code_46) rfl (XT.ii_ne_t cq4) (by decide) (by decide) k) ?_
      show Goes _ _ _ _ _ _ _ _ (T.setTop (mkF m 56 #[.val (.int x), .val (.int y), .val (.int ((XT.ushr x (24 : Int32)) &&& (3 : Int32))), .val (.int ((XT.ushr y (24 : Int32)) &&& (3 : Int32))), .unset] []))
      refine Goes.via (fun _ k => X.ldcI hx hown (mvT hZ (W_113 hw)) (g := (mkF m 56 #[.val (.int x), .val (.int y), .val (.int ((XT.ushr x (24 : Int32)) &&& (3 : Int32))), .val (.int ((XT.ushr y (24 : Int32)) &&& (3 : Int32))), .unset] [])) rfl (hb hby d_method_3_code_56) k) ?_
      show Goes _ _ _ _ _ _ _ _ (T.setTop (mkF m 58 #[.val (.int x), .val (.int y), .val (.int ((XT.ushr x (24 : Int32)) &&& (3 : Int32))), .val (.int ((XT.ushr y (24 : Int32)) &&& (3 : Int32))), .unset] [(.int (16777215 : Int32))]))
      exact sameD_c10 l Z aw hw x y hx hby hml hrt hlk hnm hZ hown X e0 N (by omega) (by omega) O cq1 cq2 cq3 cq4
set_option maxRecDepth 65536 in
set_option maxHeartbeats 40000000 in
theorem sameD (l : Launch) (Z : State) (aw : Array Value) (hw : ∀ d ∈ tables_1, d.before aw Z = true) (x : Int32) (y : Int32) {h0 : Heap} {n0 : Nat} (O : Old Z n0 h0) :
    MET l Z (⟨"com/example/vouchsafe/vouchsafe/message/NameIdPolicyAcceptsPinLaw", "sameDrawn", "(II)Z"⟩ : MethodName) method_3_code 5 (some .boolean) ({ frames := 0, cells := 0, slots := 0, locals := 0 } : Room) #[(.int x), (.int y)] h0 n0 (fun vv hh => vv = some (.int (if drw x = drw y then (1 : Int32) else 0)) ∧ hh = h0) := by
  refine metOf (plainFor_of_name pn_17) ?_
  intro p e s m below meth c T hx hby hml hrt hlk hnm hZ hown X e0
  replace hml : c.maxLocals = 5 := hml
  replace hnm : meth.name = "sameDrawn" := hnm
  replace hown : s.vm.findClass "com/example/vouchsafe/vouchsafe/message/NameIdPolicyAcceptsPinLaw" = some m.cls := hown
  have N := Fr.nil n0
  have zO := O.le
  refine goCast (ef_sameD m x y) ?_
  show Goes _ _ _ _ _ _ _ _ (T.setTop (mkF m 0 #[.val (.int x), .val (.int y), .unset, .unset, .unset] []))
  refine Goes.via (fun _ k => XS.iloadN X.here hx rfl (hb hby d_method_3_code_0) rfl k) ?_
  show Goes _ _ _ _ _ _ _ _ (T.setTop (mkF m 1 #[.val (.int x), .val (.int y), .unset, .unset, .unset] [(.int x)]))
  refine Goes.via (fun _ k => XT.bipushV X.here hx rfl (24 : Int32) (hb hby d_method_3_code_1) (by decide) k) ?_
  show Goes _ _ _ _ _ _ _ _ (T.setTop (mkF m 3 #[.val (.int x), .val (.int y), .unset, .unset, .unset] [(.int (24 : Int32)), (.int x)]))
  refine Goes.via (fun _ k => XT.iushr X.here hx rfl (hb hby d_method_3_code_3) rfl k) ?_
  show Goes _ _ _ _ _ _ _ _ (T.setTop (mkF m 4 #[.val (.int x), .val (.int y), .unset, .unset, .unset] [(.int (XT.ushr x (24 : Int32)))]))
  refine Goes.via (fun _ k => XT.iconstV X.here hx rfl (3 : Int32) (hb hby d_method_3_code_4) (by decide) k) ?_
  show Goes _ _ _ _ _ _ _ _ (T.setTop (mkF m 5 #[.val (.int x), .val (.int y), .unset, .unset, .unset] [(.int (3 : Int32)), (.int (XT.ushr x (24 : Int32)))]))
  refine Goes.via (fun _ k => XS.iand X.here hx rfl (hb hby d_method_3_code_5) rfl k) ?_
  show Goes _ _ _ _ _ _ _ _ (T.setTop (mkF m 6 #[.val (.int x), .val (.int y), .unset, .unset, .unset] [(.int ((XT.ushr x (24 : Int32)) &&& (3 : Int32)))]))
  refine Goes.via (fun _ k => XS.istoreN X.here hx rfl (hb hby d_method_3_code_6) rfl (l' := #[.val (.int x), .val (.int y), .val (.int ((XT.ushr x (24 : Int32)) &&& (3 : Int32))), .unset, .unset]) rfl k) ?_
  show Goes _ _ _ _ _ _ _ _ (T.setTop (mkF m 7 #[.val (.int x), .val (.int y), .val (.int ((XT.ushr x (24 : Int32)) &&& (3 : Int32))), .unset, .unset] []))
  refine Goes.via (fun _ k => XS.iloadN X.here hx rfl (hb hby d_method_3_code_7) rfl k) ?_
  show Goes _ _ _ _ _ _ _ _ (T.setTop (mkF m 8 #[.val (.int x), .val (.int y), .val (.int ((XT.ushr x (24 : Int32)) &&& (3 : Int32))), .unset, .unset] [(.int y)]))
  refine Goes.via (fun _ k => XT.bipushV X.here hx rfl (24 : Int32) (hb hby d_method_3_code_8) (by decide) k) ?_
  show Goes _ _ _ _ _ _ _ _ (T.setTop (mkF m 10 #[.val (.int x), .val (.int y), .val (.int ((XT.ushr x (24 : Int32)) &&& (3 : Int32))), .unset, .unset] [(.int (24 : Int32)), (.int y)]))
  refine Goes.via (fun _ k => XT.iushr X.here hx rfl (hb hby d_method_3_code_10) rfl k) ?_
  show Goes _ _ _ _ _ _ _ _ (T.setTop (mkF m 11 #[.val (.int x), .val (.int y), .val (.int ((XT.ushr x (24 : Int32)) &&& (3 : Int32))), .unset, .unset] [(.int (XT.ushr y (24 : Int32)))]))
  refine Goes.via (fun _ k => XT.iconstV X.here hx rfl (3 : Int32) (hb hby d_method_3_code_11) (by decide) k) ?_
  show Goes _ _ _ _ _ _ _ _ (T.setTop (mkF m 12 #[.val (.int x), .val (.int y), .val (.int ((XT.ushr x (24 : Int32)) &&& (3 : Int32))), .unset, .unset] [(.int (3 : Int32)), (.int (XT.ushr y (24 : Int32)))]))
  refine Goes.via (fun _ k => XS.iand X.here hx rfl (hb hby d_method_3_code_12) rfl k) ?_
  show Goes _ _ _ _ _ _ _ _ (T.setTop (mkF m 13 #[.val (.int x), .val (.int y), .val (.int ((XT.ushr x (24 : Int32)) &&& (3 : Int32))), .unset, .unset] [(.int ((XT.ushr y (24 : Int32)) &&& (3 : Int32)))]))
  refine Goes.via (fun _ k => XS.istoreN X.here hx rfl (hb hby d_method_3_code_13) rfl (l' := #[.val (.int x), .val (.int y), .val (.int ((XT.ushr x (24 : Int32)) &&& (3 : Int32))), .val (.int ((XT.ushr y (24 : Int32)) &&& (3 : Int32))), .unset]) rfl k) ?_
  show Goes _ _ _ _ _ _ _ _ (T.setTop (mkF m 14 #[.val (.int x), .val (.int y), .val (.int ((XT.ushr x (24 : Int32)) &&& (3 : Int32))), .val (.int ((XT.ushr y (24 : Int32)) &&& (3 : Int32))), .unset] []))
  refine Goes.via (fun _ k => XS.iloadN X.here hx rfl (hb hby d_method_3_code_14) rfl k) ?_
  show Goes _ _ _ _ _ _ _ _ (T.setTop (mkF m 15 #[.val (.int x), .val (.int y), .val (.int ((XT.ushr x (24 : Int32)) &&& (3 : Int32))), .val (.int ((XT.ushr y (24 : Int32)) &&& (3 : Int32))), .unset] [(.int ((XT.ushr x (24 : Int32)) &&& (3 : Int32)))]))
  refine Goes.via (fun _ k => XS.iloadN X.here hx rfl (hb hby d_method_3_code_15) rfl k) ?_
  show Goes _ _ _ _ _ _ _ _ (T.setTop (mkF m 16 #[.val (.int x), .val (.int y), .val (.int ((XT.ushr x (24 : Int32)) &&& (3 : Int32))), .val (.int ((XT.ushr y (24 : Int32)) &&& (3 : Int32))), .unset] [(.int ((XT.ushr y (24 : Int32)) &&& (3 : Int32))), (.int ((XT.ushr x (24 : Int32)) &&& (3 : Int32)))]))
  by_cases cq1 : ((XT.ushr x (24 : Int32)) &&& (3 : Int32)) = ((XT.ushr y (24 : Int32)) &&& (3 : Int32))
  · skip
    refine Goes.via (fun _ k => XS.icmpYes X.here hx rfl (pc0 := 16) (pc' := 21) rfl (hb hby d_method_3_code_16) rfl (XT.ii_eq_t cq1) (by decide) (by decide) k) ?_
    show Goes _ _ _ _ _ _ _ _ (T.setTop (mkF m 21 #[.val (.int x), .val (.int y), .val (.int ((XT.ushr x (24 : Int32)) &&& (3 : Int32))), .val (.int ((XT.ushr y (24 : Int32)) &&& (3 : Int32))), .unset] []))
    refine Goes.via (fun _ k => XS.iloadN X.here hx rfl (hb hby d_method_3_code_21) rfl k) ?_
    show Goes _ _ _ _ _ _ _ _ (T.setTop (mkF m 22 #[.val (.int x), .val (.int y), .val (.int ((XT.ushr x (24 : Int32)) &&& (3 : Int32))), .val (.int ((XT.ushr y (24 : Int32)) &&& (3 : Int32))), .unset] [(.int ((XT.ushr x (24 : Int32)) &&& (3 : Int32)))]))
    by_cases cq2 : ((XT.ushr x (24 : Int32)) &&& (3 : Int32)) = (0 : Int32)
    · skip
      refine Goes.via (fun _ k => XS.ifNo X.here hx rfl (hb hby d_method_3_code_22) rfl (XT.i0_ne_f cq2) k) ?_
      show Goes _ _ _ _ _ _ _ _ (T.setTop (mkF m 25 #[.val (.int x), .val (.int y), .val (.int ((XT.ushr x (24 : Int32)) &&& (3 : Int32))), .val (.int ((XT.ushr y (24 : Int32)) &&& (3 : Int32))), .unset] []))
      refine Goes.via (fun _ k => XT.iconstV X.here hx rfl (0 : Int32) (hb hby d_method_3_code_25) (by decide) k) ?_
      show Goes _ _ _ _ _ _ _ _ (T.setTop (mkF m 26 #[.val (.int x), .val (.int y), .val (.int ((XT.ushr x (24 : Int32)) &&& (3 : Int32))), .val (.int ((XT.ushr y (24 : Int32)) &&& (3 : Int32))), .unset] [(.int (0 : Int32))]))
      refine Goes.via (fun _ k => XS.istore X.here hx rfl (hb hby d_method_3_code_26) rfl (l' := #[.val (.int x), .val (.int y), .val (.int ((XT.ushr x (24 : Int32)) &&& (3 : Int32))), .val (.int ((XT.ushr y (24 : Int32)) &&& (3 : Int32))), .val (.int (0 : Int32))]) rfl k) ?_
      show Goes _ _ _ _ _ _ _ _ (T.setTop (mkF m 28 #[.val (.int x), .val (.int y), .val (.int ((XT.ushr x (24 : Int32)) &&& (3 : Int32))), .val (.int ((XT.ushr y (24 : Int32)) &&& (3 : Int32))), .val (.int (0 : Int32))] []))
      exact sameD_c6 l Z aw hw x y hx hby hml hrt hlk hnm hZ hown X e0 N (by decide) (by decide) O cq1 cq2
    · skip
      refine Goes.via (fun _ k => XS.ifYes X.here hx rfl (pc0 := 22) (pc' := 31) rfl (hb hby d_method_3_code_22) rfl (XT.i0_ne_t cq2) (by decide) (by decide) k) ?_
      show Goes _ _ _ _ _ _ _ _ (T.setTop (mkF m 31 #[.val (.int x), .val (.int y), .val (.int ((XT.ushr x (24 : Int32)) &&& (3 : Int32))), .val (.int ((XT.ushr y (24 : Int32)) &&& (3 : Int32))), .unset] []))
      refine Goes.via (fun _ k => XS.iloadN X.here hx rfl (hb hby d_method_3_code_31) rfl k) ?_
      show Goes _ _ _ _ _ _ _ _ (T.setTop (mkF m 32 #[.val (.int x), .val (.int y), .val (.int ((XT.ushr x (24 : Int32)) &&& (3 : Int32))), .val (.int ((XT.ushr y (24 : Int32)) &&& (3 : Int32))), .unset] [(.int ((XT.ushr x (24 : Int32)) &&& (3 : Int32)))]))
      refine Goes.via (fun _ k => XT.iconstV X.here hx rfl (1 : Int32) (hb hby d_method_3_code_32) (by decide) k) ?_
      show Goes _ _ _ _ _ _ _ _ (T.setTop (mkF m 33 #[.val (.int x), .val (.int y), .val (.int ((XT.ushr x (24 : Int32)) &&& (3 : Int32))), .val (.int ((XT.ushr y (24 : Int32)) &&& (3 : Int32))), .unset] [(.int (1 : Int32)), (.int ((XT.ushr x (24 : Int32)) &&& (3 : Int32)))]))
      exact sameD_c7 l Z aw hw x y hx hby hml hrt hlk hnm hZ hown X e0 N (by decide) (by decide) O cq1 cq2
  · skip
    refine Goes.via (fun _ k => XS.icmpNo X.here hx rfl (hb hby d_method_3_code_16) rfl (XT.ii_eq_f cq1) k) ?_
    show Goes _ _ _ _ _ _ _ _ (T.setTop (mkF m 19 #[.val (.int x), .val (.int y), .val (.int ((XT.ushr x (24 : Int32)) &&& (3 : Int32))), .val (.int ((XT.ushr y (24 : Int32)) &&& (3 : Int32))), .unset] []))
    refine Goes.via (fun _ k => XT.iconstV X.here hx rfl (0 : Int32) (hb hby d_method_3_code_19) (by decide) k) ?_
    show Goes _ _ _ _ _ _ _ _ (T.setTop (mkF m 20 #[.val (.int x), .val (.int y), .val (.int ((XT.ushr x (24 : Int32)) &&& (3 : Int32))), .val (.int ((XT.ushr y (24 : Int32)) &&& (3 : Int32))), .unset] [(.int (0 : Int32))]))
    refine goRetN X hx hrt (by simp) hlk N (by decide) (by decide) (hb hby d_method_3_code_20) ?_
    try rw [e0]
    exact ⟨congrArg (fun z => some (Value.int z)) (Eq.symm (if_neg (sd_ne cq1))), rfl⟩
set_option maxRecDepth 65536 in
set_option maxHeartbeats 40000000 in
theorem law_c11 (l : Launch) (Z : State) (aw : Array Value) (hw : ∀ d ∈ tables_1, d.before aw Z = true) (x0 : Int32) (x1 : Int32) (x2 : Int32) (fk : Int32) (nk : Int32) (ak : Int32) (em : Nat) (bt : Nat) (bf : Nat) (cz : Int32) (al : Nat) (xr_q2 : Nat) (xtb_q2 : Nat) (xkt_q2 : ClassId) (xN1_q2 : Int32) (xvs_q2 : List Value) {p : Program} {e : Env} {s : State} {m : MethodId} {args : Array Value} {below : List Frame} {meth : Method} {c : Code} {T : State} {locs : List Loc} {cells slots n0 : Nat} {h0 h1 : Heap} (hx : p.tables.exec = Jvm.exec) (hby : c.code = code) (hml : c.maxLocals = 11) (hrt : meth.sig.returnType = some .boolean) (hlk : meth.locks = false) (hnm : meth.name = "law") {vm0 vmE : Vm} {k0 : Nat} (hZ : Z.Warmed39 vm0) (hown : vm0.findClass "com/example/vouchsafe/vouchsafe/message/NameIdPolicyAcceptsPinLaw" = some m.cls) (X : Stand p l e room_1 (s.setVm vm0) m args below meth c T locs cells slots) (e0 : T.heap = h1) (N : Fr n0 locs) (hcells : cells ≤ 16) (hslots : slots ≤ 254) (O : Old Z n0 h1) (hS : s.Since vm0 k0) (hk0 : k0 ≤ h1.size) (C0 : CHr Z EL vmE h0 vm0 h1) (CS : Sta Z Z.heap "java/lang/String" "COMPACT_STRINGS" "Z" (.int cz)) (SE : Sta Z Z.heap "java/util/Optional" "EMPTY" "Ljava/util/Optional;" (.ref em)) (EE : Exa Z Z.heap em "java/util/Optional") (FE : Fld Z Z.heap em "java/util/Optional" "value" "Ljava/lang/Object;" .null) (ST1 : Sta Z Z.heap "java/lang/Boolean" "TRUE" "Ljava/lang/Boolean;" (.ref bt)) (ST0 : Sta Z Z.heap "java/lang/Boolean" "FALSE" "Ljava/lang/Boolean;" (.ref bf)) (pf0 : Exa Z h1 xr_q2 "java/lang/String") (pf1 : Fld Z h1 xr_q2 "java/lang/String" "value" "[B" (.ref xtb_q2)) (pf2 : Fld Z h1 xr_q2 "java/lang/String" "coder" "B" (.int (0 : Int32))) (pf3 : Arv Z h1 xtb_q2 xkt_q2 .byte xN1_q2 xvs_q2 (.int (0 : Int32))) (hcz : ¬ cz = (0 : Int32)) (hf0 : fk = (0 : Int32)) (cq1 : nk = (0 : Int32)) (pq2_6 : StrChars.Road.CodA (drw x1) 0 xN1_q2 xvs_q2) (cn1 : n0 ≤ xr_q2) :
    GoesW p e below s room_1.cells room_1.slots n0 (fun v vm h => (fun vv hh => vv = some (.int (1 : Int32))) v h ∧ CHr Z EL vmE h0 vm h) (T.setTop (mkF m 143 #[.val (.int x0), .val (.int x1), .val (.int x2), .val (.int fk), .val (.int nk), .val (.int ak), .val (.ref em), .val (.ref al), .val (.ref xr_q2), .unset, .unset] [])) := by
  have zO := O.le
  have lt_xr_q2 := lt_nat pf0.lt
  have lt_xtb_q2 := lt_nat pf3.lt
  show GoesW _ _ _ _ _ _ _ _ (T.setTop (mkF m 143 #[.val (.int x0), .val (.int x1), .val (.int x2), .val (.int fk), .val (.int nk), .val (.int ak), .val (.ref em), .val (.ref al), .val (.ref xr_q2), .unset, .unset] []))
  refine GoesW.via (fun _ k => XS.iloadN X.here hx rfl (hb hby at_143) rfl k) ?_
  show GoesW _ _ _ _ _ _ _ _ (T.setTop (mkF m 144 #[.val (.int x0), .val (.int x1), .val (.int x2), .val (.int fk), .val (.int nk), .val (.int ak), .val (.ref em), .val (.ref al), .val (.ref xr_q2), .unset, .unset] [(.int fk)]))
  refine GoesW.via (fun _ k => XS.ifYes X.here hx rfl (pc0 := 144) (pc' := 152) rfl (hb hby at_144) rfl (XT.i0_eq_t hf0) (by decide) (by decide) k) ?_
  show GoesW _ _ _ _ _ _ _ _ (T.setTop (mkF m 152 #[.val (.int x0), .val (.int x1), .val (.int x2), .val (.int fk), .val (.int nk), .val (.int ak), .val (.ref em), .val (.ref al), .val (.ref xr_q2), .unset, .unset] []))
  refine GoesW.via (fun _ k => XT.iconstV X.here hx rfl (1 : Int32) (hb hby at_152) (by decide) k) ?_
  show GoesW _ _ _ _ _ _ _ _ (T.setTop (mkF m 153 #[.val (.int x0), .val (.int x1), .val (.int x2), .val (.int fk), .val (.int nk), .val (.int ak), .val (.ref em), .val (.ref al), .val (.ref xr_q2), .unset, .unset] [(.int (1 : Int32))]))
  refine GoesW.via (fun _ k => XS.istore X.here hx rfl (hb hby at_153) rfl (l' := #[.val (.int x0), .val (.int x1), .val (.int x2), .val (.int fk), .val (.int nk), .val (.int ak), .val (.ref em), .val (.ref al), .val (.ref xr_q2), .val (.int (1 : Int32)), .unset]) rfl k) ?_
  show GoesW _ _ _ _ _ _ _ _ (T.setTop (mkF m 155 #[.val (.int x0), .val (.int x1), .val (.int x2), .val (.int fk), .val (.int nk), .val (.int ak), .val (.ref em), .val (.ref al), .val (.ref xr_q2), .val (.int (1 : Int32)), .unset] []))
  refine GoesW.via (fun _ k => XS.goto X.here hx rfl (pc0 := 155) (pc' := 206) rfl (hb hby at_155) (by decide) (by decide) k) ?_
  show GoesW _ _ _ _ _ _ _ _ (T.setTop (mkF m 206 #[.val (.int x0), .val (.int x1), .val (.int x2), .val (.int fk), .val (.int nk), .val (.int ak), .val (.ref em), .val (.ref al), .val (.ref xr_q2), .val (.int (1 : Int32)), .unset] []))
  obtain ⟨Tq3, hq3, Xq3, eq3, Eq3, Aq3, Dq3, -, stq3⟩ := newO X hx hZ hown (W_50 hw) (W_51 hw) (W_52 hw) e0 (g := (mkF m 206 #[.val (.int x0), .val (.int x1), .val (.int x2), .val (.int fk), .val (.int nk), .val (.int ak), .val (.ref em), .val (.ref al), .val (.ref xr_q2), .val (.int (1 : Int32)), .unset] [])) rfl (hb hby at_206) (by show _ + 1 ≤ 40; omega) (by show _ + 2 ≤ 5312; omega)
  obtain ⟨bq3, gq3⟩ : ∃ z, z = h1.size := ⟨_, rfl⟩
  rw [← gq3] at Aq3 Dq3 stq3
  have zq3 := Eq3.1
  have Oq3 := O.ext Eq3
  have Cq3 := C0.trans (CHr.ext Eq3 C0.1)
  have lq3 := lt_nat Aq3.lt
  refine GoesW.via stq3 ?_
  show GoesW _ _ _ _ _ _ _ _ (Tq3.setTop (mkF m 209 #[.val (.int x0), .val (.int x1), .val (.int x2), .val (.int fk), .val (.int nk), .val (.int ak), .val (.ref em), .val (.ref al), .val (.ref xr_q2), .val (.int (1 : Int32)), .unset] [(.ref bq3)]))
  refine GoesW.via (fun _ k => XS.dup Xq3.here hx rfl (hb hby at_209) rfl rfl k) ?_
  show GoesW _ _ _ _ _ _ _ _ (Tq3.setTop (mkF m 210 #[.val (.int x0), .val (.int x1), .val (.int x2), .val (.int fk), .val (.int nk), .val (.int ak), .val (.ref em), .val (.ref al), .val (.ref xr_q2), .val (.int (1 : Int32)), .unset] [(.ref bq3), (.ref bq3)]))
  refine GoesW.via (fun _ k => XS.aload Xq3.here hx rfl (hb hby at_210) rfl rfl k) ?_
  show GoesW _ _ _ _ _ _ _ _ (Tq3.setTop (mkF m 212 #[.val (.int x0), .val (.int x1), .val (.int x2), .val (.int fk), .val (.int nk), .val (.int ak), .val (.ref em), .val (.ref al), .val (.ref xr_q2), .val (.int (1 : Int32)), .unset] [(.ref em), (.ref bq3), (.ref bq3)]))
  refine GoesW.via (fun _ k => XS.aload Xq3.here hx rfl (hb hby at_212) rfl rfl k) ?_
  show GoesW _ _ _ _ _ _ _ _ (Tq3.setTop (mkF m 214 #[.val (.int x0), .val (.int x1), .val (.int x2), .val (.int fk), .val (.int nk), .val (.int ak), .val (.ref em), .val (.ref al), .val (.ref xr_q2), .val (.int (1 : Int32)), .unset] [(.ref al), (.ref em), (.ref bq3), (.ref bq3)]))
  obtain ⟨vq4, Tq4, Lq4, Xq4, Sq4, hZq4, hownq4, Rq4, qq4, nq4, stq4⟩ := callSpW Xq3 hx hZ hown hS (by rw [eq3]; omega) (ew hw) Cq3.1 (allS (lt_ok (by omega)) all0) (allS (Safe.exa hZ.alike Aq3 (by decide) (by decide)) all0) (npInit l Z aw hw bq3 em al Oq3 Aq3 (Dq3 (Or.inr (W_68 hw)) (ty := (.object "java/util/Optional")) (by decide)) (Dq3 (Or.inr (W_70 hw)) (ty := (.object "java/util/Optional")) (by decide)) (by omega)) rfl (W_53 hw) (W_54 hw) (W_52 hw) (W_55 hw) (by decide) eq3 (by decide) (W := 1) (by decide) (by show _ + 4 ≤ 40; omega) (by show _ + 80 ≤ 5312; omega) (g := (mkF m 214 #[.val (.int x0), .val (.int x1), .val (.int x2), .val (.int fk), .val (.int nk), .val (.int ak), .val (.ref em), .val (.ref al), .val (.ref xr_q2), .val (.int (1 : Int32)), .unset] [(.ref al), (.ref em), (.ref bq3), (.ref bq3)])) rfl (by rw [hml]; rfl) (a := bq3) (argsL := [(.ref em), (.ref al)]) (rest := [(.ref bq3)]) rfl (lenOf pd_20 rfl) rfl (by show 2 * 0 + _ ≤ _; exact Nat.le_of_eq rfl) (hb hby at_214)
  dsimp only at Xq4
  obtain ⟨rfl, pq4_0, pq4_1, pq4_2⟩ := qq4
  have Nq4 := Fr.app N nq4
  have zq4 := pq4_0.1
  have Oq4 := Oq3.keep pq4_0 (allS (by omega) all0)
  have Cq4 := Cq3.trans Rq4
  have ltpq4_1 := lt_nat pq4_1.lt
  refine GoesW.via stq4 ?_
  show GoesW _ _ _ _ _ _ _ _ (Tq4.setTop (mkF m 217 #[.val (.int x0), .val (.int x1), .val (.int x2), .val (.int fk), .val (.int nk), .val (.int ak), .val (.ref em), .val (.ref al), .val (.ref xr_q2), .val (.int (1 : Int32)), .unset] [(.ref bq3)]))
  refine GoesW.via (fun _ k => XS.astore Xq4.here hx rfl (hb hby at_217) rfl rfl (l' := #[.val (.int x0), .val (.int x1), .val (.int x2), .val (.int fk), .val (.int nk), .val (.int ak), .val (.ref em), .val (.ref al), .val (.ref xr_q2), .val (.int (1 : Int32)), .val (.ref bq3)]) rfl k) ?_
  show GoesW _ _ _ _ _ _ _ _ (Tq4.setTop (mkF m 219 #[.val (.int x0), .val (.int x1), .val (.int x2), .val (.int fk), .val (.int nk), .val (.int ak), .val (.ref em), .val (.ref al), .val (.ref xr_q2), .val (.int (1 : Int32)), .val (.ref bq3)] []))
  refine GoesW.via (fun _ k => XS.aload Xq4.here hx rfl (hb hby at_219) rfl rfl k) ?_
  show GoesW _ _ _ _ _ _ _ _ (Tq4.setTop (mkF m 221 #[.val (.int x0), .val (.int x1), .val (.int x2), .val (.int fk), .val (.int nk), .val (.int ak), .val (.ref em), .val (.ref al), .val (.ref xr_q2), .val (.int (1 : Int32)), .val (.ref bq3)] [(.ref bq3)]))
  refine GoesW.via (fun _ k => XS.aload Xq4.here hx rfl (hb hby at_221) rfl rfl k) ?_
  show GoesW _ _ _ _ _ _ _ _ (Tq4.setTop (mkF m 223 #[.val (.int x0), .val (.int x1), .val (.int x2), .val (.int fk), .val (.int nk), .val (.int ak), .val (.ref em), .val (.ref al), .val (.ref xr_q2), .val (.int (1 : Int32)), .val (.ref bq3)] [(.ref xr_q2), (.ref bq3)]))
  have fq5 : Exa Z Tq4.heap em "java/util/Optional" := (EE.ext Oq4.2)
  have fq6 : Fld Z Tq4.heap em "java/util/Optional" "value" "Ljava/lang/Object;" .null := (FE.ext Oq4.2)
  obtain ⟨vq7, Tq7, Lq7, Xq7, qq7, nq7, stq7⟩ := callVi Xq4 hx hZq4 hownq4 (accE l Z aw hw bq3 em xr_q2 Oq4 pq4_2 fq5 fq6) (W_71 hw) (W_72 hw) (notFace_of_selects (args := #[]) (mvT hZq4 (W_74 hw))) (W_74 hw) (W_73 hw) (W_52 hw) (W_75 hw) (by decide) rfl pq4_1 (by decide) (W := 0) (by decide) (by show _ + 0 ≤ 40; omega) (by show _ + 0 ≤ 5312; omega) (g := (mkF m 223 #[.val (.int x0), .val (.int x1), .val (.int x2), .val (.int fk), .val (.int nk), .val (.int ak), .val (.ref em), .val (.ref al), .val (.ref xr_q2), .val (.int (1 : Int32)), .val (.ref bq3)] [(.ref xr_q2), (.ref bq3)])) rfl (by rw [hml]; rfl) (a := bq3) (argsL := [(.ref xr_q2)]) (rest := []) rfl (lenOf pd_21 rfl) rfl (by show 2 * 0 + _ ≤ _; exact Nat.le_of_eq rfl) (hb hby at_223)
  dsimp only at Xq7
  obtain ⟨rfl, pq7_0⟩ := qq7
  have Nq7 := Fr.app Nq4 nq7
  refine GoesW.via stq7 ?_
  show GoesW _ _ _ _ _ _ _ _ (Tq7.setTop (mkF m 226 #[.val (.int x0), .val (.int x1), .val (.int x2), .val (.int fk), .val (.int nk), .val (.int ak), .val (.ref em), .val (.ref al), .val (.ref xr_q2), .val (.int (1 : Int32)), .val (.ref bq3)] [(.int (1 : Int32))]))
  refine GoesW.via (fun _ k => XS.iload Xq7.here hx rfl (hb hby at_226) rfl k) ?_
  show GoesW _ _ _ _ _ _ _ _ (Tq7.setTop (mkF m 228 #[.val (.int x0), .val (.int x1), .val (.int x2), .val (.int fk), .val (.int nk), .val (.int ak), .val (.ref em), .val (.ref al), .val (.ref xr_q2), .val (.int (1 : Int32)), .val (.ref bq3)] [(.int (1 : Int32)), (.int (1 : Int32))]))
  refine GoesW.via (fun _ k => XS.icmpNo Xq7.here hx rfl (hb hby at_228) rfl (XT.ii_ne_f (by decide)) k) ?_
  show GoesW _ _ _ _ _ _ _ _ (Tq7.setTop (mkF m 231 #[.val (.int x0), .val (.int x1), .val (.int x2), .val (.int fk), .val (.int nk), .val (.int ak), .val (.ref em), .val (.ref al), .val (.ref xr_q2), .val (.int (1 : Int32)), .val (.ref bq3)] []))
  refine GoesW.via (fun _ k => XT.iconstV Xq7.here hx rfl (1 : Int32) (hb hby at_231) (by decide) k) ?_
  show GoesW _ _ _ _ _ _ _ _ (Tq7.setTop (mkF m 232 #[.val (.int x0), .val (.int x1), .val (.int x2), .val (.int fk), .val (.int nk), .val (.int ak), .val (.ref em), .val (.ref al), .val (.ref xr_q2), .val (.int (1 : Int32)), .val (.ref bq3)] [(.int (1 : Int32))]))
  refine GoesW.via (fun _ k => XS.goto Xq7.here hx rfl (pc0 := 232) (pc' := 236) rfl (hb hby at_232) (by decide) (by decide) k) ?_
  show GoesW _ _ _ _ _ _ _ _ (Tq7.setTop (mkF m 236 #[.val (.int x0), .val (.int x1), .val (.int x2), .val (.int fk), .val (.int nk), .val (.int ak), .val (.ref em), .val (.ref al), .val (.ref xr_q2), .val (.int (1 : Int32)), .val (.ref bq3)] [(.int (1 : Int32))]))
  refine goRetNW Xq7 hx hrt (by simp) hlk Nq7 Sq4 (by rw [pq7_0]; omega) (by show _ ≤ 40; omega) (by show _ ≤ 5312; omega) (hb hby at_236) ?_
  intro hWm
  try rw [pq7_0]
  refine ⟨?_, Cq4.trans (CHv.at Xq7 hZq4 (ew hw) Cq4.1)⟩
  exact rfl
set_option maxRecDepth 65536 in
set_option maxHeartbeats 40000000 in
theorem law_c12 (l : Launch) (Z : State) (aw : Array Value) (hw : ∀ d ∈ tables_1, d.before aw Z = true) (x0 : Int32) (x1 : Int32) (x2 : Int32) (fk : Int32) (nk : Int32) (ak : Int32) (em : Nat) (bt : Nat) (bf : Nat) (cz : Int32) (al : Nat) {p : Program} {e : Env} {s : State} {m : MethodId} {args : Array Value} {below : List Frame} {meth : Method} {c : Code} {T : State} {locs : List Loc} {cells slots n0 : Nat} {h0 h1 : Heap} (hx : p.tables.exec = Jvm.exec) (hby : c.code = code) (hml : c.maxLocals = 11) (hrt : meth.sig.returnType = some .boolean) (hlk : meth.locks = false) (hnm : meth.name = "law") {vm0 vmE : Vm} {k0 : Nat} (hZ : Z.Warmed39 vm0) (hown : vm0.findClass "com/example/vouchsafe/vouchsafe/message/NameIdPolicyAcceptsPinLaw" = some m.cls) (X : Stand p l e room_1 (s.setVm vm0) m args below meth c T locs cells slots) (e0 : T.heap = h1) (N : Fr n0 locs) (hcells : cells ≤ 10) (hslots : slots ≤ 240) (O : Old Z n0 h1) (hS : s.Since vm0 k0) (hk0 : k0 ≤ h1.size) (C0 : CHr Z EL vmE h0 vm0 h1) (CS : Sta Z Z.heap "java/lang/String" "COMPACT_STRINGS" "Z" (.int cz)) (SE : Sta Z Z.heap "java/util/Optional" "EMPTY" "Ljava/util/Optional;" (.ref em)) (EE : Exa Z Z.heap em "java/util/Optional") (FE : Fld Z Z.heap em "java/util/Optional" "value" "Ljava/lang/Object;" .null) (ST1 : Sta Z Z.heap "java/lang/Boolean" "TRUE" "Ljava/lang/Boolean;" (.ref bt)) (ST0 : Sta Z Z.heap "java/lang/Boolean" "FALSE" "Ljava/lang/Boolean;" (.ref bf)) (hcz : ¬ cz = (0 : Int32)) (hf0 : fk = (0 : Int32)) (cq1 : ¬ (nk = (0 : Int32))) (cq3 : nk = (1 : Int32)) :
    GoesW p e below s room_1.cells room_1.slots n0 (fun v vm h => (fun vv hh => vv = some (.int (1 : Int32))) v h ∧ CHr Z EL vmE h0 vm h) (T.setTop (mkF m 114 #[.val (.int x0), .val (.int x1), .val (.int x2), .val (.int fk), .val (.int nk), .val (.int ak), .val (.ref em), .val (.ref al), .unset, .unset, .unset] [(.int x0)])) := by
  have zO := O.le
  show GoesW _ _ _ _ _ _ _ _ (T.setTop (mkF m 114 #[.val (.int x0), .val (.int x1), .val (.int x2), .val (.int fk), .val (.int nk), .val (.int ak), .val (.ref em), .val (.ref al), .unset, .unset, .unset] [(.int x0)]))
  obtain ⟨vq4, Tq4, Lq4, Xq4, Sq4, hZq4, hownq4, Rq4, qq4, nq4, stq4⟩ := callStW X hx hZ hown hS (by rw [e0]; omega) (ew hw) C0.1 all0 all0 (drawnC l Z aw hw x0 cz O CS hcz) (W_0 hw) (W_1 hw) (W_2 hw) (W_3 hw) (by decide) e0 (by decide) (W := 0) (by decide) (by show _ + 6 ≤ 40; omega) (by show _ + 14 ≤ 5312; omega) (g := (mkF m 114 #[.val (.int x0), .val (.int x1), .val (.int x2), .val (.int fk), .val (.int nk), .val (.int ak), .val (.ref em), .val (.ref al), .unset, .unset, .unset] [(.int x0)])) rfl (by rw [hml]; rfl) (argsL := [(.int x0)]) (rest := []) rfl (lenOf pd_19 rfl) rfl (by show 2 * 0 + _ ≤ _; exact Nat.le_of_eq rfl) (hb hby at_114)
  dsimp only at Xq4
  obtain ⟨xr_q4, xtb_q4, xkt_q4, xN1_q4, xvs_q4, rfl, pq4_0, pq4_1, pq4_2, pq4_3, pq4_4, pq4_5, pq4_6⟩ := qq4
  have Nq4 := Fr.app N nq4
  have zq4 := pq4_1.1
  have Oq4 := O.keep pq4_1 all0
  have Cq4 := C0.trans Rq4
  have ltpq4_2 := lt_nat pq4_2.lt
  have ltpq4_5 := lt_nat pq4_5.lt
  refine GoesW.via stq4 ?_
  show GoesW _ _ _ _ _ _ _ _ (Tq4.setTop (mkF m 117 #[.val (.int x0), .val (.int x1), .val (.int x2), .val (.int fk), .val (.int nk), .val (.int ak), .val (.ref em), .val (.ref al), .unset, .unset, .unset] [(.ref xr_q4)]))
  refine GoesW.via (fun _ k => XS.astore Xq4.here hx rfl (hb hby at_117) rfl rfl (l' := #[.val (.int x0), .val (.int x1), .val (.int x2), .val (.int fk), .val (.int nk), .val (.int ak), .val (.ref em), .val (.ref al), .val (.ref xr_q4), .unset, .unset]) rfl k) ?_
  show GoesW _ _ _ _ _ _ _ _ (Tq4.setTop (mkF m 119 #[.val (.int x0), .val (.int x1), .val (.int x2), .val (.int fk), .val (.int nk), .val (.int ak), .val (.ref em), .val (.ref al), .val (.ref xr_q4), .unset, .unset] []))
  refine GoesW.via (fun _ k => XS.goto Xq4.here hx rfl (pc0 := 119) (pc' := 143) rfl (hb hby at_119) (by decide) (by decide) k) ?_
  show GoesW _ _ _ _ _ _ _ _ (Tq4.setTop (mkF m 143 #[.val (.int x0), .val (.int x1), .val (.int x2), .val (.int fk), .val (.int nk), .val (.int ak), .val (.ref em), .val (.ref al), .val (.ref xr_q4), .unset, .unset] []))
  refine GoesW.via (fun _ k => XS.iloadN Xq4.here hx rfl (hb hby at_143) rfl k) ?_
  show GoesW _ _ _ _ _ _ _ _ (Tq4.setTop (mkF m 144 #[.val (.int x0), .val (.int x1), .val (.int x2), .val (.int fk), .val (.int nk), .val (.int ak), .val (.ref em), .val (.ref al), .val (.ref xr_q4), .unset, .unset] [(.int fk)]))
  refine GoesW.via (fun _ k => XS.ifYes Xq4.here hx rfl (pc0 := 144) (pc' := 152) rfl (hb hby at_144) rfl (XT.i0_eq_t hf0) (by decide) (by decide) k) ?_
  show GoesW _ _ _ _ _ _ _ _ (Tq4.setTop (mkF m 152 #[.val (.int x0), .val (.int x1), .val (.int x2), .val (.int fk), .val (.int nk), .val (.int ak), .val (.ref em), .val (.ref al), .val (.ref xr_q4), .unset, .unset] []))
  refine GoesW.via (fun _ k => XT.iconstV Xq4.here hx rfl (1 : Int32) (hb hby at_152) (by decide) k) ?_
  show GoesW _ _ _ _ _ _ _ _ (Tq4.setTop (mkF m 153 #[.val (.int x0), .val (.int x1), .val (.int x2), .val (.int fk), .val (.int nk), .val (.int ak), .val (.ref em), .val (.ref al), .val (.ref xr_q4), .unset, .unset] [(.int (1 : Int32))]))
  refine GoesW.via (fun _ k => XS.istore Xq4.here hx rfl (hb hby at_153) rfl (l' := #[.val (.int x0), .val (.int x1), .val (.int x2), .val (.int fk), .val (.int nk), .val (.int ak), .val (.ref em), .val (.ref al), .val (.ref xr_q4), .val (.int (1 : Int32)), .unset]) rfl k) ?_
  show GoesW _ _ _ _ _ _ _ _ (Tq4.setTop (mkF m 155 #[.val (.int x0), .val (.int x1), .val (.int x2), .val (.int fk), .val (.int nk), .val (.int ak), .val (.ref em), .val (.ref al), .val (.ref xr_q4), .val (.int (1 : Int32)), .unset] []))
  refine GoesW.via (fun _ k => XS.goto Xq4.here hx rfl (pc0 := 155) (pc' := 206) rfl (hb hby at_155) (by decide) (by decide) k) ?_
  show GoesW _ _ _ _ _ _ _ _ (Tq4.setTop (mkF m 206 #[.val (.int x0), .val (.int x1), .val (.int x2), .val (.int fk), .val (.int nk), .val (.int ak), .val (.ref em), .val (.ref al), .val (.ref xr_q4), .val (.int (1 : Int32)), .unset] []))
  obtain ⟨Tq5, hq5, Xq5, eq5, Eq5, Aq5, Dq5, -, stq5⟩ := newO Xq4 hx hZq4 hownq4 (W_50 hw) (W_51 hw) (W_52 hw) rfl (g := (mkF m 206 #[.val (.int x0), .val (.int x1), .val (.int x2), .val (.int fk), .val (.int nk), .val (.int ak), .val (.ref em), .val (.ref al), .val (.ref xr_q4), .val (.int (1 : Int32)), .unset] [])) rfl (hb hby at_206) (by show _ + 1 ≤ 40; omega) (by show _ + 2 ≤ 5312; omega)
  obtain ⟨bq5, gq5⟩ : ∃ z, z = Tq4.heap.size := ⟨_, rfl⟩
  rw [← gq5] at Aq5 Dq5 stq5
  have zq5 := Eq5.1
  have Oq5 := Oq4.ext Eq5
  have Cq5 := Cq4.trans (CHr.ext Eq5 Cq4.1)
  have lq5 := lt_nat Aq5.lt
  refine GoesW.via stq5 ?_
  show GoesW _ _ _ _ _ _ _ _ (Tq5.setTop (mkF m 209 #[.val (.int x0), .val (.int x1), .val (.int x2), .val (.int fk), .val (.int nk), .val (.int ak), .val (.ref em), .val (.ref al), .val (.ref xr_q4), .val (.int (1 : Int32)), .unset] [(.ref bq5)]))
  refine GoesW.via (fun _ k => XS.dup Xq5.here hx rfl (hb hby at_209) rfl rfl k) ?_
  show GoesW _ _ _ _ _ _ _ _ (Tq5.setTop (mkF m 210 #[.val (.int x0), .val (.int x1), .val (.int x2), .val (.int fk), .val (.int nk), .val (.int ak), .val (.ref em), .val (.ref al), .val (.ref xr_q4), .val (.int (1 : Int32)), .unset] [(.ref bq5), (.ref bq5)]))
  refine GoesW.via (fun _ k => XS.aload Xq5.here hx rfl (hb hby at_210) rfl rfl k) ?_
  show GoesW _ _ _ _ _ _ _ _ (Tq5.setTop (mkF m 212 #[.val (.int x0), .val (.int x1), .val (.int x2), .val (.int fk), .val (.int nk), .val (.int ak), .val (.ref em), .val (.ref al), .val (.ref xr_q4), .val (.int (1 : Int32)), .unset] [(.ref em), (.ref bq5), (.ref bq5)]))
  refine GoesW.via (fun _ k => XS.aload Xq5.here hx rfl (hb hby at_212) rfl rfl k) ?_
  show GoesW _ _ _ _ _ _ _ _ (Tq5.setTop (mkF m 214 #[.val (.int x0), .val (.int x1), .val (.int x2), .val (.int fk), .val (.int nk), .val (.int ak), .val (.ref em), .val (.ref al), .val (.ref xr_q4), .val (.int (1 : Int32)), .unset] [(.ref al), (.ref em), (.ref bq5), (.ref bq5)]))
  obtain ⟨vq6, Tq6, Lq6, Xq6, Sq6, hZq6, hownq6, Rq6, qq6, nq6, stq6⟩ := callSpW Xq5 hx hZq4 hownq4 Sq4 (by rw [eq5]; omega) (ew hw) Cq5.1 (allS (lt_ok (by omega)) all0) (allS (Safe.exa hZq4.alike Aq5 (by decide) (by decide)) all0) (npInit l Z aw hw bq5 em al Oq5 Aq5 (Dq5 (Or.inr (W_68 hw)) (ty := (.object "java/util/Optional")) (by decide)) (Dq5 (Or.inr (W_70 hw)) (ty := (.object "java/util/Optional")) (by decide)) (by omega)) rfl (W_53 hw) (W_54 hw) (W_52 hw) (W_55 hw) (by decide) eq5 (by decide) (W := 1) (by decide) (by show _ + 4 ≤ 40; omega) (by show _ + 80 ≤ 5312; omega) (g := (mkF m 214 #[.val (.int x0), .val (.int x1), .val (.int x2), .val (.int fk), .val (.int nk), .val (.int ak), .val (.ref em), .val (.ref al), .val (.ref xr_q4), .val (.int (1 : Int32)), .unset] [(.ref al), (.ref em), (.ref bq5), (.ref bq5)])) rfl (by rw [hml]; rfl) (a := bq5) (argsL := [(.ref em), (.ref al)]) (rest := [(.ref bq5)]) rfl (lenOf pd_20 rfl) rfl (by show 2 * 0 + _ ≤ _; exact Nat.le_of_eq rfl) (hb hby at_214)
  dsimp only at Xq6
  obtain ⟨rfl, pq6_0, pq6_1, pq6_2⟩ := qq6
  have Nq6 := Fr.app Nq4 nq6
  have zq6 := pq6_0.1
  have Oq6 := Oq5.keep pq6_0 (allS (by omega) all0)
  have Cq6 := Cq5.trans Rq6
  have ltpq6_1 := lt_nat pq6_1.lt
  refine GoesW.via stq6 ?_
  show GoesW _ _ _ _ _ _ _ _ (Tq6.setTop (mkF m 217 #[.val (.int x0), .val (.int x1), .val (.int x2), .val (.int fk), .val (.int nk), .val (.int ak), .val (.ref em), .val (.ref al), .val (.ref xr_q4), .val (.int (1 : Int32)), .unset] [(.ref bq5)]))
  refine GoesW.via (fun _ k => XS.astore Xq6.here hx rfl (hb hby at_217) rfl rfl (l' := #[.val (.int x0), .val (.int x1), .val (.int x2), .val (.int fk), .val (.int nk), .val (.int ak), .val (.ref em), .val (.ref al), .val (.ref xr_q4), .val (.int (1 : Int32)), .val (.ref bq5)]) rfl k) ?_
  show GoesW _ _ _ _ _ _ _ _ (Tq6.setTop (mkF m 219 #[.val (.int x0), .val (.int x1), .val (.int x2), .val (.int fk), .val (.int nk), .val (.int ak), .val (.ref em), .val (.ref al), .val (.ref xr_q4), .val (.int (1 : Int32)), .val (.ref bq5)] []))
  refine GoesW.via (fun _ k => XS.aload Xq6.here hx rfl (hb hby at_219) rfl rfl k) ?_
  show GoesW _ _ _ _ _ _ _ _ (Tq6.setTop (mkF m 221 #[.val (.int x0), .val (.int x1), .val (.int x2), .val (.int fk), .val (.int nk), .val (.int ak), .val (.ref em), .val (.ref al), .val (.ref xr_q4), .val (.int (1 : Int32)), .val (.ref bq5)] [(.ref bq5)]))
  refine GoesW.via (fun _ k => XS.aload Xq6.here hx rfl (hb hby at_221) rfl rfl k) ?_
  show GoesW _ _ _ _ _ _ _ _ (Tq6.setTop (mkF m 223 #[.val (.int x0), .val (.int x1), .val (.int x2), .val (.int fk), .val (.int nk), .val (.int ak), .val (.ref em), .val (.ref al), .val (.ref xr_q4), .val (.int (1 : Int32)), .val (.ref bq5)] [(.ref xr_q4), (.ref bq5)]))
  have fq7 : Exa Z Tq6.heap em "java/util/Optional" := (EE.ext Oq6.2)
  have fq8 : Fld Z Tq6.heap em "java/util/Optional" "value" "Ljava/lang/Object;" .null := (FE.ext Oq6.2)
  obtain ⟨vq9, Tq9, Lq9, Xq9, qq9, nq9, stq9⟩ := callVi Xq6 hx hZq6 hownq6 (accE l Z aw hw bq5 em xr_q4 Oq6 pq6_2 fq7 fq8) (W_71 hw) (W_72 hw) (notFace_of_selects (args := #[]) (mvT hZq6 (W_74 hw))) (W_74 hw) (W_73 hw) (W_52 hw) (W_75 hw) (by decide) rfl pq6_1 (by decide) (W := 0) (by decide) (by show _ + 0 ≤ 40; omega) (by show _ + 0 ≤ 5312; omega) (g := (mkF m 223 #[.val (.int x0), .val (.int x1), .val (.int x2), .val (.int fk), .val (.int nk), .val (.int ak), .val (.ref em), .val (.ref al), .val (.ref xr_q4), .val (.int (1 : Int32)), .val (.ref bq5)] [(.ref xr_q4), (.ref bq5)])) rfl (by rw [hml]; rfl) (a := bq5) (argsL := [(.ref xr_q4)]) (rest := []) rfl (lenOf pd_21 rfl) rfl (by show 2 * 0 + _ ≤ _; exact Nat.le_of_eq rfl) (hb hby at_223)
  dsimp only at Xq9
  obtain ⟨rfl, pq9_0⟩ := qq9
  have Nq9 := Fr.app Nq6 nq9
  refine GoesW.via stq9 ?_
  show GoesW _ _ _ _ _ _ _ _ (Tq9.setTop (mkF m 226 #[.val (.int x0), .val (.int x1), .val (.int x2), .val (.int fk), .val (.int nk), .val (.int ak), .val (.ref em), .val (.ref al), .val (.ref xr_q4), .val (.int (1 : Int32)), .val (.ref bq5)] [(.int (1 : Int32))]))
  refine GoesW.via (fun _ k => XS.iload Xq9.here hx rfl (hb hby at_226) rfl k) ?_
  show GoesW _ _ _ _ _ _ _ _ (Tq9.setTop (mkF m 228 #[.val (.int x0), .val (.int x1), .val (.int x2), .val (.int fk), .val (.int nk), .val (.int ak), .val (.ref em), .val (.ref al), .val (.ref xr_q4), .val (.int (1 : Int32)), .val (.ref bq5)] [(.int (1 : Int32)), (.int (1 : Int32))]))
  refine GoesW.via (fun _ k => XS.icmpNo Xq9.here hx rfl (hb hby at_228) rfl (XT.ii_ne_f (by decide)) k) ?_
  show GoesW _ _ _ _ _ _ _ _ (Tq9.setTop (mkF m 231 #[.val (.int x0), .val (.int x1), .val (.int x2), .val (.int fk), .val (.int nk), .val (.int ak), .val (.ref em), .val (.ref al), .val (.ref xr_q4), .val (.int (1 : Int32)), .val (.ref bq5)] []))
  refine GoesW.via (fun _ k => XT.iconstV Xq9.here hx rfl (1 : Int32) (hb hby at_231) (by decide) k) ?_
  show GoesW _ _ _ _ _ _ _ _ (Tq9.setTop (mkF m 232 #[.val (.int x0), .val (.int x1), .val (.int x2), .val (.int fk), .val (.int nk), .val (.int ak), .val (.ref em), .val (.ref al), .val (.ref xr_q4), .val (.int (1 : Int32)), .val (.ref bq5)] [(.int (1 : Int32))]))
  refine GoesW.via (fun _ k => XS.goto Xq9.here hx rfl (pc0 := 232) (pc' := 236) rfl (hb hby at_232) (by decide) (by decide) k) ?_
  show GoesW _ _ _ _ _ _ _ _ (Tq9.setTop (mkF m 236 #[.val (.int x0), .val (.int x1), .val (.int x2), .val (.int fk), .val (.int nk), .val (.int ak), .val (.ref em), .val (.ref al), .val (.ref xr_q4), .val (.int (1 : Int32)), .val (.ref bq5)] [(.int (1 : Int32))]))
  refine goRetNW Xq9 hx hrt (by simp) hlk Nq9 Sq6 (by rw [pq9_0]; omega) (by show _ ≤ 40; omega) (by show _ ≤ 5312; omega) (hb hby at_236) ?_
  intro hWm
  try rw [pq9_0]
  refine ⟨?_, Cq6.trans (CHv.at Xq9 hZq6 (ew hw) Cq6.1)⟩
  exact rfl
set_option maxRecDepth 65536 in
set_option maxHeartbeats 40000000 in
theorem law_c14 (l : Launch) (Z : State) (aw : Array Value) (hw : ∀ d ∈ tables_1, d.before aw Z = true) (x0 : Int32) (x1 : Int32) (x2 : Int32) (fk : Int32) (nk : Int32) (ak : Int32) (em : Nat) (bt : Nat) (bf : Nat) (cz : Int32) (al : Nat) (aq5 : Nat) (wq5 : Nat) (kkq5 : ClassId) {p : Program} {e : Env} {s : State} {m : MethodId} {args : Array Value} {below : List Frame} {meth : Method} {c : Code} {T : State} {locs : List Loc} {cells slots n0 : Nat} {h0 h1 : Heap} (hx : p.tables.exec = Jvm.exec) (hby : c.code = code) (hml : c.maxLocals = 11) (hrt : meth.sig.returnType = some .boolean) (hlk : meth.locks = false) (hnm : meth.name = "law") {vm0 vmE : Vm} {k0 : Nat} (hZ : Z.Warmed39 vm0) (hown : vm0.findClass "com/example/vouchsafe/vouchsafe/message/NameIdPolicyAcceptsPinLaw" = some m.cls) (X : Stand p l e room_1 (s.setVm vm0) m args below meth c T locs cells slots) (e0 : T.heap = h1) (N : Fr n0 locs) (hcells : cells ≤ 12) (hslots : slots ≤ 456) (O : Old Z n0 h1) (hS : s.Since vm0 k0) (hk0 : k0 ≤ h1.size) (C0 : CHr Z EL vmE h0 vm0 h1) (CS : Sta Z Z.heap "java/lang/String" "COMPACT_STRINGS" "Z" (.int cz)) (SE : Sta Z Z.heap "java/util/Optional" "EMPTY" "Ljava/util/Optional;" (.ref em)) (EE : Exa Z Z.heap em "java/util/Optional") (FE : Fld Z Z.heap em "java/util/Optional" "value" "Ljava/lang/Object;" .null) (ST1 : Sta Z Z.heap "java/lang/Boolean" "TRUE" "Ljava/lang/Boolean;" (.ref bt)) (ST0 : Sta Z Z.heap "java/lang/Boolean" "FALSE" "Ljava/lang/Boolean;" (.ref bf)) (pf0 : Exa Z h1 aq5 "java/lang/String") (pf1 : Fld Z h1 aq5 "java/lang/String" "coder" "B" (.int (0 : Int32))) (pf2 : Fld Z h1 aq5 "java/lang/String" "value" "[B" (.ref wq5)) (pf3 : Arv Z h1 wq5 kkq5 .byte (53 : Int32) [(.int (117 : Int32)), (.int (114 : Int32)), (.int (110 : Int32)), (.int (58 : Int32)), (.int (111 : Int32)), (.int (97 : Int32)), (.int (115 : Int32)), (.int (105 : Int32)), (.int (115 : Int32)), (.int (58 : Int32)), (.int (110 : Int32)), (.int (97 : Int32)), (.int (109 : Int32)), (.int (101 : Int32)), (.int (115 : Int32)), (.int (58 : Int32)), (.int (116 : Int32)), (.int (99 : Int32)), (.int (58 : Int32)), (.int (83 : Int32)), (.int (65 : Int32)), (.int (77 : Int32)), (.int (76 : Int32)), (.int (58 : Int32)), (.int (49 : Int32)), (.int (46 : Int32)), (.int (49 : Int32)), (.int (58 : Int32)), (.int (110 : Int32)), (.int (97 : Int32)), (.int (109 : Int32)), (.int (101 : Int32)), (.int (105 : Int32)), (.int (100 : Int32)), (.int (45 : Int32)), (.int (102 : Int32)), (.int (111 : Int32)), (.int (114 : Int32)), (.int (109 : Int32)), (.int (97 : Int32)), (.int (116 : Int32)), (.int (58 : Int32)), (.int (117 : Int32)), (.int (110 : Int32)), (.int (115 : Int32)), (.int (112 : Int32)), (.int (101 : Int32)), (.int (99 : Int32)), (.int (105 : Int32)), (.int (102 : Int32)), (.int (105 : Int32)), (.int (101 : Int32)), (.int (100 : Int32))] (.int (0 : Int32))) (hcz : ¬ cz = (0 : Int32)) (hf0 : fk = (0 : Int32)) (cq1 : ¬ (nk = (0 : Int32))) (cq3 : ¬ (nk = (1 : Int32))) (cq4 : nk = (2 : Int32)) :
    GoesW p e below s room_1.cells room_1.slots n0 (fun v vm h => (fun vv hh => vv = some (.int (1 : Int32))) v h ∧ CHr Z EL vmE h0 vm h) (T.setTop (mkF m 144 #[.val (.int x0), .val (.int x1), .val (.int x2), .val (.int fk), .val (.int nk), .val (.int ak), .val (.ref em), .val (.ref al), .val (.ref aq5), .unset, .unset] [(.int fk)])) := by
  have zO := O.le
  have lt_aq5 := lt_nat pf0.lt
  have lt_wq5 := lt_nat pf3.lt
  show GoesW _ _ _ _ _ _ _ _ (T.setTop (mkF m 144 #[.val (.int x0), .val (.int x1), .val (.int x2), .val (.int fk), .val (.int nk), .val (.int ak), .val (.ref em), .val (.ref al), .val (.ref aq5), .unset, .unset] [(.int fk)]))
  refine GoesW.via (fun _ k => XS.ifYes X.here hx rfl (pc0 := 144) (pc' := 152) rfl (hb hby at_144) rfl (XT.i0_eq_t hf0) (by decide) (by decide) k) ?_
  show GoesW _ _ _ _ _ _ _ _ (T.setTop (mkF m 152 #[.val (.int x0), .val (.int x1), .val (.int x2), .val (.int fk), .val (.int nk), .val (.int ak), .val (.ref em), .val (.ref al), .val (.ref aq5), .unset, .unset] []))
  refine GoesW.via (fun _ k => XT.iconstV X.here hx rfl (1 : Int32) (hb hby at_152) (by decide) k) ?_
  show GoesW _ _ _ _ _ _ _ _ (T.setTop (mkF m 153 #[.val (.int x0), .val (.int x1), .val (.int x2), .val (.int fk), .val (.int nk), .val (.int ak), .val (.ref em), .val (.ref al), .val (.ref aq5), .unset, .unset] [(.int (1 : Int32))]))
  refine GoesW.via (fun _ k => XS.istore X.here hx rfl (hb hby at_153) rfl (l' := #[.val (.int x0), .val (.int x1), .val (.int x2), .val (.int fk), .val (.int nk), .val (.int ak), .val (.ref em), .val (.ref al), .val (.ref aq5), .val (.int (1 : Int32)), .unset]) rfl k) ?_
  show GoesW _ _ _ _ _ _ _ _ (T.setTop (mkF m 155 #[.val (.int x0), .val (.int x1), .val (.int x2), .val (.int fk), .val (.int nk), .val (.int ak), .val (.ref em), .val (.ref al), .val (.ref aq5), .val (.int (1 : Int32)), .unset] []))
  refine GoesW.via (fun _ k => XS.goto X.here hx rfl (pc0 := 155) (pc' := 206) rfl (hb hby at_155) (by decide) (by decide) k) ?_
  show GoesW _ _ _ _ _ _ _ _ (T.setTop (mkF m 206 #[.val (.int x0), .val (.int x1), .val (.int x2), .val (.int fk), .val (.int nk), .val (.int ak), .val (.ref em), .val (.ref al), .val (.ref aq5), .val (.int (1 : Int32)), .unset] []))
  obtain ⟨Tq6, hq6, Xq6, eq6, Eq6, Aq6, Dq6, -, stq6⟩ := newO X hx hZ hown (W_50 hw) (W_51 hw) (W_52 hw) e0 (g := (mkF m 206 #[.val (.int x0), .val (.int x1), .val (.int x2), .val (.int fk), .val (.int nk), .val (.int ak), .val (.ref em), .val (.ref al), .val (.ref aq5), .val (.int (1 : Int32)), .unset] [])) rfl (hb hby at_206) (by show _ + 1 ≤ 40; omega) (by show _ + 2 ≤ 5312; omega)
  obtain ⟨bq6, gq6⟩ : ∃ z, z = h1.size := ⟨_, rfl⟩
  rw [← gq6] at Aq6 Dq6 stq6
  have zq6 := Eq6.1
  have Oq6 := O.ext Eq6
  have Cq6 := C0.trans (CHr.ext Eq6 C0.1)
  have lq6 := lt_nat Aq6.lt
  refine GoesW.via stq6 ?_
  show GoesW _ _ _ _ _ _ _ _ (Tq6.setTop (mkF m 209 #[.val (.int x0), .val (.int x1), .val (.int x2), .val (.int fk), .val (.int nk), .val (.int ak), .val (.ref em), .val (.ref al), .val (.ref aq5), .val (.int (1 : Int32)), .unset] [(.ref bq6)]))
  refine GoesW.via (fun _ k => XS.dup Xq6.here hx rfl (hb hby at_209) rfl rfl k) ?_
  show GoesW _ _ _ _ _ _ _ _ (Tq6.setTop (mkF m 210 #[.val (.int x0), .val (.int x1), .val (.int x2), .val (.int fk), .val (.int nk), .val (.int ak), .val (.ref em), .val (.ref al), .val (.ref aq5), .val (.int (1 : Int32)), .unset] [(.ref bq6), (.ref bq6)]))
  refine GoesW.via (fun _ k => XS.aload Xq6.here hx rfl (hb hby at_210) rfl rfl k) ?_
  show GoesW _ _ _ _ _ _ _ _ (Tq6.setTop (mkF m 212 #[.val (.int x0), .val (.int x1), .val (.int x2), .val (.int fk), .val (.int nk), .val (.int ak), .val (.ref em), .val (.ref al), .val (.ref aq5), .val (.int (1 : Int32)), .unset] [(.ref em), (.ref bq6), (.ref bq6)]))
  refine GoesW.via (fun _ k => XS.aload Xq6.here hx rfl (hb hby at_212) rfl rfl k) ?_
  show GoesW _ _ _ _ _ _ _ _ (Tq6.setTop (mkF m 214 #[.val (.int x0), .val (.int x1), .val (.int x2), .val (.int fk), .val (.int nk), .val (.int ak), .val (.ref em), .val (.ref al), .val (.ref aq5), .val (.int (1 : Int32)), .unset] [(.ref al), (.ref em), (.ref bq6), (.ref bq6)]))
  obtain ⟨vq7, Tq7, Lq7, Xq7, Sq7, hZq7, hownq7, Rq7, qq7, nq7, stq7⟩ := callSpW Xq6 hx hZ hown hS (by rw [eq6]; omega) (ew hw) Cq6.1 (allS (lt_ok (by omega)) all0) (allS (Safe.exa hZ.alike Aq6 (by decide) (by decide)) all0) (npInit l Z aw hw bq6 em al Oq6 Aq6 (Dq6 (Or.inr (W_68 hw)) (ty := (.object "java/util/Optional")) (by decide)) (Dq6 (Or.inr (W_70 hw)) (ty := (.object "java/util/Optional")) (by decide)) (by omega)) rfl (W_53 hw) (W_54 hw) (W_52 hw) (W_55 hw) (by decide) eq6 (by decide) (W := 1) (by decide) (by show _ + 4 ≤ 40; omega) (by show _ + 80 ≤ 5312; omega) (g := (mkF m 214 #[.val (.int x0), .val (.int x1), .val (.int x2), .val (.int fk), .val (.int nk), .val (.int ak), .val (.ref em), .val (.ref al), .val (.ref aq5), .val (.int (1 : Int32)), .unset] [(.ref al), (.ref em), (.ref bq6), (.ref bq6)])) rfl (by rw [hml]; rfl) (a := bq6) (argsL := [(.ref em), (.ref al)]) (rest := [(.ref bq6)]) rfl (lenOf pd_20 rfl) rfl (by show 2 * 0 + _ ≤ _; exact Nat.le_of_eq rfl) (hb hby at_214)
  dsimp only at Xq7
  obtain ⟨rfl, pq7_0, pq7_1, pq7_2⟩ := qq7
  have Nq7 := Fr.app N nq7
  have zq7 := pq7_0.1
  have Oq7 := Oq6.keep pq7_0 (allS (by omega) all0)
  have Cq7 := Cq6.trans Rq7
  have ltpq7_1 := lt_nat pq7_1.lt
  refine GoesW.via stq7 ?_
  show GoesW _ _ _ _ _ _ _ _ (Tq7.setTop (mkF m 217 #[.val (.int x0), .val (.int x1), .val (.int x2), .val (.int fk), .val (.int nk), .val (.int ak), .val (.ref em), .val (.ref al), .val (.ref aq5), .val (.int (1 : Int32)), .unset] [(.ref bq6)]))
  refine GoesW.via (fun _ k => XS.astore Xq7.here hx rfl (hb hby at_217) rfl rfl (l' := #[.val (.int x0), .val (.int x1), .val (.int x2), .val (.int fk), .val (.int nk), .val (.int ak), .val (.ref em), .val (.ref al), .val (.ref aq5), .val (.int (1 : Int32)), .val (.ref bq6)]) rfl k) ?_
  show GoesW _ _ _ _ _ _ _ _ (Tq7.setTop (mkF m 219 #[.val (.int x0), .val (.int x1), .val (.int x2), .val (.int fk), .val (.int nk), .val (.int ak), .val (.ref em), .val (.ref al), .val (.ref aq5), .val (.int (1 : Int32)), .val (.ref bq6)] []))
  refine GoesW.via (fun _ k => XS.aload Xq7.here hx rfl (hb hby at_219) rfl rfl k) ?_
  show GoesW _ _ _ _ _ _ _ _ (Tq7.setTop (mkF m 221 #[.val (.int x0), .val (.int x1), .val (.int x2), .val (.int fk), .val (.int nk), .val (.int ak), .val (.ref em), .val (.ref al), .val (.ref aq5), .val (.int (1 : Int32)), .val (.ref bq6)] [(.ref bq6)]))
  refine GoesW.via (fun _ k => XS.aload Xq7.here hx rfl (hb hby at_221) rfl rfl k) ?_
  show GoesW _ _ _ _ _ _ _ _ (Tq7.setTop (mkF m 223 #[.val (.int x0), .val (.int x1), .val (.int x2), .val (.int fk), .val (.int nk), .val (.int ak), .val (.ref em), .val (.ref al), .val (.ref aq5), .val (.int (1 : Int32)), .val (.ref bq6)] [(.ref aq5), (.ref bq6)]))
  have fq8 : Exa Z Tq7.heap em "java/util/Optional" := (EE.ext Oq7.2)
  have fq9 : Fld Z Tq7.heap em "java/util/Optional" "value" "Ljava/lang/Object;" .null := (FE.ext Oq7.2)
  obtain ⟨vq10, Tq10, Lq10, Xq10, qq10, nq10, stq10⟩ := callVi Xq7 hx hZq7 hownq7 (accE l Z aw hw bq6 em aq5 Oq7 pq7_2 fq8 fq9) (W_71 hw) (W_72 hw) (notFace_of_selects (args := #[]) (mvT hZq7 (W_74 hw))) (W_74 hw) (W_73 hw) (W_52 hw) (W_75 hw) (by decide) rfl pq7_1 (by decide) (W := 0) (by decide) (by show _ + 0 ≤ 40; omega) (by show _ + 0 ≤ 5312; omega) (g := (mkF m 223 #[.val (.int x0), .val (.int x1), .val (.int x2), .val (.int fk), .val (.int nk), .val (.int ak), .val (.ref em), .val (.ref al), .val (.ref aq5), .val (.int (1 : Int32)), .val (.ref bq6)] [(.ref aq5), (.ref bq6)])) rfl (by rw [hml]; rfl) (a := bq6) (argsL := [(.ref aq5)]) (rest := []) rfl (lenOf pd_21 rfl) rfl (by show 2 * 0 + _ ≤ _; exact Nat.le_of_eq rfl) (hb hby at_223)
  dsimp only at Xq10
  obtain ⟨rfl, pq10_0⟩ := qq10
  have Nq10 := Fr.app Nq7 nq10
  refine GoesW.via stq10 ?_
  show GoesW _ _ _ _ _ _ _ _ (Tq10.setTop (mkF m 226 #[.val (.int x0), .val (.int x1), .val (.int x2), .val (.int fk), .val (.int nk), .val (.int ak), .val (.ref em), .val (.ref al), .val (.ref aq5), .val (.int (1 : Int32)), .val (.ref bq6)] [(.int (1 : Int32))]))
  refine GoesW.via (fun _ k => XS.iload Xq10.here hx rfl (hb hby at_226) rfl k) ?_
  show GoesW _ _ _ _ _ _ _ _ (Tq10.setTop (mkF m 228 #[.val (.int x0), .val (.int x1), .val (.int x2), .val (.int fk), .val (.int nk), .val (.int ak), .val (.ref em), .val (.ref al), .val (.ref aq5), .val (.int (1 : Int32)), .val (.ref bq6)] [(.int (1 : Int32)), (.int (1 : Int32))]))
  refine GoesW.via (fun _ k => XS.icmpNo Xq10.here hx rfl (hb hby at_228) rfl (XT.ii_ne_f (by decide)) k) ?_
  show GoesW _ _ _ _ _ _ _ _ (Tq10.setTop (mkF m 231 #[.val (.int x0), .val (.int x1), .val (.int x2), .val (.int fk), .val (.int nk), .val (.int ak), .val (.ref em), .val (.ref al), .val (.ref aq5), .val (.int (1 : Int32)), .val (.ref bq6)] []))
  refine GoesW.via (fun _ k => XT.iconstV Xq10.here hx rfl (1 : Int32) (hb hby at_231) (by decide) k) ?_
  show GoesW _ _ _ _ _ _ _ _ (Tq10.setTop (mkF m 232 #[.val (.int x0), .val (.int x1), .val (.int x2), .val (.int fk), .val (.int nk), .val (.int ak), .val (.ref em), .val (.ref al), .val (.ref aq5), .val (.int (1 : Int32)), .val (.ref bq6)] [(.int (1 : Int32))]))
  refine GoesW.via (fun _ k => XS.goto Xq10.here hx rfl (pc0 := 232) (pc' := 236) rfl (hb hby at_232) (by decide) (by decide) k) ?_
  show GoesW _ _ _ _ _ _ _ _ (Tq10.setTop (mkF m 236 #[.val (.int x0), .val (.int x1), .val (.int x2), .val (.int fk), .val (.int nk), .val (.int ak), .val (.ref em), .val (.ref al), .val (.ref aq5), .val (.int (1 : Int32)), .val (.ref bq6)] [(.int (1 : Int32))]))
  refine goRetNW Xq10 hx hrt (by simp) hlk Nq10 Sq7 (by rw [pq10_0]; omega) (by show _ ≤ 40; omega) (by show _ ≤ 5312; omega) (hb hby at_236) ?_
  intro hWm
  try rw [pq10_0]
  refine ⟨?_, Cq7.trans (CHv.at Xq10 hZq7 (ew hw) Cq7.1)⟩
  exact rfl
set_option maxRecDepth 65536 in
set_option maxHeartbeats 40000000 in
theorem law_c15 (l : Launch) (Z : State) (aw : Array Value) (hw : ∀ d ∈ tables_1, d.before aw Z = true) (x0 : Int32) (x1 : Int32) (x2 : Int32) (fk : Int32) (nk : Int32) (ak : Int32) (em : Nat) (bt : Nat) (bf : Nat) (cz : Int32) (al : Nat) (xr_q6 : Nat) (xtb_q6 : Nat) (xkt_q6 : ClassId) (xN1_q6 : Int32) (xvs_q6 : List Value) {p : Program} {e : Env} {s : State} {m : MethodId} {args : Array Value} {below : List Frame} {meth : Method} {c : Code} {T : State} {locs : List Loc} {cells slots n0 : Nat} {h0 h1 : Heap} (hx : p.tables.exec = Jvm.exec) (hby : c.code = code) (hml : c.maxLocals = 11) (hrt : meth.sig.returnType = some .boolean) (hlk : meth.locks = false) (hnm : meth.name = "law") {vm0 vmE : Vm} {k0 : Nat} (hZ : Z.Warmed39 vm0) (hown : vm0.findClass "com/example/vouchsafe/vouchsafe/message/NameIdPolicyAcceptsPinLaw" = some m.cls) (X : Stand p l e room_1 (s.setVm vm0) m args below meth c T locs cells slots) (e0 : T.heap = h1) (N : Fr n0 locs) (hcells : cells ≤ 16) (hslots : slots ≤ 254) (O : Old Z n0 h1) (hS : s.Since vm0 k0) (hk0 : k0 ≤ h1.size) (C0 : CHr Z EL vmE h0 vm0 h1) (CS : Sta Z Z.heap "java/lang/String" "COMPACT_STRINGS" "Z" (.int cz)) (SE : Sta Z Z.heap "java/util/Optional" "EMPTY" "Ljava/util/Optional;" (.ref em)) (EE : Exa Z Z.heap em "java/util/Optional") (FE : Fld Z Z.heap em "java/util/Optional" "value" "Ljava/lang/Object;" .null) (ST1 : Sta Z Z.heap "java/lang/Boolean" "TRUE" "Ljava/lang/Boolean;" (.ref bt)) (ST0 : Sta Z Z.heap "java/lang/Boolean" "FALSE" "Ljava/lang/Boolean;" (.ref bf)) (pf0 : Exa Z h1 xr_q6 "java/lang/String") (pf1 : Fld Z h1 xr_q6 "java/lang/String" "value" "[B" (.ref xtb_q6)) (pf2 : Fld Z h1 xr_q6 "java/lang/String" "coder" "B" (.int (0 : Int32))) (pf3 : Arv Z h1 xtb_q6 xkt_q6 .byte xN1_q6 xvs_q6 (.int (0 : Int32))) (hcz : ¬ cz = (0 : Int32)) (hf0 : fk = (0 : Int32)) (cq1 : ¬ (nk = (0 : Int32))) (cq3 : ¬ (nk = (1 : Int32))) (cq4 : ¬ (nk = (2 : Int32))) (pq6_6 : StrChars.Road.CodA (drw (x0 ^^^ (1 : Int32))) 0 xN1_q6 xvs_q6) (cn1 : n0 ≤ xr_q6) :
    GoesW p e below s room_1.cells room_1.slots n0 (fun v vm h => (fun vv hh => vv = some (.int (1 : Int32))) v h ∧ CHr Z EL vmE h0 vm h) (T.setTop (mkF m 141 #[.val (.int x0), .val (.int x1), .val (.int x2), .val (.int fk), .val (.int nk), .val (.int ak), .val (.ref em), .val (.ref al), .unset, .unset, .unset] [(.ref xr_q6)])) := by
  have zO := O.le
  have lt_xr_q6 := lt_nat pf0.lt
  have lt_xtb_q6 := lt_nat pf3.lt
  show GoesW _ _ _ _ _ _ _ _ (T.setTop (mkF m 141 #[.val (.int x0), .val (.int x1), .val (.int x2), .val (.int fk), .val (.int nk), .val (.int ak), .val (.ref em), .val (.ref al), .unset, .unset, .unset] [(.ref xr_q6)]))
  refine GoesW.via (fun _ k => XS.astore X.here hx rfl (hb hby at_141) rfl rfl (l' := #[.val (.int x0), .val (.int x1), .val (.int x2), .val (.int fk), .val (.int nk), .val (.int ak), .val (.ref em), .val (.ref al), .val (.ref xr_q6), .unset, .unset]) rfl k) ?_
  show GoesW _ _ _ _ _ _ _ _ (T.setTop (mkF m 143 #[.val (.int x0), .val (.int x1), .val (.int x2), .val (.int fk), .val (.int nk), .val (.int ak), .val (.ref em), .val (.ref al), .val (.ref xr_q6), .unset, .unset] []))
  refine GoesW.via (fun _ k => XS.iloadN X.here hx rfl (hb hby at_143) rfl k) ?_
  show GoesW _ _ _ _ _ _ _ _ (T.setTop (mkF m 144 #[.val (.int x0), .val (.int x1), .val (.int x2), .val (.int fk), .val (.int nk), .val (.int ak), .val (.ref em), .val (.ref al), .val (.ref xr_q6), .unset, .unset] [(.int fk)]))
  refine GoesW.via (fun _ k => XS.ifYes X.here hx rfl (pc0 := 144) (pc' := 152) rfl (hb hby at_144) rfl (XT.i0_eq_t hf0) (by decide) (by decide) k) ?_
  show GoesW _ _ _ _ _ _ _ _ (T.setTop (mkF m 152 #[.val (.int x0), .val (.int x1), .val (.int x2), .val (.int fk), .val (.int nk), .val (.int ak), .val (.ref em), .val (.ref al), .val (.ref xr_q6), .unset, .unset] []))
  refine GoesW.via (fun _ k => XT.iconstV X.here hx rfl (1 : Int32) (hb hby at_152) (by decide) k) ?_
  show GoesW _ _ _ _ _ _ _ _ (T.setTop (mkF m 153 #[.val (.int x0), .val (.int x1), .val (.int x2), .val (.int fk), .val (.int nk), .val (.int ak), .val (.ref em), .val (.ref al), .val (.ref xr_q6), .unset, .unset] [(.int (1 : Int32))]))
  refine GoesW.via (fun _ k => XS.istore X.here hx rfl (hb hby at_153) rfl (l' := #[.val (.int x0), .val (.int x1), .val (.int x2), .val (.int fk), .val (.int nk), .val (.int ak), .val (.ref em), .val (.ref al), .val (.ref xr_q6), .val (.int (1 : Int32)), .unset]) rfl k) ?_
  show GoesW _ _ _ _ _ _ _ _ (T.setTop (mkF m 155 #[.val (.int x0), .val (.int x1), .val (.int x2), .val (.int fk), .val (.int nk), .val (.int ak), .val (.ref em), .val (.ref al), .val (.ref xr_q6), .val (.int (1 : Int32)), .unset] []))
  refine GoesW.via (fun _ k => XS.goto X.here hx rfl (pc0 := 155) (pc' := 206) rfl (hb hby at_155) (by decide) (by decide) k) ?_
  show GoesW _ _ _ _ _ _ _ _ (T.setTop (mkF m 206 #[.val (.int x0), .val (.int x1), .val (.int x2), .val (.int fk), .val (.int nk), .val (.int ak), .val (.ref em), .val (.ref al), .val (.ref xr_q6), .val (.int (1 : Int32)), .unset] []))
  obtain ⟨Tq7, hq7, Xq7, eq7, Eq7, Aq7, Dq7, -, stq7⟩ := newO X hx hZ hown (W_50 hw) (W_51 hw) (W_52 hw) e0 (g := (mkF m 206 #[.val (.int x0), .val (.int x1), .val (.int x2), .val (.int fk), .val (.int nk), .val (.int ak), .val (.ref em), .val (.ref al), .val (.ref xr_q6), .val (.int (1 : Int32)), .unset] [])) rfl (hb hby at_206) (by show _ + 1 ≤ 40; omega) (by show _ + 2 ≤ 5312; omega)
  obtain ⟨bq7, gq7⟩ : ∃ z, z = h1.size := ⟨_, rfl⟩
  rw [← gq7] at Aq7 Dq7 stq7
  have zq7 := Eq7.1
  have Oq7 := O.ext Eq7
  have Cq7 := C0.trans (CHr.ext Eq7 C0.1)
  have lq7 := lt_nat Aq7.lt
  refine GoesW.via stq7 ?_
  show GoesW _ _ _ _ _ _ _ _ (Tq7.setTop (mkF m 209 #[.val (.int x0), .val (.int x1), .val (.int x2), .val (.int fk), .val (.int nk), .val (.int ak), .val (.ref em), .val (.ref al), .val (.ref xr_q6), .val (.int (1 : Int32)), .unset] [(.ref bq7)]))
  refine GoesW.via (fun _ k => XS.dup Xq7.here hx rfl (hb hby at_209) rfl rfl k) ?_
  show GoesW _ _ _ _ _ _ _ _ (Tq7.setTop (mkF m 210 #[.val (.int x0), .val (.int x1), .val (.int x2), .val (.int fk), .val (.int nk), .val (.int ak), .val (.ref em), .val (.ref al), .val (.ref xr_q6), .val (.int (1 : Int32)), .unset] [(.ref bq7), (.ref bq7)]))
  refine GoesW.via (fun _ k => XS.aload Xq7.here hx rfl (hb hby at_210) rfl rfl k) ?_
  show GoesW _ _ _ _ _ _ _ _ (Tq7.setTop (mkF m 212 #[.val (.int x0), .val (.int x1), .val (.int x2), .val (.int fk), .val (.int nk), .val (.int ak), .val (.ref em), .val (.ref al), .val (.ref xr_q6), .val (.int (1 : Int32)), .unset] [(.ref em), (.ref bq7), (.ref bq7)]))
  refine GoesW.via (fun _ k => XS.aload Xq7.here hx rfl (hb hby at_212) rfl rfl k) ?_
  show GoesW _ _ _ _ _ _ _ _ (Tq7.setTop (mkF m 214 #[.val (.int x0), .val (.int x1), .val (.int x2), .val (.int fk), .val (.int nk), .val (.int ak), .val (.ref em), .val (.ref al), .val (.ref xr_q6), .val (.int (1 : Int32)), .unset] [(.ref al), (.ref em), (.ref bq7), (.ref bq7)]))
  obtain ⟨vq8, Tq8, Lq8, Xq8, Sq8, hZq8, hownq8, Rq8, qq8, nq8, stq8⟩ := callSpW Xq7 hx hZ hown hS (by rw [eq7]; omega) (ew hw) Cq7.1 (allS (lt_ok (by omega)) all0) (allS (Safe.exa hZ.alike Aq7 (by decide) (by decide)) all0) (npInit l Z aw hw bq7 em al Oq7 Aq7 (Dq7 (Or.inr (W_68 hw)) (ty := (.object "java/util/Optional")) (by decide)) (Dq7 (Or.inr (W_70 hw)) (ty := (.object "java/util/Optional")) (by decide)) (by omega)) rfl (W_53 hw) (W_54 hw) (W_52 hw) (W_55 hw) (by decide) eq7 (by decide) (W := 1) (by decide) (by show _ + 4 ≤ 40; omega) (by show _ + 80 ≤ 5312; omega) (g := (mkF m 214 #[.val (.int x0), .val (.int x1), .val (.int x2), .val (.int fk), .val (.int nk), .val (.int ak), .val (.ref em), .val (.ref al), .val (.ref xr_q6), .val (.int (1 : Int32)), .unset] [(.ref al), (.ref em), (.ref bq7), (.ref bq7)])) rfl (by rw [hml]; rfl) (a := bq7) (argsL := [(.ref em), (.ref al)]) (rest := [(.ref bq7)]) rfl (lenOf pd_20 rfl) rfl (by show 2 * 0 + _ ≤ _; exact Nat.le_of_eq rfl) (hb hby at_214)
  dsimp only at Xq8
  obtain ⟨rfl, pq8_0, pq8_1, pq8_2⟩ := qq8
  have Nq8 := Fr.app N nq8
  have zq8 := pq8_0.1
  have Oq8 := Oq7.keep pq8_0 (allS (by omega) all0)
  have Cq8 := Cq7.trans Rq8
  have ltpq8_1 := lt_nat pq8_1.lt
  refine GoesW.via stq8 ?_
  show GoesW _ _ _ _ _ _ _ _ (Tq8.setTop (mkF m 217 #[.val (.int x0), .val (.int x1), .val (.int x2), .val (.int fk), .val (.int nk), .val (.int ak), .val (.ref em), .val (.ref al), .val (.ref xr_q6), .val (.int (1 : Int32)), .unset] [(.ref bq7)]))
  refine GoesW.via (fun _ k => XS.astore Xq8.here hx rfl (hb hby at_217) rfl rfl (l' := #[.val (.int x0), .val (.int x1), .val (.int x2), .val (.int fk), .val (.int nk), .val (.int ak), .val (.ref em), .val (.ref al), .val (.ref xr_q6), .val (.int (1 : Int32)), .val (.ref bq7)]) rfl k) ?_
  show GoesW _ _ _ _ _ _ _ _ (Tq8.setTop (mkF m 219 #[.val (.int x0), .val (.int x1), .val (.int x2), .val (.int fk), .val (.int nk), .val (.int ak), .val (.ref em), .val (.ref al), .val (.ref xr_q6), .val (.int (1 : Int32)), .val (.ref bq7)] []))
  refine GoesW.via (fun _ k => XS.aload Xq8.here hx rfl (hb hby at_219) rfl rfl k) ?_
  show GoesW _ _ _ _ _ _ _ _ (Tq8.setTop (mkF m 221 #[.val (.int x0), .val (.int x1), .val (.int x2), .val (.int fk), .val (.int nk), .val (.int ak), .val (.ref em), .val (.ref al), .val (.ref xr_q6), .val (.int (1 : Int32)), .val (.ref bq7)] [(.ref bq7)]))
  refine GoesW.via (fun _ k => XS.aload Xq8.here hx rfl (hb hby at_221) rfl rfl k) ?_
  show GoesW _ _ _ _ _ _ _ _ (Tq8.setTop (mkF m 223 #[.val (.int x0), .val (.int x1), .val (.int x2), .val (.int fk), .val (.int nk), .val (.int ak), .val (.ref em), .val (.ref al), .val (.ref xr_q6), .val (.int (1 : Int32)), .val (.ref bq7)] [(.ref xr_q6), (.ref bq7)]))
  have fq9 : Exa Z Tq8.heap em "java/util/Optional" := (EE.ext Oq8.2)
  have fq10 : Fld Z Tq8.heap em "java/util/Optional" "value" "Ljava/lang/Object;" .null := (FE.ext Oq8.2)
  obtain ⟨vq11, Tq11, Lq11, Xq11, qq11, nq11, stq11⟩ := callVi Xq8 hx hZq8 hownq8 (accE l Z aw hw bq7 em xr_q6 Oq8 pq8_2 fq9 fq10) (W_71 hw) (W_72 hw) (notFace_of_selects (args := #[]) (mvT hZq8 (W_74 hw))) (W_74 hw) (W_73 hw) (W_52 hw) (W_75 hw) (by decide) rfl pq8_1 (by decide) (W := 0) (by decide) (by show _ + 0 ≤ 40; omega) (by show _ + 0 ≤ 5312; omega) (g := (mkF m 223 #[.val (.int x0), .val (.int x1), .val (.int x2), .val (.int fk), .val (.int nk), .val (.int ak), .val (.ref em), .val (.ref al), .val (.ref xr_q6), .val (.int (1 : Int32)), .val (.ref bq7)] [(.ref xr_q6), (.ref bq7)])) rfl (by rw [hml]; rfl) (a := bq7) (argsL := [(.ref xr_q6)]) (rest := []) rfl (lenOf pd_21 rfl) rfl (by show 2 * 0 + _ ≤ _; exact Nat.le_of_eq rfl) (hb hby at_223)
  dsimp only at Xq11
  obtain ⟨rfl, pq11_0⟩ := qq11
  have Nq11 := Fr.app Nq8 nq11
  refine GoesW.via stq11 ?_
  show GoesW _ _ _ _ _ _ _ _ (Tq11.setTop (mkF m 226 #[.val (.int x0), .val (.int x1), .val (.int x2), .val (.int fk), .val (.int nk), .val (.int ak), .val (.ref em), .val (.ref al), .val (.ref xr_q6), .val (.int (1 : Int32)), .val (.ref bq7)] [(.int (1 : Int32))]))
  refine GoesW.via (fun _ k => XS.iload Xq11.here hx rfl (hb hby at_226) rfl k) ?_
  show GoesW _ _ _ _ _ _ _ _ (Tq11.setTop (mkF m 228 #[.val (.int x0), .val (.int x1), .val (.int x2), .val (.int fk), .val (.int nk), .val (.int ak), .val (.ref em), .val (.ref al), .val (.ref xr_q6), .val (.int (1 : Int32)), .val (.ref bq7)] [(.int (1 : Int32)), (.int (1 : Int32))]))
  refine GoesW.via (fun _ k => XS.icmpNo Xq11.here hx rfl (hb hby at_228) rfl (XT.ii_ne_f (by decide)) k) ?_
  show GoesW _ _ _ _ _ _ _ _ (Tq11.setTop (mkF m 231 #[.val (.int x0), .val (.int x1), .val (.int x2), .val (.int fk), .val (.int nk), .val (.int ak), .val (.ref em), .val (.ref al), .val (.ref xr_q6), .val (.int (1 : Int32)), .val (.ref bq7)] []))
  refine GoesW.via (fun _ k => XT.iconstV Xq11.here hx rfl (1 : Int32) (hb hby at_231) (by decide) k) ?_
  show GoesW _ _ _ _ _ _ _ _ (Tq11.setTop (mkF m 232 #[.val (.int x0), .val (.int x1), .val (.int x2), .val (.int fk), .val (.int nk), .val (.int ak), .val (.ref em), .val (.ref al), .val (.ref xr_q6), .val (.int (1 : Int32)), .val (.ref bq7)] [(.int (1 : Int32))]))
  refine GoesW.via (fun _ k => XS.goto Xq11.here hx rfl (pc0 := 232) (pc' := 236) rfl (hb hby at_232) (by decide) (by decide) k) ?_
  show GoesW _ _ _ _ _ _ _ _ (Tq11.setTop (mkF m 236 #[.val (.int x0), .val (.int x1), .val (.int x2), .val (.int fk), .val (.int nk), .val (.int ak), .val (.ref em), .val (.ref al), .val (.ref xr_q6), .val (.int (1 : Int32)), .val (.ref bq7)] [(.int (1 : Int32))]))
  refine goRetNW Xq11 hx hrt (by simp) hlk Nq11 Sq8 (by rw [pq11_0]; omega) (by show _ ≤ 40; omega) (by show _ ≤ 5312; omega) (hb hby at_236) ?_
  intro hWm
  try rw [pq11_0]
  refine ⟨?_, Cq8.trans (CHv.at Xq11 hZq8 (ew hw) Cq8.1)⟩
  exact rfl
set_option maxRecDepth 65536 in
set_option maxHeartbeats 40000000 in
theorem law_c13 (l : Launch) (Z : State) (aw : Array Value) (hw : ∀ d ∈ tables_1, d.before aw Z = true) (x0 : Int32) (x1 : Int32) (x2 : Int32) (fk : Int32) (nk : Int32) (ak : Int32) (em : Nat) (bt : Nat) (bf : Nat) (cz : Int32) (al : Nat) {p : Program} {e : Env} {s : State} {m : MethodId} {args : Array Value} {below : List Frame} {meth : Method} {c : Code} {T : State} {locs : List Loc} {cells slots n0 : Nat} {h0 h1 : Heap} (hx : p.tables.exec = Jvm.exec) (hby : c.code = code) (hml : c.maxLocals = 11) (hrt : meth.sig.returnType = some .boolean) (hlk : meth.locks = false) (hnm : meth.name = "law") {vm0 vmE : Vm} {k0 : Nat} (hZ : Z.Warmed39 vm0) (hown : vm0.findClass "com/example/vouchsafe/vouchsafe/message/NameIdPolicyAcceptsPinLaw" = some m.cls) (X : Stand p l e room_1 (s.setVm vm0) m args below meth c T locs cells slots) (e0 : T.heap = h1) (N : Fr n0 locs) (hcells : cells ≤ 10) (hslots : slots ≤ 240) (O : Old Z n0 h1) (hS : s.Since vm0 k0) (hk0 : k0 ≤ h1.size) (C0 : CHr Z EL vmE h0 vm0 h1) (CS : Sta Z Z.heap "java/lang/String" "COMPACT_STRINGS" "Z" (.int cz)) (SE : Sta Z Z.heap "java/util/Optional" "EMPTY" "Ljava/util/Optional;" (.ref em)) (EE : Exa Z Z.heap em "java/util/Optional") (FE : Fld Z Z.heap em "java/util/Optional" "value" "Ljava/lang/Object;" .null) (ST1 : Sta Z Z.heap "java/lang/Boolean" "TRUE" "Ljava/lang/Boolean;" (.ref bt)) (ST0 : Sta Z Z.heap "java/lang/Boolean" "FALSE" "Ljava/lang/Boolean;" (.ref bf)) (hcz : ¬ cz = (0 : Int32)) (hf0 : fk = (0 : Int32)) (cq1 : ¬ (nk = (0 : Int32))) (cq3 : ¬ (nk = (1 : Int32))) :
    GoesW p e below s room_1.cells room_1.slots n0 (fun v vm h => (fun vv hh => vv = some (.int (1 : Int32))) v h ∧ CHr Z EL vmE h0 vm h) (T.setTop (mkF m 124 #[.val (.int x0), .val (.int x1), .val (.int x2), .val (.int fk), .val (.int nk), .val (.int ak), .val (.ref em), .val (.ref al), .unset, .unset, .unset] [(.int nk)])) := by
  have zO := O.le
  show GoesW _ _ _ _ _ _ _ _ (T.setTop (mkF m 124 #[.val (.int x0), .val (.int x1), .val (.int x2), .val (.int fk), .val (.int nk), .val (.int ak), .val (.ref em), .val (.ref al), .unset, .unset, .unset] [(.int nk)]))
  refine GoesW.via (fun _ k => XT.iconstV X.here hx rfl (2 : Int32) (hb hby at_124) (by decide) k) ?_
  show GoesW _ _ _ _ _ _ _ _ (T.setTop (mkF m 125 #[.val (.int x0), .val (.int x1), .val (.int x2), .val (.int fk), .val (.int nk), .val (.int ak), .val (.ref em), .val (.ref al), .unset, .unset, .unset] [(.int (2 : Int32)), (.int nk)]))
  by_cases cq4 : nk = (2 : Int32)
  · skip
    refine GoesW.via (fun _ k => XS.icmpNo X.here hx rfl (hb hby at_125) rfl (XT.ii_ne_f cq4) k) ?_
    show GoesW _ _ _ _ _ _ _ _ (T.setTop (mkF m 128 #[.val (.int x0), .val (.int x1), .val (.int x2), .val (.int fk), .val (.int nk), .val (.int ak), .val (.ref em), .val (.ref al), .unset, .unset, .unset] []))
    obtain ⟨aq5, Tq5, hq5, kq5, wq5, kkq5, Xq5, eq5, Eq5, Sq5, hkq5, hZq5, hownq5, exq5, fcq5, fvq5, vaq5, laq5, lbq5, Rq5, -, sfq5, stq5⟩ := ldcCH X hx hZ hown (W_99 hw) (strAtoms hw) e0 hS (by omega) (ew hw) (by decide) C0.1 (vs := [(.int (117 : Int32)), (.int (114 : Int32)), (.int (110 : Int32)), (.int (58 : Int32)), (.int (111 : Int32)), (.int (97 : Int32)), (.int (115 : Int32)), (.int (105 : Int32)), (.int (115 : Int32)), (.int (58 : Int32)), (.int (110 : Int32)), (.int (97 : Int32)), (.int (109 : Int32)), (.int (101 : Int32)), (.int (115 : Int32)), (.int (58 : Int32)), (.int (116 : Int32)), (.int (99 : Int32)), (.int (58 : Int32)), (.int (83 : Int32)), (.int (65 : Int32)), (.int (77 : Int32)), (.int (76 : Int32)), (.int (58 : Int32)), (.int (49 : Int32)), (.int (46 : Int32)), (.int (49 : Int32)), (.int (58 : Int32)), (.int (110 : Int32)), (.int (97 : Int32)), (.int (109 : Int32)), (.int (101 : Int32)), (.int (105 : Int32)), (.int (100 : Int32)), (.int (45 : Int32)), (.int (102 : Int32)), (.int (111 : Int32)), (.int (114 : Int32)), (.int (109 : Int32)), (.int (97 : Int32)), (.int (116 : Int32)), (.int (58 : Int32)), (.int (117 : Int32)), (.int (110 : Int32)), (.int (115 : Int32)), (.int (112 : Int32)), (.int (101 : Int32)), (.int (99 : Int32)), (.int (105 : Int32)), (.int (102 : Int32)), (.int (105 : Int32)), (.int (101 : Int32)), (.int (100 : Int32))]) (z := (53 : Int32)) ⟨by decide +kernel, by decide +kernel⟩ (by decide) (by decide) (g := (mkF m 128 #[.val (.int x0), .val (.int x1), .val (.int x2), .val (.int fk), .val (.int nk), .val (.int ak), .val (.ref em), .val (.ref al), .unset, .unset, .unset] [])) rfl (hb hby at_128) (n := 212) (by decide +kernel) (by decide) (by show _ + 2 ≤ 40; omega) (by show _ + 216 ≤ 5312; omega)
    replace laq5 := lt_nat laq5
    replace lbq5 := lt_nat lbq5
    have zq5 := Eq5.1
    have Oq5 := O.ext Eq5
    have Cq5 := C0.trans Rq5
    refine GoesW.via stq5 ?_
    show GoesW _ _ _ _ _ _ _ _ (Tq5.setTop (mkF m 130 #[.val (.int x0), .val (.int x1), .val (.int x2), .val (.int fk), .val (.int nk), .val (.int ak), .val (.ref em), .val (.ref al), .unset, .unset, .unset] [(.ref aq5)]))
    refine GoesW.via (fun _ k => XS.astore Xq5.here hx rfl (hb hby at_130) rfl rfl (l' := #[.val (.int x0), .val (.int x1), .val (.int x2), .val (.int fk), .val (.int nk), .val (.int ak), .val (.ref em), .val (.ref al), .val (.ref aq5), .unset, .unset]) rfl k) ?_
    show GoesW _ _ _ _ _ _ _ _ (Tq5.setTop (mkF m 132 #[.val (.int x0), .val (.int x1), .val (.int x2), .val (.int fk), .val (.int nk), .val (.int ak), .val (.ref em), .val (.ref al), .val (.ref aq5), .unset, .unset] []))
    refine GoesW.via (fun _ k => XS.goto Xq5.here hx rfl (pc0 := 132) (pc' := 143) rfl (hb hby at_132) (by decide) (by decide) k) ?_
    show GoesW _ _ _ _ _ _ _ _ (Tq5.setTop (mkF m 143 #[.val (.int x0), .val (.int x1), .val (.int x2), .val (.int fk), .val (.int nk), .val (.int ak), .val (.ref em), .val (.ref al), .val (.ref aq5), .unset, .unset] []))
    refine GoesW.via (fun _ k => XS.iloadN Xq5.here hx rfl (hb hby at_143) rfl k) ?_
    show GoesW _ _ _ _ _ _ _ _ (Tq5.setTop (mkF m 144 #[.val (.int x0), .val (.int x1), .val (.int x2), .val (.int fk), .val (.int nk), .val (.int ak), .val (.ref em), .val (.ref al), .val (.ref aq5), .unset, .unset] [(.int fk)]))
    exact law_c14 l Z aw hw x0 x1 x2 fk nk ak em bt bf cz al aq5 wq5 kkq5 hx hby hml hrt hlk hnm hZq5 hownq5 Xq5 eq5 N (by omega) (by omega) Oq5 Sq5 (by omega) Cq5 CS SE EE FE ST1 ST0 exq5 fcq5 fvq5 vaq5 hcz hf0 cq1 cq3 cq4
  · skip
    refine GoesW.via (fun _ k => XS.icmpYes X.here hx rfl (pc0 := 125) (pc' := 135) rfl (hb hby at_125) rfl (XT.ii_ne_t cq4) (by decide) (by decide) k) ?_
    show GoesW _ _ _ _ _ _ _ _ (T.setTop (mkF m 135 #[.val (.int x0), .val (.int x1), .val (.int x2), .val (.int fk), .val (.int nk), .val (.int ak), .val (.ref em), .val (.ref al), .unset, .unset, .unset] []))
    refine GoesW.via (fun _ k => XS.iloadN X.here hx rfl (hb hby at_135) rfl k) ?_
    show GoesW _ _ _ _ _ _ _ _ (T.setTop (mkF m 136 #[.val (.int x0), .val (.int x1), .val (.int x2), .val (.int fk), .val (.int nk), .val (.int ak), .val (.ref em), .val (.ref al), .unset, .unset, .unset] [(.int x0)]))
    refine GoesW.via (fun _ k => XT.iconstV X.here hx rfl (1 : Int32) (hb hby at_136) (by decide) k) ?_
    show GoesW _ _ _ _ _ _ _ _ (T.setTop (mkF m 137 #[.val (.int x0), .val (.int x1), .val (.int x2), .val (.int fk), .val (.int nk), .val (.int ak), .val (.ref em), .val (.ref al), .unset, .unset, .unset] [(.int (1 : Int32)), (.int x0)]))
    refine GoesW.via (fun _ k => XT.ixor X.here hx rfl (hb hby at_137) rfl k) ?_
    show GoesW _ _ _ _ _ _ _ _ (T.setTop (mkF m 138 #[.val (.int x0), .val (.int x1), .val (.int x2), .val (.int fk), .val (.int nk), .val (.int ak), .val (.ref em), .val (.ref al), .unset, .unset, .unset] [(.int (x0 ^^^ (1 : Int32)))]))
    obtain ⟨vq6, Tq6, Lq6, Xq6, Sq6, hZq6, hownq6, Rq6, qq6, nq6, stq6⟩ := callStW X hx hZ hown hS (by rw [e0]; omega) (ew hw) C0.1 all0 all0 (drawnC l Z aw hw (x0 ^^^ (1 : Int32)) cz O CS hcz) (W_0 hw) (W_1 hw) (W_2 hw) (W_3 hw) (by decide) e0 (by decide) (W := 0) (by decide) (by show _ + 6 ≤ 40; omega) (by show _ + 14 ≤ 5312; omega) (g := (mkF m 138 #[.val (.int x0), .val (.int x1), .val (.int x2), .val (.int fk), .val (.int nk), .val (.int ak), .val (.ref em), .val (.ref al), .unset, .unset, .unset] [(.int (x0 ^^^ (1 : Int32)))])) rfl (by rw [hml]; rfl) (argsL := [(.int (x0 ^^^ (1 : Int32)))]) (rest := []) rfl (lenOf pd_19 rfl) rfl (by show 2 * 0 + _ ≤ _; exact Nat.le_of_eq rfl) (hb hby at_138)
    dsimp only at Xq6
    obtain ⟨xr_q6, xtb_q6, xkt_q6, xN1_q6, xvs_q6, rfl, pq6_0, pq6_1, pq6_2, pq6_3, pq6_4, pq6_5, pq6_6⟩ := qq6
    have Nq6 := Fr.app N nq6
    have zq6 := pq6_1.1
    have Oq6 := O.keep pq6_1 all0
    have Cq6 := C0.trans Rq6
    have ltpq6_2 := lt_nat pq6_2.lt
    have ltpq6_5 := lt_nat pq6_5.lt
    refine GoesW.via stq6 ?_
    show GoesW _ _ _ _ _ _ _ _ (Tq6.setTop (mkF m 141 #[.val (.int x0), .val (.int x1), .val (.int x2), .val (.int fk), .val (.int nk), .val (.int ak), .val (.ref em), .val (.ref al), .unset, .unset, .unset] [(.ref xr_q6)]))
    exact law_c15 l Z aw hw x0 x1 x2 fk nk ak em bt bf cz al xr_q6 xtb_q6 xkt_q6 xN1_q6 xvs_q6 hx hby hml hrt hlk hnm hZq6 hownq6 Xq6 rfl Nq6 (by omega) (by omega) Oq6 Sq6 (by omega) Cq6 CS SE EE FE ST1 ST0 pq6_2 pq6_3 pq6_4 pq6_5 hcz hf0 cq1 cq3 cq4 pq6_6 (by omega)
set_option maxRecDepth 65536 in
set_option maxHeartbeats 40000000 in
theorem seg93E (l : Launch) (Z : State) (aw : Array Value) (hw : ∀ d ∈ tables_1, d.before aw Z = true) (x0 : Int32) (x1 : Int32) (x2 : Int32) (fk : Int32) (nk : Int32) (ak : Int32) (em : Nat) (bt : Nat) (bf : Nat) (cz : Int32) (al : Nat) {p : Program} {e : Env} {s : State} {m : MethodId} {args : Array Value} {below : List Frame} {meth : Method} {c : Code} {T : State} {locs : List Loc} {cells slots n0 : Nat} {h0 h1 : Heap} (hx : p.tables.exec = Jvm.exec) (hby : c.code = code) (hml : c.maxLocals = 11) (hrt : meth.sig.returnType = some .boolean) (hlk : meth.locks = false) (hnm : meth.name = "law") {vm0 vmE : Vm} {k0 : Nat} (hZ : Z.Warmed39 vm0) (hown : vm0.findClass "com/example/vouchsafe/vouchsafe/message/NameIdPolicyAcceptsPinLaw" = some m.cls) (X : Stand p l e room_1 (s.setVm vm0) m args below meth c T locs cells slots) (e0 : T.heap = h1) (N : Fr n0 locs) (hcells : cells ≤ 10) (hslots : slots ≤ 240) (O : Old Z n0 h1) (hS : s.Since vm0 k0) (hk0 : k0 ≤ h1.size) (C0 : CHr Z EL vmE h0 vm0 h1) (CS : Sta Z Z.heap "java/lang/String" "COMPACT_STRINGS" "Z" (.int cz)) (SE : Sta Z Z.heap "java/util/Optional" "EMPTY" "Ljava/util/Optional;" (.ref em)) (EE : Exa Z Z.heap em "java/util/Optional") (FE : Fld Z Z.heap em "java/util/Optional" "value" "Ljava/lang/Object;" .null) (ST1 : Sta Z Z.heap "java/lang/Boolean" "TRUE" "Ljava/lang/Boolean;" (.ref bt)) (ST0 : Sta Z Z.heap "java/lang/Boolean" "FALSE" "Ljava/lang/Boolean;" (.ref bf)) (hcz : ¬ cz = (0 : Int32)) (hf0 : fk = (0 : Int32)) :
    GoesW p e below s room_1.cells room_1.slots n0 (fun v vm h => (fun vv hh => vv = some (.int (1 : Int32))) v h ∧ CHr Z EL vmE h0 vm h) (T.setTop (mkF m 93 #[.val (.int x0), .val (.int x1), .val (.int x2), .val (.int fk), .val (.int nk), .val (.int ak), .val (.ref em), .val (.ref al), .unset, .unset, .unset] [])) := by
  have zO := O.le
  show GoesW _ _ _ _ _ _ _ _ (T.setTop (mkF m 93 #[.val (.int x0), .val (.int x1), .val (.int x2), .val (.int fk), .val (.int nk), .val (.int ak), .val (.ref em), .val (.ref al), .unset, .unset, .unset] []))
  refine GoesW.via (fun _ k => XS.iload X.here hx rfl (hb hby at_93) rfl k) ?_
  show GoesW _ _ _ _ _ _ _ _ (T.setTop (mkF m 95 #[.val (.int x0), .val (.int x1), .val (.int x2), .val (.int fk), .val (.int nk), .val (.int ak), .val (.ref em), .val (.ref al), .unset, .unset, .unset] [(.int nk)]))
  by_cases cq1 : nk = (0 : Int32)
  · skip
    refine GoesW.via (fun _ k => XS.ifNo X.here hx rfl (hb hby at_95) rfl (XT.i0_ne_f cq1) k) ?_
    show GoesW _ _ _ _ _ _ _ _ (T.setTop (mkF m 98 #[.val (.int x0), .val (.int x1), .val (.int x2), .val (.int fk), .val (.int nk), .val (.int ak), .val (.ref em), .val (.ref al), .unset, .unset, .unset] []))
    refine GoesW.via (fun _ k => XS.iloadN X.here hx rfl (hb hby at_98) rfl k) ?_
    show GoesW _ _ _ _ _ _ _ _ (T.setTop (mkF m 99 #[.val (.int x0), .val (.int x1), .val (.int x2), .val (.int fk), .val (.int nk), .val (.int ak), .val (.ref em), .val (.ref al), .unset, .unset, .unset] [(.int x1)]))
    obtain ⟨vq2, Tq2, Lq2, Xq2, Sq2, hZq2, hownq2, Rq2, qq2, nq2, stq2⟩ := callStW X hx hZ hown hS (by rw [e0]; omega) (ew hw) C0.1 all0 all0 (drawnC l Z aw hw x1 cz O CS hcz) (W_0 hw) (W_1 hw) (W_2 hw) (W_3 hw) (by decide) e0 (by decide) (W := 0) (by decide) (by show _ + 6 ≤ 40; omega) (by show _ + 14 ≤ 5312; omega) (g := (mkF m 99 #[.val (.int x0), .val (.int x1), .val (.int x2), .val (.int fk), .val (.int nk), .val (.int ak), .val (.ref em), .val (.ref al), .unset, .unset, .unset] [(.int x1)])) rfl (by rw [hml]; rfl) (argsL := [(.int x1)]) (rest := []) rfl (lenOf pd_19 rfl) rfl (by show 2 * 0 + _ ≤ _; exact Nat.le_of_eq rfl) (hb hby at_99)
    dsimp only at Xq2
    obtain ⟨xr_q2, xtb_q2, xkt_q2, xN1_q2, xvs_q2, rfl, pq2_0, pq2_1, pq2_2, pq2_3, pq2_4, pq2_5, pq2_6⟩ := qq2
    have Nq2 := Fr.app N nq2
    have zq2 := pq2_1.1
    have Oq2 := O.keep pq2_1 all0
    have Cq2 := C0.trans Rq2
    have ltpq2_2 := lt_nat pq2_2.lt
    have ltpq2_5 := lt_nat pq2_5.lt
    refine GoesW.via stq2 ?_
    show GoesW _ _ _ _ _ _ _ _ (Tq2.setTop (mkF m 102 #[.val (.int x0), .val (.int x1), .val (.int x2), .val (.int fk), .val (.int nk), .val (.int ak), .val (.ref em), .val (.ref al), .unset, .unset, .unset] [(.ref xr_q2)]))
    refine GoesW.via (fun _ k => XS.astore Xq2.here hx rfl (hb hby at_102) rfl rfl (l' := #[.val (.int x0), .val (.int x1), .val (.int x2), .val (.int fk), .val (.int nk), .val (.int ak), .val (.ref em), .val (.ref al), .val (.ref xr_q2), .unset, .unset]) rfl k) ?_
    show GoesW _ _ _ _ _ _ _ _ (Tq2.setTop (mkF m 104 #[.val (.int x0), .val (.int x1), .val (.int x2), .val (.int fk), .val (.int nk), .val (.int ak), .val (.ref em), .val (.ref al), .val (.ref xr_q2), .unset, .unset] []))
    refine GoesW.via (fun _ k => XS.goto Xq2.here hx rfl (pc0 := 104) (pc' := 143) rfl (hb hby at_104) (by decide) (by decide) k) ?_
    show GoesW _ _ _ _ _ _ _ _ (Tq2.setTop (mkF m 143 #[.val (.int x0), .val (.int x1), .val (.int x2), .val (.int fk), .val (.int nk), .val (.int ak), .val (.ref em), .val (.ref al), .val (.ref xr_q2), .unset, .unset] []))
    exact law_c11 l Z aw hw x0 x1 x2 fk nk ak em bt bf cz al xr_q2 xtb_q2 xkt_q2 xN1_q2 xvs_q2 hx hby hml hrt hlk hnm hZq2 hownq2 Xq2 rfl Nq2 (by omega) (by omega) Oq2 Sq2 (by omega) Cq2 CS SE EE FE ST1 ST0 pq2_2 pq2_3 pq2_4 pq2_5 hcz hf0 cq1 pq2_6 (by omega)
  · skip
    refine GoesW.via (fun _ k => XS.ifYes X.here hx rfl (pc0 := 95) (pc' := 107) rfl (hb hby at_95) rfl (XT.i0_ne_t cq1) (by decide) (by decide) k) ?_
    show GoesW _ _ _ _ _ _ _ _ (T.setTop (mkF m 107 #[.val (.int x0), .val (.int x1), .val (.int x2), .val (.int fk), .val (.int nk), .val (.int ak), .val (.ref em), .val (.ref al), .unset, .unset, .unset] []))
    refine GoesW.via (fun _ k => XS.iload X.here hx rfl (hb hby at_107) rfl k) ?_
    show GoesW _ _ _ _ _ _ _ _ (T.setTop (mkF m 109 #[.val (.int x0), .val (.int x1), .val (.int x2), .val (.int fk), .val (.int nk), .val (.int ak), .val (.ref em), .val (.ref al), .unset, .unset, .unset] [(.int nk)]))
    refine GoesW.via (fun _ k => XT.iconstV X.here hx rfl (1 : Int32) (hb hby at_109) (by decide) k) ?_
    show GoesW _ _ _ _ _ _ _ _ (T.setTop (mkF m 110 #[.val (.int x0), .val (.int x1), .val (.int x2), .val (.int fk), .val (.int nk), .val (.int ak), .val (.ref em), .val (.ref al), .unset, .unset, .unset] [(.int (1 : Int32)), (.int nk)]))
    by_cases cq3 : nk = (1 : Int32)
    · skip
      refine GoesW.via (fun _ k => XS.icmpNo X.here hx rfl (hb hby at_110) rfl (XT.ii_ne_f cq3) k) ?_
      show GoesW _ _ _ _ _ _ _ _ (T.setTop (mkF m 113 #[.val (.int x0), .val (.int x1), .val (.int x2), .val (.int fk), .val (.int nk), .val (.int ak), .val (.ref em), .val (.ref al), .unset, .unset, .unset] []))
      refine GoesW.via (fun _ k => XS.iloadN X.here hx rfl (hb hby at_113) rfl k) ?_
      show GoesW _ _ _ _ _ _ _ _ (T.setTop (mkF m 114 #[.val (.int x0), .val (.int x1), .val (.int x2), .val (.int fk), .val (.int nk), .val (.int ak), .val (.ref em), .val (.ref al), .unset, .unset, .unset] [(.int x0)]))
      exact law_c12 l Z aw hw x0 x1 x2 fk nk ak em bt bf cz al hx hby hml hrt hlk hnm hZ hown X e0 N (by omega) (by omega) O hS (by omega) C0 CS SE EE FE ST1 ST0 hcz hf0 cq1 cq3
    · skip
      refine GoesW.via (fun _ k => XS.icmpYes X.here hx rfl (pc0 := 110) (pc' := 122) rfl (hb hby at_110) rfl (XT.ii_ne_t cq3) (by decide) (by decide) k) ?_
      show GoesW _ _ _ _ _ _ _ _ (T.setTop (mkF m 122 #[.val (.int x0), .val (.int x1), .val (.int x2), .val (.int fk), .val (.int nk), .val (.int ak), .val (.ref em), .val (.ref al), .unset, .unset, .unset] []))
      refine GoesW.via (fun _ k => XS.iload X.here hx rfl (hb hby at_122) rfl k) ?_
      show GoesW _ _ _ _ _ _ _ _ (T.setTop (mkF m 124 #[.val (.int x0), .val (.int x1), .val (.int x2), .val (.int fk), .val (.int nk), .val (.int ak), .val (.ref em), .val (.ref al), .unset, .unset, .unset] [(.int nk)]))
      exact law_c13 l Z aw hw x0 x1 x2 fk nk ak em bt bf cz al hx hby hml hrt hlk hnm hZ hown X e0 N (by omega) (by omega) O hS (by omega) C0 CS SE EE FE ST1 ST0 hcz hf0 cq1 cq3
set_option maxRecDepth 65536 in
set_option maxHeartbeats 40000000 in
theorem seg54E (l : Launch) (Z : State) (aw : Array Value) (hw : ∀ d ∈ tables_1, d.before aw Z = true) (x0 : Int32) (x1 : Int32) (x2 : Int32) (fk : Int32) (nk : Int32) (ak : Int32) (em : Nat) (bt : Nat) (bf : Nat) (cz : Int32) {p : Program} {e : Env} {s : State} {m : MethodId} {args : Array Value} {below : List Frame} {meth : Method} {c : Code} {T : State} {locs : List Loc} {cells slots n0 : Nat} {h0 h1 : Heap} (hx : p.tables.exec = Jvm.exec) (hby : c.code = code) (hml : c.maxLocals = 11) (hrt : meth.sig.returnType = some .boolean) (hlk : meth.locks = false) (hnm : meth.name = "law") {vm0 vmE : Vm} {k0 : Nat} (hZ : Z.Warmed39 vm0) (hown : vm0.findClass "com/example/vouchsafe/vouchsafe/message/NameIdPolicyAcceptsPinLaw" = some m.cls) (X : Stand p l e room_1 (s.setVm vm0) m args below meth c T locs cells slots) (e0 : T.heap = h1) (N : Fr n0 locs) (hcells : cells ≤ 9) (hslots : slots ≤ 236) (O : Old Z n0 h1) (hS : s.Since vm0 k0) (hk0 : k0 ≤ h1.size) (C0 : CHr Z EL vmE h0 vm0 h1) (CS : Sta Z Z.heap "java/lang/String" "COMPACT_STRINGS" "Z" (.int cz)) (SE : Sta Z Z.heap "java/util/Optional" "EMPTY" "Ljava/util/Optional;" (.ref em)) (EE : Exa Z Z.heap em "java/util/Optional") (FE : Fld Z Z.heap em "java/util/Optional" "value" "Ljava/lang/Object;" .null) (ST1 : Sta Z Z.heap "java/lang/Boolean" "TRUE" "Ljava/lang/Boolean;" (.ref bt)) (ST0 : Sta Z Z.heap "java/lang/Boolean" "FALSE" "Ljava/lang/Boolean;" (.ref bf)) (hcz : ¬ cz = (0 : Int32)) (hf0 : fk = (0 : Int32)) :
    GoesW p e below s room_1.cells room_1.slots n0 (fun v vm h => (fun vv hh => vv = some (.int (1 : Int32))) v h ∧ CHr Z EL vmE h0 vm h) (T.setTop (mkF m 54 #[.val (.int x0), .val (.int x1), .val (.int x2), .val (.int fk), .val (.int nk), .val (.int ak), .val (.ref em), .unset, .unset, .unset, .unset] [])) := by
  have zO := O.le
  show GoesW _ _ _ _ _ _ _ _ (T.setTop (mkF m 54 #[.val (.int x0), .val (.int x1), .val (.int x2), .val (.int fk), .val (.int nk), .val (.int ak), .val (.ref em), .unset, .unset, .unset, .unset] []))
  refine GoesW.via (fun _ k => XS.iload X.here hx rfl (hb hby at_54) rfl k) ?_
  show GoesW _ _ _ _ _ _ _ _ (T.setTop (mkF m 56 #[.val (.int x0), .val (.int x1), .val (.int x2), .val (.int fk), .val (.int nk), .val (.int ak), .val (.ref em), .unset, .unset, .unset, .unset] [(.int ak)]))
  refine GoesW.via (fun _ k => XT.iconstV X.here hx rfl (1 : Int32) (hb hby at_56) (by decide) k) ?_
  show GoesW _ _ _ _ _ _ _ _ (T.setTop (mkF m 57 #[.val (.int x0), .val (.int x1), .val (.int x2), .val (.int fk), .val (.int nk), .val (.int ak), .val (.ref em), .unset, .unset, .unset, .unset] [(.int (1 : Int32)), (.int ak)]))
  by_cases cq1 : ak = (1 : Int32)
  · skip
    refine GoesW.via (fun _ k => XS.icmpNo X.here hx rfl (hb hby at_57) rfl (XT.ii_ne_f cq1) k) ?_
    show GoesW _ _ _ _ _ _ _ _ (T.setTop (mkF m 60 #[.val (.int x0), .val (.int x1), .val (.int x2), .val (.int fk), .val (.int nk), .val (.int ak), .val (.ref em), .unset, .unset, .unset, .unset] []))
    have fq3 : Sta Z h1 "java/lang/Boolean" "TRUE" "Ljava/lang/Boolean;" (.ref bt) := (ST1.ext O.2)
    obtain ⟨Tq2, Xq2, eq2, stq2⟩ := getS2 X hx hZ hown (host := "") (Or.inl (W_112 hw)) Via.refl e0 fq3 (g := (mkF m 60 #[.val (.int x0), .val (.int x1), .val (.int x2), .val (.int fk), .val (.int nk), .val (.int ak), .val (.ref em), .unset, .unset, .unset, .unset] [])) rfl (hb hby at_60)
    refine GoesW.via stq2 ?_
    show GoesW _ _ _ _ _ _ _ _ (Tq2.setTop (mkF m 63 #[.val (.int x0), .val (.int x1), .val (.int x2), .val (.int fk), .val (.int nk), .val (.int ak), .val (.ref em), .unset, .unset, .unset, .unset] [(.ref bt)]))
    obtain ⟨vq4, Tq4, Lq4, Xq4, qq4, nq4, stq4⟩ := callSt Xq2 hx hZ hown (optOf l Z aw hw bt O) (W_26 hw) (W_27 hw) (W_28 hw) (W_29 hw) (by decide) eq2 (by decide) (W := 0) (by decide) (by show _ + 1 ≤ 40; omega) (by show _ + 1 ≤ 5312; omega) (g := (mkF m 63 #[.val (.int x0), .val (.int x1), .val (.int x2), .val (.int fk), .val (.int nk), .val (.int ak), .val (.ref em), .unset, .unset, .unset, .unset] [(.ref bt)])) rfl (by rw [hml]; rfl) (argsL := [(.ref bt)]) (rest := []) rfl (lenOf pd_22 rfl) rfl (by show 2 * 0 + _ ≤ _; exact Nat.le_of_eq rfl) (hb hby at_63)
    dsimp only at Xq4
    obtain ⟨xr_q4, rfl, pq4_0, pq4_1, pq4_2, pq4_3⟩ := qq4
    have Nq4 := Fr.app N nq4
    have zq4 := pq4_1.1
    have Oq4 := O.keep pq4_1 all0
    have Cq4 := C0.trans (CHr.keep pq4_1 all0 C0.1)
    have ltpq4_2 := lt_nat pq4_2.lt
    refine GoesW.via stq4 ?_
    show GoesW _ _ _ _ _ _ _ _ (Tq4.setTop (mkF m 66 #[.val (.int x0), .val (.int x1), .val (.int x2), .val (.int fk), .val (.int nk), .val (.int ak), .val (.ref em), .unset, .unset, .unset, .unset] [(.ref xr_q4)]))
    refine GoesW.via (fun _ k => XS.astore Xq4.here hx rfl (hb hby at_66) rfl rfl (l' := #[.val (.int x0), .val (.int x1), .val (.int x2), .val (.int fk), .val (.int nk), .val (.int ak), .val (.ref em), .val (.ref xr_q4), .unset, .unset, .unset]) rfl k) ?_
    show GoesW _ _ _ _ _ _ _ _ (Tq4.setTop (mkF m 68 #[.val (.int x0), .val (.int x1), .val (.int x2), .val (.int fk), .val (.int nk), .val (.int ak), .val (.ref em), .val (.ref xr_q4), .unset, .unset, .unset] []))
    refine GoesW.via (fun _ k => XS.goto Xq4.here hx rfl (pc0 := 68) (pc' := 93) rfl (hb hby at_68) (by decide) (by decide) k) ?_
    show GoesW _ _ _ _ _ _ _ _ (Tq4.setTop (mkF m 93 #[.val (.int x0), .val (.int x1), .val (.int x2), .val (.int fk), .val (.int nk), .val (.int ak), .val (.ref em), .val (.ref xr_q4), .unset, .unset, .unset] []))
    exact seg93E l Z aw hw x0 x1 x2 fk nk ak em bt bf cz xr_q4 hx hby hml hrt hlk hnm hZ hown Xq4 rfl Nq4 (by omega) (by omega) Oq4 hS (by omega) Cq4 CS SE EE FE ST1 ST0 hcz hf0
  · skip
    refine GoesW.via (fun _ k => XS.icmpYes X.here hx rfl (pc0 := 57) (pc' := 71) rfl (hb hby at_57) rfl (XT.ii_ne_t cq1) (by decide) (by decide) k) ?_
    show GoesW _ _ _ _ _ _ _ _ (T.setTop (mkF m 71 #[.val (.int x0), .val (.int x1), .val (.int x2), .val (.int fk), .val (.int nk), .val (.int ak), .val (.ref em), .unset, .unset, .unset, .unset] []))
    refine GoesW.via (fun _ k => XS.iload X.here hx rfl (hb hby at_71) rfl k) ?_
    show GoesW _ _ _ _ _ _ _ _ (T.setTop (mkF m 73 #[.val (.int x0), .val (.int x1), .val (.int x2), .val (.int fk), .val (.int nk), .val (.int ak), .val (.ref em), .unset, .unset, .unset, .unset] [(.int ak)]))
    refine GoesW.via (fun _ k => XT.iconstV X.here hx rfl (2 : Int32) (hb hby at_73) (by decide) k) ?_
    show GoesW _ _ _ _ _ _ _ _ (T.setTop (mkF m 74 #[.val (.int x0), .val (.int x1), .val (.int x2), .val (.int fk), .val (.int nk), .val (.int ak), .val (.ref em), .unset, .unset, .unset, .unset] [(.int (2 : Int32)), (.int ak)]))
    by_cases cq5 : ak = (2 : Int32)
    · skip
      refine GoesW.via (fun _ k => XS.icmpNo X.here hx rfl (hb hby at_74) rfl (XT.ii_ne_f cq5) k) ?_
      show GoesW _ _ _ _ _ _ _ _ (T.setTop (mkF m 77 #[.val (.int x0), .val (.int x1), .val (.int x2), .val (.int fk), .val (.int nk), .val (.int ak), .val (.ref em), .unset, .unset, .unset, .unset] []))
      have fq7 : Sta Z h1 "java/lang/Boolean" "FALSE" "Ljava/lang/Boolean;" (.ref bf) := (ST0.ext O.2)
      obtain ⟨Tq6, Xq6, eq6, stq6⟩ := getS2 X hx hZ hown (host := "") (Or.inl (W_110 hw)) Via.refl e0 fq7 (g := (mkF m 77 #[.val (.int x0), .val (.int x1), .val (.int x2), .val (.int fk), .val (.int nk), .val (.int ak), .val (.ref em), .unset, .unset, .unset, .unset] [])) rfl (hb hby at_77)
      refine GoesW.via stq6 ?_
      show GoesW _ _ _ _ _ _ _ _ (Tq6.setTop (mkF m 80 #[.val (.int x0), .val (.int x1), .val (.int x2), .val (.int fk), .val (.int nk), .val (.int ak), .val (.ref em), .unset, .unset, .unset, .unset] [(.ref bf)]))
      obtain ⟨vq8, Tq8, Lq8, Xq8, qq8, nq8, stq8⟩ := callSt Xq6 hx hZ hown (optOf l Z aw hw bf O) (W_26 hw) (W_27 hw) (W_28 hw) (W_29 hw) (by decide) eq6 (by decide) (W := 0) (by decide) (by show _ + 1 ≤ 40; omega) (by show _ + 1 ≤ 5312; omega) (g := (mkF m 80 #[.val (.int x0), .val (.int x1), .val (.int x2), .val (.int fk), .val (.int nk), .val (.int ak), .val (.ref em), .unset, .unset, .unset, .unset] [(.ref bf)])) rfl (by rw [hml]; rfl) (argsL := [(.ref bf)]) (rest := []) rfl (lenOf pd_22 rfl) rfl (by show 2 * 0 + _ ≤ _; exact Nat.le_of_eq rfl) (hb hby at_80)
      dsimp only at Xq8
      obtain ⟨xr_q8, rfl, pq8_0, pq8_1, pq8_2, pq8_3⟩ := qq8
      have Nq8 := Fr.app N nq8
      have zq8 := pq8_1.1
      have Oq8 := O.keep pq8_1 all0
      have Cq8 := C0.trans (CHr.keep pq8_1 all0 C0.1)
      have ltpq8_2 := lt_nat pq8_2.lt
      refine GoesW.via stq8 ?_
      show GoesW _ _ _ _ _ _ _ _ (Tq8.setTop (mkF m 83 #[.val (.int x0), .val (.int x1), .val (.int x2), .val (.int fk), .val (.int nk), .val (.int ak), .val (.ref em), .unset, .unset, .unset, .unset] [(.ref xr_q8)]))
      refine GoesW.via (fun _ k => XS.astore Xq8.here hx rfl (hb hby at_83) rfl rfl (l' := #[.val (.int x0), .val (.int x1), .val (.int x2), .val (.int fk), .val (.int nk), .val (.int ak), .val (.ref em), .val (.ref xr_q8), .unset, .unset, .unset]) rfl k) ?_
      show GoesW _ _ _ _ _ _ _ _ (Tq8.setTop (mkF m 85 #[.val (.int x0), .val (.int x1), .val (.int x2), .val (.int fk), .val (.int nk), .val (.int ak), .val (.ref em), .val (.ref xr_q8), .unset, .unset, .unset] []))
      refine GoesW.via (fun _ k => XS.goto Xq8.here hx rfl (pc0 := 85) (pc' := 93) rfl (hb hby at_85) (by decide) (by decide) k) ?_
      show GoesW _ _ _ _ _ _ _ _ (Tq8.setTop (mkF m 93 #[.val (.int x0), .val (.int x1), .val (.int x2), .val (.int fk), .val (.int nk), .val (.int ak), .val (.ref em), .val (.ref xr_q8), .unset, .unset, .unset] []))
      exact seg93E l Z aw hw x0 x1 x2 fk nk ak em bt bf cz xr_q8 hx hby hml hrt hlk hnm hZ hown Xq8 rfl Nq8 (by omega) (by omega) Oq8 hS (by omega) Cq8 CS SE EE FE ST1 ST0 hcz hf0
    · skip
      refine GoesW.via (fun _ k => XS.icmpYes X.here hx rfl (pc0 := 74) (pc' := 88) rfl (hb hby at_74) rfl (XT.ii_ne_t cq5) (by decide) (by decide) k) ?_
      show GoesW _ _ _ _ _ _ _ _ (T.setTop (mkF m 88 #[.val (.int x0), .val (.int x1), .val (.int x2), .val (.int fk), .val (.int nk), .val (.int ak), .val (.ref em), .unset, .unset, .unset, .unset] []))
      obtain ⟨vq9, Tq9, Lq9, Xq9, qq9, nq9, stq9⟩ := callSt X hx hZ hown (optEmpty l Z aw hw em O SE) (W_43 hw) (W_44 hw) (W_28 hw) (W_45 hw) (by decide) e0 (by decide) (W := 0) (by decide) (by show _ + 0 ≤ 40; omega) (by show _ + 0 ≤ 5312; omega) (g := (mkF m 88 #[.val (.int x0), .val (.int x1), .val (.int x2), .val (.int fk), .val (.int nk), .val (.int ak), .val (.ref em), .unset, .unset, .unset, .unset] [])) rfl (by rw [hml]; rfl) (argsL := []) (rest := []) rfl (lenOf pd_23 rfl) rfl (by show 2 * 0 + _ ≤ _; exact Nat.le_of_eq rfl) (hb hby at_88)
      dsimp only at Xq9
      obtain ⟨rfl, pq9_0⟩ := qq9
      have Nq9 := Fr.app N nq9
      refine GoesW.via stq9 ?_
      show GoesW _ _ _ _ _ _ _ _ (Tq9.setTop (mkF m 91 #[.val (.int x0), .val (.int x1), .val (.int x2), .val (.int fk), .val (.int nk), .val (.int ak), .val (.ref em), .unset, .unset, .unset, .unset] [(.ref em)]))
      refine GoesW.via (fun _ k => XS.astore Xq9.here hx rfl (hb hby at_91) rfl rfl (l' := #[.val (.int x0), .val (.int x1), .val (.int x2), .val (.int fk), .val (.int nk), .val (.int ak), .val (.ref em), .val (.ref em), .unset, .unset, .unset]) rfl k) ?_
      show GoesW _ _ _ _ _ _ _ _ (Tq9.setTop (mkF m 93 #[.val (.int x0), .val (.int x1), .val (.int x2), .val (.int fk), .val (.int nk), .val (.int ak), .val (.ref em), .val (.ref em), .unset, .unset, .unset] []))
      exact seg93E l Z aw hw x0 x1 x2 fk nk ak em bt bf cz em hx hby hml hrt hlk hnm hZ hown Xq9 pq9_0 Nq9 (by omega) (by omega) O hS (by omega) C0 CS SE EE FE ST1 ST0 hcz hf0
set_option maxRecDepth 65536 in
set_option maxHeartbeats 40000000 in
theorem law_c16 (l : Launch) (Z : State) (aw : Array Value) (hw : ∀ d ∈ tables_1, d.before aw Z = true) (x0 : Int32) (x1 : Int32) (x2 : Int32) (fk : Int32) (nk : Int32) (ak : Int32) (em : Nat) (bt : Nat) (bf : Nat) (cz : Int32) (fo : Nat) (sA : Nat) (wA : Nat) (kA : ClassId) (NA : Int32) (vA : List Value) (al : Nat) (xr_q2 : Nat) (xtb_q2 : Nat) (xkt_q2 : ClassId) (xN1_q2 : Int32) (xvs_q2 : List Value) {p : Program} {e : Env} {s : State} {m : MethodId} {args : Array Value} {below : List Frame} {meth : Method} {c : Code} {T : State} {locs : List Loc} {cells slots n0 : Nat} {h0 h1 : Heap} (hx : p.tables.exec = Jvm.exec) (hby : c.code = code) (hml : c.maxLocals = 11) (hrt : meth.sig.returnType = some .boolean) (hlk : meth.locks = false) (hnm : meth.name = "law") {vm0 vmE : Vm} {k0 : Nat} (hZ : Z.Warmed39 vm0) (hown : vm0.findClass "com/example/vouchsafe/vouchsafe/message/NameIdPolicyAcceptsPinLaw" = some m.cls) (X : Stand p l e room_1 (s.setVm vm0) m args below meth c T locs cells slots) (e0 : T.heap = h1) (N : Fr n0 locs) (hcells : cells ≤ 16) (hslots : slots ≤ 254) (O : Old Z n0 h1) (hS : s.Since vm0 k0) (hk0 : k0 ≤ h1.size) (C0 : CHr Z EL vmE h0 vm0 h1) (CS : Sta Z Z.heap "java/lang/String" "COMPACT_STRINGS" "Z" (.int cz)) (SE : Sta Z Z.heap "java/util/Optional" "EMPTY" "Ljava/util/Optional;" (.ref em)) (EE : Exa Z Z.heap em "java/util/Optional") (FE : Fld Z Z.heap em "java/util/Optional" "value" "Ljava/lang/Object;" .null) (ST1 : Sta Z Z.heap "java/lang/Boolean" "TRUE" "Ljava/lang/Boolean;" (.ref bt)) (ST0 : Sta Z Z.heap "java/lang/Boolean" "FALSE" "Ljava/lang/Boolean;" (.ref bf)) (pf0 : Exa Z h1 fo "java/util/Optional") (pf1 : Fld Z h1 fo "java/util/Optional" "value" "Ljava/lang/Object;" (.ref sA)) (pf2 : Exa Z h1 sA "java/lang/String") (pf3 : Fld Z h1 sA "java/lang/String" "value" "[B" (.ref wA)) (pf4 : Fld Z h1 sA "java/lang/String" "coder" "B" (.int (0 : Int32))) (pf5 : Arv Z h1 wA kA .byte NA vA (.int (0 : Int32))) (pf6 : Exa Z h1 xr_q2 "java/lang/String") (pf7 : Fld Z h1 xr_q2 "java/lang/String" "value" "[B" (.ref xtb_q2)) (pf8 : Fld Z h1 xr_q2 "java/lang/String" "coder" "B" (.int (0 : Int32))) (pf9 : Arv Z h1 xtb_q2 xkt_q2 .byte xN1_q2 xvs_q2 (.int (0 : Int32))) (hcz : ¬ cz = (0 : Int32)) (hf0 : ¬ (fk = (0 : Int32))) (hf1 : fk = (1 : Int32)) (codA : StrChars.Road.CodA LIT_0 0 NA vA) (cq1 : nk = (0 : Int32)) (pq2_6 : StrChars.Road.CodA (drw x1) 0 xN1_q2 xvs_q2) (cn1 : n0 ≤ xr_q2) :
    GoesW p e below s room_1.cells room_1.slots n0 (fun v vm h => (fun vv hh => vv = some (.int (1 : Int32))) v h ∧ CHr Z EL vmE h0 vm h) (T.setTop (mkF m 143 #[.val (.int x0), .val (.int x1), .val (.int x2), .val (.int fk), .val (.int nk), .val (.int ak), .val (.ref fo), .val (.ref al), .val (.ref xr_q2), .unset, .unset] [])) := by
  have zO := O.le
  have lt_fo := lt_nat pf0.lt
  have lt_sA := lt_nat pf2.lt
  have lt_wA := lt_nat pf5.lt
  have lt_xr_q2 := lt_nat pf6.lt
  have lt_xtb_q2 := lt_nat pf9.lt
  show GoesW _ _ _ _ _ _ _ _ (T.setTop (mkF m 143 #[.val (.int x0), .val (.int x1), .val (.int x2), .val (.int fk), .val (.int nk), .val (.int ak), .val (.ref fo), .val (.ref al), .val (.ref xr_q2), .unset, .unset] []))
  refine GoesW.via (fun _ k => XS.iloadN X.here hx rfl (hb hby at_143) rfl k) ?_
  show GoesW _ _ _ _ _ _ _ _ (T.setTop (mkF m 144 #[.val (.int x0), .val (.int x1), .val (.int x2), .val (.int fk), .val (.int nk), .val (.int ak), .val (.ref fo), .val (.ref al), .val (.ref xr_q2), .unset, .unset] [(.int fk)]))
  refine GoesW.via (fun _ k => XS.ifNo X.here hx rfl (hb hby at_144) rfl (XT.i0_eq_f hf0) k) ?_
  show GoesW _ _ _ _ _ _ _ _ (T.setTop (mkF m 147 #[.val (.int x0), .val (.int x1), .val (.int x2), .val (.int fk), .val (.int nk), .val (.int ak), .val (.ref fo), .val (.ref al), .val (.ref xr_q2), .unset, .unset] []))
  refine GoesW.via (fun _ k => XS.iloadN X.here hx rfl (hb hby at_147) rfl k) ?_
  show GoesW _ _ _ _ _ _ _ _ (T.setTop (mkF m 148 #[.val (.int x0), .val (.int x1), .val (.int x2), .val (.int fk), .val (.int nk), .val (.int ak), .val (.ref fo), .val (.ref al), .val (.ref xr_q2), .unset, .unset] [(.int fk)]))
  refine GoesW.via (fun _ k => XT.iconstV X.here hx rfl (1 : Int32) (hb hby at_148) (by decide) k) ?_
  show GoesW _ _ _ _ _ _ _ _ (T.setTop (mkF m 149 #[.val (.int x0), .val (.int x1), .val (.int x2), .val (.int fk), .val (.int nk), .val (.int ak), .val (.ref fo), .val (.ref al), .val (.ref xr_q2), .unset, .unset] [(.int (1 : Int32)), (.int fk)]))
  refine GoesW.via (fun _ k => XS.icmpNo X.here hx rfl (hb hby at_149) rfl (XT.ii_ne_f hf1) k) ?_
  show GoesW _ _ _ _ _ _ _ _ (T.setTop (mkF m 152 #[.val (.int x0), .val (.int x1), .val (.int x2), .val (.int fk), .val (.int nk), .val (.int ak), .val (.ref fo), .val (.ref al), .val (.ref xr_q2), .unset, .unset] []))
  refine GoesW.via (fun _ k => XT.iconstV X.here hx rfl (1 : Int32) (hb hby at_152) (by decide) k) ?_
  show GoesW _ _ _ _ _ _ _ _ (T.setTop (mkF m 153 #[.val (.int x0), .val (.int x1), .val (.int x2), .val (.int fk), .val (.int nk), .val (.int ak), .val (.ref fo), .val (.ref al), .val (.ref xr_q2), .unset, .unset] [(.int (1 : Int32))]))
  refine GoesW.via (fun _ k => XS.istore X.here hx rfl (hb hby at_153) rfl (l' := #[.val (.int x0), .val (.int x1), .val (.int x2), .val (.int fk), .val (.int nk), .val (.int ak), .val (.ref fo), .val (.ref al), .val (.ref xr_q2), .val (.int (1 : Int32)), .unset]) rfl k) ?_
  show GoesW _ _ _ _ _ _ _ _ (T.setTop (mkF m 155 #[.val (.int x0), .val (.int x1), .val (.int x2), .val (.int fk), .val (.int nk), .val (.int ak), .val (.ref fo), .val (.ref al), .val (.ref xr_q2), .val (.int (1 : Int32)), .unset] []))
  refine GoesW.via (fun _ k => XS.goto X.here hx rfl (pc0 := 155) (pc' := 206) rfl (hb hby at_155) (by decide) (by decide) k) ?_
  show GoesW _ _ _ _ _ _ _ _ (T.setTop (mkF m 206 #[.val (.int x0), .val (.int x1), .val (.int x2), .val (.int fk), .val (.int nk), .val (.int ak), .val (.ref fo), .val (.ref al), .val (.ref xr_q2), .val (.int (1 : Int32)), .unset] []))
  obtain ⟨Tq9, hq9, Xq9, eq9, Eq9, Aq9, Dq9, -, stq9⟩ := newO X hx hZ hown (W_50 hw) (W_51 hw) (W_52 hw) e0 (g := (mkF m 206 #[.val (.int x0), .val (.int x1), .val (.int x2), .val (.int fk), .val (.int nk), .val (.int ak), .val (.ref fo), .val (.ref al), .val (.ref xr_q2), .val (.int (1 : Int32)), .unset] [])) rfl (hb hby at_206) (by show _ + 1 ≤ 40; omega) (by show _ + 2 ≤ 5312; omega)
  obtain ⟨bq9, gq9⟩ : ∃ z, z = h1.size := ⟨_, rfl⟩
  rw [← gq9] at Aq9 Dq9 stq9
  have zq9 := Eq9.1
  have Oq9 := O.ext Eq9
  have Cq9 := C0.trans (CHr.ext Eq9 C0.1)
  have lq9 := lt_nat Aq9.lt
  refine GoesW.via stq9 ?_
  show GoesW _ _ _ _ _ _ _ _ (Tq9.setTop (mkF m 209 #[.val (.int x0), .val (.int x1), .val (.int x2), .val (.int fk), .val (.int nk), .val (.int ak), .val (.ref fo), .val (.ref al), .val (.ref xr_q2), .val (.int (1 : Int32)), .unset] [(.ref bq9)]))
  refine GoesW.via (fun _ k => XS.dup Xq9.here hx rfl (hb hby at_209) rfl rfl k) ?_
  show GoesW _ _ _ _ _ _ _ _ (Tq9.setTop (mkF m 210 #[.val (.int x0), .val (.int x1), .val (.int x2), .val (.int fk), .val (.int nk), .val (.int ak), .val (.ref fo), .val (.ref al), .val (.ref xr_q2), .val (.int (1 : Int32)), .unset] [(.ref bq9), (.ref bq9)]))
  refine GoesW.via (fun _ k => XS.aload Xq9.here hx rfl (hb hby at_210) rfl rfl k) ?_
  show GoesW _ _ _ _ _ _ _ _ (Tq9.setTop (mkF m 212 #[.val (.int x0), .val (.int x1), .val (.int x2), .val (.int fk), .val (.int nk), .val (.int ak), .val (.ref fo), .val (.ref al), .val (.ref xr_q2), .val (.int (1 : Int32)), .unset] [(.ref fo), (.ref bq9), (.ref bq9)]))
  refine GoesW.via (fun _ k => XS.aload Xq9.here hx rfl (hb hby at_212) rfl rfl k) ?_
  show GoesW _ _ _ _ _ _ _ _ (Tq9.setTop (mkF m 214 #[.val (.int x0), .val (.int x1), .val (.int x2), .val (.int fk), .val (.int nk), .val (.int ak), .val (.ref fo), .val (.ref al), .val (.ref xr_q2), .val (.int (1 : Int32)), .unset] [(.ref al), (.ref fo), (.ref bq9), (.ref bq9)]))
  obtain ⟨vq10, Tq10, Lq10, Xq10, Sq10, hZq10, hownq10, Rq10, qq10, nq10, stq10⟩ := callSpW Xq9 hx hZ hown hS (by rw [eq9]; omega) (ew hw) Cq9.1 (allS (lt_ok (by omega)) all0) (allS (Safe.exa hZ.alike Aq9 (by decide) (by decide)) all0) (npInit l Z aw hw bq9 fo al Oq9 Aq9 (Dq9 (Or.inr (W_68 hw)) (ty := (.object "java/util/Optional")) (by decide)) (Dq9 (Or.inr (W_70 hw)) (ty := (.object "java/util/Optional")) (by decide)) (by omega)) rfl (W_53 hw) (W_54 hw) (W_52 hw) (W_55 hw) (by decide) eq9 (by decide) (W := 1) (by decide) (by show _ + 4 ≤ 40; omega) (by show _ + 80 ≤ 5312; omega) (g := (mkF m 214 #[.val (.int x0), .val (.int x1), .val (.int x2), .val (.int fk), .val (.int nk), .val (.int ak), .val (.ref fo), .val (.ref al), .val (.ref xr_q2), .val (.int (1 : Int32)), .unset] [(.ref al), (.ref fo), (.ref bq9), (.ref bq9)])) rfl (by rw [hml]; rfl) (a := bq9) (argsL := [(.ref fo), (.ref al)]) (rest := [(.ref bq9)]) rfl (lenOf pd_20 rfl) rfl (by show 2 * 0 + _ ≤ _; exact Nat.le_of_eq rfl) (hb hby at_214)
  dsimp only at Xq10
  obtain ⟨rfl, pq10_0, pq10_1, pq10_2⟩ := qq10
  have Nq10 := Fr.app N nq10
  have zq10 := pq10_0.1
  have Oq10 := Oq9.keep pq10_0 (allS (by omega) all0)
  have Cq10 := Cq9.trans Rq10
  have ltpq10_1 := lt_nat pq10_1.lt
  refine GoesW.via stq10 ?_
  show GoesW _ _ _ _ _ _ _ _ (Tq10.setTop (mkF m 217 #[.val (.int x0), .val (.int x1), .val (.int x2), .val (.int fk), .val (.int nk), .val (.int ak), .val (.ref fo), .val (.ref al), .val (.ref xr_q2), .val (.int (1 : Int32)), .unset] [(.ref bq9)]))
  refine GoesW.via (fun _ k => XS.astore Xq10.here hx rfl (hb hby at_217) rfl rfl (l' := #[.val (.int x0), .val (.int x1), .val (.int x2), .val (.int fk), .val (.int nk), .val (.int ak), .val (.ref fo), .val (.ref al), .val (.ref xr_q2), .val (.int (1 : Int32)), .val (.ref bq9)]) rfl k) ?_
  show GoesW _ _ _ _ _ _ _ _ (Tq10.setTop (mkF m 219 #[.val (.int x0), .val (.int x1), .val (.int x2), .val (.int fk), .val (.int nk), .val (.int ak), .val (.ref fo), .val (.ref al), .val (.ref xr_q2), .val (.int (1 : Int32)), .val (.ref bq9)] []))
  refine GoesW.via (fun _ k => XS.aload Xq10.here hx rfl (hb hby at_219) rfl rfl k) ?_
  show GoesW _ _ _ _ _ _ _ _ (Tq10.setTop (mkF m 221 #[.val (.int x0), .val (.int x1), .val (.int x2), .val (.int fk), .val (.int nk), .val (.int ak), .val (.ref fo), .val (.ref al), .val (.ref xr_q2), .val (.int (1 : Int32)), .val (.ref bq9)] [(.ref bq9)]))
  refine GoesW.via (fun _ k => XS.aload Xq10.here hx rfl (hb hby at_221) rfl rfl k) ?_
  show GoesW _ _ _ _ _ _ _ _ (Tq10.setTop (mkF m 223 #[.val (.int x0), .val (.int x1), .val (.int x2), .val (.int fk), .val (.int nk), .val (.int ak), .val (.ref fo), .val (.ref al), .val (.ref xr_q2), .val (.int (1 : Int32)), .val (.ref bq9)] [(.ref xr_q2), (.ref bq9)]))
  have fq11 : Exa Z Tq10.heap fo "java/util/Optional" := ((pf0.ext Eq9).keep pq10_0)
  have fq12 : Fld Z Tq10.heap fo "java/util/Optional" "value" "Ljava/lang/Object;" (.ref sA) := ((pf1.ext Eq9).keep pq10_0 (ninS (ne_ok (by omega)) nin0))
  have fq13 : Exa Z Tq10.heap sA "java/lang/String" := ((pf2.ext Eq9).keep pq10_0)
  have fq14 : Fld Z Tq10.heap sA "java/lang/String" "value" "[B" (.ref wA) := ((pf3.ext Eq9).keep pq10_0 (ninS (ne_ok (by omega)) nin0))
  have fq15 : Fld Z Tq10.heap sA "java/lang/String" "coder" "B" (.int (0 : Int32)) := ((pf4.ext Eq9).keep pq10_0 (ninS (ne_ok (by omega)) nin0))
  have fq16 : Arv Z Tq10.heap wA kA .byte NA vA (.int (0 : Int32)) := ((pf5.ext Eq9).keep pq10_0 (ninS (ne_ok (by omega)) nin0))
  have fq17 : Exa Z Tq10.heap xr_q2 "java/lang/String" := ((pf6.ext Eq9).keep pq10_0)
  have fq18 : Fld Z Tq10.heap xr_q2 "java/lang/String" "value" "[B" (.ref xtb_q2) := ((pf7.ext Eq9).keep pq10_0 (ninS (ne_ok (by omega)) nin0))
  have fq19 : Fld Z Tq10.heap xr_q2 "java/lang/String" "coder" "B" (.int (0 : Int32)) := ((pf8.ext Eq9).keep pq10_0 (ninS (ne_ok (by omega)) nin0))
  have fq20 : Arv Z Tq10.heap xtb_q2 xkt_q2 .byte xN1_q2 xvs_q2 (.int (0 : Int32)) := ((pf9.ext Eq9).keep pq10_0 (ninS (ne_ok (by omega)) nin0))
  obtain ⟨vq21, Tq21, Lq21, Xq21, Sq21, hZq21, hownq21, Rq21, qq21, nq21, stq21⟩ := callViW Xq10 hx hZq10 hownq10 Sq10 (by omega) (ew hw) Cq10.1 all0 all0 (accS l Z aw hw bq9 fo sA wA kA NA vA LIT_0 xr_q2 xtb_q2 xkt_q2 xN1_q2 xvs_q2 (drw x1) cz Oq10 CS pq10_2 fq11 fq12 fq13 fq14 fq15 fq16 fq17 fq18 fq19 fq20 hcz codA rgL_0 (Nat.le_of_ble_eq_true rfl) pq2_6 (up65 (drw_rg _)) (drw_ln _)) (W_71 hw) (W_72 hw) (notFace_of_selects (args := #[]) (mvT hZq10 (W_74 hw))) (W_74 hw) (W_73 hw) (W_52 hw) (W_75 hw) (by decide) rfl pq10_1 (by decide) (W := 0) (by decide) (by show _ + 2 ≤ 40; omega) (by show _ + 216 ≤ 5312; omega) (g := (mkF m 223 #[.val (.int x0), .val (.int x1), .val (.int x2), .val (.int fk), .val (.int nk), .val (.int ak), .val (.ref fo), .val (.ref al), .val (.ref xr_q2), .val (.int (1 : Int32)), .val (.ref bq9)] [(.ref xr_q2), (.ref bq9)])) rfl (by rw [hml]; rfl) (a := bq9) (argsL := [(.ref xr_q2)]) (rest := []) rfl (lenOf pd_21 rfl) rfl (by show 2 * 0 + _ ≤ _; exact Nat.le_of_eq rfl) (hb hby at_223)
  dsimp only at Xq21
  obtain ⟨rfl, pq21_0⟩ := qq21
  have Nq21 := Fr.app Nq10 nq21
  have zq21 := pq21_0.1
  have Oq21 := Oq10.keep pq21_0 all0
  have Cq21 := Cq10.trans Rq21
  refine GoesW.via stq21 ?_
  show GoesW _ _ _ _ _ _ _ _ (Tq21.setTop (mkF m 226 #[.val (.int x0), .val (.int x1), .val (.int x2), .val (.int fk), .val (.int nk), .val (.int ak), .val (.ref fo), .val (.ref al), .val (.ref xr_q2), .val (.int (1 : Int32)), .val (.ref bq9)] [(.int (if LIT_0 = LIT_0 ∨ LIT_0 = (drw x1) then (1 : Int32) else 0))]))
  refine GoesW.via (fun _ k => XS.iload Xq21.here hx rfl (hb hby at_226) rfl k) ?_
  show GoesW _ _ _ _ _ _ _ _ (Tq21.setTop (mkF m 228 #[.val (.int x0), .val (.int x1), .val (.int x2), .val (.int fk), .val (.int nk), .val (.int ak), .val (.ref fo), .val (.ref al), .val (.ref xr_q2), .val (.int (1 : Int32)), .val (.ref bq9)] [(.int (1 : Int32)), (.int (if LIT_0 = LIT_0 ∨ LIT_0 = (drw x1) then (1 : Int32) else 0))]))
  refine GoesW.via (fun _ k => XS.icmpNo Xq21.here hx rfl (hb hby at_228) rfl (XT.ii_ne_f (if_pos (Or.inl rfl))) k) ?_
  show GoesW _ _ _ _ _ _ _ _ (Tq21.setTop (mkF m 231 #[.val (.int x0), .val (.int x1), .val (.int x2), .val (.int fk), .val (.int nk), .val (.int ak), .val (.ref fo), .val (.ref al), .val (.ref xr_q2), .val (.int (1 : Int32)), .val (.ref bq9)] []))
  refine GoesW.via (fun _ k => XT.iconstV Xq21.here hx rfl (1 : Int32) (hb hby at_231) (by decide) k) ?_
  show GoesW _ _ _ _ _ _ _ _ (Tq21.setTop (mkF m 232 #[.val (.int x0), .val (.int x1), .val (.int x2), .val (.int fk), .val (.int nk), .val (.int ak), .val (.ref fo), .val (.ref al), .val (.ref xr_q2), .val (.int (1 : Int32)), .val (.ref bq9)] [(.int (1 : Int32))]))
  refine GoesW.via (fun _ k => XS.goto Xq21.here hx rfl (pc0 := 232) (pc' := 236) rfl (hb hby at_232) (by decide) (by decide) k) ?_
  show GoesW _ _ _ _ _ _ _ _ (Tq21.setTop (mkF m 236 #[.val (.int x0), .val (.int x1), .val (.int x2), .val (.int fk), .val (.int nk), .val (.int ak), .val (.ref fo), .val (.ref al), .val (.ref xr_q2), .val (.int (1 : Int32)), .val (.ref bq9)] [(.int (1 : Int32))]))
  refine goRetNW Xq21 hx hrt (by simp) hlk Nq21 Sq21 (by omega) (by show _ ≤ 40; omega) (by show _ ≤ 5312; omega) (hb hby at_236) ?_
  intro hWm
  refine ⟨?_, Cq21.trans (CHv.at Xq21 hZq21 (ew hw) Cq21.1)⟩
  exact rfl
set_option maxRecDepth 65536 in
set_option maxHeartbeats 40000000 in
theorem law_c17 (l : Launch) (Z : State) (aw : Array Value) (hw : ∀ d ∈ tables_1, d.before aw Z = true) (x0 : Int32) (x1 : Int32) (x2 : Int32) (fk : Int32) (nk : Int32) (ak : Int32) (em : Nat) (bt : Nat) (bf : Nat) (cz : Int32) (fo : Nat) (sA : Nat) (wA : Nat) (kA : ClassId) (NA : Int32) (vA : List Value) (al : Nat) {p : Program} {e : Env} {s : State} {m : MethodId} {args : Array Value} {below : List Frame} {meth : Method} {c : Code} {T : State} {locs : List Loc} {cells slots n0 : Nat} {h0 h1 : Heap} (hx : p.tables.exec = Jvm.exec) (hby : c.code = code) (hml : c.maxLocals = 11) (hrt : meth.sig.returnType = some .boolean) (hlk : meth.locks = false) (hnm : meth.name = "law") {vm0 vmE : Vm} {k0 : Nat} (hZ : Z.Warmed39 vm0) (hown : vm0.findClass "com/example/vouchsafe/vouchsafe/message/NameIdPolicyAcceptsPinLaw" = some m.cls) (X : Stand p l e room_1 (s.setVm vm0) m args below meth c T locs cells slots) (e0 : T.heap = h1) (N : Fr n0 locs) (hcells : cells ≤ 10) (hslots : slots ≤ 240) (O : Old Z n0 h1) (hS : s.Since vm0 k0) (hk0 : k0 ≤ h1.size) (C0 : CHr Z EL vmE h0 vm0 h1) (CS : Sta Z Z.heap "java/lang/String" "COMPACT_STRINGS" "Z" (.int cz)) (SE : Sta Z Z.heap "java/util/Optional" "EMPTY" "Ljava/util/Optional;" (.ref em)) (EE : Exa Z Z.heap em "java/util/Optional") (FE : Fld Z Z.heap em "java/util/Optional" "value" "Ljava/lang/Object;" .null) (ST1 : Sta Z Z.heap "java/lang/Boolean" "TRUE" "Ljava/lang/Boolean;" (.ref bt)) (ST0 : Sta Z Z.heap "java/lang/Boolean" "FALSE" "Ljava/lang/Boolean;" (.ref bf)) (pf0 : Exa Z h1 fo "java/util/Optional") (pf1 : Fld Z h1 fo "java/util/Optional" "value" "Ljava/lang/Object;" (.ref sA)) (pf2 : Exa Z h1 sA "java/lang/String") (pf3 : Fld Z h1 sA "java/lang/String" "value" "[B" (.ref wA)) (pf4 : Fld Z h1 sA "java/lang/String" "coder" "B" (.int (0 : Int32))) (pf5 : Arv Z h1 wA kA .byte NA vA (.int (0 : Int32))) (hcz : ¬ cz = (0 : Int32)) (hf0 : ¬ (fk = (0 : Int32))) (hf1 : fk = (1 : Int32)) (codA : StrChars.Road.CodA LIT_0 0 NA vA) (cq1 : ¬ (nk = (0 : Int32))) (cq9 : nk = (1 : Int32)) :
    GoesW p e below s room_1.cells room_1.slots n0 (fun v vm h => (fun vv hh => vv = some (.int (1 : Int32))) v h ∧ CHr Z EL vmE h0 vm h) (T.setTop (mkF m 114 #[.val (.int x0), .val (.int x1), .val (.int x2), .val (.int fk), .val (.int nk), .val (.int ak), .val (.ref fo), .val (.ref al), .unset, .unset, .unset] [(.int x0)])) := by
  have zO := O.le
  have lt_fo := lt_nat pf0.lt
  have lt_sA := lt_nat pf2.lt
  have lt_wA := lt_nat pf5.lt
  show GoesW _ _ _ _ _ _ _ _ (T.setTop (mkF m 114 #[.val (.int x0), .val (.int x1), .val (.int x2), .val (.int fk), .val (.int nk), .val (.int ak), .val (.ref fo), .val (.ref al), .unset, .unset, .unset] [(.int x0)]))
  obtain ⟨vq10, Tq10, Lq10, Xq10, Sq10, hZq10, hownq10, Rq10, qq10, nq10, stq10⟩ := callStW X hx hZ hown hS (by rw [e0]; omega) (ew hw) C0.1 all0 all0 (drawnC l Z aw hw x0 cz O CS hcz) (W_0 hw) (W_1 hw) (W_2 hw) (W_3 hw) (by decide) e0 (by decide) (W := 0) (by decide) (by show _ + 6 ≤ 40; omega) (by show _ + 14 ≤ 5312; omega) (g := (mkF m 114 #[.val (.int x0), .val (.int x1), .val (.int x2), .val (.int fk), .val (.int nk), .val (.int ak), .val (.ref fo), .val (.ref al), .unset, .unset, .unset] [(.int x0)])) rfl (by rw [hml]; rfl) (argsL := [(.int x0)]) (rest := []) rfl (lenOf pd_19 rfl) rfl (by show 2 * 0 + _ ≤ _; exact Nat.le_of_eq rfl) (hb hby at_114)
  dsimp only at Xq10
  obtain ⟨xr_q10, xtb_q10, xkt_q10, xN1_q10, xvs_q10, rfl, pq10_0, pq10_1, pq10_2, pq10_3, pq10_4, pq10_5, pq10_6⟩ := qq10
  have Nq10 := Fr.app N nq10
  have zq10 := pq10_1.1
  have Oq10 := O.keep pq10_1 all0
  have Cq10 := C0.trans Rq10
  have ltpq10_2 := lt_nat pq10_2.lt
  have ltpq10_5 := lt_nat pq10_5.lt
  refine GoesW.via stq10 ?_
  show GoesW _ _ _ _ _ _ _ _ (Tq10.setTop (mkF m 117 #[.val (.int x0), .val (.int x1), .val (.int x2), .val (.int fk), .val (.int nk), .val (.int ak), .val (.ref fo), .val (.ref al), .unset, .unset, .unset] [(.ref xr_q10)]))
  refine GoesW.via (fun _ k => XS.astore Xq10.here hx rfl (hb hby at_117) rfl rfl (l' := #[.val (.int x0), .val (.int x1), .val (.int x2), .val (.int fk), .val (.int nk), .val (.int ak), .val (.ref fo), .val (.ref al), .val (.ref xr_q10), .unset, .unset]) rfl k) ?_
  show GoesW _ _ _ _ _ _ _ _ (Tq10.setTop (mkF m 119 #[.val (.int x0), .val (.int x1), .val (.int x2), .val (.int fk), .val (.int nk), .val (.int ak), .val (.ref fo), .val (.ref al), .val (.ref xr_q10), .unset, .unset] []))
  refine GoesW.via (fun _ k => XS.goto Xq10.here hx rfl (pc0 := 119) (pc' := 143) rfl (hb hby at_119) (by decide) (by decide) k) ?_
  show GoesW _ _ _ _ _ _ _ _ (Tq10.setTop (mkF m 143 #[.val (.int x0), .val (.int x1), .val (.int x2), .val (.int fk), .val (.int nk), .val (.int ak), .val (.ref fo), .val (.ref al), .val (.ref xr_q10), .unset, .unset] []))
  refine GoesW.via (fun _ k => XS.iloadN Xq10.here hx rfl (hb hby at_143) rfl k) ?_
  show GoesW _ _ _ _ _ _ _ _ (Tq10.setTop (mkF m 144 #[.val (.int x0), .val (.int x1), .val (.int x2), .val (.int fk), .val (.int nk), .val (.int ak), .val (.ref fo), .val (.ref al), .val (.ref xr_q10), .unset, .unset] [(.int fk)]))
  refine GoesW.via (fun _ k => XS.ifNo Xq10.here hx rfl (hb hby at_144) rfl (XT.i0_eq_f hf0) k) ?_
  show GoesW _ _ _ _ _ _ _ _ (Tq10.setTop (mkF m 147 #[.val (.int x0), .val (.int x1), .val (.int x2), .val (.int fk), .val (.int nk), .val (.int ak), .val (.ref fo), .val (.ref al), .val (.ref xr_q10), .unset, .unset] []))
  refine GoesW.via (fun _ k => XS.iloadN Xq10.here hx rfl (hb hby at_147) rfl k) ?_
  show GoesW _ _ _ _ _ _ _ _ (Tq10.setTop (mkF m 148 #[.val (.int x0), .val (.int x1), .val (.int x2), .val (.int fk), .val (.int nk), .val (.int ak), .val (.ref fo), .val (.ref al), .val (.ref xr_q10), .unset, .unset] [(.int fk)]))
  refine GoesW.via (fun _ k => XT.iconstV Xq10.here hx rfl (1 : Int32) (hb hby at_148) (by decide) k) ?_
  show GoesW _ _ _ _ _ _ _ _ (Tq10.setTop (mkF m 149 #[.val (.int x0), .val (.int x1), .val (.int x2), .val (.int fk), .val (.int nk), .val (.int ak), .val (.ref fo), .val (.ref al), .val (.ref xr_q10), .unset, .unset] [(.int (1 : Int32)), (.int fk)]))
  refine GoesW.via (fun _ k => XS.icmpNo Xq10.here hx rfl (hb hby at_149) rfl (XT.ii_ne_f hf1) k) ?_
  show GoesW _ _ _ _ _ _ _ _ (Tq10.setTop (mkF m 152 #[.val (.int x0), .val (.int x1), .val (.int x2), .val (.int fk), .val (.int nk), .val (.int ak), .val (.ref fo), .val (.ref al), .val (.ref xr_q10), .unset, .unset] []))
  refine GoesW.via (fun _ k => XT.iconstV Xq10.here hx rfl (1 : Int32) (hb hby at_152) (by decide) k) ?_
  show GoesW _ _ _ _ _ _ _ _ (Tq10.setTop (mkF m 153 #[.val (.int x0), .val (.int x1), .val (.int x2), .val (.int fk), .val (.int nk), .val (.int ak), .val (.ref fo), .val (.ref al), .val (.ref xr_q10), .unset, .unset] [(.int (1 : Int32))]))
  refine GoesW.via (fun _ k => XS.istore Xq10.here hx rfl (hb hby at_153) rfl (l' := #[.val (.int x0), .val (.int x1), .val (.int x2), .val (.int fk), .val (.int nk), .val (.int ak), .val (.ref fo), .val (.ref al), .val (.ref xr_q10), .val (.int (1 : Int32)), .unset]) rfl k) ?_
  show GoesW _ _ _ _ _ _ _ _ (Tq10.setTop (mkF m 155 #[.val (.int x0), .val (.int x1), .val (.int x2), .val (.int fk), .val (.int nk), .val (.int ak), .val (.ref fo), .val (.ref al), .val (.ref xr_q10), .val (.int (1 : Int32)), .unset] []))
  refine GoesW.via (fun _ k => XS.goto Xq10.here hx rfl (pc0 := 155) (pc' := 206) rfl (hb hby at_155) (by decide) (by decide) k) ?_
  show GoesW _ _ _ _ _ _ _ _ (Tq10.setTop (mkF m 206 #[.val (.int x0), .val (.int x1), .val (.int x2), .val (.int fk), .val (.int nk), .val (.int ak), .val (.ref fo), .val (.ref al), .val (.ref xr_q10), .val (.int (1 : Int32)), .unset] []))
  obtain ⟨Tq11, hq11, Xq11, eq11, Eq11, Aq11, Dq11, -, stq11⟩ := newO Xq10 hx hZq10 hownq10 (W_50 hw) (W_51 hw) (W_52 hw) rfl (g := (mkF m 206 #[.val (.int x0), .val (.int x1), .val (.int x2), .val (.int fk), .val (.int nk), .val (.int ak), .val (.ref fo), .val (.ref al), .val (.ref xr_q10), .val (.int (1 : Int32)), .unset] [])) rfl (hb hby at_206) (by show _ + 1 ≤ 40; omega) (by show _ + 2 ≤ 5312; omega)
  obtain ⟨bq11, gq11⟩ : ∃ z, z = Tq10.heap.size := ⟨_, rfl⟩
  rw [← gq11] at Aq11 Dq11 stq11
  have zq11 := Eq11.1
  have Oq11 := Oq10.ext Eq11
  have Cq11 := Cq10.trans (CHr.ext Eq11 Cq10.1)
  have lq11 := lt_nat Aq11.lt
  refine GoesW.via stq11 ?_
  show GoesW _ _ _ _ _ _ _ _ (Tq11.setTop (mkF m 209 #[.val (.int x0), .val (.int x1), .val (.int x2), .val (.int fk), .val (.int nk), .val (.int ak), .val (.ref fo), .val (.ref al), .val (.ref xr_q10), .val (.int (1 : Int32)), .unset] [(.ref bq11)]))
  refine GoesW.via (fun _ k => XS.dup Xq11.here hx rfl (hb hby at_209) rfl rfl k) ?_
  show GoesW _ _ _ _ _ _ _ _ (Tq11.setTop (mkF m 210 #[.val (.int x0), .val (.int x1), .val (.int x2), .val (.int fk), .val (.int nk), .val (.int ak), .val (.ref fo), .val (.ref al), .val (.ref xr_q10), .val (.int (1 : Int32)), .unset] [(.ref bq11), (.ref bq11)]))
  refine GoesW.via (fun _ k => XS.aload Xq11.here hx rfl (hb hby at_210) rfl rfl k) ?_
  show GoesW _ _ _ _ _ _ _ _ (Tq11.setTop (mkF m 212 #[.val (.int x0), .val (.int x1), .val (.int x2), .val (.int fk), .val (.int nk), .val (.int ak), .val (.ref fo), .val (.ref al), .val (.ref xr_q10), .val (.int (1 : Int32)), .unset] [(.ref fo), (.ref bq11), (.ref bq11)]))
  refine GoesW.via (fun _ k => XS.aload Xq11.here hx rfl (hb hby at_212) rfl rfl k) ?_
  show GoesW _ _ _ _ _ _ _ _ (Tq11.setTop (mkF m 214 #[.val (.int x0), .val (.int x1), .val (.int x2), .val (.int fk), .val (.int nk), .val (.int ak), .val (.ref fo), .val (.ref al), .val (.ref xr_q10), .val (.int (1 : Int32)), .unset] [(.ref al), (.ref fo), (.ref bq11), (.ref bq11)]))
  obtain ⟨vq12, Tq12, Lq12, Xq12, Sq12, hZq12, hownq12, Rq12, qq12, nq12, stq12⟩ := callSpW Xq11 hx hZq10 hownq10 Sq10 (by rw [eq11]; omega) (ew hw) Cq11.1 (allS (lt_ok (by omega)) all0) (allS (Safe.exa hZq10.alike Aq11 (by decide) (by decide)) all0) (npInit l Z aw hw bq11 fo al Oq11 Aq11 (Dq11 (Or.inr (W_68 hw)) (ty := (.object "java/util/Optional")) (by decide)) (Dq11 (Or.inr (W_70 hw)) (ty := (.object "java/util/Optional")) (by decide)) (by omega)) rfl (W_53 hw) (W_54 hw) (W_52 hw) (W_55 hw) (by decide) eq11 (by decide) (W := 1) (by decide) (by show _ + 4 ≤ 40; omega) (by show _ + 80 ≤ 5312; omega) (g := (mkF m 214 #[.val (.int x0), .val (.int x1), .val (.int x2), .val (.int fk), .val (.int nk), .val (.int ak), .val (.ref fo), .val (.ref al), .val (.ref xr_q10), .val (.int (1 : Int32)), .unset] [(.ref al), (.ref fo), (.ref bq11), (.ref bq11)])) rfl (by rw [hml]; rfl) (a := bq11) (argsL := [(.ref fo), (.ref al)]) (rest := [(.ref bq11)]) rfl (lenOf pd_20 rfl) rfl (by show 2 * 0 + _ ≤ _; exact Nat.le_of_eq rfl) (hb hby at_214)
  dsimp only at Xq12
  obtain ⟨rfl, pq12_0, pq12_1, pq12_2⟩ := qq12
  have Nq12 := Fr.app Nq10 nq12
  have zq12 := pq12_0.1
  have Oq12 := Oq11.keep pq12_0 (allS (by omega) all0)
  have Cq12 := Cq11.trans Rq12
  have ltpq12_1 := lt_nat pq12_1.lt
  refine GoesW.via stq12 ?_
  show GoesW _ _ _ _ _ _ _ _ (Tq12.setTop (mkF m 217 #[.val (.int x0), .val (.int x1), .val (.int x2), .val (.int fk), .val (.int nk), .val (.int ak), .val (.ref fo), .val (.ref al), .val (.ref xr_q10), .val (.int (1 : Int32)), .unset] [(.ref bq11)]))
  refine GoesW.via (fun _ k => XS.astore Xq12.here hx rfl (hb hby at_217) rfl rfl (l' := #[.val (.int x0), .val (.int x1), .val (.int x2), .val (.int fk), .val (.int nk), .val (.int ak), .val (.ref fo), .val (.ref al), .val (.ref xr_q10), .val (.int (1 : Int32)), .val (.ref bq11)]) rfl k) ?_
  show GoesW _ _ _ _ _ _ _ _ (Tq12.setTop (mkF m 219 #[.val (.int x0), .val (.int x1), .val (.int x2), .val (.int fk), .val (.int nk), .val (.int ak), .val (.ref fo), .val (.ref al), .val (.ref xr_q10), .val (.int (1 : Int32)), .val (.ref bq11)] []))
  refine GoesW.via (fun _ k => XS.aload Xq12.here hx rfl (hb hby at_219) rfl rfl k) ?_
  show GoesW _ _ _ _ _ _ _ _ (Tq12.setTop (mkF m 221 #[.val (.int x0), .val (.int x1), .val (.int x2), .val (.int fk), .val (.int nk), .val (.int ak), .val (.ref fo), .val (.ref al), .val (.ref xr_q10), .val (.int (1 : Int32)), .val (.ref bq11)] [(.ref bq11)]))
  refine GoesW.via (fun _ k => XS.aload Xq12.here hx rfl (hb hby at_221) rfl rfl k) ?_
  show GoesW _ _ _ _ _ _ _ _ (Tq12.setTop (mkF m 223 #[.val (.int x0), .val (.int x1), .val (.int x2), .val (.int fk), .val (.int nk), .val (.int ak), .val (.ref fo), .val (.ref al), .val (.ref xr_q10), .val (.int (1 : Int32)), .val (.ref bq11)] [(.ref xr_q10), (.ref bq11)]))
  have fq13 : Exa Z Tq12.heap fo "java/util/Optional" := (((pf0.keep pq10_1).ext Eq11).keep pq12_0)
  have fq14 : Fld Z Tq12.heap fo "java/util/Optional" "value" "Ljava/lang/Object;" (.ref sA) := (((pf1.keep pq10_1 nin0).ext Eq11).keep pq12_0 (ninS (ne_ok (by omega)) nin0))
  have fq15 : Exa Z Tq12.heap sA "java/lang/String" := (((pf2.keep pq10_1).ext Eq11).keep pq12_0)
  have fq16 : Fld Z Tq12.heap sA "java/lang/String" "value" "[B" (.ref wA) := (((pf3.keep pq10_1 nin0).ext Eq11).keep pq12_0 (ninS (ne_ok (by omega)) nin0))
  have fq17 : Fld Z Tq12.heap sA "java/lang/String" "coder" "B" (.int (0 : Int32)) := (((pf4.keep pq10_1 nin0).ext Eq11).keep pq12_0 (ninS (ne_ok (by omega)) nin0))
  have fq18 : Arv Z Tq12.heap wA kA .byte NA vA (.int (0 : Int32)) := (((pf5.keep pq10_1 nin0).ext Eq11).keep pq12_0 (ninS (ne_ok (by omega)) nin0))
  have fq19 : Exa Z Tq12.heap xr_q10 "java/lang/String" := ((pq10_2.ext Eq11).keep pq12_0)
  have fq20 : Fld Z Tq12.heap xr_q10 "java/lang/String" "value" "[B" (.ref xtb_q10) := ((pq10_3.ext Eq11).keep pq12_0 (ninS (ne_ok (by omega)) nin0))
  have fq21 : Fld Z Tq12.heap xr_q10 "java/lang/String" "coder" "B" (.int (0 : Int32)) := ((pq10_4.ext Eq11).keep pq12_0 (ninS (ne_ok (by omega)) nin0))
  have fq22 : Arv Z Tq12.heap xtb_q10 xkt_q10 .byte xN1_q10 xvs_q10 (.int (0 : Int32)) := ((pq10_5.ext Eq11).keep pq12_0 (ninS (ne_ok (by omega)) nin0))
  obtain ⟨vq23, Tq23, Lq23, Xq23, Sq23, hZq23, hownq23, Rq23, qq23, nq23, stq23⟩ := callViW Xq12 hx hZq12 hownq12 Sq12 (by omega) (ew hw) Cq12.1 all0 all0 (accS l Z aw hw bq11 fo sA wA kA NA vA LIT_0 xr_q10 xtb_q10 xkt_q10 xN1_q10 xvs_q10 (drw x0) cz Oq12 CS pq12_2 fq13 fq14 fq15 fq16 fq17 fq18 fq19 fq20 fq21 fq22 hcz codA rgL_0 (Nat.le_of_ble_eq_true rfl) pq10_6 (up65 (drw_rg _)) (drw_ln _)) (W_71 hw) (W_72 hw) (notFace_of_selects (args := #[]) (mvT hZq12 (W_74 hw))) (W_74 hw) (W_73 hw) (W_52 hw) (W_75 hw) (by decide) rfl pq12_1 (by decide) (W := 0) (by decide) (by show _ + 2 ≤ 40; omega) (by show _ + 216 ≤ 5312; omega) (g := (mkF m 223 #[.val (.int x0), .val (.int x1), .val (.int x2), .val (.int fk), .val (.int nk), .val (.int ak), .val (.ref fo), .val (.ref al), .val (.ref xr_q10), .val (.int (1 : Int32)), .val (.ref bq11)] [(.ref xr_q10), (.ref bq11)])) rfl (by rw [hml]; rfl) (a := bq11) (argsL := [(.ref xr_q10)]) (rest := []) rfl (lenOf pd_21 rfl) rfl (by show 2 * 0 + _ ≤ _; exact Nat.le_of_eq rfl) (hb hby at_223)
  dsimp only at Xq23
  obtain ⟨rfl, pq23_0⟩ := qq23
  have Nq23 := Fr.app Nq12 nq23
  have zq23 := pq23_0.1
  have Oq23 := Oq12.keep pq23_0 all0
  have Cq23 := Cq12.trans Rq23
  refine GoesW.via stq23 ?_
  show GoesW _ _ _ _ _ _ _ _ (Tq23.setTop (mkF m 226 #[.val (.int x0), .val (.int x1), .val (.int x2), .val (.int fk), .val (.int nk), .val (.int ak), .val (.ref fo), .val (.ref al), .val (.ref xr_q10), .val (.int (1 : Int32)), .val (.ref bq11)] [(.int (if LIT_0 = LIT_0 ∨ LIT_0 = (drw x0) then (1 : Int32) else 0))]))
  refine GoesW.via (fun _ k => XS.iload Xq23.here hx rfl (hb hby at_226) rfl k) ?_
  show GoesW _ _ _ _ _ _ _ _ (Tq23.setTop (mkF m 228 #[.val (.int x0), .val (.int x1), .val (.int x2), .val (.int fk), .val (.int nk), .val (.int ak), .val (.ref fo), .val (.ref al), .val (.ref xr_q10), .val (.int (1 : Int32)), .val (.ref bq11)] [(.int (1 : Int32)), (.int (if LIT_0 = LIT_0 ∨ LIT_0 = (drw x0) then (1 : Int32) else 0))]))
  refine GoesW.via (fun _ k => XS.icmpNo Xq23.here hx rfl (hb hby at_228) rfl (XT.ii_ne_f (if_pos (Or.inl rfl))) k) ?_
  show GoesW _ _ _ _ _ _ _ _ (Tq23.setTop (mkF m 231 #[.val (.int x0), .val (.int x1), .val (.int x2), .val (.int fk), .val (.int nk), .val (.int ak), .val (.ref fo), .val (.ref al), .val (.ref xr_q10), .val (.int (1 : Int32)), .val (.ref bq11)] []))
  refine GoesW.via (fun _ k => XT.iconstV Xq23.here hx rfl (1 : Int32) (hb hby at_231) (by decide) k) ?_
  show GoesW _ _ _ _ _ _ _ _ (Tq23.setTop (mkF m 232 #[.val (.int x0), .val (.int x1), .val (.int x2), .val (.int fk), .val (.int nk), .val (.int ak), .val (.ref fo), .val (.ref al), .val (.ref xr_q10), .val (.int (1 : Int32)), .val (.ref bq11)] [(.int (1 : Int32))]))
  refine GoesW.via (fun _ k => XS.goto Xq23.here hx rfl (pc0 := 232) (pc' := 236) rfl (hb hby at_232) (by decide) (by decide) k) ?_
  show GoesW _ _ _ _ _ _ _ _ (Tq23.setTop (mkF m 236 #[.val (.int x0), .val (.int x1), .val (.int x2), .val (.int fk), .val (.int nk), .val (.int ak), .val (.ref fo), .val (.ref al), .val (.ref xr_q10), .val (.int (1 : Int32)), .val (.ref bq11)] [(.int (1 : Int32))]))
  refine goRetNW Xq23 hx hrt (by simp) hlk Nq23 Sq23 (by omega) (by show _ ≤ 40; omega) (by show _ ≤ 5312; omega) (hb hby at_236) ?_
  intro hWm
  refine ⟨?_, Cq23.trans (CHv.at Xq23 hZq23 (ew hw) Cq23.1)⟩
  exact rfl
set_option maxRecDepth 65536 in
set_option maxHeartbeats 40000000 in
theorem law_c19 (l : Launch) (Z : State) (aw : Array Value) (hw : ∀ d ∈ tables_1, d.before aw Z = true) (x0 : Int32) (x1 : Int32) (x2 : Int32) (fk : Int32) (nk : Int32) (ak : Int32) (em : Nat) (bt : Nat) (bf : Nat) (cz : Int32) (fo : Nat) (sA : Nat) (wA : Nat) (kA : ClassId) (NA : Int32) (vA : List Value) (al : Nat) (aq11 : Nat) (wq11 : Nat) (kkq11 : ClassId) {p : Program} {e : Env} {s : State} {m : MethodId} {args : Array Value} {below : List Frame} {meth : Method} {c : Code} {T : State} {locs : List Loc} {cells slots n0 : Nat} {h0 h1 : Heap} (hx : p.tables.exec = Jvm.exec) (hby : c.code = code) (hml : c.maxLocals = 11) (hrt : meth.sig.returnType = some .boolean) (hlk : meth.locks = false) (hnm : meth.name = "law") {vm0 vmE : Vm} {k0 : Nat} (hZ : Z.Warmed39 vm0) (hown : vm0.findClass "com/example/vouchsafe/vouchsafe/message/NameIdPolicyAcceptsPinLaw" = some m.cls) (X : Stand p l e room_1 (s.setVm vm0) m args below meth c T locs cells slots) (e0 : T.heap = h1) (N : Fr n0 locs) (hcells : cells ≤ 12) (hslots : slots ≤ 456) (O : Old Z n0 h1) (hS : s.Since vm0 k0) (hk0 : k0 ≤ h1.size) (C0 : CHr Z EL vmE h0 vm0 h1) (CS : Sta Z Z.heap "java/lang/String" "COMPACT_STRINGS" "Z" (.int cz)) (SE : Sta Z Z.heap "java/util/Optional" "EMPTY" "Ljava/util/Optional;" (.ref em)) (EE : Exa Z Z.heap em "java/util/Optional") (FE : Fld Z Z.heap em "java/util/Optional" "value" "Ljava/lang/Object;" .null) (ST1 : Sta Z Z.heap "java/lang/Boolean" "TRUE" "Ljava/lang/Boolean;" (.ref bt)) (ST0 : Sta Z Z.heap "java/lang/Boolean" "FALSE" "Ljava/lang/Boolean;" (.ref bf)) (pf0 : Exa Z h1 fo "java/util/Optional") (pf1 : Fld Z h1 fo "java/util/Optional" "value" "Ljava/lang/Object;" (.ref sA)) (pf2 : Exa Z h1 sA "java/lang/String") (pf3 : Fld Z h1 sA "java/lang/String" "value" "[B" (.ref wA)) (pf4 : Fld Z h1 sA "java/lang/String" "coder" "B" (.int (0 : Int32))) (pf5 : Arv Z h1 wA kA .byte NA vA (.int (0 : Int32))) (pf6 : Exa Z h1 aq11 "java/lang/String") (pf7 : Fld Z h1 aq11 "java/lang/String" "coder" "B" (.int (0 : Int32))) (pf8 : Fld Z h1 aq11 "java/lang/String" "value" "[B" (.ref wq11)) (pf9 : Arv Z h1 wq11 kkq11 .byte (53 : Int32) [(.int (117 : Int32)), (.int (114 : Int32)), (.int (110 : Int32)), (.int (58 : Int32)), (.int (111 : Int32)), (.int (97 : Int32)), (.int (115 : Int32)), (.int (105 : Int32)), (.int (115 : Int32)), (.int (58 : Int32)), (.int (110 : Int32)), (.int (97 : Int32)), (.int (109 : Int32)), (.int (101 : Int32)), (.int (115 : Int32)), (.int (58 : Int32)), (.int (116 : Int32)), (.int (99 : Int32)), (.int (58 : Int32)), (.int (83 : Int32)), (.int (65 : Int32)), (.int (77 : Int32)), (.int (76 : Int32)), (.int (58 : Int32)), (.int (49 : Int32)), (.int (46 : Int32)), (.int (49 : Int32)), (.int (58 : Int32)), (.int (110 : Int32)), (.int (97 : Int32)), (.int (109 : Int32)), (.int (101 : Int32)), (.int (105 : Int32)), (.int (100 : Int32)), (.int (45 : Int32)), (.int (102 : Int32)), (.int (111 : Int32)), (.int (114 : Int32)), (.int (109 : Int32)), (.int (97 : Int32)), (.int (116 : Int32)), (.int (58 : Int32)), (.int (117 : Int32)), (.int (110 : Int32)), (.int (115 : Int32)), (.int (112 : Int32)), (.int (101 : Int32)), (.int (99 : Int32)), (.int (105 : Int32)), (.int (102 : Int32)), (.int (105 : Int32)), (.int (101 : Int32)), (.int (100 : Int32))] (.int (0 : Int32))) (hcz : ¬ cz = (0 : Int32)) (hf0 : ¬ (fk = (0 : Int32))) (hf1 : fk = (1 : Int32)) (codA : StrChars.Road.CodA LIT_0 0 NA vA) (cq1 : ¬ (nk = (0 : Int32))) (cq9 : ¬ (nk = (1 : Int32))) (cq10 : nk = (2 : Int32)) :
    GoesW p e below s room_1.cells room_1.slots n0 (fun v vm h => (fun vv hh => vv = some (.int (1 : Int32))) v h ∧ CHr Z EL vmE h0 vm h) (T.setTop (mkF m 144 #[.val (.int x0), .val (.int x1), .val (.int x2), .val (.int fk), .val (.int nk), .val (.int ak), .val (.ref fo), .val (.ref al), .val (.ref aq11), .unset, .unset] [(.int fk)])) := by
  have zO := O.le
  have lt_fo := lt_nat pf0.lt
  have lt_sA := lt_nat pf2.lt
  have lt_wA := lt_nat pf5.lt
  have lt_aq11 := lt_nat pf6.lt
  have lt_wq11 := lt_nat pf9.lt
  show GoesW _ _ _ _ _ _ _ _ (T.setTop (mkF m 144 #[.val (.int x0), .val (.int x1), .val (.int x2), .val (.int fk), .val (.int nk), .val (.int ak), .val (.ref fo), .val (.ref al), .val (.ref aq11), .unset, .unset] [(.int fk)]))
  refine GoesW.via (fun _ k => XS.ifNo X.here hx rfl (hb hby at_144) rfl (XT.i0_eq_f hf0) k) ?_
  show GoesW _ _ _ _ _ _ _ _ (T.setTop (mkF m 147 #[.val (.int x0), .val (.int x1), .val (.int x2), .val (.int fk), .val (.int nk), .val (.int ak), .val (.ref fo), .val (.ref al), .val (.ref aq11), .unset, .unset] []))
  refine GoesW.via (fun _ k => XS.iloadN X.here hx rfl (hb hby at_147) rfl k) ?_
  show GoesW _ _ _ _ _ _ _ _ (T.setTop (mkF m 148 #[.val (.int x0), .val (.int x1), .val (.int x2), .val (.int fk), .val (.int nk), .val (.int ak), .val (.ref fo), .val (.ref al), .val (.ref aq11), .unset, .unset] [(.int fk)]))
  refine GoesW.via (fun _ k => XT.iconstV X.here hx rfl (1 : Int32) (hb hby at_148) (by decide) k) ?_
  show GoesW _ _ _ _ _ _ _ _ (T.setTop (mkF m 149 #[.val (.int x0), .val (.int x1), .val (.int x2), .val (.int fk), .val (.int nk), .val (.int ak), .val (.ref fo), .val (.ref al), .val (.ref aq11), .unset, .unset] [(.int (1 : Int32)), (.int fk)]))
  refine GoesW.via (fun _ k => XS.icmpNo X.here hx rfl (hb hby at_149) rfl (XT.ii_ne_f hf1) k) ?_
  show GoesW _ _ _ _ _ _ _ _ (T.setTop (mkF m 152 #[.val (.int x0), .val (.int x1), .val (.int x2), .val (.int fk), .val (.int nk), .val (.int ak), .val (.ref fo), .val (.ref al), .val (.ref aq11), .unset, .unset] []))
  refine GoesW.via (fun _ k => XT.iconstV X.here hx rfl (1 : Int32) (hb hby at_152) (by decide) k) ?_
  show GoesW _ _ _ _ _ _ _ _ (T.setTop (mkF m 153 #[.val (.int x0), .val (.int x1), .val (.int x2), .val (.int fk), .val (.int nk), .val (.int ak), .val (.ref fo), .val (.ref al), .val (.ref aq11), .unset, .unset] [(.int (1 : Int32))]))
  refine GoesW.via (fun _ k => XS.istore X.here hx rfl (hb hby at_153) rfl (l' := #[.val (.int x0), .val (.int x1), .val (.int x2), .val (.int fk), .val (.int nk), .val (.int ak), .val (.ref fo), .val (.ref al), .val (.ref aq11), .val (.int (1 : Int32)), .unset]) rfl k) ?_
  show GoesW _ _ _ _ _ _ _ _ (T.setTop (mkF m 155 #[.val (.int x0), .val (.int x1), .val (.int x2), .val (.int fk), .val (.int nk), .val (.int ak), .val (.ref fo), .val (.ref al), .val (.ref aq11), .val (.int (1 : Int32)), .unset] []))
  refine GoesW.via (fun _ k => XS.goto X.here hx rfl (pc0 := 155) (pc' := 206) rfl (hb hby at_155) (by decide) (by decide) k) ?_
  show GoesW _ _ _ _ _ _ _ _ (T.setTop (mkF m 206 #[.val (.int x0), .val (.int x1), .val (.int x2), .val (.int fk), .val (.int nk), .val (.int ak), .val (.ref fo), .val (.ref al), .val (.ref aq11), .val (.int (1 : Int32)), .unset] []))
  obtain ⟨Tq18, hq18, Xq18, eq18, Eq18, Aq18, Dq18, -, stq18⟩ := newO X hx hZ hown (W_50 hw) (W_51 hw) (W_52 hw) e0 (g := (mkF m 206 #[.val (.int x0), .val (.int x1), .val (.int x2), .val (.int fk), .val (.int nk), .val (.int ak), .val (.ref fo), .val (.ref al), .val (.ref aq11), .val (.int (1 : Int32)), .unset] [])) rfl (hb hby at_206) (by show _ + 1 ≤ 40; omega) (by show _ + 2 ≤ 5312; omega)
  obtain ⟨bq18, gq18⟩ : ∃ z, z = h1.size := ⟨_, rfl⟩
  rw [← gq18] at Aq18 Dq18 stq18
  have zq18 := Eq18.1
  have Oq18 := O.ext Eq18
  have Cq18 := C0.trans (CHr.ext Eq18 C0.1)
  have lq18 := lt_nat Aq18.lt
  refine GoesW.via stq18 ?_
  show GoesW _ _ _ _ _ _ _ _ (Tq18.setTop (mkF m 209 #[.val (.int x0), .val (.int x1), .val (.int x2), .val (.int fk), .val (.int nk), .val (.int ak), .val (.ref fo), .val (.ref al), .val (.ref aq11), .val (.int (1 : Int32)), .unset] [(.ref bq18)]))
  refine GoesW.via (fun _ k => XS.dup Xq18.here hx rfl (hb hby at_209) rfl rfl k) ?_
  show GoesW _ _ _ _ _ _ _ _ (Tq18.setTop (mkF m 210 #[.val (.int x0), .val (.int x1), .val (.int x2), .val (.int fk), .val (.int nk), .val (.int ak), .val (.ref fo), .val (.ref al), .val (.ref aq11), .val (.int (1 : Int32)), .unset] [(.ref bq18), (.ref bq18)]))
  refine GoesW.via (fun _ k => XS.aload Xq18.here hx rfl (hb hby at_210) rfl rfl k) ?_
  show GoesW _ _ _ _ _ _ _ _ (Tq18.setTop (mkF m 212 #[.val (.int x0), .val (.int x1), .val (.int x2), .val (.int fk), .val (.int nk), .val (.int ak), .val (.ref fo), .val (.ref al), .val (.ref aq11), .val (.int (1 : Int32)), .unset] [(.ref fo), (.ref bq18), (.ref bq18)]))
  refine GoesW.via (fun _ k => XS.aload Xq18.here hx rfl (hb hby at_212) rfl rfl k) ?_
  show GoesW _ _ _ _ _ _ _ _ (Tq18.setTop (mkF m 214 #[.val (.int x0), .val (.int x1), .val (.int x2), .val (.int fk), .val (.int nk), .val (.int ak), .val (.ref fo), .val (.ref al), .val (.ref aq11), .val (.int (1 : Int32)), .unset] [(.ref al), (.ref fo), (.ref bq18), (.ref bq18)]))
  obtain ⟨vq19, Tq19, Lq19, Xq19, Sq19, hZq19, hownq19, Rq19, qq19, nq19, stq19⟩ := callSpW Xq18 hx hZ hown hS (by rw [eq18]; omega) (ew hw) Cq18.1 (allS (lt_ok (by omega)) all0) (allS (Safe.exa hZ.alike Aq18 (by decide) (by decide)) all0) (npInit l Z aw hw bq18 fo al Oq18 Aq18 (Dq18 (Or.inr (W_68 hw)) (ty := (.object "java/util/Optional")) (by decide)) (Dq18 (Or.inr (W_70 hw)) (ty := (.object "java/util/Optional")) (by decide)) (by omega)) rfl (W_53 hw) (W_54 hw) (W_52 hw) (W_55 hw) (by decide) eq18 (by decide) (W := 1) (by decide) (by show _ + 4 ≤ 40; omega) (by show _ + 80 ≤ 5312; omega) (g := (mkF m 214 #[.val (.int x0), .val (.int x1), .val (.int x2), .val (.int fk), .val (.int nk), .val (.int ak), .val (.ref fo), .val (.ref al), .val (.ref aq11), .val (.int (1 : Int32)), .unset] [(.ref al), (.ref fo), (.ref bq18), (.ref bq18)])) rfl (by rw [hml]; rfl) (a := bq18) (argsL := [(.ref fo), (.ref al)]) (rest := [(.ref bq18)]) rfl (lenOf pd_20 rfl) rfl (by show 2 * 0 + _ ≤ _; exact Nat.le_of_eq rfl) (hb hby at_214)
  dsimp only at Xq19
  obtain ⟨rfl, pq19_0, pq19_1, pq19_2⟩ := qq19
  have Nq19 := Fr.app N nq19
  have zq19 := pq19_0.1
  have Oq19 := Oq18.keep pq19_0 (allS (by omega) all0)
  have Cq19 := Cq18.trans Rq19
  have ltpq19_1 := lt_nat pq19_1.lt
  refine GoesW.via stq19 ?_
  show GoesW _ _ _ _ _ _ _ _ (Tq19.setTop (mkF m 217 #[.val (.int x0), .val (.int x1), .val (.int x2), .val (.int fk), .val (.int nk), .val (.int ak), .val (.ref fo), .val (.ref al), .val (.ref aq11), .val (.int (1 : Int32)), .unset] [(.ref bq18)]))
  refine GoesW.via (fun _ k => XS.astore Xq19.here hx rfl (hb hby at_217) rfl rfl (l' := #[.val (.int x0), .val (.int x1), .val (.int x2), .val (.int fk), .val (.int nk), .val (.int ak), .val (.ref fo), .val (.ref al), .val (.ref aq11), .val (.int (1 : Int32)), .val (.ref bq18)]) rfl k) ?_
  show GoesW _ _ _ _ _ _ _ _ (Tq19.setTop (mkF m 219 #[.val (.int x0), .val (.int x1), .val (.int x2), .val (.int fk), .val (.int nk), .val (.int ak), .val (.ref fo), .val (.ref al), .val (.ref aq11), .val (.int (1 : Int32)), .val (.ref bq18)] []))
  refine GoesW.via (fun _ k => XS.aload Xq19.here hx rfl (hb hby at_219) rfl rfl k) ?_
  show GoesW _ _ _ _ _ _ _ _ (Tq19.setTop (mkF m 221 #[.val (.int x0), .val (.int x1), .val (.int x2), .val (.int fk), .val (.int nk), .val (.int ak), .val (.ref fo), .val (.ref al), .val (.ref aq11), .val (.int (1 : Int32)), .val (.ref bq18)] [(.ref bq18)]))
  refine GoesW.via (fun _ k => XS.aload Xq19.here hx rfl (hb hby at_221) rfl rfl k) ?_
  show GoesW _ _ _ _ _ _ _ _ (Tq19.setTop (mkF m 223 #[.val (.int x0), .val (.int x1), .val (.int x2), .val (.int fk), .val (.int nk), .val (.int ak), .val (.ref fo), .val (.ref al), .val (.ref aq11), .val (.int (1 : Int32)), .val (.ref bq18)] [(.ref aq11), (.ref bq18)]))
  have fq20 : Exa Z Tq19.heap fo "java/util/Optional" := ((pf0.ext Eq18).keep pq19_0)
  have fq21 : Fld Z Tq19.heap fo "java/util/Optional" "value" "Ljava/lang/Object;" (.ref sA) := ((pf1.ext Eq18).keep pq19_0 (ninS (ne_ok (by omega)) nin0))
  have fq22 : Exa Z Tq19.heap sA "java/lang/String" := ((pf2.ext Eq18).keep pq19_0)
  have fq23 : Fld Z Tq19.heap sA "java/lang/String" "value" "[B" (.ref wA) := ((pf3.ext Eq18).keep pq19_0 (ninS (ne_ok (by omega)) nin0))
  have fq24 : Fld Z Tq19.heap sA "java/lang/String" "coder" "B" (.int (0 : Int32)) := ((pf4.ext Eq18).keep pq19_0 (ninS (ne_ok (by omega)) nin0))
  have fq25 : Arv Z Tq19.heap wA kA .byte NA vA (.int (0 : Int32)) := ((pf5.ext Eq18).keep pq19_0 (ninS (ne_ok (by omega)) nin0))
  have fq26 : Exa Z Tq19.heap aq11 "java/lang/String" := ((pf6.ext Eq18).keep pq19_0)
  have fq27 : Fld Z Tq19.heap aq11 "java/lang/String" "value" "[B" (.ref wq11) := ((pf8.ext Eq18).keep pq19_0 (ninS (ne_ok (by omega)) nin0))
  have fq28 : Fld Z Tq19.heap aq11 "java/lang/String" "coder" "B" (.int (0 : Int32)) := ((pf7.ext Eq18).keep pq19_0 (ninS (ne_ok (by omega)) nin0))
  have fq29 : Arv Z Tq19.heap wq11 kkq11 .byte (53 : Int32) [(.int (117 : Int32)), (.int (114 : Int32)), (.int (110 : Int32)), (.int (58 : Int32)), (.int (111 : Int32)), (.int (97 : Int32)), (.int (115 : Int32)), (.int (105 : Int32)), (.int (115 : Int32)), (.int (58 : Int32)), (.int (110 : Int32)), (.int (97 : Int32)), (.int (109 : Int32)), (.int (101 : Int32)), (.int (115 : Int32)), (.int (58 : Int32)), (.int (116 : Int32)), (.int (99 : Int32)), (.int (58 : Int32)), (.int (83 : Int32)), (.int (65 : Int32)), (.int (77 : Int32)), (.int (76 : Int32)), (.int (58 : Int32)), (.int (49 : Int32)), (.int (46 : Int32)), (.int (49 : Int32)), (.int (58 : Int32)), (.int (110 : Int32)), (.int (97 : Int32)), (.int (109 : Int32)), (.int (101 : Int32)), (.int (105 : Int32)), (.int (100 : Int32)), (.int (45 : Int32)), (.int (102 : Int32)), (.int (111 : Int32)), (.int (114 : Int32)), (.int (109 : Int32)), (.int (97 : Int32)), (.int (116 : Int32)), (.int (58 : Int32)), (.int (117 : Int32)), (.int (110 : Int32)), (.int (115 : Int32)), (.int (112 : Int32)), (.int (101 : Int32)), (.int (99 : Int32)), (.int (105 : Int32)), (.int (102 : Int32)), (.int (105 : Int32)), (.int (101 : Int32)), (.int (100 : Int32))] (.int (0 : Int32)) := ((pf9.ext Eq18).keep pq19_0 (ninS (ne_ok (by omega)) nin0))
  obtain ⟨vq30, Tq30, Lq30, Xq30, Sq30, hZq30, hownq30, Rq30, qq30, nq30, stq30⟩ := callViW Xq19 hx hZq19 hownq19 Sq19 (by omega) (ew hw) Cq19.1 all0 all0 (accS l Z aw hw bq18 fo sA wA kA NA vA LIT_0 aq11 wq11 kkq11 (53 : Int32) ([(.int (117 : Int32)), (.int (114 : Int32)), (.int (110 : Int32)), (.int (58 : Int32)), (.int (111 : Int32)), (.int (97 : Int32)), (.int (115 : Int32)), (.int (105 : Int32)), (.int (115 : Int32)), (.int (58 : Int32)), (.int (110 : Int32)), (.int (97 : Int32)), (.int (109 : Int32)), (.int (101 : Int32)), (.int (115 : Int32)), (.int (58 : Int32)), (.int (116 : Int32)), (.int (99 : Int32)), (.int (58 : Int32)), (.int (83 : Int32)), (.int (65 : Int32)), (.int (77 : Int32)), (.int (76 : Int32)), (.int (58 : Int32)), (.int (49 : Int32)), (.int (46 : Int32)), (.int (49 : Int32)), (.int (58 : Int32)), (.int (110 : Int32)), (.int (97 : Int32)), (.int (109 : Int32)), (.int (101 : Int32)), (.int (105 : Int32)), (.int (100 : Int32)), (.int (45 : Int32)), (.int (102 : Int32)), (.int (111 : Int32)), (.int (114 : Int32)), (.int (109 : Int32)), (.int (97 : Int32)), (.int (116 : Int32)), (.int (58 : Int32)), (.int (117 : Int32)), (.int (110 : Int32)), (.int (115 : Int32)), (.int (112 : Int32)), (.int (101 : Int32)), (.int (99 : Int32)), (.int (105 : Int32)), (.int (102 : Int32)), (.int (105 : Int32)), (.int (101 : Int32)), (.int (100 : Int32))]) LIT_0 cz Oq19 CS pq19_2 fq20 fq21 fq22 fq23 fq24 fq25 fq26 fq27 fq28 fq29 hcz codA rgL_0 (Nat.le_of_ble_eq_true rfl) codL_0 rgL_0 (Nat.le_of_ble_eq_true rfl)) (W_71 hw) (W_72 hw) (notFace_of_selects (args := #[]) (mvT hZq19 (W_74 hw))) (W_74 hw) (W_73 hw) (W_52 hw) (W_75 hw) (by decide) rfl pq19_1 (by decide) (W := 0) (by decide) (by show _ + 2 ≤ 40; omega) (by show _ + 216 ≤ 5312; omega) (g := (mkF m 223 #[.val (.int x0), .val (.int x1), .val (.int x2), .val (.int fk), .val (.int nk), .val (.int ak), .val (.ref fo), .val (.ref al), .val (.ref aq11), .val (.int (1 : Int32)), .val (.ref bq18)] [(.ref aq11), (.ref bq18)])) rfl (by rw [hml]; rfl) (a := bq18) (argsL := [(.ref aq11)]) (rest := []) rfl (lenOf pd_21 rfl) rfl (by show 2 * 0 + _ ≤ _; exact Nat.le_of_eq rfl) (hb hby at_223)
  dsimp only at Xq30
  obtain ⟨rfl, pq30_0⟩ := qq30
  have Nq30 := Fr.app Nq19 nq30
  have zq30 := pq30_0.1
  have Oq30 := Oq19.keep pq30_0 all0
  have Cq30 := Cq19.trans Rq30
  refine GoesW.via stq30 ?_
  show GoesW _ _ _ _ _ _ _ _ (Tq30.setTop (mkF m 226 #[.val (.int x0), .val (.int x1), .val (.int x2), .val (.int fk), .val (.int nk), .val (.int ak), .val (.ref fo), .val (.ref al), .val (.ref aq11), .val (.int (1 : Int32)), .val (.ref bq18)] [(.int (if LIT_0 = LIT_0 ∨ LIT_0 = LIT_0 then (1 : Int32) else 0))]))
  refine GoesW.via (fun _ k => XS.iload Xq30.here hx rfl (hb hby at_226) rfl k) ?_
  show GoesW _ _ _ _ _ _ _ _ (Tq30.setTop (mkF m 228 #[.val (.int x0), .val (.int x1), .val (.int x2), .val (.int fk), .val (.int nk), .val (.int ak), .val (.ref fo), .val (.ref al), .val (.ref aq11), .val (.int (1 : Int32)), .val (.ref bq18)] [(.int (1 : Int32)), (.int (if LIT_0 = LIT_0 ∨ LIT_0 = LIT_0 then (1 : Int32) else 0))]))
  refine GoesW.via (fun _ k => XS.icmpNo Xq30.here hx rfl (hb hby at_228) rfl (XT.ii_ne_f (if_pos (Or.inl rfl))) k) ?_
  show GoesW _ _ _ _ _ _ _ _ (Tq30.setTop (mkF m 231 #[.val (.int x0), .val (.int x1), .val (.int x2), .val (.int fk), .val (.int nk), .val (.int ak), .val (.ref fo), .val (.ref al), .val (.ref aq11), .val (.int (1 : Int32)), .val (.ref bq18)] []))
  refine GoesW.via (fun _ k => XT.iconstV Xq30.here hx rfl (1 : Int32) (hb hby at_231) (by decide) k) ?_
  show GoesW _ _ _ _ _ _ _ _ (Tq30.setTop (mkF m 232 #[.val (.int x0), .val (.int x1), .val (.int x2), .val (.int fk), .val (.int nk), .val (.int ak), .val (.ref fo), .val (.ref al), .val (.ref aq11), .val (.int (1 : Int32)), .val (.ref bq18)] [(.int (1 : Int32))]))
  refine GoesW.via (fun _ k => XS.goto Xq30.here hx rfl (pc0 := 232) (pc' := 236) rfl (hb hby at_232) (by decide) (by decide) k) ?_
  show GoesW _ _ _ _ _ _ _ _ (Tq30.setTop (mkF m 236 #[.val (.int x0), .val (.int x1), .val (.int x2), .val (.int fk), .val (.int nk), .val (.int ak), .val (.ref fo), .val (.ref al), .val (.ref aq11), .val (.int (1 : Int32)), .val (.ref bq18)] [(.int (1 : Int32))]))
  refine goRetNW Xq30 hx hrt (by simp) hlk Nq30 Sq30 (by omega) (by show _ ≤ 40; omega) (by show _ ≤ 5312; omega) (hb hby at_236) ?_
  intro hWm
  refine ⟨?_, Cq30.trans (CHv.at Xq30 hZq30 (ew hw) Cq30.1)⟩
  exact rfl
set_option maxRecDepth 65536 in
set_option maxHeartbeats 40000000 in
theorem law_c20 (l : Launch) (Z : State) (aw : Array Value) (hw : ∀ d ∈ tables_1, d.before aw Z = true) (x0 : Int32) (x1 : Int32) (x2 : Int32) (fk : Int32) (nk : Int32) (ak : Int32) (em : Nat) (bt : Nat) (bf : Nat) (cz : Int32) (fo : Nat) (sA : Nat) (wA : Nat) (kA : ClassId) (NA : Int32) (vA : List Value) (al : Nat) (xr_q18 : Nat) (xtb_q18 : Nat) (xkt_q18 : ClassId) (xN1_q18 : Int32) (xvs_q18 : List Value) {p : Program} {e : Env} {s : State} {m : MethodId} {args : Array Value} {below : List Frame} {meth : Method} {c : Code} {T : State} {locs : List Loc} {cells slots n0 : Nat} {h0 h1 : Heap} (hx : p.tables.exec = Jvm.exec) (hby : c.code = code) (hml : c.maxLocals = 11) (hrt : meth.sig.returnType = some .boolean) (hlk : meth.locks = false) (hnm : meth.name = "law") {vm0 vmE : Vm} {k0 : Nat} (hZ : Z.Warmed39 vm0) (hown : vm0.findClass "com/example/vouchsafe/vouchsafe/message/NameIdPolicyAcceptsPinLaw" = some m.cls) (X : Stand p l e room_1 (s.setVm vm0) m args below meth c T locs cells slots) (e0 : T.heap = h1) (N : Fr n0 locs) (hcells : cells ≤ 16) (hslots : slots ≤ 254) (O : Old Z n0 h1) (hS : s.Since vm0 k0) (hk0 : k0 ≤ h1.size) (C0 : CHr Z EL vmE h0 vm0 h1) (CS : Sta Z Z.heap "java/lang/String" "COMPACT_STRINGS" "Z" (.int cz)) (SE : Sta Z Z.heap "java/util/Optional" "EMPTY" "Ljava/util/Optional;" (.ref em)) (EE : Exa Z Z.heap em "java/util/Optional") (FE : Fld Z Z.heap em "java/util/Optional" "value" "Ljava/lang/Object;" .null) (ST1 : Sta Z Z.heap "java/lang/Boolean" "TRUE" "Ljava/lang/Boolean;" (.ref bt)) (ST0 : Sta Z Z.heap "java/lang/Boolean" "FALSE" "Ljava/lang/Boolean;" (.ref bf)) (pf0 : Exa Z h1 fo "java/util/Optional") (pf1 : Fld Z h1 fo "java/util/Optional" "value" "Ljava/lang/Object;" (.ref sA)) (pf2 : Exa Z h1 sA "java/lang/String") (pf3 : Fld Z h1 sA "java/lang/String" "value" "[B" (.ref wA)) (pf4 : Fld Z h1 sA "java/lang/String" "coder" "B" (.int (0 : Int32))) (pf5 : Arv Z h1 wA kA .byte NA vA (.int (0 : Int32))) (pf6 : Exa Z h1 xr_q18 "java/lang/String") (pf7 : Fld Z h1 xr_q18 "java/lang/String" "value" "[B" (.ref xtb_q18)) (pf8 : Fld Z h1 xr_q18 "java/lang/String" "coder" "B" (.int (0 : Int32))) (pf9 : Arv Z h1 xtb_q18 xkt_q18 .byte xN1_q18 xvs_q18 (.int (0 : Int32))) (hcz : ¬ cz = (0 : Int32)) (hf0 : ¬ (fk = (0 : Int32))) (hf1 : fk = (1 : Int32)) (codA : StrChars.Road.CodA LIT_0 0 NA vA) (cq1 : ¬ (nk = (0 : Int32))) (cq9 : ¬ (nk = (1 : Int32))) (cq10 : ¬ (nk = (2 : Int32))) (pq18_6 : StrChars.Road.CodA (drw (x0 ^^^ (1 : Int32))) 0 xN1_q18 xvs_q18) (cn1 : n0 ≤ xr_q18) :
    GoesW p e below s room_1.cells room_1.slots n0 (fun v vm h => (fun vv hh => vv = some (.int (1 : Int32))) v h ∧ CHr Z EL vmE h0 vm h) (T.setTop (mkF m 141 #[.val (.int x0), .val (.int x1), .val (.int x2), .val (.int fk), .val (.int nk), .val (.int ak), .val (.ref fo), .val (.ref al), .unset, .unset, .unset] [(.ref xr_q18)])) := by
  have zO := O.le
  have lt_fo := lt_nat pf0.lt
  have lt_sA := lt_nat pf2.lt
  have lt_wA := lt_nat pf5.lt
  have lt_xr_q18 := lt_nat pf6.lt
  have lt_xtb_q18 := lt_nat pf9.lt
  show GoesW _ _ _ _ _ _ _ _ (T.setTop (mkF m 141 #[.val (.int x0), .val (.int x1), .val (.int x2), .val (.int fk), .val (.int nk), .val (.int ak), .val (.ref fo), .val (.ref al), .unset, .unset, .unset] [(.ref xr_q18)]))
  refine GoesW.via (fun _ k => XS.astore X.here hx rfl (hb hby at_141) rfl rfl (l' := #[.val (.int x0), .val (.int x1), .val (.int x2), .val (.int fk), .val (.int nk), .val (.int ak), .val (.ref fo), .val (.ref al), .val (.ref xr_q18), .unset, .unset]) rfl k) ?_
  show GoesW _ _ _ _ _ _ _ _ (T.setTop (mkF m 143 #[.val (.int x0), .val (.int x1), .val (.int x2), .val (.int fk), .val (.int nk), .val (.int ak), .val (.ref fo), .val (.ref al), .val (.ref xr_q18), .unset, .unset] []))
  refine GoesW.via (fun _ k => XS.iloadN X.here hx rfl (hb hby at_143) rfl k) ?_
  show GoesW _ _ _ _ _ _ _ _ (T.setTop (mkF m 144 #[.val (.int x0), .val (.int x1), .val (.int x2), .val (.int fk), .val (.int nk), .val (.int ak), .val (.ref fo), .val (.ref al), .val (.ref xr_q18), .unset, .unset] [(.int fk)]))
  refine GoesW.via (fun _ k => XS.ifNo X.here hx rfl (hb hby at_144) rfl (XT.i0_eq_f hf0) k) ?_
  show GoesW _ _ _ _ _ _ _ _ (T.setTop (mkF m 147 #[.val (.int x0), .val (.int x1), .val (.int x2), .val (.int fk), .val (.int nk), .val (.int ak), .val (.ref fo), .val (.ref al), .val (.ref xr_q18), .unset, .unset] []))
  refine GoesW.via (fun _ k => XS.iloadN X.here hx rfl (hb hby at_147) rfl k) ?_
  show GoesW _ _ _ _ _ _ _ _ (T.setTop (mkF m 148 #[.val (.int x0), .val (.int x1), .val (.int x2), .val (.int fk), .val (.int nk), .val (.int ak), .val (.ref fo), .val (.ref al), .val (.ref xr_q18), .unset, .unset] [(.int fk)]))
  refine GoesW.via (fun _ k => XT.iconstV X.here hx rfl (1 : Int32) (hb hby at_148) (by decide) k) ?_
  show GoesW _ _ _ _ _ _ _ _ (T.setTop (mkF m 149 #[.val (.int x0), .val (.int x1), .val (.int x2), .val (.int fk), .val (.int nk), .val (.int ak), .val (.ref fo), .val (.ref al), .val (.ref xr_q18), .unset, .unset] [(.int (1 : Int32)), (.int fk)]))
  refine GoesW.via (fun _ k => XS.icmpNo X.here hx rfl (hb hby at_149) rfl (XT.ii_ne_f hf1) k) ?_
  show GoesW _ _ _ _ _ _ _ _ (T.setTop (mkF m 152 #[.val (.int x0), .val (.int x1), .val (.int x2), .val (.int fk), .val (.int nk), .val (.int ak), .val (.ref fo), .val (.ref al), .val (.ref xr_q18), .unset, .unset] []))
  refine GoesW.via (fun _ k => XT.iconstV X.here hx rfl (1 : Int32) (hb hby at_152) (by decide) k) ?_
  show GoesW _ _ _ _ _ _ _ _ (T.setTop (mkF m 153 #[.val (.int x0), .val (.int x1), .val (.int x2), .val (.int fk), .val (.int nk), .val (.int ak), .val (.ref fo), .val (.ref al), .val (.ref xr_q18), .unset, .unset] [(.int (1 : Int32))]))
  refine GoesW.via (fun _ k => XS.istore X.here hx rfl (hb hby at_153) rfl (l' := #[.val (.int x0), .val (.int x1), .val (.int x2), .val (.int fk), .val (.int nk), .val (.int ak), .val (.ref fo), .val (.ref al), .val (.ref xr_q18), .val (.int (1 : Int32)), .unset]) rfl k) ?_
  show GoesW _ _ _ _ _ _ _ _ (T.setTop (mkF m 155 #[.val (.int x0), .val (.int x1), .val (.int x2), .val (.int fk), .val (.int nk), .val (.int ak), .val (.ref fo), .val (.ref al), .val (.ref xr_q18), .val (.int (1 : Int32)), .unset] []))
  refine GoesW.via (fun _ k => XS.goto X.here hx rfl (pc0 := 155) (pc' := 206) rfl (hb hby at_155) (by decide) (by decide) k) ?_
  show GoesW _ _ _ _ _ _ _ _ (T.setTop (mkF m 206 #[.val (.int x0), .val (.int x1), .val (.int x2), .val (.int fk), .val (.int nk), .val (.int ak), .val (.ref fo), .val (.ref al), .val (.ref xr_q18), .val (.int (1 : Int32)), .unset] []))
  obtain ⟨Tq25, hq25, Xq25, eq25, Eq25, Aq25, Dq25, -, stq25⟩ := newO X hx hZ hown (W_50 hw) (W_51 hw) (W_52 hw) e0 (g := (mkF m 206 #[.val (.int x0), .val (.int x1), .val (.int x2), .val (.int fk), .val (.int nk), .val (.int ak), .val (.ref fo), .val (.ref al), .val (.ref xr_q18), .val (.int (1 : Int32)), .unset] [])) rfl (hb hby at_206) (by show _ + 1 ≤ 40; omega) (by show _ + 2 ≤ 5312; omega)
  obtain ⟨bq25, gq25⟩ : ∃ z, z = h1.size := ⟨_, rfl⟩
  rw [← gq25] at Aq25 Dq25 stq25
  have zq25 := Eq25.1
  have Oq25 := O.ext Eq25
  have Cq25 := C0.trans (CHr.ext Eq25 C0.1)
  have lq25 := lt_nat Aq25.lt
  refine GoesW.via stq25 ?_
  show GoesW _ _ _ _ _ _ _ _ (Tq25.setTop (mkF m 209 #[.val (.int x0), .val (.int x1), .val (.int x2), .val (.int fk), .val (.int nk), .val (.int ak), .val (.ref fo), .val (.ref al), .val (.ref xr_q18), .val (.int (1 : Int32)), .unset] [(.ref bq25)]))
  refine GoesW.via (fun _ k => XS.dup Xq25.here hx rfl (hb hby at_209) rfl rfl k) ?_
  show GoesW _ _ _ _ _ _ _ _ (Tq25.setTop (mkF m 210 #[.val (.int x0), .val (.int x1), .val (.int x2), .val (.int fk), .val (.int nk), .val (.int ak), .val (.ref fo), .val (.ref al), .val (.ref xr_q18), .val (.int (1 : Int32)), .unset] [(.ref bq25), (.ref bq25)]))
  refine GoesW.via (fun _ k => XS.aload Xq25.here hx rfl (hb hby at_210) rfl rfl k) ?_
  show GoesW _ _ _ _ _ _ _ _ (Tq25.setTop (mkF m 212 #[.val (.int x0), .val (.int x1), .val (.int x2), .val (.int fk), .val (.int nk), .val (.int ak), .val (.ref fo), .val (.ref al), .val (.ref xr_q18), .val (.int (1 : Int32)), .unset] [(.ref fo), (.ref bq25), (.ref bq25)]))
  refine GoesW.via (fun _ k => XS.aload Xq25.here hx rfl (hb hby at_212) rfl rfl k) ?_
  show GoesW _ _ _ _ _ _ _ _ (Tq25.setTop (mkF m 214 #[.val (.int x0), .val (.int x1), .val (.int x2), .val (.int fk), .val (.int nk), .val (.int ak), .val (.ref fo), .val (.ref al), .val (.ref xr_q18), .val (.int (1 : Int32)), .unset] [(.ref al), (.ref fo), (.ref bq25), (.ref bq25)]))
  obtain ⟨vq26, Tq26, Lq26, Xq26, Sq26, hZq26, hownq26, Rq26, qq26, nq26, stq26⟩ := callSpW Xq25 hx hZ hown hS (by rw [eq25]; omega) (ew hw) Cq25.1 (allS (lt_ok (by omega)) all0) (allS (Safe.exa hZ.alike Aq25 (by decide) (by decide)) all0) (npInit l Z aw hw bq25 fo al Oq25 Aq25 (Dq25 (Or.inr (W_68 hw)) (ty := (.object "java/util/Optional")) (by decide)) (Dq25 (Or.inr (W_70 hw)) (ty := (.object "java/util/Optional")) (by decide)) (by omega)) rfl (W_53 hw) (W_54 hw) (W_52 hw) (W_55 hw) (by decide) eq25 (by decide) (W := 1) (by decide) (by show _ + 4 ≤ 40; omega) (by show _ + 80 ≤ 5312; omega) (g := (mkF m 214 #[.val (.int x0), .val (.int x1), .val (.int x2), .val (.int fk), .val (.int nk), .val (.int ak), .val (.ref fo), .val (.ref al), .val (.ref xr_q18), .val (.int (1 : Int32)), .unset] [(.ref al), (.ref fo), (.ref bq25), (.ref bq25)])) rfl (by rw [hml]; rfl) (a := bq25) (argsL := [(.ref fo), (.ref al)]) (rest := [(.ref bq25)]) rfl (lenOf pd_20 rfl) rfl (by show 2 * 0 + _ ≤ _; exact Nat.le_of_eq rfl) (hb hby at_214)
  dsimp only at Xq26
  obtain ⟨rfl, pq26_0, pq26_1, pq26_2⟩ := qq26
  have Nq26 := Fr.app N nq26
  have zq26 := pq26_0.1
  have Oq26 := Oq25.keep pq26_0 (allS (by omega) all0)
  have Cq26 := Cq25.trans Rq26
  have ltpq26_1 := lt_nat pq26_1.lt
  refine GoesW.via stq26 ?_
  show GoesW _ _ _ _ _ _ _ _ (Tq26.setTop (mkF m 217 #[.val (.int x0), .val (.int x1), .val (.int x2), .val (.int fk), .val (.int nk), .val (.int ak), .val (.ref fo), .val (.ref al), .val (.ref xr_q18), .val (.int (1 : Int32)), .unset] [(.ref bq25)]))
  refine GoesW.via (fun _ k => XS.astore Xq26.here hx rfl (hb hby at_217) rfl rfl (l' := #[.val (.int x0), .val (.int x1), .val (.int x2), .val (.int fk), .val (.int nk), .val (.int ak), .val (.ref fo), .val (.ref al), .val (.ref xr_q18), .val (.int (1 : Int32)), .val (.ref bq25)]) rfl k) ?_
  show GoesW _ _ _ _ _ _ _ _ (Tq26.setTop (mkF m 219 #[.val (.int x0), .val (.int x1), .val (.int x2), .val (.int fk), .val (.int nk), .val (.int ak), .val (.ref fo), .val (.ref al), .val (.ref xr_q18), .val (.int (1 : Int32)), .val (.ref bq25)] []))
  refine GoesW.via (fun _ k => XS.aload Xq26.here hx rfl (hb hby at_219) rfl rfl k) ?_
  show GoesW _ _ _ _ _ _ _ _ (Tq26.setTop (mkF m 221 #[.val (.int x0), .val (.int x1), .val (.int x2), .val (.int fk), .val (.int nk), .val (.int ak), .val (.ref fo), .val (.ref al), .val (.ref xr_q18), .val (.int (1 : Int32)), .val (.ref bq25)] [(.ref bq25)]))
  refine GoesW.via (fun _ k => XS.aload Xq26.here hx rfl (hb hby at_221) rfl rfl k) ?_
  show GoesW _ _ _ _ _ _ _ _ (Tq26.setTop (mkF m 223 #[.val (.int x0), .val (.int x1), .val (.int x2), .val (.int fk), .val (.int nk), .val (.int ak), .val (.ref fo), .val (.ref al), .val (.ref xr_q18), .val (.int (1 : Int32)), .val (.ref bq25)] [(.ref xr_q18), (.ref bq25)]))
  have fq27 : Exa Z Tq26.heap fo "java/util/Optional" := ((pf0.ext Eq25).keep pq26_0)
  have fq28 : Fld Z Tq26.heap fo "java/util/Optional" "value" "Ljava/lang/Object;" (.ref sA) := ((pf1.ext Eq25).keep pq26_0 (ninS (ne_ok (by omega)) nin0))
  have fq29 : Exa Z Tq26.heap sA "java/lang/String" := ((pf2.ext Eq25).keep pq26_0)
  have fq30 : Fld Z Tq26.heap sA "java/lang/String" "value" "[B" (.ref wA) := ((pf3.ext Eq25).keep pq26_0 (ninS (ne_ok (by omega)) nin0))
  have fq31 : Fld Z Tq26.heap sA "java/lang/String" "coder" "B" (.int (0 : Int32)) := ((pf4.ext Eq25).keep pq26_0 (ninS (ne_ok (by omega)) nin0))
  have fq32 : Arv Z Tq26.heap wA kA .byte NA vA (.int (0 : Int32)) := ((pf5.ext Eq25).keep pq26_0 (ninS (ne_ok (by omega)) nin0))
  have fq33 : Exa Z Tq26.heap xr_q18 "java/lang/String" := ((pf6.ext Eq25).keep pq26_0)
  have fq34 : Fld Z Tq26.heap xr_q18 "java/lang/String" "value" "[B" (.ref xtb_q18) := ((pf7.ext Eq25).keep pq26_0 (ninS (ne_ok (by omega)) nin0))
  have fq35 : Fld Z Tq26.heap xr_q18 "java/lang/String" "coder" "B" (.int (0 : Int32)) := ((pf8.ext Eq25).keep pq26_0 (ninS (ne_ok (by omega)) nin0))
  have fq36 : Arv Z Tq26.heap xtb_q18 xkt_q18 .byte xN1_q18 xvs_q18 (.int (0 : Int32)) := ((pf9.ext Eq25).keep pq26_0 (ninS (ne_ok (by omega)) nin0))
  obtain ⟨vq37, Tq37, Lq37, Xq37, Sq37, hZq37, hownq37, Rq37, qq37, nq37, stq37⟩ := callViW Xq26 hx hZq26 hownq26 Sq26 (by omega) (ew hw) Cq26.1 all0 all0 (accS l Z aw hw bq25 fo sA wA kA NA vA LIT_0 xr_q18 xtb_q18 xkt_q18 xN1_q18 xvs_q18 (drw (x0 ^^^ (1 : Int32))) cz Oq26 CS pq26_2 fq27 fq28 fq29 fq30 fq31 fq32 fq33 fq34 fq35 fq36 hcz codA rgL_0 (Nat.le_of_ble_eq_true rfl) pq18_6 (up65 (drw_rg _)) (drw_ln _)) (W_71 hw) (W_72 hw) (notFace_of_selects (args := #[]) (mvT hZq26 (W_74 hw))) (W_74 hw) (W_73 hw) (W_52 hw) (W_75 hw) (by decide) rfl pq26_1 (by decide) (W := 0) (by decide) (by show _ + 2 ≤ 40; omega) (by show _ + 216 ≤ 5312; omega) (g := (mkF m 223 #[.val (.int x0), .val (.int x1), .val (.int x2), .val (.int fk), .val (.int nk), .val (.int ak), .val (.ref fo), .val (.ref al), .val (.ref xr_q18), .val (.int (1 : Int32)), .val (.ref bq25)] [(.ref xr_q18), (.ref bq25)])) rfl (by rw [hml]; rfl) (a := bq25) (argsL := [(.ref xr_q18)]) (rest := []) rfl (lenOf pd_21 rfl) rfl (by show 2 * 0 + _ ≤ _; exact Nat.le_of_eq rfl) (hb hby at_223)
  dsimp only at Xq37
  obtain ⟨rfl, pq37_0⟩ := qq37
  have Nq37 := Fr.app Nq26 nq37
  have zq37 := pq37_0.1
  have Oq37 := Oq26.keep pq37_0 all0
  have Cq37 := Cq26.trans Rq37
  refine GoesW.via stq37 ?_
  show GoesW _ _ _ _ _ _ _ _ (Tq37.setTop (mkF m 226 #[.val (.int x0), .val (.int x1), .val (.int x2), .val (.int fk), .val (.int nk), .val (.int ak), .val (.ref fo), .val (.ref al), .val (.ref xr_q18), .val (.int (1 : Int32)), .val (.ref bq25)] [(.int (if LIT_0 = LIT_0 ∨ LIT_0 = (drw (x0 ^^^ (1 : Int32))) then (1 : Int32) else 0))]))
  refine GoesW.via (fun _ k => XS.iload Xq37.here hx rfl (hb hby at_226) rfl k) ?_
  show GoesW _ _ _ _ _ _ _ _ (Tq37.setTop (mkF m 228 #[.val (.int x0), .val (.int x1), .val (.int x2), .val (.int fk), .val (.int nk), .val (.int ak), .val (.ref fo), .val (.ref al), .val (.ref xr_q18), .val (.int (1 : Int32)), .val (.ref bq25)] [(.int (1 : Int32)), (.int (if LIT_0 = LIT_0 ∨ LIT_0 = (drw (x0 ^^^ (1 : Int32))) then (1 : Int32) else 0))]))
  refine GoesW.via (fun _ k => XS.icmpNo Xq37.here hx rfl (hb hby at_228) rfl (XT.ii_ne_f (if_pos (Or.inl rfl))) k) ?_
  show GoesW _ _ _ _ _ _ _ _ (Tq37.setTop (mkF m 231 #[.val (.int x0), .val (.int x1), .val (.int x2), .val (.int fk), .val (.int nk), .val (.int ak), .val (.ref fo), .val (.ref al), .val (.ref xr_q18), .val (.int (1 : Int32)), .val (.ref bq25)] []))
  refine GoesW.via (fun _ k => XT.iconstV Xq37.here hx rfl (1 : Int32) (hb hby at_231) (by decide) k) ?_
  show GoesW _ _ _ _ _ _ _ _ (Tq37.setTop (mkF m 232 #[.val (.int x0), .val (.int x1), .val (.int x2), .val (.int fk), .val (.int nk), .val (.int ak), .val (.ref fo), .val (.ref al), .val (.ref xr_q18), .val (.int (1 : Int32)), .val (.ref bq25)] [(.int (1 : Int32))]))
  refine GoesW.via (fun _ k => XS.goto Xq37.here hx rfl (pc0 := 232) (pc' := 236) rfl (hb hby at_232) (by decide) (by decide) k) ?_
  show GoesW _ _ _ _ _ _ _ _ (Tq37.setTop (mkF m 236 #[.val (.int x0), .val (.int x1), .val (.int x2), .val (.int fk), .val (.int nk), .val (.int ak), .val (.ref fo), .val (.ref al), .val (.ref xr_q18), .val (.int (1 : Int32)), .val (.ref bq25)] [(.int (1 : Int32))]))
  refine goRetNW Xq37 hx hrt (by simp) hlk Nq37 Sq37 (by omega) (by show _ ≤ 40; omega) (by show _ ≤ 5312; omega) (hb hby at_236) ?_
  intro hWm
  refine ⟨?_, Cq37.trans (CHv.at Xq37 hZq37 (ew hw) Cq37.1)⟩
  exact rfl
set_option maxRecDepth 65536 in
set_option maxHeartbeats 40000000 in
theorem law_c18 (l : Launch) (Z : State) (aw : Array Value) (hw : ∀ d ∈ tables_1, d.before aw Z = true) (x0 : Int32) (x1 : Int32) (x2 : Int32) (fk : Int32) (nk : Int32) (ak : Int32) (em : Nat) (bt : Nat) (bf : Nat) (cz : Int32) (fo : Nat) (sA : Nat) (wA : Nat) (kA : ClassId) (NA : Int32) (vA : List Value) (al : Nat) {p : Program} {e : Env} {s : State} {m : MethodId} {args : Array Value} {below : List Frame} {meth : Method} {c : Code} {T : State} {locs : List Loc} {cells slots n0 : Nat} {h0 h1 : Heap} (hx : p.tables.exec = Jvm.exec) (hby : c.code = code) (hml : c.maxLocals = 11) (hrt : meth.sig.returnType = some .boolean) (hlk : meth.locks = false) (hnm : meth.name = "law") {vm0 vmE : Vm} {k0 : Nat} (hZ : Z.Warmed39 vm0) (hown : vm0.findClass "com/example/vouchsafe/vouchsafe/message/NameIdPolicyAcceptsPinLaw" = some m.cls) (X : Stand p l e room_1 (s.setVm vm0) m args below meth c T locs cells slots) (e0 : T.heap = h1) (N : Fr n0 locs) (hcells : cells ≤ 10) (hslots : slots ≤ 240) (O : Old Z n0 h1) (hS : s.Since vm0 k0) (hk0 : k0 ≤ h1.size) (C0 : CHr Z EL vmE h0 vm0 h1) (CS : Sta Z Z.heap "java/lang/String" "COMPACT_STRINGS" "Z" (.int cz)) (SE : Sta Z Z.heap "java/util/Optional" "EMPTY" "Ljava/util/Optional;" (.ref em)) (EE : Exa Z Z.heap em "java/util/Optional") (FE : Fld Z Z.heap em "java/util/Optional" "value" "Ljava/lang/Object;" .null) (ST1 : Sta Z Z.heap "java/lang/Boolean" "TRUE" "Ljava/lang/Boolean;" (.ref bt)) (ST0 : Sta Z Z.heap "java/lang/Boolean" "FALSE" "Ljava/lang/Boolean;" (.ref bf)) (pf0 : Exa Z h1 fo "java/util/Optional") (pf1 : Fld Z h1 fo "java/util/Optional" "value" "Ljava/lang/Object;" (.ref sA)) (pf2 : Exa Z h1 sA "java/lang/String") (pf3 : Fld Z h1 sA "java/lang/String" "value" "[B" (.ref wA)) (pf4 : Fld Z h1 sA "java/lang/String" "coder" "B" (.int (0 : Int32))) (pf5 : Arv Z h1 wA kA .byte NA vA (.int (0 : Int32))) (hcz : ¬ cz = (0 : Int32)) (hf0 : ¬ (fk = (0 : Int32))) (hf1 : fk = (1 : Int32)) (codA : StrChars.Road.CodA LIT_0 0 NA vA) (cq1 : ¬ (nk = (0 : Int32))) (cq9 : ¬ (nk = (1 : Int32))) :
    GoesW p e below s room_1.cells room_1.slots n0 (fun v vm h => (fun vv hh => vv = some (.int (1 : Int32))) v h ∧ CHr Z EL vmE h0 vm h) (T.setTop (mkF m 124 #[.val (.int x0), .val (.int x1), .val (.int x2), .val (.int fk), .val (.int nk), .val (.int ak), .val (.ref fo), .val (.ref al), .unset, .unset, .unset] [(.int nk)])) := by
  have zO := O.le
  have lt_fo := lt_nat pf0.lt
  have lt_sA := lt_nat pf2.lt
  have lt_wA := lt_nat pf5.lt
  show GoesW _ _ _ _ _ _ _ _ (T.setTop (mkF m 124 #[.val (.int x0), .val (.int x1), .val (.int x2), .val (.int fk), .val (.int nk), .val (.int ak), .val (.ref fo), .val (.ref al), .unset, .unset, .unset] [(.int nk)]))
  refine GoesW.via (fun _ k => XT.iconstV X.here hx rfl (2 : Int32) (hb hby at_124) (by decide) k) ?_
  show GoesW _ _ _ _ _ _ _ _ (T.setTop (mkF m 125 #[.val (.int x0), .val (.int x1), .val (.int x2), .val (.int fk), .val (.int nk), .val (.int ak), .val (.ref fo), .val (.ref al), .unset, .unset, .unset] [(.int (2 : Int32)), (.int nk)]))
  by_cases cq10 : nk = (2 : Int32)
  · skip
    refine GoesW.via (fun _ k => XS.icmpNo X.here hx rfl (hb hby at_125) rfl (XT.ii_ne_f cq10) k) ?_
    show GoesW _ _ _ _ _ _ _ _ (T.setTop (mkF m 128 #[.val (.int x0), .val (.int x1), .val (.int x2), .val (.int fk), .val (.int nk), .val (.int ak), .val (.ref fo), .val (.ref al), .unset, .unset, .unset] []))
    obtain ⟨aq11, Tq11, hq11, kq11, wq11, kkq11, Xq11, eq11, Eq11, Sq11, hkq11, hZq11, hownq11, exq11, fcq11, fvq11, vaq11, laq11, lbq11, Rq11, -, sfq11, stq11⟩ := ldcCH X hx hZ hown (W_99 hw) (strAtoms hw) e0 hS (by omega) (ew hw) (by decide) C0.1 (vs := [(.int (117 : Int32)), (.int (114 : Int32)), (.int (110 : Int32)), (.int (58 : Int32)), (.int (111 : Int32)), (.int (97 : Int32)), (.int (115 : Int32)), (.int (105 : Int32)), (.int (115 : Int32)), (.int (58 : Int32)), (.int (110 : Int32)), (.int (97 : Int32)), (.int (109 : Int32)), (.int (101 : Int32)), (.int (115 : Int32)), (.int (58 : Int32)), (.int (116 : Int32)), (.int (99 : Int32)), (.int (58 : Int32)), (.int (83 : Int32)), (.int (65 : Int32)), (.int (77 : Int32)), (.int (76 : Int32)), (.int (58 : Int32)), (.int (49 : Int32)), (.int (46 : Int32)), (.int (49 : Int32)), (.int (58 : Int32)), (.int (110 : Int32)), (.int (97 : Int32)), (.int (109 : Int32)), (.int (101 : Int32)), (.int (105 : Int32)), (.int (100 : Int32)), (.int (45 : Int32)), (.int (102 : Int32)), (.int (111 : Int32)), (.int (114 : Int32)), (.int (109 : Int32)), (.int (97 : Int32)), (.int (116 : Int32)), (.int (58 : Int32)), (.int (117 : Int32)), (.int (110 : Int32)), (.int (115 : Int32)), (.int (112 : Int32)), (.int (101 : Int32)), (.int (99 : Int32)), (.int (105 : Int32)), (.int (102 : Int32)), (.int (105 : Int32)), (.int (101 : Int32)), (.int (100 : Int32))]) (z := (53 : Int32)) ⟨by decide +kernel, by decide +kernel⟩ (by decide) (by decide) (g := (mkF m 128 #[.val (.int x0), .val (.int x1), .val (.int x2), .val (.int fk), .val (.int nk), .val (.int ak), .val (.ref fo), .val (.ref al), .unset, .unset, .unset] [])) rfl (hb hby at_128) (n := 212) (by decide +kernel) (by decide) (by show _ + 2 ≤ 40; omega) (by show _ + 216 ≤ 5312; omega)
    replace laq11 := lt_nat laq11
    replace lbq11 := lt_nat lbq11
    have zq11 := Eq11.1
    have Oq11 := O.ext Eq11
    have Cq11 := C0.trans Rq11
    refine GoesW.via stq11 ?_
    show GoesW _ _ _ _ _ _ _ _ (Tq11.setTop (mkF m 130 #[.val (.int x0), .val (.int x1), .val (.int x2), .val (.int fk), .val (.int nk), .val (.int ak), .val (.ref fo), .val (.ref al), .unset, .unset, .unset] [(.ref aq11)]))
    refine GoesW.via (fun _ k => XS.astore Xq11.here hx rfl (hb hby at_130) rfl rfl (l' := #[.val (.int x0), .val (.int x1), .val (.int x2), .val (.int fk), .val (.int nk), .val (.int ak), .val (.ref fo), .val (.ref al), .val (.ref aq11), .unset, .unset]) rfl k) ?_
    show GoesW _ _ _ _ _ _ _ _ (Tq11.setTop (mkF m 132 #[.val (.int x0), .val (.int x1), .val (.int x2), .val (.int fk), .val (.int nk), .val (.int ak), .val (.ref fo), .val (.ref al), .val (.ref aq11), .unset, .unset] []))
    refine GoesW.via (fun _ k => XS.goto Xq11.here hx rfl (pc0 := 132) (pc' := 143) rfl (hb hby at_132) (by decide) (by decide) k) ?_
    show GoesW _ _ _ _ _ _ _ _ (Tq11.setTop (mkF m 143 #[.val (.int x0), .val (.int x1), .val (.int x2), .val (.int fk), .val (.int nk), .val (.int ak), .val (.ref fo), .val (.ref al), .val (.ref aq11), .unset, .unset] []))
    refine GoesW.via (fun _ k => XS.iloadN Xq11.here hx rfl (hb hby at_143) rfl k) ?_
    show GoesW _ _ _ _ _ _ _ _ (Tq11.setTop (mkF m 144 #[.val (.int x0), .val (.int x1), .val (.int x2), .val (.int fk), .val (.int nk), .val (.int ak), .val (.ref fo), .val (.ref al), .val (.ref aq11), .unset, .unset] [(.int fk)]))
    have fq12 : Exa Z hq11 fo "java/util/Optional" := (pf0.ext Eq11)
    have fq13 : Fld Z hq11 fo "java/util/Optional" "value" "Ljava/lang/Object;" (.ref sA) := (pf1.ext Eq11)
    have fq14 : Exa Z hq11 sA "java/lang/String" := (pf2.ext Eq11)
    have fq15 : Fld Z hq11 sA "java/lang/String" "value" "[B" (.ref wA) := (pf3.ext Eq11)
    have fq16 : Fld Z hq11 sA "java/lang/String" "coder" "B" (.int (0 : Int32)) := (pf4.ext Eq11)
    have fq17 : Arv Z hq11 wA kA .byte NA vA (.int (0 : Int32)) := (pf5.ext Eq11)
    exact law_c19 l Z aw hw x0 x1 x2 fk nk ak em bt bf cz fo sA wA kA NA vA al aq11 wq11 kkq11 hx hby hml hrt hlk hnm hZq11 hownq11 Xq11 eq11 N (by omega) (by omega) Oq11 Sq11 (by omega) Cq11 CS SE EE FE ST1 ST0 fq12 fq13 fq14 fq15 fq16 fq17 exq11 fcq11 fvq11 vaq11 hcz hf0 hf1 codA cq1 cq9 cq10
  · skip
    refine GoesW.via (fun _ k => XS.icmpYes X.here hx rfl (pc0 := 125) (pc' := 135) rfl (hb hby at_125) rfl (XT.ii_ne_t cq10) (by decide) (by decide) k) ?_
    show GoesW _ _ _ _ _ _ _ _ (T.setTop (mkF m 135 #[.val (.int x0), .val (.int x1), .val (.int x2), .val (.int fk), .val (.int nk), .val (.int ak), .val (.ref fo), .val (.ref al), .unset, .unset, .unset] []))
    refine GoesW.via (fun _ k => XS.iloadN X.here hx rfl (hb hby at_135) rfl k) ?_
    show GoesW _ _ _ _ _ _ _ _ (T.setTop (mkF m 136 #[.val (.int x0), .val (.int x1), .val (.int x2), .val (.int fk), .val (.int nk), .val (.int ak), .val (.ref fo), .val (.ref al), .unset, .unset, .unset] [(.int x0)]))
    refine GoesW.via (fun _ k => XT.iconstV X.here hx rfl (1 : Int32) (hb hby at_136) (by decide) k) ?_
    show GoesW _ _ _ _ _ _ _ _ (T.setTop (mkF m 137 #[.val (.int x0), .val (.int x1), .val (.int x2), .val (.int fk), .val (.int nk), .val (.int ak), .val (.ref fo), .val (.ref al), .unset, .unset, .unset] [(.int (1 : Int32)), (.int x0)]))
    refine GoesW.via (fun _ k => XT.ixor X.here hx rfl (hb hby at_137) rfl k) ?_
    show GoesW _ _ _ _ _ _ _ _ (T.setTop (mkF m 138 #[.val (.int x0), .val (.int x1), .val (.int x2), .val (.int fk), .val (.int nk), .val (.int ak), .val (.ref fo), .val (.ref al), .unset, .unset, .unset] [(.int (x0 ^^^ (1 : Int32)))]))
    obtain ⟨vq18, Tq18, Lq18, Xq18, Sq18, hZq18, hownq18, Rq18, qq18, nq18, stq18⟩ := callStW X hx hZ hown hS (by rw [e0]; omega) (ew hw) C0.1 all0 all0 (drawnC l Z aw hw (x0 ^^^ (1 : Int32)) cz O CS hcz) (W_0 hw) (W_1 hw) (W_2 hw) (W_3 hw) (by decide) e0 (by decide) (W := 0) (by decide) (by show _ + 6 ≤ 40; omega) (by show _ + 14 ≤ 5312; omega) (g := (mkF m 138 #[.val (.int x0), .val (.int x1), .val (.int x2), .val (.int fk), .val (.int nk), .val (.int ak), .val (.ref fo), .val (.ref al), .unset, .unset, .unset] [(.int (x0 ^^^ (1 : Int32)))])) rfl (by rw [hml]; rfl) (argsL := [(.int (x0 ^^^ (1 : Int32)))]) (rest := []) rfl (lenOf pd_19 rfl) rfl (by show 2 * 0 + _ ≤ _; exact Nat.le_of_eq rfl) (hb hby at_138)
    dsimp only at Xq18
    obtain ⟨xr_q18, xtb_q18, xkt_q18, xN1_q18, xvs_q18, rfl, pq18_0, pq18_1, pq18_2, pq18_3, pq18_4, pq18_5, pq18_6⟩ := qq18
    have Nq18 := Fr.app N nq18
    have zq18 := pq18_1.1
    have Oq18 := O.keep pq18_1 all0
    have Cq18 := C0.trans Rq18
    have ltpq18_2 := lt_nat pq18_2.lt
    have ltpq18_5 := lt_nat pq18_5.lt
    refine GoesW.via stq18 ?_
    show GoesW _ _ _ _ _ _ _ _ (Tq18.setTop (mkF m 141 #[.val (.int x0), .val (.int x1), .val (.int x2), .val (.int fk), .val (.int nk), .val (.int ak), .val (.ref fo), .val (.ref al), .unset, .unset, .unset] [(.ref xr_q18)]))
    have fq19 : Exa Z Tq18.heap fo "java/util/Optional" := (pf0.keep pq18_1)
    have fq20 : Fld Z Tq18.heap fo "java/util/Optional" "value" "Ljava/lang/Object;" (.ref sA) := (pf1.keep pq18_1 nin0)
    have fq21 : Exa Z Tq18.heap sA "java/lang/String" := (pf2.keep pq18_1)
    have fq22 : Fld Z Tq18.heap sA "java/lang/String" "value" "[B" (.ref wA) := (pf3.keep pq18_1 nin0)
    have fq23 : Fld Z Tq18.heap sA "java/lang/String" "coder" "B" (.int (0 : Int32)) := (pf4.keep pq18_1 nin0)
    have fq24 : Arv Z Tq18.heap wA kA .byte NA vA (.int (0 : Int32)) := (pf5.keep pq18_1 nin0)
    exact law_c20 l Z aw hw x0 x1 x2 fk nk ak em bt bf cz fo sA wA kA NA vA al xr_q18 xtb_q18 xkt_q18 xN1_q18 xvs_q18 hx hby hml hrt hlk hnm hZq18 hownq18 Xq18 rfl Nq18 (by omega) (by omega) Oq18 Sq18 (by omega) Cq18 CS SE EE FE ST1 ST0 fq19 fq20 fq21 fq22 fq23 fq24 pq18_2 pq18_3 pq18_4 pq18_5 hcz hf0 hf1 codA cq1 cq9 cq10 pq18_6 (by omega)
set_option maxRecDepth 65536 in
set_option maxHeartbeats 40000000 in
theorem seg93U (l : Launch) (Z : State) (aw : Array Value) (hw : ∀ d ∈ tables_1, d.before aw Z = true) (x0 : Int32) (x1 : Int32) (x2 : Int32) (fk : Int32) (nk : Int32) (ak : Int32) (em : Nat) (bt : Nat) (bf : Nat) (cz : Int32) (fo : Nat) (sA : Nat) (wA : Nat) (kA : ClassId) (NA : Int32) (vA : List Value) (al : Nat) {p : Program} {e : Env} {s : State} {m : MethodId} {args : Array Value} {below : List Frame} {meth : Method} {c : Code} {T : State} {locs : List Loc} {cells slots n0 : Nat} {h0 h1 : Heap} (hx : p.tables.exec = Jvm.exec) (hby : c.code = code) (hml : c.maxLocals = 11) (hrt : meth.sig.returnType = some .boolean) (hlk : meth.locks = false) (hnm : meth.name = "law") {vm0 vmE : Vm} {k0 : Nat} (hZ : Z.Warmed39 vm0) (hown : vm0.findClass "com/example/vouchsafe/vouchsafe/message/NameIdPolicyAcceptsPinLaw" = some m.cls) (X : Stand p l e room_1 (s.setVm vm0) m args below meth c T locs cells slots) (e0 : T.heap = h1) (N : Fr n0 locs) (hcells : cells ≤ 10) (hslots : slots ≤ 240) (O : Old Z n0 h1) (hS : s.Since vm0 k0) (hk0 : k0 ≤ h1.size) (C0 : CHr Z EL vmE h0 vm0 h1) (CS : Sta Z Z.heap "java/lang/String" "COMPACT_STRINGS" "Z" (.int cz)) (SE : Sta Z Z.heap "java/util/Optional" "EMPTY" "Ljava/util/Optional;" (.ref em)) (EE : Exa Z Z.heap em "java/util/Optional") (FE : Fld Z Z.heap em "java/util/Optional" "value" "Ljava/lang/Object;" .null) (ST1 : Sta Z Z.heap "java/lang/Boolean" "TRUE" "Ljava/lang/Boolean;" (.ref bt)) (ST0 : Sta Z Z.heap "java/lang/Boolean" "FALSE" "Ljava/lang/Boolean;" (.ref bf)) (EO : Exa Z h1 fo "java/util/Optional") (FO : Fld Z h1 fo "java/util/Optional" "value" "Ljava/lang/Object;" (.ref sA)) (ESA : Exa Z h1 sA "java/lang/String") (VSA : Fld Z h1 sA "java/lang/String" "value" "[B" (.ref wA)) (CSA : Fld Z h1 sA "java/lang/String" "coder" "B" (.int (0 : Int32))) (ASA : Arv Z h1 wA kA .byte NA vA (.int (0 : Int32))) (hcz : ¬ cz = (0 : Int32)) (hf0 : ¬ (fk = (0 : Int32))) (hf1 : fk = (1 : Int32)) (codA : StrChars.Road.CodA LIT_0 0 NA vA) :
    GoesW p e below s room_1.cells room_1.slots n0 (fun v vm h => (fun vv hh => vv = some (.int (1 : Int32))) v h ∧ CHr Z EL vmE h0 vm h) (T.setTop (mkF m 93 #[.val (.int x0), .val (.int x1), .val (.int x2), .val (.int fk), .val (.int nk), .val (.int ak), .val (.ref fo), .val (.ref al), .unset, .unset, .unset] [])) := by
  have zO := O.le
  have lt_fo := lt_nat EO.lt
  have lt_sA := lt_nat ESA.lt
  have lt_wA := lt_nat ASA.lt
  show GoesW _ _ _ _ _ _ _ _ (T.setTop (mkF m 93 #[.val (.int x0), .val (.int x1), .val (.int x2), .val (.int fk), .val (.int nk), .val (.int ak), .val (.ref fo), .val (.ref al), .unset, .unset, .unset] []))
  refine GoesW.via (fun _ k => XS.iload X.here hx rfl (hb hby at_93) rfl k) ?_
  show GoesW _ _ _ _ _ _ _ _ (T.setTop (mkF m 95 #[.val (.int x0), .val (.int x1), .val (.int x2), .val (.int fk), .val (.int nk), .val (.int ak), .val (.ref fo), .val (.ref al), .unset, .unset, .unset] [(.int nk)]))
  by_cases cq1 : nk = (0 : Int32)
  · skip
    refine GoesW.via (fun _ k => XS.ifNo X.here hx rfl (hb hby at_95) rfl (XT.i0_ne_f cq1) k) ?_
    show GoesW _ _ _ _ _ _ _ _ (T.setTop (mkF m 98 #[.val (.int x0), .val (.int x1), .val (.int x2), .val (.int fk), .val (.int nk), .val (.int ak), .val (.ref fo), .val (.ref al), .unset, .unset, .unset] []))
    refine GoesW.via (fun _ k => XS.iloadN X.here hx rfl (hb hby at_98) rfl k) ?_
    show GoesW _ _ _ _ _ _ _ _ (T.setTop (mkF m 99 #[.val (.int x0), .val (.int x1), .val (.int x2), .val (.int fk), .val (.int nk), .val (.int ak), .val (.ref fo), .val (.ref al), .unset, .unset, .unset] [(.int x1)]))
    obtain ⟨vq2, Tq2, Lq2, Xq2, Sq2, hZq2, hownq2, Rq2, qq2, nq2, stq2⟩ := callStW X hx hZ hown hS (by rw [e0]; omega) (ew hw) C0.1 all0 all0 (drawnC l Z aw hw x1 cz O CS hcz) (W_0 hw) (W_1 hw) (W_2 hw) (W_3 hw) (by decide) e0 (by decide) (W := 0) (by decide) (by show _ + 6 ≤ 40; omega) (by show _ + 14 ≤ 5312; omega) (g := (mkF m 99 #[.val (.int x0), .val (.int x1), .val (.int x2), .val (.int fk), .val (.int nk), .val (.int ak), .val (.ref fo), .val (.ref al), .unset, .unset, .unset] [(.int x1)])) rfl (by rw [hml]; rfl) (argsL := [(.int x1)]) (rest := []) rfl (lenOf pd_19 rfl) rfl (by show 2 * 0 + _ ≤ _; exact Nat.le_of_eq rfl) (hb hby at_99)
    dsimp only at Xq2
    obtain ⟨xr_q2, xtb_q2, xkt_q2, xN1_q2, xvs_q2, rfl, pq2_0, pq2_1, pq2_2, pq2_3, pq2_4, pq2_5, pq2_6⟩ := qq2
    have Nq2 := Fr.app N nq2
    have zq2 := pq2_1.1
    have Oq2 := O.keep pq2_1 all0
    have Cq2 := C0.trans Rq2
    have ltpq2_2 := lt_nat pq2_2.lt
    have ltpq2_5 := lt_nat pq2_5.lt
    refine GoesW.via stq2 ?_
    show GoesW _ _ _ _ _ _ _ _ (Tq2.setTop (mkF m 102 #[.val (.int x0), .val (.int x1), .val (.int x2), .val (.int fk), .val (.int nk), .val (.int ak), .val (.ref fo), .val (.ref al), .unset, .unset, .unset] [(.ref xr_q2)]))
    refine GoesW.via (fun _ k => XS.astore Xq2.here hx rfl (hb hby at_102) rfl rfl (l' := #[.val (.int x0), .val (.int x1), .val (.int x2), .val (.int fk), .val (.int nk), .val (.int ak), .val (.ref fo), .val (.ref al), .val (.ref xr_q2), .unset, .unset]) rfl k) ?_
    show GoesW _ _ _ _ _ _ _ _ (Tq2.setTop (mkF m 104 #[.val (.int x0), .val (.int x1), .val (.int x2), .val (.int fk), .val (.int nk), .val (.int ak), .val (.ref fo), .val (.ref al), .val (.ref xr_q2), .unset, .unset] []))
    refine GoesW.via (fun _ k => XS.goto Xq2.here hx rfl (pc0 := 104) (pc' := 143) rfl (hb hby at_104) (by decide) (by decide) k) ?_
    show GoesW _ _ _ _ _ _ _ _ (Tq2.setTop (mkF m 143 #[.val (.int x0), .val (.int x1), .val (.int x2), .val (.int fk), .val (.int nk), .val (.int ak), .val (.ref fo), .val (.ref al), .val (.ref xr_q2), .unset, .unset] []))
    have fq3 : Exa Z Tq2.heap fo "java/util/Optional" := (EO.keep pq2_1)
    have fq4 : Fld Z Tq2.heap fo "java/util/Optional" "value" "Ljava/lang/Object;" (.ref sA) := (FO.keep pq2_1 nin0)
    have fq5 : Exa Z Tq2.heap sA "java/lang/String" := (ESA.keep pq2_1)
    have fq6 : Fld Z Tq2.heap sA "java/lang/String" "value" "[B" (.ref wA) := (VSA.keep pq2_1 nin0)
    have fq7 : Fld Z Tq2.heap sA "java/lang/String" "coder" "B" (.int (0 : Int32)) := (CSA.keep pq2_1 nin0)
    have fq8 : Arv Z Tq2.heap wA kA .byte NA vA (.int (0 : Int32)) := (ASA.keep pq2_1 nin0)
    exact law_c16 l Z aw hw x0 x1 x2 fk nk ak em bt bf cz fo sA wA kA NA vA al xr_q2 xtb_q2 xkt_q2 xN1_q2 xvs_q2 hx hby hml hrt hlk hnm hZq2 hownq2 Xq2 rfl Nq2 (by omega) (by omega) Oq2 Sq2 (by omega) Cq2 CS SE EE FE ST1 ST0 fq3 fq4 fq5 fq6 fq7 fq8 pq2_2 pq2_3 pq2_4 pq2_5 hcz hf0 hf1 codA cq1 pq2_6 (by omega)
  · skip
    refine GoesW.via (fun _ k => XS.ifYes X.here hx rfl (pc0 := 95) (pc' := 107) rfl (hb hby at_95) rfl (XT.i0_ne_t cq1) (by decide) (by decide) k) ?_
    show GoesW _ _ _ _ _ _ _ _ (T.setTop (mkF m 107 #[.val (.int x0), .val (.int x1), .val (.int x2), .val (.int fk), .val (.int nk), .val (.int ak), .val (.ref fo), .val (.ref al), .unset, .unset, .unset] []))
    refine GoesW.via (fun _ k => XS.iload X.here hx rfl (hb hby at_107) rfl k) ?_
    show GoesW _ _ _ _ _ _ _ _ (T.setTop (mkF m 109 #[.val (.int x0), .val (.int x1), .val (.int x2), .val (.int fk), .val (.int nk), .val (.int ak), .val (.ref fo), .val (.ref al), .unset, .unset, .unset] [(.int nk)]))
    refine GoesW.via (fun _ k => XT.iconstV X.here hx rfl (1 : Int32) (hb hby at_109) (by decide) k) ?_
    show GoesW _ _ _ _ _ _ _ _ (T.setTop (mkF m 110 #[.val (.int x0), .val (.int x1), .val (.int x2), .val (.int fk), .val (.int nk), .val (.int ak), .val (.ref fo), .val (.ref al), .unset, .unset, .unset] [(.int (1 : Int32)), (.int nk)]))
    by_cases cq9 : nk = (1 : Int32)
    · skip
      refine GoesW.via (fun _ k => XS.icmpNo X.here hx rfl (hb hby at_110) rfl (XT.ii_ne_f cq9) k) ?_
      show GoesW _ _ _ _ _ _ _ _ (T.setTop (mkF m 113 #[.val (.int x0), .val (.int x1), .val (.int x2), .val (.int fk), .val (.int nk), .val (.int ak), .val (.ref fo), .val (.ref al), .unset, .unset, .unset] []))
      refine GoesW.via (fun _ k => XS.iloadN X.here hx rfl (hb hby at_113) rfl k) ?_
      show GoesW _ _ _ _ _ _ _ _ (T.setTop (mkF m 114 #[.val (.int x0), .val (.int x1), .val (.int x2), .val (.int fk), .val (.int nk), .val (.int ak), .val (.ref fo), .val (.ref al), .unset, .unset, .unset] [(.int x0)]))
      exact law_c17 l Z aw hw x0 x1 x2 fk nk ak em bt bf cz fo sA wA kA NA vA al hx hby hml hrt hlk hnm hZ hown X e0 N (by omega) (by omega) O hS (by omega) C0 CS SE EE FE ST1 ST0 EO FO ESA VSA CSA ASA hcz hf0 hf1 codA cq1 cq9
    · skip
      refine GoesW.via (fun _ k => XS.icmpYes X.here hx rfl (pc0 := 110) (pc' := 122) rfl (hb hby at_110) rfl (XT.ii_ne_t cq9) (by decide) (by decide) k) ?_
      show GoesW _ _ _ _ _ _ _ _ (T.setTop (mkF m 122 #[.val (.int x0), .val (.int x1), .val (.int x2), .val (.int fk), .val (.int nk), .val (.int ak), .val (.ref fo), .val (.ref al), .unset, .unset, .unset] []))
      refine GoesW.via (fun _ k => XS.iload X.here hx rfl (hb hby at_122) rfl k) ?_
      show GoesW _ _ _ _ _ _ _ _ (T.setTop (mkF m 124 #[.val (.int x0), .val (.int x1), .val (.int x2), .val (.int fk), .val (.int nk), .val (.int ak), .val (.ref fo), .val (.ref al), .unset, .unset, .unset] [(.int nk)]))
      exact law_c18 l Z aw hw x0 x1 x2 fk nk ak em bt bf cz fo sA wA kA NA vA al hx hby hml hrt hlk hnm hZ hown X e0 N (by omega) (by omega) O hS (by omega) C0 CS SE EE FE ST1 ST0 EO FO ESA VSA CSA ASA hcz hf0 hf1 codA cq1 cq9
set_option maxRecDepth 65536 in
set_option maxHeartbeats 40000000 in
theorem seg54U (l : Launch) (Z : State) (aw : Array Value) (hw : ∀ d ∈ tables_1, d.before aw Z = true) (x0 : Int32) (x1 : Int32) (x2 : Int32) (fk : Int32) (nk : Int32) (ak : Int32) (em : Nat) (bt : Nat) (bf : Nat) (cz : Int32) (fo : Nat) (sA : Nat) (wA : Nat) (kA : ClassId) (NA : Int32) (vA : List Value) {p : Program} {e : Env} {s : State} {m : MethodId} {args : Array Value} {below : List Frame} {meth : Method} {c : Code} {T : State} {locs : List Loc} {cells slots n0 : Nat} {h0 h1 : Heap} (hx : p.tables.exec = Jvm.exec) (hby : c.code = code) (hml : c.maxLocals = 11) (hrt : meth.sig.returnType = some .boolean) (hlk : meth.locks = false) (hnm : meth.name = "law") {vm0 vmE : Vm} {k0 : Nat} (hZ : Z.Warmed39 vm0) (hown : vm0.findClass "com/example/vouchsafe/vouchsafe/message/NameIdPolicyAcceptsPinLaw" = some m.cls) (X : Stand p l e room_1 (s.setVm vm0) m args below meth c T locs cells slots) (e0 : T.heap = h1) (N : Fr n0 locs) (hcells : cells ≤ 9) (hslots : slots ≤ 236) (O : Old Z n0 h1) (hS : s.Since vm0 k0) (hk0 : k0 ≤ h1.size) (C0 : CHr Z EL vmE h0 vm0 h1) (CS : Sta Z Z.heap "java/lang/String" "COMPACT_STRINGS" "Z" (.int cz)) (SE : Sta Z Z.heap "java/util/Optional" "EMPTY" "Ljava/util/Optional;" (.ref em)) (EE : Exa Z Z.heap em "java/util/Optional") (FE : Fld Z Z.heap em "java/util/Optional" "value" "Ljava/lang/Object;" .null) (ST1 : Sta Z Z.heap "java/lang/Boolean" "TRUE" "Ljava/lang/Boolean;" (.ref bt)) (ST0 : Sta Z Z.heap "java/lang/Boolean" "FALSE" "Ljava/lang/Boolean;" (.ref bf)) (EO : Exa Z h1 fo "java/util/Optional") (FO : Fld Z h1 fo "java/util/Optional" "value" "Ljava/lang/Object;" (.ref sA)) (ESA : Exa Z h1 sA "java/lang/String") (VSA : Fld Z h1 sA "java/lang/String" "value" "[B" (.ref wA)) (CSA : Fld Z h1 sA "java/lang/String" "coder" "B" (.int (0 : Int32))) (ASA : Arv Z h1 wA kA .byte NA vA (.int (0 : Int32))) (hcz : ¬ cz = (0 : Int32)) (hf0 : ¬ (fk = (0 : Int32))) (hf1 : fk = (1 : Int32)) (codA : StrChars.Road.CodA LIT_0 0 NA vA) :
    GoesW p e below s room_1.cells room_1.slots n0 (fun v vm h => (fun vv hh => vv = some (.int (1 : Int32))) v h ∧ CHr Z EL vmE h0 vm h) (T.setTop (mkF m 54 #[.val (.int x0), .val (.int x1), .val (.int x2), .val (.int fk), .val (.int nk), .val (.int ak), .val (.ref fo), .unset, .unset, .unset, .unset] [])) := by
  have zO := O.le
  have lt_fo := lt_nat EO.lt
  have lt_sA := lt_nat ESA.lt
  have lt_wA := lt_nat ASA.lt
  show GoesW _ _ _ _ _ _ _ _ (T.setTop (mkF m 54 #[.val (.int x0), .val (.int x1), .val (.int x2), .val (.int fk), .val (.int nk), .val (.int ak), .val (.ref fo), .unset, .unset, .unset, .unset] []))
  refine GoesW.via (fun _ k => XS.iload X.here hx rfl (hb hby at_54) rfl k) ?_
  show GoesW _ _ _ _ _ _ _ _ (T.setTop (mkF m 56 #[.val (.int x0), .val (.int x1), .val (.int x2), .val (.int fk), .val (.int nk), .val (.int ak), .val (.ref fo), .unset, .unset, .unset, .unset] [(.int ak)]))
  refine GoesW.via (fun _ k => XT.iconstV X.here hx rfl (1 : Int32) (hb hby at_56) (by decide) k) ?_
  show GoesW _ _ _ _ _ _ _ _ (T.setTop (mkF m 57 #[.val (.int x0), .val (.int x1), .val (.int x2), .val (.int fk), .val (.int nk), .val (.int ak), .val (.ref fo), .unset, .unset, .unset, .unset] [(.int (1 : Int32)), (.int ak)]))
  by_cases cq1 : ak = (1 : Int32)
  · skip
    refine GoesW.via (fun _ k => XS.icmpNo X.here hx rfl (hb hby at_57) rfl (XT.ii_ne_f cq1) k) ?_
    show GoesW _ _ _ _ _ _ _ _ (T.setTop (mkF m 60 #[.val (.int x0), .val (.int x1), .val (.int x2), .val (.int fk), .val (.int nk), .val (.int ak), .val (.ref fo), .unset, .unset, .unset, .unset] []))
    have fq3 : Sta Z h1 "java/lang/Boolean" "TRUE" "Ljava/lang/Boolean;" (.ref bt) := (ST1.ext O.2)
    obtain ⟨Tq2, Xq2, eq2, stq2⟩ := getS2 X hx hZ hown (host := "") (Or.inl (W_112 hw)) Via.refl e0 fq3 (g := (mkF m 60 #[.val (.int x0), .val (.int x1), .val (.int x2), .val (.int fk), .val (.int nk), .val (.int ak), .val (.ref fo), .unset, .unset, .unset, .unset] [])) rfl (hb hby at_60)
    refine GoesW.via stq2 ?_
    show GoesW _ _ _ _ _ _ _ _ (Tq2.setTop (mkF m 63 #[.val (.int x0), .val (.int x1), .val (.int x2), .val (.int fk), .val (.int nk), .val (.int ak), .val (.ref fo), .unset, .unset, .unset, .unset] [(.ref bt)]))
    obtain ⟨vq4, Tq4, Lq4, Xq4, qq4, nq4, stq4⟩ := callSt Xq2 hx hZ hown (optOf l Z aw hw bt O) (W_26 hw) (W_27 hw) (W_28 hw) (W_29 hw) (by decide) eq2 (by decide) (W := 0) (by decide) (by show _ + 1 ≤ 40; omega) (by show _ + 1 ≤ 5312; omega) (g := (mkF m 63 #[.val (.int x0), .val (.int x1), .val (.int x2), .val (.int fk), .val (.int nk), .val (.int ak), .val (.ref fo), .unset, .unset, .unset, .unset] [(.ref bt)])) rfl (by rw [hml]; rfl) (argsL := [(.ref bt)]) (rest := []) rfl (lenOf pd_22 rfl) rfl (by show 2 * 0 + _ ≤ _; exact Nat.le_of_eq rfl) (hb hby at_63)
    dsimp only at Xq4
    obtain ⟨xr_q4, rfl, pq4_0, pq4_1, pq4_2, pq4_3⟩ := qq4
    have Nq4 := Fr.app N nq4
    have zq4 := pq4_1.1
    have Oq4 := O.keep pq4_1 all0
    have Cq4 := C0.trans (CHr.keep pq4_1 all0 C0.1)
    have ltpq4_2 := lt_nat pq4_2.lt
    refine GoesW.via stq4 ?_
    show GoesW _ _ _ _ _ _ _ _ (Tq4.setTop (mkF m 66 #[.val (.int x0), .val (.int x1), .val (.int x2), .val (.int fk), .val (.int nk), .val (.int ak), .val (.ref fo), .unset, .unset, .unset, .unset] [(.ref xr_q4)]))
    refine GoesW.via (fun _ k => XS.astore Xq4.here hx rfl (hb hby at_66) rfl rfl (l' := #[.val (.int x0), .val (.int x1), .val (.int x2), .val (.int fk), .val (.int nk), .val (.int ak), .val (.ref fo), .val (.ref xr_q4), .unset, .unset, .unset]) rfl k) ?_
    show GoesW _ _ _ _ _ _ _ _ (Tq4.setTop (mkF m 68 #[.val (.int x0), .val (.int x1), .val (.int x2), .val (.int fk), .val (.int nk), .val (.int ak), .val (.ref fo), .val (.ref xr_q4), .unset, .unset, .unset] []))
    refine GoesW.via (fun _ k => XS.goto Xq4.here hx rfl (pc0 := 68) (pc' := 93) rfl (hb hby at_68) (by decide) (by decide) k) ?_
    show GoesW _ _ _ _ _ _ _ _ (Tq4.setTop (mkF m 93 #[.val (.int x0), .val (.int x1), .val (.int x2), .val (.int fk), .val (.int nk), .val (.int ak), .val (.ref fo), .val (.ref xr_q4), .unset, .unset, .unset] []))
    have fq5 : Exa Z Tq4.heap fo "java/util/Optional" := (EO.keep pq4_1)
    have fq6 : Fld Z Tq4.heap fo "java/util/Optional" "value" "Ljava/lang/Object;" (.ref sA) := (FO.keep pq4_1 nin0)
    have fq7 : Exa Z Tq4.heap sA "java/lang/String" := (ESA.keep pq4_1)
    have fq8 : Fld Z Tq4.heap sA "java/lang/String" "value" "[B" (.ref wA) := (VSA.keep pq4_1 nin0)
    have fq9 : Fld Z Tq4.heap sA "java/lang/String" "coder" "B" (.int (0 : Int32)) := (CSA.keep pq4_1 nin0)
    have fq10 : Arv Z Tq4.heap wA kA .byte NA vA (.int (0 : Int32)) := (ASA.keep pq4_1 nin0)
    exact seg93U l Z aw hw x0 x1 x2 fk nk ak em bt bf cz fo sA wA kA NA vA xr_q4 hx hby hml hrt hlk hnm hZ hown Xq4 rfl Nq4 (by omega) (by omega) Oq4 hS (by omega) Cq4 CS SE EE FE ST1 ST0 fq5 fq6 fq7 fq8 fq9 fq10 hcz hf0 hf1 codA
  · skip
    refine GoesW.via (fun _ k => XS.icmpYes X.here hx rfl (pc0 := 57) (pc' := 71) rfl (hb hby at_57) rfl (XT.ii_ne_t cq1) (by decide) (by decide) k) ?_
    show GoesW _ _ _ _ _ _ _ _ (T.setTop (mkF m 71 #[.val (.int x0), .val (.int x1), .val (.int x2), .val (.int fk), .val (.int nk), .val (.int ak), .val (.ref fo), .unset, .unset, .unset, .unset] []))
    refine GoesW.via (fun _ k => XS.iload X.here hx rfl (hb hby at_71) rfl k) ?_
    show GoesW _ _ _ _ _ _ _ _ (T.setTop (mkF m 73 #[.val (.int x0), .val (.int x1), .val (.int x2), .val (.int fk), .val (.int nk), .val (.int ak), .val (.ref fo), .unset, .unset, .unset, .unset] [(.int ak)]))
    refine GoesW.via (fun _ k => XT.iconstV X.here hx rfl (2 : Int32) (hb hby at_73) (by decide) k) ?_
    show GoesW _ _ _ _ _ _ _ _ (T.setTop (mkF m 74 #[.val (.int x0), .val (.int x1), .val (.int x2), .val (.int fk), .val (.int nk), .val (.int ak), .val (.ref fo), .unset, .unset, .unset, .unset] [(.int (2 : Int32)), (.int ak)]))
    by_cases cq11 : ak = (2 : Int32)
    · skip
      refine GoesW.via (fun _ k => XS.icmpNo X.here hx rfl (hb hby at_74) rfl (XT.ii_ne_f cq11) k) ?_
      show GoesW _ _ _ _ _ _ _ _ (T.setTop (mkF m 77 #[.val (.int x0), .val (.int x1), .val (.int x2), .val (.int fk), .val (.int nk), .val (.int ak), .val (.ref fo), .unset, .unset, .unset, .unset] []))
      have fq13 : Sta Z h1 "java/lang/Boolean" "FALSE" "Ljava/lang/Boolean;" (.ref bf) := (ST0.ext O.2)
      obtain ⟨Tq12, Xq12, eq12, stq12⟩ := getS2 X hx hZ hown (host := "") (Or.inl (W_110 hw)) Via.refl e0 fq13 (g := (mkF m 77 #[.val (.int x0), .val (.int x1), .val (.int x2), .val (.int fk), .val (.int nk), .val (.int ak), .val (.ref fo), .unset, .unset, .unset, .unset] [])) rfl (hb hby at_77)
      refine GoesW.via stq12 ?_
      show GoesW _ _ _ _ _ _ _ _ (Tq12.setTop (mkF m 80 #[.val (.int x0), .val (.int x1), .val (.int x2), .val (.int fk), .val (.int nk), .val (.int ak), .val (.ref fo), .unset, .unset, .unset, .unset] [(.ref bf)]))
      obtain ⟨vq14, Tq14, Lq14, Xq14, qq14, nq14, stq14⟩ := callSt Xq12 hx hZ hown (optOf l Z aw hw bf O) (W_26 hw) (W_27 hw) (W_28 hw) (W_29 hw) (by decide) eq12 (by decide) (W := 0) (by decide) (by show _ + 1 ≤ 40; omega) (by show _ + 1 ≤ 5312; omega) (g := (mkF m 80 #[.val (.int x0), .val (.int x1), .val (.int x2), .val (.int fk), .val (.int nk), .val (.int ak), .val (.ref fo), .unset, .unset, .unset, .unset] [(.ref bf)])) rfl (by rw [hml]; rfl) (argsL := [(.ref bf)]) (rest := []) rfl (lenOf pd_22 rfl) rfl (by show 2 * 0 + _ ≤ _; exact Nat.le_of_eq rfl) (hb hby at_80)
      dsimp only at Xq14
      obtain ⟨xr_q14, rfl, pq14_0, pq14_1, pq14_2, pq14_3⟩ := qq14
      have Nq14 := Fr.app N nq14
      have zq14 := pq14_1.1
      have Oq14 := O.keep pq14_1 all0
      have Cq14 := C0.trans (CHr.keep pq14_1 all0 C0.1)
      have ltpq14_2 := lt_nat pq14_2.lt
      refine GoesW.via stq14 ?_
      show GoesW _ _ _ _ _ _ _ _ (Tq14.setTop (mkF m 83 #[.val (.int x0), .val (.int x1), .val (.int x2), .val (.int fk), .val (.int nk), .val (.int ak), .val (.ref fo), .unset, .unset, .unset, .unset] [(.ref xr_q14)]))
      refine GoesW.via (fun _ k => XS.astore Xq14.here hx rfl (hb hby at_83) rfl rfl (l' := #[.val (.int x0), .val (.int x1), .val (.int x2), .val (.int fk), .val (.int nk), .val (.int ak), .val (.ref fo), .val (.ref xr_q14), .unset, .unset, .unset]) rfl k) ?_
      show GoesW _ _ _ _ _ _ _ _ (Tq14.setTop (mkF m 85 #[.val (.int x0), .val (.int x1), .val (.int x2), .val (.int fk), .val (.int nk), .val (.int ak), .val (.ref fo), .val (.ref xr_q14), .unset, .unset, .unset] []))
      refine GoesW.via (fun _ k => XS.goto Xq14.here hx rfl (pc0 := 85) (pc' := 93) rfl (hb hby at_85) (by decide) (by decide) k) ?_
      show GoesW _ _ _ _ _ _ _ _ (Tq14.setTop (mkF m 93 #[.val (.int x0), .val (.int x1), .val (.int x2), .val (.int fk), .val (.int nk), .val (.int ak), .val (.ref fo), .val (.ref xr_q14), .unset, .unset, .unset] []))
      have fq15 : Exa Z Tq14.heap fo "java/util/Optional" := (EO.keep pq14_1)
      have fq16 : Fld Z Tq14.heap fo "java/util/Optional" "value" "Ljava/lang/Object;" (.ref sA) := (FO.keep pq14_1 nin0)
      have fq17 : Exa Z Tq14.heap sA "java/lang/String" := (ESA.keep pq14_1)
      have fq18 : Fld Z Tq14.heap sA "java/lang/String" "value" "[B" (.ref wA) := (VSA.keep pq14_1 nin0)
      have fq19 : Fld Z Tq14.heap sA "java/lang/String" "coder" "B" (.int (0 : Int32)) := (CSA.keep pq14_1 nin0)
      have fq20 : Arv Z Tq14.heap wA kA .byte NA vA (.int (0 : Int32)) := (ASA.keep pq14_1 nin0)
      exact seg93U l Z aw hw x0 x1 x2 fk nk ak em bt bf cz fo sA wA kA NA vA xr_q14 hx hby hml hrt hlk hnm hZ hown Xq14 rfl Nq14 (by omega) (by omega) Oq14 hS (by omega) Cq14 CS SE EE FE ST1 ST0 fq15 fq16 fq17 fq18 fq19 fq20 hcz hf0 hf1 codA
    · skip
      refine GoesW.via (fun _ k => XS.icmpYes X.here hx rfl (pc0 := 74) (pc' := 88) rfl (hb hby at_74) rfl (XT.ii_ne_t cq11) (by decide) (by decide) k) ?_
      show GoesW _ _ _ _ _ _ _ _ (T.setTop (mkF m 88 #[.val (.int x0), .val (.int x1), .val (.int x2), .val (.int fk), .val (.int nk), .val (.int ak), .val (.ref fo), .unset, .unset, .unset, .unset] []))
      obtain ⟨vq21, Tq21, Lq21, Xq21, qq21, nq21, stq21⟩ := callSt X hx hZ hown (optEmpty l Z aw hw em O SE) (W_43 hw) (W_44 hw) (W_28 hw) (W_45 hw) (by decide) e0 (by decide) (W := 0) (by decide) (by show _ + 0 ≤ 40; omega) (by show _ + 0 ≤ 5312; omega) (g := (mkF m 88 #[.val (.int x0), .val (.int x1), .val (.int x2), .val (.int fk), .val (.int nk), .val (.int ak), .val (.ref fo), .unset, .unset, .unset, .unset] [])) rfl (by rw [hml]; rfl) (argsL := []) (rest := []) rfl (lenOf pd_23 rfl) rfl (by show 2 * 0 + _ ≤ _; exact Nat.le_of_eq rfl) (hb hby at_88)
      dsimp only at Xq21
      obtain ⟨rfl, pq21_0⟩ := qq21
      have Nq21 := Fr.app N nq21
      refine GoesW.via stq21 ?_
      show GoesW _ _ _ _ _ _ _ _ (Tq21.setTop (mkF m 91 #[.val (.int x0), .val (.int x1), .val (.int x2), .val (.int fk), .val (.int nk), .val (.int ak), .val (.ref fo), .unset, .unset, .unset, .unset] [(.ref em)]))
      refine GoesW.via (fun _ k => XS.astore Xq21.here hx rfl (hb hby at_91) rfl rfl (l' := #[.val (.int x0), .val (.int x1), .val (.int x2), .val (.int fk), .val (.int nk), .val (.int ak), .val (.ref fo), .val (.ref em), .unset, .unset, .unset]) rfl k) ?_
      show GoesW _ _ _ _ _ _ _ _ (Tq21.setTop (mkF m 93 #[.val (.int x0), .val (.int x1), .val (.int x2), .val (.int fk), .val (.int nk), .val (.int ak), .val (.ref fo), .val (.ref em), .unset, .unset, .unset] []))
      exact seg93U l Z aw hw x0 x1 x2 fk nk ak em bt bf cz fo sA wA kA NA vA em hx hby hml hrt hlk hnm hZ hown Xq21 pq21_0 Nq21 (by omega) (by omega) O hS (by omega) C0 CS SE EE FE ST1 ST0 EO FO ESA VSA CSA ASA hcz hf0 hf1 codA
set_option maxRecDepth 65536 in
set_option maxHeartbeats 40000000 in
theorem law_c21 (l : Launch) (Z : State) (aw : Array Value) (hw : ∀ d ∈ tables_1, d.before aw Z = true) (x0 : Int32) (x1 : Int32) (x2 : Int32) (fk : Int32) (nk : Int32) (ak : Int32) (em : Nat) (bt : Nat) (bf : Nat) (cz : Int32) (fo : Nat) (sA : Nat) (wA : Nat) (kA : ClassId) (NA : Int32) (vA : List Value) (al : Nat) (xr_q2 : Nat) (xtb_q2 : Nat) (xkt_q2 : ClassId) (xN1_q2 : Int32) (xvs_q2 : List Value) {p : Program} {e : Env} {s : State} {m : MethodId} {args : Array Value} {below : List Frame} {meth : Method} {c : Code} {T : State} {locs : List Loc} {cells slots n0 : Nat} {h0 h1 : Heap} (hx : p.tables.exec = Jvm.exec) (hby : c.code = code) (hml : c.maxLocals = 11) (hrt : meth.sig.returnType = some .boolean) (hlk : meth.locks = false) (hnm : meth.name = "law") {vm0 vmE : Vm} {k0 : Nat} (hZ : Z.Warmed39 vm0) (hown : vm0.findClass "com/example/vouchsafe/vouchsafe/message/NameIdPolicyAcceptsPinLaw" = some m.cls) (X : Stand p l e room_1 (s.setVm vm0) m args below meth c T locs cells slots) (e0 : T.heap = h1) (N : Fr n0 locs) (hcells : cells ≤ 16) (hslots : slots ≤ 254) (O : Old Z n0 h1) (hS : s.Since vm0 k0) (hk0 : k0 ≤ h1.size) (C0 : CHr Z EL vmE h0 vm0 h1) (CS : Sta Z Z.heap "java/lang/String" "COMPACT_STRINGS" "Z" (.int cz)) (SE : Sta Z Z.heap "java/util/Optional" "EMPTY" "Ljava/util/Optional;" (.ref em)) (EE : Exa Z Z.heap em "java/util/Optional") (FE : Fld Z Z.heap em "java/util/Optional" "value" "Ljava/lang/Object;" .null) (ST1 : Sta Z Z.heap "java/lang/Boolean" "TRUE" "Ljava/lang/Boolean;" (.ref bt)) (ST0 : Sta Z Z.heap "java/lang/Boolean" "FALSE" "Ljava/lang/Boolean;" (.ref bf)) (pf0 : Exa Z h1 fo "java/util/Optional") (pf1 : Fld Z h1 fo "java/util/Optional" "value" "Ljava/lang/Object;" (.ref sA)) (pf2 : Exa Z h1 sA "java/lang/String") (pf3 : Fld Z h1 sA "java/lang/String" "value" "[B" (.ref wA)) (pf4 : Fld Z h1 sA "java/lang/String" "coder" "B" (.int (0 : Int32))) (pf5 : Arv Z h1 wA kA .byte NA vA (.int (0 : Int32))) (pf6 : Exa Z h1 xr_q2 "java/lang/String") (pf7 : Fld Z h1 xr_q2 "java/lang/String" "value" "[B" (.ref xtb_q2)) (pf8 : Fld Z h1 xr_q2 "java/lang/String" "coder" "B" (.int (0 : Int32))) (pf9 : Arv Z h1 xtb_q2 xkt_q2 .byte xN1_q2 xvs_q2 (.int (0 : Int32))) (hcz : ¬ cz = (0 : Int32)) (hf0 : ¬ (fk = (0 : Int32))) (hf1 : ¬ (fk = (1 : Int32))) (codA : StrChars.Road.CodA (drw x0) 0 NA vA) (cq1 : nk = (0 : Int32)) (pq2_6 : StrChars.Road.CodA (drw x1) 0 xN1_q2 xvs_q2) (cn1 : n0 ≤ xr_q2) :
    GoesW p e below s room_1.cells room_1.slots n0 (fun v vm h => (fun vv hh => vv = some (.int (1 : Int32))) v h ∧ CHr Z EL vmE h0 vm h) (T.setTop (mkF m 143 #[.val (.int x0), .val (.int x1), .val (.int x2), .val (.int fk), .val (.int nk), .val (.int ak), .val (.ref fo), .val (.ref al), .val (.ref xr_q2), .unset, .unset] [])) := by
  have zO := O.le
  have lt_fo := lt_nat pf0.lt
  have lt_sA := lt_nat pf2.lt
  have lt_wA := lt_nat pf5.lt
  have lt_xr_q2 := lt_nat pf6.lt
  have lt_xtb_q2 := lt_nat pf9.lt
  show GoesW _ _ _ _ _ _ _ _ (T.setTop (mkF m 143 #[.val (.int x0), .val (.int x1), .val (.int x2), .val (.int fk), .val (.int nk), .val (.int ak), .val (.ref fo), .val (.ref al), .val (.ref xr_q2), .unset, .unset] []))
  refine GoesW.via (fun _ k => XS.iloadN X.here hx rfl (hb hby at_143) rfl k) ?_
  show GoesW _ _ _ _ _ _ _ _ (T.setTop (mkF m 144 #[.val (.int x0), .val (.int x1), .val (.int x2), .val (.int fk), .val (.int nk), .val (.int ak), .val (.ref fo), .val (.ref al), .val (.ref xr_q2), .unset, .unset] [(.int fk)]))
  refine GoesW.via (fun _ k => XS.ifNo X.here hx rfl (hb hby at_144) rfl (XT.i0_eq_f hf0) k) ?_
  show GoesW _ _ _ _ _ _ _ _ (T.setTop (mkF m 147 #[.val (.int x0), .val (.int x1), .val (.int x2), .val (.int fk), .val (.int nk), .val (.int ak), .val (.ref fo), .val (.ref al), .val (.ref xr_q2), .unset, .unset] []))
  refine GoesW.via (fun _ k => XS.iloadN X.here hx rfl (hb hby at_147) rfl k) ?_
  show GoesW _ _ _ _ _ _ _ _ (T.setTop (mkF m 148 #[.val (.int x0), .val (.int x1), .val (.int x2), .val (.int fk), .val (.int nk), .val (.int ak), .val (.ref fo), .val (.ref al), .val (.ref xr_q2), .unset, .unset] [(.int fk)]))
  refine GoesW.via (fun _ k => XT.iconstV X.here hx rfl (1 : Int32) (hb hby at_148) (by decide) k) ?_
  show GoesW _ _ _ _ _ _ _ _ (T.setTop (mkF m 149 #[.val (.int x0), .val (.int x1), .val (.int x2), .val (.int fk), .val (.int nk), .val (.int ak), .val (.ref fo), .val (.ref al), .val (.ref xr_q2), .unset, .unset] [(.int (1 : Int32)), (.int fk)]))
  refine GoesW.via (fun _ k => XS.icmpYes X.here hx rfl (pc0 := 149) (pc' := 158) rfl (hb hby at_149) rfl (XT.ii_ne_t hf1) (by decide) (by decide) k) ?_
  show GoesW _ _ _ _ _ _ _ _ (T.setTop (mkF m 158 #[.val (.int x0), .val (.int x1), .val (.int x2), .val (.int fk), .val (.int nk), .val (.int ak), .val (.ref fo), .val (.ref al), .val (.ref xr_q2), .unset, .unset] []))
  refine GoesW.via (fun _ k => XS.iload X.here hx rfl (hb hby at_158) rfl k) ?_
  show GoesW _ _ _ _ _ _ _ _ (T.setTop (mkF m 160 #[.val (.int x0), .val (.int x1), .val (.int x2), .val (.int fk), .val (.int nk), .val (.int ak), .val (.ref fo), .val (.ref al), .val (.ref xr_q2), .unset, .unset] [(.int nk)]))
  refine GoesW.via (fun _ k => XS.ifNo X.here hx rfl (hb hby at_160) rfl (XT.i0_ne_f cq1) k) ?_
  show GoesW _ _ _ _ _ _ _ _ (T.setTop (mkF m 163 #[.val (.int x0), .val (.int x1), .val (.int x2), .val (.int fk), .val (.int nk), .val (.int ak), .val (.ref fo), .val (.ref al), .val (.ref xr_q2), .unset, .unset] []))
  refine GoesW.via (fun _ k => XS.iloadN X.here hx rfl (hb hby at_163) rfl k) ?_
  show GoesW _ _ _ _ _ _ _ _ (T.setTop (mkF m 164 #[.val (.int x0), .val (.int x1), .val (.int x2), .val (.int fk), .val (.int nk), .val (.int ak), .val (.ref fo), .val (.ref al), .val (.ref xr_q2), .unset, .unset] [(.int x0)]))
  refine GoesW.via (fun _ k => XS.iloadN X.here hx rfl (hb hby at_164) rfl k) ?_
  show GoesW _ _ _ _ _ _ _ _ (T.setTop (mkF m 165 #[.val (.int x0), .val (.int x1), .val (.int x2), .val (.int fk), .val (.int nk), .val (.int ak), .val (.ref fo), .val (.ref al), .val (.ref xr_q2), .unset, .unset] [(.int x1), (.int x0)]))
  obtain ⟨vq9, Tq9, Lq9, Xq9, qq9, nq9, stq9⟩ := callSt X hx hZ hown (sameD l Z aw hw x0 x1 O) (W_47 hw) (W_48 hw) (W_2 hw) (W_49 hw) (by decide) e0 (by decide) (W := 0) (by decide) (by show _ + 0 ≤ 40; omega) (by show _ + 0 ≤ 5312; omega) (g := (mkF m 165 #[.val (.int x0), .val (.int x1), .val (.int x2), .val (.int fk), .val (.int nk), .val (.int ak), .val (.ref fo), .val (.ref al), .val (.ref xr_q2), .unset, .unset] [(.int x1), (.int x0)])) rfl (by rw [hml]; rfl) (argsL := [(.int x0), (.int x1)]) (rest := []) rfl (lenOf pd_24 rfl) rfl (by show 2 * 0 + _ ≤ _; exact Nat.le_of_eq rfl) (hb hby at_165)
  dsimp only at Xq9
  obtain ⟨rfl, pq9_0⟩ := qq9
  have Nq9 := Fr.app N nq9
  refine GoesW.via stq9 ?_
  show GoesW _ _ _ _ _ _ _ _ (Tq9.setTop (mkF m 168 #[.val (.int x0), .val (.int x1), .val (.int x2), .val (.int fk), .val (.int nk), .val (.int ak), .val (.ref fo), .val (.ref al), .val (.ref xr_q2), .unset, .unset] [(.int (if drw x0 = drw x1 then (1 : Int32) else 0))]))
  refine GoesW.via (fun _ k => XS.istore Xq9.here hx rfl (hb hby at_168) rfl (l' := #[.val (.int x0), .val (.int x1), .val (.int x2), .val (.int fk), .val (.int nk), .val (.int ak), .val (.ref fo), .val (.ref al), .val (.ref xr_q2), .val (.int (if drw x0 = drw x1 then (1 : Int32) else 0)), .unset]) rfl k) ?_
  show GoesW _ _ _ _ _ _ _ _ (Tq9.setTop (mkF m 170 #[.val (.int x0), .val (.int x1), .val (.int x2), .val (.int fk), .val (.int nk), .val (.int ak), .val (.ref fo), .val (.ref al), .val (.ref xr_q2), .val (.int (if drw x0 = drw x1 then (1 : Int32) else 0)), .unset] []))
  refine GoesW.via (fun _ k => XS.goto Xq9.here hx rfl (pc0 := 170) (pc' := 206) rfl (hb hby at_170) (by decide) (by decide) k) ?_
  show GoesW _ _ _ _ _ _ _ _ (Tq9.setTop (mkF m 206 #[.val (.int x0), .val (.int x1), .val (.int x2), .val (.int fk), .val (.int nk), .val (.int ak), .val (.ref fo), .val (.ref al), .val (.ref xr_q2), .val (.int (if drw x0 = drw x1 then (1 : Int32) else 0)), .unset] []))
  obtain ⟨Tq10, hq10, Xq10, eq10, Eq10, Aq10, Dq10, -, stq10⟩ := newO Xq9 hx hZ hown (W_50 hw) (W_51 hw) (W_52 hw) pq9_0 (g := (mkF m 206 #[.val (.int x0), .val (.int x1), .val (.int x2), .val (.int fk), .val (.int nk), .val (.int ak), .val (.ref fo), .val (.ref al), .val (.ref xr_q2), .val (.int (if drw x0 = drw x1 then (1 : Int32) else 0)), .unset] [])) rfl (hb hby at_206) (by show _ + 1 ≤ 40; omega) (by show _ + 2 ≤ 5312; omega)
  obtain ⟨bq10, gq10⟩ : ∃ z, z = h1.size := ⟨_, rfl⟩
  rw [← gq10] at Aq10 Dq10 stq10
  have zq10 := Eq10.1
  have Oq10 := O.ext Eq10
  have Cq10 := C0.trans (CHr.ext Eq10 C0.1)
  have lq10 := lt_nat Aq10.lt
  refine GoesW.via stq10 ?_
  show GoesW _ _ _ _ _ _ _ _ (Tq10.setTop (mkF m 209 #[.val (.int x0), .val (.int x1), .val (.int x2), .val (.int fk), .val (.int nk), .val (.int ak), .val (.ref fo), .val (.ref al), .val (.ref xr_q2), .val (.int (if drw x0 = drw x1 then (1 : Int32) else 0)), .unset] [(.ref bq10)]))
  refine GoesW.via (fun _ k => XS.dup Xq10.here hx rfl (hb hby at_209) rfl rfl k) ?_
  show GoesW _ _ _ _ _ _ _ _ (Tq10.setTop (mkF m 210 #[.val (.int x0), .val (.int x1), .val (.int x2), .val (.int fk), .val (.int nk), .val (.int ak), .val (.ref fo), .val (.ref al), .val (.ref xr_q2), .val (.int (if drw x0 = drw x1 then (1 : Int32) else 0)), .unset] [(.ref bq10), (.ref bq10)]))
  refine GoesW.via (fun _ k => XS.aload Xq10.here hx rfl (hb hby at_210) rfl rfl k) ?_
  show GoesW _ _ _ _ _ _ _ _ (Tq10.setTop (mkF m 212 #[.val (.int x0), .val (.int x1), .val (.int x2), .val (.int fk), .val (.int nk), .val (.int ak), .val (.ref fo), .val (.ref al), .val (.ref xr_q2), .val (.int (if drw x0 = drw x1 then (1 : Int32) else 0)), .unset] [(.ref fo), (.ref bq10), (.ref bq10)]))
  refine GoesW.via (fun _ k => XS.aload Xq10.here hx rfl (hb hby at_212) rfl rfl k) ?_
  show GoesW _ _ _ _ _ _ _ _ (Tq10.setTop (mkF m 214 #[.val (.int x0), .val (.int x1), .val (.int x2), .val (.int fk), .val (.int nk), .val (.int ak), .val (.ref fo), .val (.ref al), .val (.ref xr_q2), .val (.int (if drw x0 = drw x1 then (1 : Int32) else 0)), .unset] [(.ref al), (.ref fo), (.ref bq10), (.ref bq10)]))
  obtain ⟨vq11, Tq11, Lq11, Xq11, Sq11, hZq11, hownq11, Rq11, qq11, nq11, stq11⟩ := callSpW Xq10 hx hZ hown hS (by rw [eq10]; omega) (ew hw) Cq10.1 (allS (lt_ok (by omega)) all0) (allS (Safe.exa hZ.alike Aq10 (by decide) (by decide)) all0) (npInit l Z aw hw bq10 fo al Oq10 Aq10 (Dq10 (Or.inr (W_68 hw)) (ty := (.object "java/util/Optional")) (by decide)) (Dq10 (Or.inr (W_70 hw)) (ty := (.object "java/util/Optional")) (by decide)) (by omega)) rfl (W_53 hw) (W_54 hw) (W_52 hw) (W_55 hw) (by decide) eq10 (by decide) (W := 1) (by decide) (by show _ + 4 ≤ 40; omega) (by show _ + 80 ≤ 5312; omega) (g := (mkF m 214 #[.val (.int x0), .val (.int x1), .val (.int x2), .val (.int fk), .val (.int nk), .val (.int ak), .val (.ref fo), .val (.ref al), .val (.ref xr_q2), .val (.int (if drw x0 = drw x1 then (1 : Int32) else 0)), .unset] [(.ref al), (.ref fo), (.ref bq10), (.ref bq10)])) rfl (by rw [hml]; rfl) (a := bq10) (argsL := [(.ref fo), (.ref al)]) (rest := [(.ref bq10)]) rfl (lenOf pd_20 rfl) rfl (by show 2 * 0 + _ ≤ _; exact Nat.le_of_eq rfl) (hb hby at_214)
  dsimp only at Xq11
  obtain ⟨rfl, pq11_0, pq11_1, pq11_2⟩ := qq11
  have Nq11 := Fr.app Nq9 nq11
  have zq11 := pq11_0.1
  have Oq11 := Oq10.keep pq11_0 (allS (by omega) all0)
  have Cq11 := Cq10.trans Rq11
  have ltpq11_1 := lt_nat pq11_1.lt
  refine GoesW.via stq11 ?_
  show GoesW _ _ _ _ _ _ _ _ (Tq11.setTop (mkF m 217 #[.val (.int x0), .val (.int x1), .val (.int x2), .val (.int fk), .val (.int nk), .val (.int ak), .val (.ref fo), .val (.ref al), .val (.ref xr_q2), .val (.int (if drw x0 = drw x1 then (1 : Int32) else 0)), .unset] [(.ref bq10)]))
  refine GoesW.via (fun _ k => XS.astore Xq11.here hx rfl (hb hby at_217) rfl rfl (l' := #[.val (.int x0), .val (.int x1), .val (.int x2), .val (.int fk), .val (.int nk), .val (.int ak), .val (.ref fo), .val (.ref al), .val (.ref xr_q2), .val (.int (if drw x0 = drw x1 then (1 : Int32) else 0)), .val (.ref bq10)]) rfl k) ?_
  show GoesW _ _ _ _ _ _ _ _ (Tq11.setTop (mkF m 219 #[.val (.int x0), .val (.int x1), .val (.int x2), .val (.int fk), .val (.int nk), .val (.int ak), .val (.ref fo), .val (.ref al), .val (.ref xr_q2), .val (.int (if drw x0 = drw x1 then (1 : Int32) else 0)), .val (.ref bq10)] []))
  refine GoesW.via (fun _ k => XS.aload Xq11.here hx rfl (hb hby at_219) rfl rfl k) ?_
  show GoesW _ _ _ _ _ _ _ _ (Tq11.setTop (mkF m 221 #[.val (.int x0), .val (.int x1), .val (.int x2), .val (.int fk), .val (.int nk), .val (.int ak), .val (.ref fo), .val (.ref al), .val (.ref xr_q2), .val (.int (if drw x0 = drw x1 then (1 : Int32) else 0)), .val (.ref bq10)] [(.ref bq10)]))
  refine GoesW.via (fun _ k => XS.aload Xq11.here hx rfl (hb hby at_221) rfl rfl k) ?_
  show GoesW _ _ _ _ _ _ _ _ (Tq11.setTop (mkF m 223 #[.val (.int x0), .val (.int x1), .val (.int x2), .val (.int fk), .val (.int nk), .val (.int ak), .val (.ref fo), .val (.ref al), .val (.ref xr_q2), .val (.int (if drw x0 = drw x1 then (1 : Int32) else 0)), .val (.ref bq10)] [(.ref xr_q2), (.ref bq10)]))
  have fq12 : Exa Z Tq11.heap fo "java/util/Optional" := ((pf0.ext Eq10).keep pq11_0)
  have fq13 : Fld Z Tq11.heap fo "java/util/Optional" "value" "Ljava/lang/Object;" (.ref sA) := ((pf1.ext Eq10).keep pq11_0 (ninS (ne_ok (by omega)) nin0))
  have fq14 : Exa Z Tq11.heap sA "java/lang/String" := ((pf2.ext Eq10).keep pq11_0)
  have fq15 : Fld Z Tq11.heap sA "java/lang/String" "value" "[B" (.ref wA) := ((pf3.ext Eq10).keep pq11_0 (ninS (ne_ok (by omega)) nin0))
  have fq16 : Fld Z Tq11.heap sA "java/lang/String" "coder" "B" (.int (0 : Int32)) := ((pf4.ext Eq10).keep pq11_0 (ninS (ne_ok (by omega)) nin0))
  have fq17 : Arv Z Tq11.heap wA kA .byte NA vA (.int (0 : Int32)) := ((pf5.ext Eq10).keep pq11_0 (ninS (ne_ok (by omega)) nin0))
  have fq18 : Exa Z Tq11.heap xr_q2 "java/lang/String" := ((pf6.ext Eq10).keep pq11_0)
  have fq19 : Fld Z Tq11.heap xr_q2 "java/lang/String" "value" "[B" (.ref xtb_q2) := ((pf7.ext Eq10).keep pq11_0 (ninS (ne_ok (by omega)) nin0))
  have fq20 : Fld Z Tq11.heap xr_q2 "java/lang/String" "coder" "B" (.int (0 : Int32)) := ((pf8.ext Eq10).keep pq11_0 (ninS (ne_ok (by omega)) nin0))
  have fq21 : Arv Z Tq11.heap xtb_q2 xkt_q2 .byte xN1_q2 xvs_q2 (.int (0 : Int32)) := ((pf9.ext Eq10).keep pq11_0 (ninS (ne_ok (by omega)) nin0))
  obtain ⟨vq22, Tq22, Lq22, Xq22, Sq22, hZq22, hownq22, Rq22, qq22, nq22, stq22⟩ := callViW Xq11 hx hZq11 hownq11 Sq11 (by omega) (ew hw) Cq11.1 all0 all0 (accS l Z aw hw bq10 fo sA wA kA NA vA (drw x0) xr_q2 xtb_q2 xkt_q2 xN1_q2 xvs_q2 (drw x1) cz Oq11 CS pq11_2 fq12 fq13 fq14 fq15 fq16 fq17 fq18 fq19 fq20 fq21 hcz codA (up65 (drw_rg _)) (drw_ln _) pq2_6 (up65 (drw_rg _)) (drw_ln _)) (W_71 hw) (W_72 hw) (notFace_of_selects (args := #[]) (mvT hZq11 (W_74 hw))) (W_74 hw) (W_73 hw) (W_52 hw) (W_75 hw) (by decide) rfl pq11_1 (by decide) (W := 0) (by decide) (by show _ + 2 ≤ 40; omega) (by show _ + 216 ≤ 5312; omega) (g := (mkF m 223 #[.val (.int x0), .val (.int x1), .val (.int x2), .val (.int fk), .val (.int nk), .val (.int ak), .val (.ref fo), .val (.ref al), .val (.ref xr_q2), .val (.int (if drw x0 = drw x1 then (1 : Int32) else 0)), .val (.ref bq10)] [(.ref xr_q2), (.ref bq10)])) rfl (by rw [hml]; rfl) (a := bq10) (argsL := [(.ref xr_q2)]) (rest := []) rfl (lenOf pd_21 rfl) rfl (by show 2 * 0 + _ ≤ _; exact Nat.le_of_eq rfl) (hb hby at_223)
  dsimp only at Xq22
  obtain ⟨rfl, pq22_0⟩ := qq22
  have Nq22 := Fr.app Nq11 nq22
  have zq22 := pq22_0.1
  have Oq22 := Oq11.keep pq22_0 all0
  have Cq22 := Cq11.trans Rq22
  refine GoesW.via stq22 ?_
  show GoesW _ _ _ _ _ _ _ _ (Tq22.setTop (mkF m 226 #[.val (.int x0), .val (.int x1), .val (.int x2), .val (.int fk), .val (.int nk), .val (.int ak), .val (.ref fo), .val (.ref al), .val (.ref xr_q2), .val (.int (if drw x0 = drw x1 then (1 : Int32) else 0)), .val (.ref bq10)] [(.int (if (drw x0) = LIT_0 ∨ (drw x0) = (drw x1) then (1 : Int32) else 0))]))
  refine GoesW.via (fun _ k => XS.iload Xq22.here hx rfl (hb hby at_226) rfl k) ?_
  show GoesW _ _ _ _ _ _ _ _ (Tq22.setTop (mkF m 228 #[.val (.int x0), .val (.int x1), .val (.int x2), .val (.int fk), .val (.int nk), .val (.int ak), .val (.ref fo), .val (.ref al), .val (.ref xr_q2), .val (.int (if drw x0 = drw x1 then (1 : Int32) else 0)), .val (.ref bq10)] [(.int (if drw x0 = drw x1 then (1 : Int32) else 0)), (.int (if (drw x0) = LIT_0 ∨ (drw x0) = (drw x1) then (1 : Int32) else 0))]))
  refine GoesW.via (fun _ k => XS.icmpNo Xq22.here hx rfl (hb hby at_228) rfl (XT.ii_ne_f (or_ite (drw_urn _))) k) ?_
  show GoesW _ _ _ _ _ _ _ _ (Tq22.setTop (mkF m 231 #[.val (.int x0), .val (.int x1), .val (.int x2), .val (.int fk), .val (.int nk), .val (.int ak), .val (.ref fo), .val (.ref al), .val (.ref xr_q2), .val (.int (if drw x0 = drw x1 then (1 : Int32) else 0)), .val (.ref bq10)] []))
  refine GoesW.via (fun _ k => XT.iconstV Xq22.here hx rfl (1 : Int32) (hb hby at_231) (by decide) k) ?_
  show GoesW _ _ _ _ _ _ _ _ (Tq22.setTop (mkF m 232 #[.val (.int x0), .val (.int x1), .val (.int x2), .val (.int fk), .val (.int nk), .val (.int ak), .val (.ref fo), .val (.ref al), .val (.ref xr_q2), .val (.int (if drw x0 = drw x1 then (1 : Int32) else 0)), .val (.ref bq10)] [(.int (1 : Int32))]))
  refine GoesW.via (fun _ k => XS.goto Xq22.here hx rfl (pc0 := 232) (pc' := 236) rfl (hb hby at_232) (by decide) (by decide) k) ?_
  show GoesW _ _ _ _ _ _ _ _ (Tq22.setTop (mkF m 236 #[.val (.int x0), .val (.int x1), .val (.int x2), .val (.int fk), .val (.int nk), .val (.int ak), .val (.ref fo), .val (.ref al), .val (.ref xr_q2), .val (.int (if drw x0 = drw x1 then (1 : Int32) else 0)), .val (.ref bq10)] [(.int (1 : Int32))]))
  refine goRetNW Xq22 hx hrt (by simp) hlk Nq22 Sq22 (by omega) (by show _ ≤ 40; omega) (by show _ ≤ 5312; omega) (hb hby at_236) ?_
  intro hWm
  refine ⟨?_, Cq22.trans (CHv.at Xq22 hZq22 (ew hw) Cq22.1)⟩
  exact rfl
set_option maxRecDepth 65536 in
set_option maxHeartbeats 40000000 in
theorem law_c22 (l : Launch) (Z : State) (aw : Array Value) (hw : ∀ d ∈ tables_1, d.before aw Z = true) (x0 : Int32) (x1 : Int32) (x2 : Int32) (fk : Int32) (nk : Int32) (ak : Int32) (em : Nat) (bt : Nat) (bf : Nat) (cz : Int32) (fo : Nat) (sA : Nat) (wA : Nat) (kA : ClassId) (NA : Int32) (vA : List Value) (al : Nat) {p : Program} {e : Env} {s : State} {m : MethodId} {args : Array Value} {below : List Frame} {meth : Method} {c : Code} {T : State} {locs : List Loc} {cells slots n0 : Nat} {h0 h1 : Heap} (hx : p.tables.exec = Jvm.exec) (hby : c.code = code) (hml : c.maxLocals = 11) (hrt : meth.sig.returnType = some .boolean) (hlk : meth.locks = false) (hnm : meth.name = "law") {vm0 vmE : Vm} {k0 : Nat} (hZ : Z.Warmed39 vm0) (hown : vm0.findClass "com/example/vouchsafe/vouchsafe/message/NameIdPolicyAcceptsPinLaw" = some m.cls) (X : Stand p l e room_1 (s.setVm vm0) m args below meth c T locs cells slots) (e0 : T.heap = h1) (N : Fr n0 locs) (hcells : cells ≤ 10) (hslots : slots ≤ 240) (O : Old Z n0 h1) (hS : s.Since vm0 k0) (hk0 : k0 ≤ h1.size) (C0 : CHr Z EL vmE h0 vm0 h1) (CS : Sta Z Z.heap "java/lang/String" "COMPACT_STRINGS" "Z" (.int cz)) (SE : Sta Z Z.heap "java/util/Optional" "EMPTY" "Ljava/util/Optional;" (.ref em)) (EE : Exa Z Z.heap em "java/util/Optional") (FE : Fld Z Z.heap em "java/util/Optional" "value" "Ljava/lang/Object;" .null) (ST1 : Sta Z Z.heap "java/lang/Boolean" "TRUE" "Ljava/lang/Boolean;" (.ref bt)) (ST0 : Sta Z Z.heap "java/lang/Boolean" "FALSE" "Ljava/lang/Boolean;" (.ref bf)) (pf0 : Exa Z h1 fo "java/util/Optional") (pf1 : Fld Z h1 fo "java/util/Optional" "value" "Ljava/lang/Object;" (.ref sA)) (pf2 : Exa Z h1 sA "java/lang/String") (pf3 : Fld Z h1 sA "java/lang/String" "value" "[B" (.ref wA)) (pf4 : Fld Z h1 sA "java/lang/String" "coder" "B" (.int (0 : Int32))) (pf5 : Arv Z h1 wA kA .byte NA vA (.int (0 : Int32))) (hcz : ¬ cz = (0 : Int32)) (hf0 : ¬ (fk = (0 : Int32))) (hf1 : ¬ (fk = (1 : Int32))) (codA : StrChars.Road.CodA (drw x0) 0 NA vA) (cq1 : ¬ (nk = (0 : Int32))) (cq9 : nk = (1 : Int32)) :
    GoesW p e below s room_1.cells room_1.slots n0 (fun v vm h => (fun vv hh => vv = some (.int (1 : Int32))) v h ∧ CHr Z EL vmE h0 vm h) (T.setTop (mkF m 114 #[.val (.int x0), .val (.int x1), .val (.int x2), .val (.int fk), .val (.int nk), .val (.int ak), .val (.ref fo), .val (.ref al), .unset, .unset, .unset] [(.int x0)])) := by
  have zO := O.le
  have lt_fo := lt_nat pf0.lt
  have lt_sA := lt_nat pf2.lt
  have lt_wA := lt_nat pf5.lt
  show GoesW _ _ _ _ _ _ _ _ (T.setTop (mkF m 114 #[.val (.int x0), .val (.int x1), .val (.int x2), .val (.int fk), .val (.int nk), .val (.int ak), .val (.ref fo), .val (.ref al), .unset, .unset, .unset] [(.int x0)]))
  obtain ⟨vq10, Tq10, Lq10, Xq10, Sq10, hZq10, hownq10, Rq10, qq10, nq10, stq10⟩ := callStW X hx hZ hown hS (by rw [e0]; omega) (ew hw) C0.1 all0 all0 (drawnC l Z aw hw x0 cz O CS hcz) (W_0 hw) (W_1 hw) (W_2 hw) (W_3 hw) (by decide) e0 (by decide) (W := 0) (by decide) (by show _ + 6 ≤ 40; omega) (by show _ + 14 ≤ 5312; omega) (g := (mkF m 114 #[.val (.int x0), .val (.int x1), .val (.int x2), .val (.int fk), .val (.int nk), .val (.int ak), .val (.ref fo), .val (.ref al), .unset, .unset, .unset] [(.int x0)])) rfl (by rw [hml]; rfl) (argsL := [(.int x0)]) (rest := []) rfl (lenOf pd_19 rfl) rfl (by show 2 * 0 + _ ≤ _; exact Nat.le_of_eq rfl) (hb hby at_114)
  dsimp only at Xq10
  obtain ⟨xr_q10, xtb_q10, xkt_q10, xN1_q10, xvs_q10, rfl, pq10_0, pq10_1, pq10_2, pq10_3, pq10_4, pq10_5, pq10_6⟩ := qq10
  have Nq10 := Fr.app N nq10
  have zq10 := pq10_1.1
  have Oq10 := O.keep pq10_1 all0
  have Cq10 := C0.trans Rq10
  have ltpq10_2 := lt_nat pq10_2.lt
  have ltpq10_5 := lt_nat pq10_5.lt
  refine GoesW.via stq10 ?_
  show GoesW _ _ _ _ _ _ _ _ (Tq10.setTop (mkF m 117 #[.val (.int x0), .val (.int x1), .val (.int x2), .val (.int fk), .val (.int nk), .val (.int ak), .val (.ref fo), .val (.ref al), .unset, .unset, .unset] [(.ref xr_q10)]))
  refine GoesW.via (fun _ k => XS.astore Xq10.here hx rfl (hb hby at_117) rfl rfl (l' := #[.val (.int x0), .val (.int x1), .val (.int x2), .val (.int fk), .val (.int nk), .val (.int ak), .val (.ref fo), .val (.ref al), .val (.ref xr_q10), .unset, .unset]) rfl k) ?_
  show GoesW _ _ _ _ _ _ _ _ (Tq10.setTop (mkF m 119 #[.val (.int x0), .val (.int x1), .val (.int x2), .val (.int fk), .val (.int nk), .val (.int ak), .val (.ref fo), .val (.ref al), .val (.ref xr_q10), .unset, .unset] []))
  refine GoesW.via (fun _ k => XS.goto Xq10.here hx rfl (pc0 := 119) (pc' := 143) rfl (hb hby at_119) (by decide) (by decide) k) ?_
  show GoesW _ _ _ _ _ _ _ _ (Tq10.setTop (mkF m 143 #[.val (.int x0), .val (.int x1), .val (.int x2), .val (.int fk), .val (.int nk), .val (.int ak), .val (.ref fo), .val (.ref al), .val (.ref xr_q10), .unset, .unset] []))
  refine GoesW.via (fun _ k => XS.iloadN Xq10.here hx rfl (hb hby at_143) rfl k) ?_
  show GoesW _ _ _ _ _ _ _ _ (Tq10.setTop (mkF m 144 #[.val (.int x0), .val (.int x1), .val (.int x2), .val (.int fk), .val (.int nk), .val (.int ak), .val (.ref fo), .val (.ref al), .val (.ref xr_q10), .unset, .unset] [(.int fk)]))
  refine GoesW.via (fun _ k => XS.ifNo Xq10.here hx rfl (hb hby at_144) rfl (XT.i0_eq_f hf0) k) ?_
  show GoesW _ _ _ _ _ _ _ _ (Tq10.setTop (mkF m 147 #[.val (.int x0), .val (.int x1), .val (.int x2), .val (.int fk), .val (.int nk), .val (.int ak), .val (.ref fo), .val (.ref al), .val (.ref xr_q10), .unset, .unset] []))
  refine GoesW.via (fun _ k => XS.iloadN Xq10.here hx rfl (hb hby at_147) rfl k) ?_
  show GoesW _ _ _ _ _ _ _ _ (Tq10.setTop (mkF m 148 #[.val (.int x0), .val (.int x1), .val (.int x2), .val (.int fk), .val (.int nk), .val (.int ak), .val (.ref fo), .val (.ref al), .val (.ref xr_q10), .unset, .unset] [(.int fk)]))
  refine GoesW.via (fun _ k => XT.iconstV Xq10.here hx rfl (1 : Int32) (hb hby at_148) (by decide) k) ?_
  show GoesW _ _ _ _ _ _ _ _ (Tq10.setTop (mkF m 149 #[.val (.int x0), .val (.int x1), .val (.int x2), .val (.int fk), .val (.int nk), .val (.int ak), .val (.ref fo), .val (.ref al), .val (.ref xr_q10), .unset, .unset] [(.int (1 : Int32)), (.int fk)]))
  refine GoesW.via (fun _ k => XS.icmpYes Xq10.here hx rfl (pc0 := 149) (pc' := 158) rfl (hb hby at_149) rfl (XT.ii_ne_t hf1) (by decide) (by decide) k) ?_
  show GoesW _ _ _ _ _ _ _ _ (Tq10.setTop (mkF m 158 #[.val (.int x0), .val (.int x1), .val (.int x2), .val (.int fk), .val (.int nk), .val (.int ak), .val (.ref fo), .val (.ref al), .val (.ref xr_q10), .unset, .unset] []))
  refine GoesW.via (fun _ k => XS.iload Xq10.here hx rfl (hb hby at_158) rfl k) ?_
  show GoesW _ _ _ _ _ _ _ _ (Tq10.setTop (mkF m 160 #[.val (.int x0), .val (.int x1), .val (.int x2), .val (.int fk), .val (.int nk), .val (.int ak), .val (.ref fo), .val (.ref al), .val (.ref xr_q10), .unset, .unset] [(.int nk)]))
  refine GoesW.via (fun _ k => XS.ifYes Xq10.here hx rfl (pc0 := 160) (pc' := 173) rfl (hb hby at_160) rfl (XT.i0_ne_t cq1) (by decide) (by decide) k) ?_
  show GoesW _ _ _ _ _ _ _ _ (Tq10.setTop (mkF m 173 #[.val (.int x0), .val (.int x1), .val (.int x2), .val (.int fk), .val (.int nk), .val (.int ak), .val (.ref fo), .val (.ref al), .val (.ref xr_q10), .unset, .unset] []))
  refine GoesW.via (fun _ k => XS.iload Xq10.here hx rfl (hb hby at_173) rfl k) ?_
  show GoesW _ _ _ _ _ _ _ _ (Tq10.setTop (mkF m 175 #[.val (.int x0), .val (.int x1), .val (.int x2), .val (.int fk), .val (.int nk), .val (.int ak), .val (.ref fo), .val (.ref al), .val (.ref xr_q10), .unset, .unset] [(.int nk)]))
  refine GoesW.via (fun _ k => XT.iconstV Xq10.here hx rfl (1 : Int32) (hb hby at_175) (by decide) k) ?_
  show GoesW _ _ _ _ _ _ _ _ (Tq10.setTop (mkF m 176 #[.val (.int x0), .val (.int x1), .val (.int x2), .val (.int fk), .val (.int nk), .val (.int ak), .val (.ref fo), .val (.ref al), .val (.ref xr_q10), .unset, .unset] [(.int (1 : Int32)), (.int nk)]))
  refine GoesW.via (fun _ k => XS.icmpNo Xq10.here hx rfl (hb hby at_176) rfl (XT.ii_ne_f cq9) k) ?_
  show GoesW _ _ _ _ _ _ _ _ (Tq10.setTop (mkF m 179 #[.val (.int x0), .val (.int x1), .val (.int x2), .val (.int fk), .val (.int nk), .val (.int ak), .val (.ref fo), .val (.ref al), .val (.ref xr_q10), .unset, .unset] []))
  refine GoesW.via (fun _ k => XT.iconstV Xq10.here hx rfl (1 : Int32) (hb hby at_179) (by decide) k) ?_
  show GoesW _ _ _ _ _ _ _ _ (Tq10.setTop (mkF m 180 #[.val (.int x0), .val (.int x1), .val (.int x2), .val (.int fk), .val (.int nk), .val (.int ak), .val (.ref fo), .val (.ref al), .val (.ref xr_q10), .unset, .unset] [(.int (1 : Int32))]))
  refine GoesW.via (fun _ k => XS.istore Xq10.here hx rfl (hb hby at_180) rfl (l' := #[.val (.int x0), .val (.int x1), .val (.int x2), .val (.int fk), .val (.int nk), .val (.int ak), .val (.ref fo), .val (.ref al), .val (.ref xr_q10), .val (.int (1 : Int32)), .unset]) rfl k) ?_
  show GoesW _ _ _ _ _ _ _ _ (Tq10.setTop (mkF m 182 #[.val (.int x0), .val (.int x1), .val (.int x2), .val (.int fk), .val (.int nk), .val (.int ak), .val (.ref fo), .val (.ref al), .val (.ref xr_q10), .val (.int (1 : Int32)), .unset] []))
  refine GoesW.via (fun _ k => XS.goto Xq10.here hx rfl (pc0 := 182) (pc' := 206) rfl (hb hby at_182) (by decide) (by decide) k) ?_
  show GoesW _ _ _ _ _ _ _ _ (Tq10.setTop (mkF m 206 #[.val (.int x0), .val (.int x1), .val (.int x2), .val (.int fk), .val (.int nk), .val (.int ak), .val (.ref fo), .val (.ref al), .val (.ref xr_q10), .val (.int (1 : Int32)), .unset] []))
  obtain ⟨Tq11, hq11, Xq11, eq11, Eq11, Aq11, Dq11, -, stq11⟩ := newO Xq10 hx hZq10 hownq10 (W_50 hw) (W_51 hw) (W_52 hw) rfl (g := (mkF m 206 #[.val (.int x0), .val (.int x1), .val (.int x2), .val (.int fk), .val (.int nk), .val (.int ak), .val (.ref fo), .val (.ref al), .val (.ref xr_q10), .val (.int (1 : Int32)), .unset] [])) rfl (hb hby at_206) (by show _ + 1 ≤ 40; omega) (by show _ + 2 ≤ 5312; omega)
  obtain ⟨bq11, gq11⟩ : ∃ z, z = Tq10.heap.size := ⟨_, rfl⟩
  rw [← gq11] at Aq11 Dq11 stq11
  have zq11 := Eq11.1
  have Oq11 := Oq10.ext Eq11
  have Cq11 := Cq10.trans (CHr.ext Eq11 Cq10.1)
  have lq11 := lt_nat Aq11.lt
  refine GoesW.via stq11 ?_
  show GoesW _ _ _ _ _ _ _ _ (Tq11.setTop (mkF m 209 #[.val (.int x0), .val (.int x1), .val (.int x2), .val (.int fk), .val (.int nk), .val (.int ak), .val (.ref fo), .val (.ref al), .val (.ref xr_q10), .val (.int (1 : Int32)), .unset] [(.ref bq11)]))
  refine GoesW.via (fun _ k => XS.dup Xq11.here hx rfl (hb hby at_209) rfl rfl k) ?_
  show GoesW _ _ _ _ _ _ _ _ (Tq11.setTop (mkF m 210 #[.val (.int x0), .val (.int x1), .val (.int x2), .val (.int fk), .val (.int nk), .val (.int ak), .val (.ref fo), .val (.ref al), .val (.ref xr_q10), .val (.int (1 : Int32)), .unset] [(.ref bq11), (.ref bq11)]))
  refine GoesW.via (fun _ k => XS.aload Xq11.here hx rfl (hb hby at_210) rfl rfl k) ?_
  show GoesW _ _ _ _ _ _ _ _ (Tq11.setTop (mkF m 212 #[.val (.int x0), .val (.int x1), .val (.int x2), .val (.int fk), .val (.int nk), .val (.int ak), .val (.ref fo), .val (.ref al), .val (.ref xr_q10), .val (.int (1 : Int32)), .unset] [(.ref fo), (.ref bq11), (.ref bq11)]))
  refine GoesW.via (fun _ k => XS.aload Xq11.here hx rfl (hb hby at_212) rfl rfl k) ?_
  show GoesW _ _ _ _ _ _ _ _ (Tq11.setTop (mkF m 214 #[.val (.int x0), .val (.int x1), .val (.int x2), .val (.int fk), .val (.int nk), .val (.int ak), .val (.ref fo), .val (.ref al), .val (.ref xr_q10), .val (.int (1 : Int32)), .unset] [(.ref al), (.ref fo), (.ref bq11), (.ref bq11)]))
  obtain ⟨vq12, Tq12, Lq12, Xq12, Sq12, hZq12, hownq12, Rq12, qq12, nq12, stq12⟩ := callSpW Xq11 hx hZq10 hownq10 Sq10 (by rw [eq11]; omega) (ew hw) Cq11.1 (allS (lt_ok (by omega)) all0) (allS (Safe.exa hZq10.alike Aq11 (by decide) (by decide)) all0) (npInit l Z aw hw bq11 fo al Oq11 Aq11 (Dq11 (Or.inr (W_68 hw)) (ty := (.object "java/util/Optional")) (by decide)) (Dq11 (Or.inr (W_70 hw)) (ty := (.object "java/util/Optional")) (by decide)) (by omega)) rfl (W_53 hw) (W_54 hw) (W_52 hw) (W_55 hw) (by decide) eq11 (by decide) (W := 1) (by decide) (by show _ + 4 ≤ 40; omega) (by show _ + 80 ≤ 5312; omega) (g := (mkF m 214 #[.val (.int x0), .val (.int x1), .val (.int x2), .val (.int fk), .val (.int nk), .val (.int ak), .val (.ref fo), .val (.ref al), .val (.ref xr_q10), .val (.int (1 : Int32)), .unset] [(.ref al), (.ref fo), (.ref bq11), (.ref bq11)])) rfl (by rw [hml]; rfl) (a := bq11) (argsL := [(.ref fo), (.ref al)]) (rest := [(.ref bq11)]) rfl (lenOf pd_20 rfl) rfl (by show 2 * 0 + _ ≤ _; exact Nat.le_of_eq rfl) (hb hby at_214)
  dsimp only at Xq12
  obtain ⟨rfl, pq12_0, pq12_1, pq12_2⟩ := qq12
  have Nq12 := Fr.app Nq10 nq12
  have zq12 := pq12_0.1
  have Oq12 := Oq11.keep pq12_0 (allS (by omega) all0)
  have Cq12 := Cq11.trans Rq12
  have ltpq12_1 := lt_nat pq12_1.lt
  refine GoesW.via stq12 ?_
  show GoesW _ _ _ _ _ _ _ _ (Tq12.setTop (mkF m 217 #[.val (.int x0), .val (.int x1), .val (.int x2), .val (.int fk), .val (.int nk), .val (.int ak), .val (.ref fo), .val (.ref al), .val (.ref xr_q10), .val (.int (1 : Int32)), .unset] [(.ref bq11)]))
  refine GoesW.via (fun _ k => XS.astore Xq12.here hx rfl (hb hby at_217) rfl rfl (l' := #[.val (.int x0), .val (.int x1), .val (.int x2), .val (.int fk), .val (.int nk), .val (.int ak), .val (.ref fo), .val (.ref al), .val (.ref xr_q10), .val (.int (1 : Int32)), .val (.ref bq11)]) rfl k) ?_
  show GoesW _ _ _ _ _ _ _ _ (Tq12.setTop (mkF m 219 #[.val (.int x0), .val (.int x1), .val (.int x2), .val (.int fk), .val (.int nk), .val (.int ak), .val (.ref fo), .val (.ref al), .val (.ref xr_q10), .val (.int (1 : Int32)), .val (.ref bq11)] []))
  refine GoesW.via (fun _ k => XS.aload Xq12.here hx rfl (hb hby at_219) rfl rfl k) ?_
  show GoesW _ _ _ _ _ _ _ _ (Tq12.setTop (mkF m 221 #[.val (.int x0), .val (.int x1), .val (.int x2), .val (.int fk), .val (.int nk), .val (.int ak), .val (.ref fo), .val (.ref al), .val (.ref xr_q10), .val (.int (1 : Int32)), .val (.ref bq11)] [(.ref bq11)]))
  refine GoesW.via (fun _ k => XS.aload Xq12.here hx rfl (hb hby at_221) rfl rfl k) ?_
  show GoesW _ _ _ _ _ _ _ _ (Tq12.setTop (mkF m 223 #[.val (.int x0), .val (.int x1), .val (.int x2), .val (.int fk), .val (.int nk), .val (.int ak), .val (.ref fo), .val (.ref al), .val (.ref xr_q10), .val (.int (1 : Int32)), .val (.ref bq11)] [(.ref xr_q10), (.ref bq11)]))
  have fq13 : Exa Z Tq12.heap fo "java/util/Optional" := (((pf0.keep pq10_1).ext Eq11).keep pq12_0)
  have fq14 : Fld Z Tq12.heap fo "java/util/Optional" "value" "Ljava/lang/Object;" (.ref sA) := (((pf1.keep pq10_1 nin0).ext Eq11).keep pq12_0 (ninS (ne_ok (by omega)) nin0))
  have fq15 : Exa Z Tq12.heap sA "java/lang/String" := (((pf2.keep pq10_1).ext Eq11).keep pq12_0)
  have fq16 : Fld Z Tq12.heap sA "java/lang/String" "value" "[B" (.ref wA) := (((pf3.keep pq10_1 nin0).ext Eq11).keep pq12_0 (ninS (ne_ok (by omega)) nin0))
  have fq17 : Fld Z Tq12.heap sA "java/lang/String" "coder" "B" (.int (0 : Int32)) := (((pf4.keep pq10_1 nin0).ext Eq11).keep pq12_0 (ninS (ne_ok (by omega)) nin0))
  have fq18 : Arv Z Tq12.heap wA kA .byte NA vA (.int (0 : Int32)) := (((pf5.keep pq10_1 nin0).ext Eq11).keep pq12_0 (ninS (ne_ok (by omega)) nin0))
  have fq19 : Exa Z Tq12.heap xr_q10 "java/lang/String" := ((pq10_2.ext Eq11).keep pq12_0)
  have fq20 : Fld Z Tq12.heap xr_q10 "java/lang/String" "value" "[B" (.ref xtb_q10) := ((pq10_3.ext Eq11).keep pq12_0 (ninS (ne_ok (by omega)) nin0))
  have fq21 : Fld Z Tq12.heap xr_q10 "java/lang/String" "coder" "B" (.int (0 : Int32)) := ((pq10_4.ext Eq11).keep pq12_0 (ninS (ne_ok (by omega)) nin0))
  have fq22 : Arv Z Tq12.heap xtb_q10 xkt_q10 .byte xN1_q10 xvs_q10 (.int (0 : Int32)) := ((pq10_5.ext Eq11).keep pq12_0 (ninS (ne_ok (by omega)) nin0))
  obtain ⟨vq23, Tq23, Lq23, Xq23, Sq23, hZq23, hownq23, Rq23, qq23, nq23, stq23⟩ := callViW Xq12 hx hZq12 hownq12 Sq12 (by omega) (ew hw) Cq12.1 all0 all0 (accS l Z aw hw bq11 fo sA wA kA NA vA (drw x0) xr_q10 xtb_q10 xkt_q10 xN1_q10 xvs_q10 (drw x0) cz Oq12 CS pq12_2 fq13 fq14 fq15 fq16 fq17 fq18 fq19 fq20 fq21 fq22 hcz codA (up65 (drw_rg _)) (drw_ln _) pq10_6 (up65 (drw_rg _)) (drw_ln _)) (W_71 hw) (W_72 hw) (notFace_of_selects (args := #[]) (mvT hZq12 (W_74 hw))) (W_74 hw) (W_73 hw) (W_52 hw) (W_75 hw) (by decide) rfl pq12_1 (by decide) (W := 0) (by decide) (by show _ + 2 ≤ 40; omega) (by show _ + 216 ≤ 5312; omega) (g := (mkF m 223 #[.val (.int x0), .val (.int x1), .val (.int x2), .val (.int fk), .val (.int nk), .val (.int ak), .val (.ref fo), .val (.ref al), .val (.ref xr_q10), .val (.int (1 : Int32)), .val (.ref bq11)] [(.ref xr_q10), (.ref bq11)])) rfl (by rw [hml]; rfl) (a := bq11) (argsL := [(.ref xr_q10)]) (rest := []) rfl (lenOf pd_21 rfl) rfl (by show 2 * 0 + _ ≤ _; exact Nat.le_of_eq rfl) (hb hby at_223)
  dsimp only at Xq23
  obtain ⟨rfl, pq23_0⟩ := qq23
  have Nq23 := Fr.app Nq12 nq23
  have zq23 := pq23_0.1
  have Oq23 := Oq12.keep pq23_0 all0
  have Cq23 := Cq12.trans Rq23
  refine GoesW.via stq23 ?_
  show GoesW _ _ _ _ _ _ _ _ (Tq23.setTop (mkF m 226 #[.val (.int x0), .val (.int x1), .val (.int x2), .val (.int fk), .val (.int nk), .val (.int ak), .val (.ref fo), .val (.ref al), .val (.ref xr_q10), .val (.int (1 : Int32)), .val (.ref bq11)] [(.int (if (drw x0) = LIT_0 ∨ (drw x0) = (drw x0) then (1 : Int32) else 0))]))
  refine GoesW.via (fun _ k => XS.iload Xq23.here hx rfl (hb hby at_226) rfl k) ?_
  show GoesW _ _ _ _ _ _ _ _ (Tq23.setTop (mkF m 228 #[.val (.int x0), .val (.int x1), .val (.int x2), .val (.int fk), .val (.int nk), .val (.int ak), .val (.ref fo), .val (.ref al), .val (.ref xr_q10), .val (.int (1 : Int32)), .val (.ref bq11)] [(.int (1 : Int32)), (.int (if (drw x0) = LIT_0 ∨ (drw x0) = (drw x0) then (1 : Int32) else 0))]))
  refine GoesW.via (fun _ k => XS.icmpNo Xq23.here hx rfl (hb hby at_228) rfl (XT.ii_ne_f (if_pos (Or.inr rfl))) k) ?_
  show GoesW _ _ _ _ _ _ _ _ (Tq23.setTop (mkF m 231 #[.val (.int x0), .val (.int x1), .val (.int x2), .val (.int fk), .val (.int nk), .val (.int ak), .val (.ref fo), .val (.ref al), .val (.ref xr_q10), .val (.int (1 : Int32)), .val (.ref bq11)] []))
  refine GoesW.via (fun _ k => XT.iconstV Xq23.here hx rfl (1 : Int32) (hb hby at_231) (by decide) k) ?_
  show GoesW _ _ _ _ _ _ _ _ (Tq23.setTop (mkF m 232 #[.val (.int x0), .val (.int x1), .val (.int x2), .val (.int fk), .val (.int nk), .val (.int ak), .val (.ref fo), .val (.ref al), .val (.ref xr_q10), .val (.int (1 : Int32)), .val (.ref bq11)] [(.int (1 : Int32))]))
  refine GoesW.via (fun _ k => XS.goto Xq23.here hx rfl (pc0 := 232) (pc' := 236) rfl (hb hby at_232) (by decide) (by decide) k) ?_
  show GoesW _ _ _ _ _ _ _ _ (Tq23.setTop (mkF m 236 #[.val (.int x0), .val (.int x1), .val (.int x2), .val (.int fk), .val (.int nk), .val (.int ak), .val (.ref fo), .val (.ref al), .val (.ref xr_q10), .val (.int (1 : Int32)), .val (.ref bq11)] [(.int (1 : Int32))]))
  refine goRetNW Xq23 hx hrt (by simp) hlk Nq23 Sq23 (by omega) (by show _ ≤ 40; omega) (by show _ ≤ 5312; omega) (hb hby at_236) ?_
  intro hWm
  refine ⟨?_, Cq23.trans (CHv.at Xq23 hZq23 (ew hw) Cq23.1)⟩
  exact rfl
set_option maxRecDepth 65536 in
set_option maxHeartbeats 40000000 in
theorem law_c24 (l : Launch) (Z : State) (aw : Array Value) (hw : ∀ d ∈ tables_1, d.before aw Z = true) (x0 : Int32) (x1 : Int32) (x2 : Int32) (fk : Int32) (nk : Int32) (ak : Int32) (em : Nat) (bt : Nat) (bf : Nat) (cz : Int32) (fo : Nat) (sA : Nat) (wA : Nat) (kA : ClassId) (NA : Int32) (vA : List Value) (al : Nat) (aq11 : Nat) (wq11 : Nat) (kkq11 : ClassId) {p : Program} {e : Env} {s : State} {m : MethodId} {args : Array Value} {below : List Frame} {meth : Method} {c : Code} {T : State} {locs : List Loc} {cells slots n0 : Nat} {h0 h1 : Heap} (hx : p.tables.exec = Jvm.exec) (hby : c.code = code) (hml : c.maxLocals = 11) (hrt : meth.sig.returnType = some .boolean) (hlk : meth.locks = false) (hnm : meth.name = "law") {vm0 vmE : Vm} {k0 : Nat} (hZ : Z.Warmed39 vm0) (hown : vm0.findClass "com/example/vouchsafe/vouchsafe/message/NameIdPolicyAcceptsPinLaw" = some m.cls) (X : Stand p l e room_1 (s.setVm vm0) m args below meth c T locs cells slots) (e0 : T.heap = h1) (N : Fr n0 locs) (hcells : cells ≤ 12) (hslots : slots ≤ 456) (O : Old Z n0 h1) (hS : s.Since vm0 k0) (hk0 : k0 ≤ h1.size) (C0 : CHr Z EL vmE h0 vm0 h1) (CS : Sta Z Z.heap "java/lang/String" "COMPACT_STRINGS" "Z" (.int cz)) (SE : Sta Z Z.heap "java/util/Optional" "EMPTY" "Ljava/util/Optional;" (.ref em)) (EE : Exa Z Z.heap em "java/util/Optional") (FE : Fld Z Z.heap em "java/util/Optional" "value" "Ljava/lang/Object;" .null) (ST1 : Sta Z Z.heap "java/lang/Boolean" "TRUE" "Ljava/lang/Boolean;" (.ref bt)) (ST0 : Sta Z Z.heap "java/lang/Boolean" "FALSE" "Ljava/lang/Boolean;" (.ref bf)) (pf0 : Exa Z h1 fo "java/util/Optional") (pf1 : Fld Z h1 fo "java/util/Optional" "value" "Ljava/lang/Object;" (.ref sA)) (pf2 : Exa Z h1 sA "java/lang/String") (pf3 : Fld Z h1 sA "java/lang/String" "value" "[B" (.ref wA)) (pf4 : Fld Z h1 sA "java/lang/String" "coder" "B" (.int (0 : Int32))) (pf5 : Arv Z h1 wA kA .byte NA vA (.int (0 : Int32))) (pf6 : Exa Z h1 aq11 "java/lang/String") (pf7 : Fld Z h1 aq11 "java/lang/String" "coder" "B" (.int (0 : Int32))) (pf8 : Fld Z h1 aq11 "java/lang/String" "value" "[B" (.ref wq11)) (pf9 : Arv Z h1 wq11 kkq11 .byte (53 : Int32) [(.int (117 : Int32)), (.int (114 : Int32)), (.int (110 : Int32)), (.int (58 : Int32)), (.int (111 : Int32)), (.int (97 : Int32)), (.int (115 : Int32)), (.int (105 : Int32)), (.int (115 : Int32)), (.int (58 : Int32)), (.int (110 : Int32)), (.int (97 : Int32)), (.int (109 : Int32)), (.int (101 : Int32)), (.int (115 : Int32)), (.int (58 : Int32)), (.int (116 : Int32)), (.int (99 : Int32)), (.int (58 : Int32)), (.int (83 : Int32)), (.int (65 : Int32)), (.int (77 : Int32)), (.int (76 : Int32)), (.int (58 : Int32)), (.int (49 : Int32)), (.int (46 : Int32)), (.int (49 : Int32)), (.int (58 : Int32)), (.int (110 : Int32)), (.int (97 : Int32)), (.int (109 : Int32)), (.int (101 : Int32)), (.int (105 : Int32)), (.int (100 : Int32)), (.int (45 : Int32)), (.int (102 : Int32)), (.int (111 : Int32)), (.int (114 : Int32)), (.int (109 : Int32)), (.int (97 : Int32)), (.int (116 : Int32)), (.int (58 : Int32)), (.int (117 : Int32)), (.int (110 : Int32)), (.int (115 : Int32)), (.int (112 : Int32)), (.int (101 : Int32)), (.int (99 : Int32)), (.int (105 : Int32)), (.int (102 : Int32)), (.int (105 : Int32)), (.int (101 : Int32)), (.int (100 : Int32))] (.int (0 : Int32))) (hcz : ¬ cz = (0 : Int32)) (hf0 : ¬ (fk = (0 : Int32))) (hf1 : ¬ (fk = (1 : Int32))) (codA : StrChars.Road.CodA (drw x0) 0 NA vA) (cq1 : ¬ (nk = (0 : Int32))) (cq9 : ¬ (nk = (1 : Int32))) (cq10 : nk = (2 : Int32)) :
    GoesW p e below s room_1.cells room_1.slots n0 (fun v vm h => (fun vv hh => vv = some (.int (1 : Int32))) v h ∧ CHr Z EL vmE h0 vm h) (T.setTop (mkF m 144 #[.val (.int x0), .val (.int x1), .val (.int x2), .val (.int fk), .val (.int nk), .val (.int ak), .val (.ref fo), .val (.ref al), .val (.ref aq11), .unset, .unset] [(.int fk)])) := by
  have zO := O.le
  have lt_fo := lt_nat pf0.lt
  have lt_sA := lt_nat pf2.lt
  have lt_wA := lt_nat pf5.lt
  have lt_aq11 := lt_nat pf6.lt
  have lt_wq11 := lt_nat pf9.lt
  show GoesW _ _ _ _ _ _ _ _ (T.setTop (mkF m 144 #[.val (.int x0), .val (.int x1), .val (.int x2), .val (.int fk), .val (.int nk), .val (.int ak), .val (.ref fo), .val (.ref al), .val (.ref aq11), .unset, .unset] [(.int fk)]))
  refine GoesW.via (fun _ k => XS.ifNo X.here hx rfl (hb hby at_144) rfl (XT.i0_eq_f hf0) k) ?_
  show GoesW _ _ _ _ _ _ _ _ (T.setTop (mkF m 147 #[.val (.int x0), .val (.int x1), .val (.int x2), .val (.int fk), .val (.int nk), .val (.int ak), .val (.ref fo), .val (.ref al), .val (.ref aq11), .unset, .unset] []))
  refine GoesW.via (fun _ k => XS.iloadN X.here hx rfl (hb hby at_147) rfl k) ?_
  show GoesW _ _ _ _ _ _ _ _ (T.setTop (mkF m 148 #[.val (.int x0), .val (.int x1), .val (.int x2), .val (.int fk), .val (.int nk), .val (.int ak), .val (.ref fo), .val (.ref al), .val (.ref aq11), .unset, .unset] [(.int fk)]))
  refine GoesW.via (fun _ k => XT.iconstV X.here hx rfl (1 : Int32) (hb hby at_148) (by decide) k) ?_
  show GoesW _ _ _ _ _ _ _ _ (T.setTop (mkF m 149 #[.val (.int x0), .val (.int x1), .val (.int x2), .val (.int fk), .val (.int nk), .val (.int ak), .val (.ref fo), .val (.ref al), .val (.ref aq11), .unset, .unset] [(.int (1 : Int32)), (.int fk)]))
  refine GoesW.via (fun _ k => XS.icmpYes X.here hx rfl (pc0 := 149) (pc' := 158) rfl (hb hby at_149) rfl (XT.ii_ne_t hf1) (by decide) (by decide) k) ?_
  show GoesW _ _ _ _ _ _ _ _ (T.setTop (mkF m 158 #[.val (.int x0), .val (.int x1), .val (.int x2), .val (.int fk), .val (.int nk), .val (.int ak), .val (.ref fo), .val (.ref al), .val (.ref aq11), .unset, .unset] []))
  refine GoesW.via (fun _ k => XS.iload X.here hx rfl (hb hby at_158) rfl k) ?_
  show GoesW _ _ _ _ _ _ _ _ (T.setTop (mkF m 160 #[.val (.int x0), .val (.int x1), .val (.int x2), .val (.int fk), .val (.int nk), .val (.int ak), .val (.ref fo), .val (.ref al), .val (.ref aq11), .unset, .unset] [(.int nk)]))
  refine GoesW.via (fun _ k => XS.ifYes X.here hx rfl (pc0 := 160) (pc' := 173) rfl (hb hby at_160) rfl (XT.i0_ne_t cq1) (by decide) (by decide) k) ?_
  show GoesW _ _ _ _ _ _ _ _ (T.setTop (mkF m 173 #[.val (.int x0), .val (.int x1), .val (.int x2), .val (.int fk), .val (.int nk), .val (.int ak), .val (.ref fo), .val (.ref al), .val (.ref aq11), .unset, .unset] []))
  refine GoesW.via (fun _ k => XS.iload X.here hx rfl (hb hby at_173) rfl k) ?_
  show GoesW _ _ _ _ _ _ _ _ (T.setTop (mkF m 175 #[.val (.int x0), .val (.int x1), .val (.int x2), .val (.int fk), .val (.int nk), .val (.int ak), .val (.ref fo), .val (.ref al), .val (.ref aq11), .unset, .unset] [(.int nk)]))
  refine GoesW.via (fun _ k => XT.iconstV X.here hx rfl (1 : Int32) (hb hby at_175) (by decide) k) ?_
  show GoesW _ _ _ _ _ _ _ _ (T.setTop (mkF m 176 #[.val (.int x0), .val (.int x1), .val (.int x2), .val (.int fk), .val (.int nk), .val (.int ak), .val (.ref fo), .val (.ref al), .val (.ref aq11), .unset, .unset] [(.int (1 : Int32)), (.int nk)]))
  refine GoesW.via (fun _ k => XS.icmpYes X.here hx rfl (pc0 := 176) (pc' := 185) rfl (hb hby at_176) rfl (XT.ii_ne_t cq9) (by decide) (by decide) k) ?_
  show GoesW _ _ _ _ _ _ _ _ (T.setTop (mkF m 185 #[.val (.int x0), .val (.int x1), .val (.int x2), .val (.int fk), .val (.int nk), .val (.int ak), .val (.ref fo), .val (.ref al), .val (.ref aq11), .unset, .unset] []))
  refine GoesW.via (fun _ k => XS.iload X.here hx rfl (hb hby at_185) rfl k) ?_
  show GoesW _ _ _ _ _ _ _ _ (T.setTop (mkF m 187 #[.val (.int x0), .val (.int x1), .val (.int x2), .val (.int fk), .val (.int nk), .val (.int ak), .val (.ref fo), .val (.ref al), .val (.ref aq11), .unset, .unset] [(.int nk)]))
  refine GoesW.via (fun _ k => XT.iconstV X.here hx rfl (2 : Int32) (hb hby at_187) (by decide) k) ?_
  show GoesW _ _ _ _ _ _ _ _ (T.setTop (mkF m 188 #[.val (.int x0), .val (.int x1), .val (.int x2), .val (.int fk), .val (.int nk), .val (.int ak), .val (.ref fo), .val (.ref al), .val (.ref aq11), .unset, .unset] [(.int (2 : Int32)), (.int nk)]))
  refine GoesW.via (fun _ k => XS.icmpNo X.here hx rfl (hb hby at_188) rfl (XT.ii_ne_f cq10) k) ?_
  show GoesW _ _ _ _ _ _ _ _ (T.setTop (mkF m 191 #[.val (.int x0), .val (.int x1), .val (.int x2), .val (.int fk), .val (.int nk), .val (.int ak), .val (.ref fo), .val (.ref al), .val (.ref aq11), .unset, .unset] []))
  refine GoesW.via (fun _ k => XT.iconstV X.here hx rfl (0 : Int32) (hb hby at_191) (by decide) k) ?_
  show GoesW _ _ _ _ _ _ _ _ (T.setTop (mkF m 192 #[.val (.int x0), .val (.int x1), .val (.int x2), .val (.int fk), .val (.int nk), .val (.int ak), .val (.ref fo), .val (.ref al), .val (.ref aq11), .unset, .unset] [(.int (0 : Int32))]))
  refine GoesW.via (fun _ k => XS.istore X.here hx rfl (hb hby at_192) rfl (l' := #[.val (.int x0), .val (.int x1), .val (.int x2), .val (.int fk), .val (.int nk), .val (.int ak), .val (.ref fo), .val (.ref al), .val (.ref aq11), .val (.int (0 : Int32)), .unset]) rfl k) ?_
  show GoesW _ _ _ _ _ _ _ _ (T.setTop (mkF m 194 #[.val (.int x0), .val (.int x1), .val (.int x2), .val (.int fk), .val (.int nk), .val (.int ak), .val (.ref fo), .val (.ref al), .val (.ref aq11), .val (.int (0 : Int32)), .unset] []))
  refine GoesW.via (fun _ k => XS.goto X.here hx rfl (pc0 := 194) (pc' := 206) rfl (hb hby at_194) (by decide) (by decide) k) ?_
  show GoesW _ _ _ _ _ _ _ _ (T.setTop (mkF m 206 #[.val (.int x0), .val (.int x1), .val (.int x2), .val (.int fk), .val (.int nk), .val (.int ak), .val (.ref fo), .val (.ref al), .val (.ref aq11), .val (.int (0 : Int32)), .unset] []))
  obtain ⟨Tq18, hq18, Xq18, eq18, Eq18, Aq18, Dq18, -, stq18⟩ := newO X hx hZ hown (W_50 hw) (W_51 hw) (W_52 hw) e0 (g := (mkF m 206 #[.val (.int x0), .val (.int x1), .val (.int x2), .val (.int fk), .val (.int nk), .val (.int ak), .val (.ref fo), .val (.ref al), .val (.ref aq11), .val (.int (0 : Int32)), .unset] [])) rfl (hb hby at_206) (by show _ + 1 ≤ 40; omega) (by show _ + 2 ≤ 5312; omega)
  obtain ⟨bq18, gq18⟩ : ∃ z, z = h1.size := ⟨_, rfl⟩
  rw [← gq18] at Aq18 Dq18 stq18
  have zq18 := Eq18.1
  have Oq18 := O.ext Eq18
  have Cq18 := C0.trans (CHr.ext Eq18 C0.1)
  have lq18 := lt_nat Aq18.lt
  refine GoesW.via stq18 ?_
  show GoesW _ _ _ _ _ _ _ _ (Tq18.setTop (mkF m 209 #[.val (.int x0), .val (.int x1), .val (.int x2), .val (.int fk), .val (.int nk), .val (.int ak), .val (.ref fo), .val (.ref al), .val (.ref aq11), .val (.int (0 : Int32)), .unset] [(.ref bq18)]))
  refine GoesW.via (fun _ k => XS.dup Xq18.here hx rfl (hb hby at_209) rfl rfl k) ?_
  show GoesW _ _ _ _ _ _ _ _ (Tq18.setTop (mkF m 210 #[.val (.int x0), .val (.int x1), .val (.int x2), .val (.int fk), .val (.int nk), .val (.int ak), .val (.ref fo), .val (.ref al), .val (.ref aq11), .val (.int (0 : Int32)), .unset] [(.ref bq18), (.ref bq18)]))
  refine GoesW.via (fun _ k => XS.aload Xq18.here hx rfl (hb hby at_210) rfl rfl k) ?_
  show GoesW _ _ _ _ _ _ _ _ (Tq18.setTop (mkF m 212 #[.val (.int x0), .val (.int x1), .val (.int x2), .val (.int fk), .val (.int nk), .val (.int ak), .val (.ref fo), .val (.ref al), .val (.ref aq11), .val (.int (0 : Int32)), .unset] [(.ref fo), (.ref bq18), (.ref bq18)]))
  refine GoesW.via (fun _ k => XS.aload Xq18.here hx rfl (hb hby at_212) rfl rfl k) ?_
  show GoesW _ _ _ _ _ _ _ _ (Tq18.setTop (mkF m 214 #[.val (.int x0), .val (.int x1), .val (.int x2), .val (.int fk), .val (.int nk), .val (.int ak), .val (.ref fo), .val (.ref al), .val (.ref aq11), .val (.int (0 : Int32)), .unset] [(.ref al), (.ref fo), (.ref bq18), (.ref bq18)]))
  obtain ⟨vq19, Tq19, Lq19, Xq19, Sq19, hZq19, hownq19, Rq19, qq19, nq19, stq19⟩ := callSpW Xq18 hx hZ hown hS (by rw [eq18]; omega) (ew hw) Cq18.1 (allS (lt_ok (by omega)) all0) (allS (Safe.exa hZ.alike Aq18 (by decide) (by decide)) all0) (npInit l Z aw hw bq18 fo al Oq18 Aq18 (Dq18 (Or.inr (W_68 hw)) (ty := (.object "java/util/Optional")) (by decide)) (Dq18 (Or.inr (W_70 hw)) (ty := (.object "java/util/Optional")) (by decide)) (by omega)) rfl (W_53 hw) (W_54 hw) (W_52 hw) (W_55 hw) (by decide) eq18 (by decide) (W := 1) (by decide) (by show _ + 4 ≤ 40; omega) (by show _ + 80 ≤ 5312; omega) (g := (mkF m 214 #[.val (.int x0), .val (.int x1), .val (.int x2), .val (.int fk), .val (.int nk), .val (.int ak), .val (.ref fo), .val (.ref al), .val (.ref aq11), .val (.int (0 : Int32)), .unset] [(.ref al), (.ref fo), (.ref bq18), (.ref bq18)])) rfl (by rw [hml]; rfl) (a := bq18) (argsL := [(.ref fo), (.ref al)]) (rest := [(.ref bq18)]) rfl (lenOf pd_20 rfl) rfl (by show 2 * 0 + _ ≤ _; exact Nat.le_of_eq rfl) (hb hby at_214)
  dsimp only at Xq19
  obtain ⟨rfl, pq19_0, pq19_1, pq19_2⟩ := qq19
  have Nq19 := Fr.app N nq19
  have zq19 := pq19_0.1
  have Oq19 := Oq18.keep pq19_0 (allS (by omega) all0)
  have Cq19 := Cq18.trans Rq19
  have ltpq19_1 := lt_nat pq19_1.lt
  refine GoesW.via stq19 ?_
  show GoesW _ _ _ _ _ _ _ _ (Tq19.setTop (mkF m 217 #[.val (.int x0), .val (.int x1), .val (.int x2), .val (.int fk), .val (.int nk), .val (.int ak), .val (.ref fo), .val (.ref al), .val (.ref aq11), .val (.int (0 : Int32)), .unset] [(.ref bq18)]))
  refine GoesW.via (fun _ k => XS.astore Xq19.here hx rfl (hb hby at_217) rfl rfl (l' := #[.val (.int x0), .val (.int x1), .val (.int x2), .val (.int fk), .val (.int nk), .val (.int ak), .val (.ref fo), .val (.ref al), .val (.ref aq11), .val (.int (0 : Int32)), .val (.ref bq18)]) rfl k) ?_
  show GoesW _ _ _ _ _ _ _ _ (Tq19.setTop (mkF m 219 #[.val (.int x0), .val (.int x1), .val (.int x2), .val (.int fk), .val (.int nk), .val (.int ak), .val (.ref fo), .val (.ref al), .val (.ref aq11), .val (.int (0 : Int32)), .val (.ref bq18)] []))
  refine GoesW.via (fun _ k => XS.aload Xq19.here hx rfl (hb hby at_219) rfl rfl k) ?_
  show GoesW _ _ _ _ _ _ _ _ (Tq19.setTop (mkF m 221 #[.val (.int x0), .val (.int x1), .val (.int x2), .val (.int fk), .val (.int nk), .val (.int ak), .val (.ref fo), .val (.ref al), .val (.ref aq11), .val (.int (0 : Int32)), .val (.ref bq18)] [(.ref bq18)]))
  refine GoesW.via (fun _ k => XS.aload Xq19.here hx rfl (hb hby at_221) rfl rfl k) ?_
  show GoesW _ _ _ _ _ _ _ _ (Tq19.setTop (mkF m 223 #[.val (.int x0), .val (.int x1), .val (.int x2), .val (.int fk), .val (.int nk), .val (.int ak), .val (.ref fo), .val (.ref al), .val (.ref aq11), .val (.int (0 : Int32)), .val (.ref bq18)] [(.ref aq11), (.ref bq18)]))
  have fq20 : Exa Z Tq19.heap fo "java/util/Optional" := ((pf0.ext Eq18).keep pq19_0)
  have fq21 : Fld Z Tq19.heap fo "java/util/Optional" "value" "Ljava/lang/Object;" (.ref sA) := ((pf1.ext Eq18).keep pq19_0 (ninS (ne_ok (by omega)) nin0))
  have fq22 : Exa Z Tq19.heap sA "java/lang/String" := ((pf2.ext Eq18).keep pq19_0)
  have fq23 : Fld Z Tq19.heap sA "java/lang/String" "value" "[B" (.ref wA) := ((pf3.ext Eq18).keep pq19_0 (ninS (ne_ok (by omega)) nin0))
  have fq24 : Fld Z Tq19.heap sA "java/lang/String" "coder" "B" (.int (0 : Int32)) := ((pf4.ext Eq18).keep pq19_0 (ninS (ne_ok (by omega)) nin0))
  have fq25 : Arv Z Tq19.heap wA kA .byte NA vA (.int (0 : Int32)) := ((pf5.ext Eq18).keep pq19_0 (ninS (ne_ok (by omega)) nin0))
  have fq26 : Exa Z Tq19.heap aq11 "java/lang/String" := ((pf6.ext Eq18).keep pq19_0)
  have fq27 : Fld Z Tq19.heap aq11 "java/lang/String" "value" "[B" (.ref wq11) := ((pf8.ext Eq18).keep pq19_0 (ninS (ne_ok (by omega)) nin0))
  have fq28 : Fld Z Tq19.heap aq11 "java/lang/String" "coder" "B" (.int (0 : Int32)) := ((pf7.ext Eq18).keep pq19_0 (ninS (ne_ok (by omega)) nin0))
  have fq29 : Arv Z Tq19.heap wq11 kkq11 .byte (53 : Int32) [(.int (117 : Int32)), (.int (114 : Int32)), (.int (110 : Int32)), (.int (58 : Int32)), (.int (111 : Int32)), (.int (97 : Int32)), (.int (115 : Int32)), (.int (105 : Int32)), (.int (115 : Int32)), (.int (58 : Int32)), (.int (110 : Int32)), (.int (97 : Int32)), (.int (109 : Int32)), (.int (101 : Int32)), (.int (115 : Int32)), (.int (58 : Int32)), (.int (116 : Int32)), (.int (99 : Int32)), (.int (58 : Int32)), (.int (83 : Int32)), (.int (65 : Int32)), (.int (77 : Int32)), (.int (76 : Int32)), (.int (58 : Int32)), (.int (49 : Int32)), (.int (46 : Int32)), (.int (49 : Int32)), (.int (58 : Int32)), (.int (110 : Int32)), (.int (97 : Int32)), (.int (109 : Int32)), (.int (101 : Int32)), (.int (105 : Int32)), (.int (100 : Int32)), (.int (45 : Int32)), (.int (102 : Int32)), (.int (111 : Int32)), (.int (114 : Int32)), (.int (109 : Int32)), (.int (97 : Int32)), (.int (116 : Int32)), (.int (58 : Int32)), (.int (117 : Int32)), (.int (110 : Int32)), (.int (115 : Int32)), (.int (112 : Int32)), (.int (101 : Int32)), (.int (99 : Int32)), (.int (105 : Int32)), (.int (102 : Int32)), (.int (105 : Int32)), (.int (101 : Int32)), (.int (100 : Int32))] (.int (0 : Int32)) := ((pf9.ext Eq18).keep pq19_0 (ninS (ne_ok (by omega)) nin0))
  obtain ⟨vq30, Tq30, Lq30, Xq30, Sq30, hZq30, hownq30, Rq30, qq30, nq30, stq30⟩ := callViW Xq19 hx hZq19 hownq19 Sq19 (by omega) (ew hw) Cq19.1 all0 all0 (accS l Z aw hw bq18 fo sA wA kA NA vA (drw x0) aq11 wq11 kkq11 (53 : Int32) ([(.int (117 : Int32)), (.int (114 : Int32)), (.int (110 : Int32)), (.int (58 : Int32)), (.int (111 : Int32)), (.int (97 : Int32)), (.int (115 : Int32)), (.int (105 : Int32)), (.int (115 : Int32)), (.int (58 : Int32)), (.int (110 : Int32)), (.int (97 : Int32)), (.int (109 : Int32)), (.int (101 : Int32)), (.int (115 : Int32)), (.int (58 : Int32)), (.int (116 : Int32)), (.int (99 : Int32)), (.int (58 : Int32)), (.int (83 : Int32)), (.int (65 : Int32)), (.int (77 : Int32)), (.int (76 : Int32)), (.int (58 : Int32)), (.int (49 : Int32)), (.int (46 : Int32)), (.int (49 : Int32)), (.int (58 : Int32)), (.int (110 : Int32)), (.int (97 : Int32)), (.int (109 : Int32)), (.int (101 : Int32)), (.int (105 : Int32)), (.int (100 : Int32)), (.int (45 : Int32)), (.int (102 : Int32)), (.int (111 : Int32)), (.int (114 : Int32)), (.int (109 : Int32)), (.int (97 : Int32)), (.int (116 : Int32)), (.int (58 : Int32)), (.int (117 : Int32)), (.int (110 : Int32)), (.int (115 : Int32)), (.int (112 : Int32)), (.int (101 : Int32)), (.int (99 : Int32)), (.int (105 : Int32)), (.int (102 : Int32)), (.int (105 : Int32)), (.int (101 : Int32)), (.int (100 : Int32))]) LIT_0 cz Oq19 CS pq19_2 fq20 fq21 fq22 fq23 fq24 fq25 fq26 fq27 fq28 fq29 hcz codA (up65 (drw_rg _)) (drw_ln _) codL_0 rgL_0 (Nat.le_of_ble_eq_true rfl)) (W_71 hw) (W_72 hw) (notFace_of_selects (args := #[]) (mvT hZq19 (W_74 hw))) (W_74 hw) (W_73 hw) (W_52 hw) (W_75 hw) (by decide) rfl pq19_1 (by decide) (W := 0) (by decide) (by show _ + 2 ≤ 40; omega) (by show _ + 216 ≤ 5312; omega) (g := (mkF m 223 #[.val (.int x0), .val (.int x1), .val (.int x2), .val (.int fk), .val (.int nk), .val (.int ak), .val (.ref fo), .val (.ref al), .val (.ref aq11), .val (.int (0 : Int32)), .val (.ref bq18)] [(.ref aq11), (.ref bq18)])) rfl (by rw [hml]; rfl) (a := bq18) (argsL := [(.ref aq11)]) (rest := []) rfl (lenOf pd_21 rfl) rfl (by show 2 * 0 + _ ≤ _; exact Nat.le_of_eq rfl) (hb hby at_223)
  dsimp only at Xq30
  obtain ⟨rfl, pq30_0⟩ := qq30
  have Nq30 := Fr.app Nq19 nq30
  have zq30 := pq30_0.1
  have Oq30 := Oq19.keep pq30_0 all0
  have Cq30 := Cq19.trans Rq30
  refine GoesW.via stq30 ?_
  show GoesW _ _ _ _ _ _ _ _ (Tq30.setTop (mkF m 226 #[.val (.int x0), .val (.int x1), .val (.int x2), .val (.int fk), .val (.int nk), .val (.int ak), .val (.ref fo), .val (.ref al), .val (.ref aq11), .val (.int (0 : Int32)), .val (.ref bq18)] [(.int (if (drw x0) = LIT_0 ∨ (drw x0) = LIT_0 then (1 : Int32) else 0))]))
  refine GoesW.via (fun _ k => XS.iload Xq30.here hx rfl (hb hby at_226) rfl k) ?_
  show GoesW _ _ _ _ _ _ _ _ (Tq30.setTop (mkF m 228 #[.val (.int x0), .val (.int x1), .val (.int x2), .val (.int fk), .val (.int nk), .val (.int ak), .val (.ref fo), .val (.ref al), .val (.ref aq11), .val (.int (0 : Int32)), .val (.ref bq18)] [(.int (0 : Int32)), (.int (if (drw x0) = LIT_0 ∨ (drw x0) = LIT_0 then (1 : Int32) else 0))]))
  refine GoesW.via (fun _ k => XS.icmpNo Xq30.here hx rfl (hb hby at_228) rfl (XT.ii_ne_f (if_neg (fun q => q.elim (drw_urn _) (drw_urn _)))) k) ?_
  show GoesW _ _ _ _ _ _ _ _ (Tq30.setTop (mkF m 231 #[.val (.int x0), .val (.int x1), .val (.int x2), .val (.int fk), .val (.int nk), .val (.int ak), .val (.ref fo), .val (.ref al), .val (.ref aq11), .val (.int (0 : Int32)), .val (.ref bq18)] []))
  refine GoesW.via (fun _ k => XT.iconstV Xq30.here hx rfl (1 : Int32) (hb hby at_231) (by decide) k) ?_
  show GoesW _ _ _ _ _ _ _ _ (Tq30.setTop (mkF m 232 #[.val (.int x0), .val (.int x1), .val (.int x2), .val (.int fk), .val (.int nk), .val (.int ak), .val (.ref fo), .val (.ref al), .val (.ref aq11), .val (.int (0 : Int32)), .val (.ref bq18)] [(.int (1 : Int32))]))
  refine GoesW.via (fun _ k => XS.goto Xq30.here hx rfl (pc0 := 232) (pc' := 236) rfl (hb hby at_232) (by decide) (by decide) k) ?_
  show GoesW _ _ _ _ _ _ _ _ (Tq30.setTop (mkF m 236 #[.val (.int x0), .val (.int x1), .val (.int x2), .val (.int fk), .val (.int nk), .val (.int ak), .val (.ref fo), .val (.ref al), .val (.ref aq11), .val (.int (0 : Int32)), .val (.ref bq18)] [(.int (1 : Int32))]))
  refine goRetNW Xq30 hx hrt (by simp) hlk Nq30 Sq30 (by omega) (by show _ ≤ 40; omega) (by show _ ≤ 5312; omega) (hb hby at_236) ?_
  intro hWm
  refine ⟨?_, Cq30.trans (CHv.at Xq30 hZq30 (ew hw) Cq30.1)⟩
  exact rfl
set_option maxRecDepth 65536 in
set_option maxHeartbeats 40000000 in
theorem law_c25 (l : Launch) (Z : State) (aw : Array Value) (hw : ∀ d ∈ tables_1, d.before aw Z = true) (x0 : Int32) (x1 : Int32) (x2 : Int32) (fk : Int32) (nk : Int32) (ak : Int32) (em : Nat) (bt : Nat) (bf : Nat) (cz : Int32) (fo : Nat) (sA : Nat) (wA : Nat) (kA : ClassId) (NA : Int32) (vA : List Value) (al : Nat) (xr_q18 : Nat) (xtb_q18 : Nat) (xkt_q18 : ClassId) (xN1_q18 : Int32) (xvs_q18 : List Value) {p : Program} {e : Env} {s : State} {m : MethodId} {args : Array Value} {below : List Frame} {meth : Method} {c : Code} {T : State} {locs : List Loc} {cells slots n0 : Nat} {h0 h1 : Heap} (hx : p.tables.exec = Jvm.exec) (hby : c.code = code) (hml : c.maxLocals = 11) (hrt : meth.sig.returnType = some .boolean) (hlk : meth.locks = false) (hnm : meth.name = "law") {vm0 vmE : Vm} {k0 : Nat} (hZ : Z.Warmed39 vm0) (hown : vm0.findClass "com/example/vouchsafe/vouchsafe/message/NameIdPolicyAcceptsPinLaw" = some m.cls) (X : Stand p l e room_1 (s.setVm vm0) m args below meth c T locs cells slots) (e0 : T.heap = h1) (N : Fr n0 locs) (hcells : cells ≤ 16) (hslots : slots ≤ 254) (O : Old Z n0 h1) (hS : s.Since vm0 k0) (hk0 : k0 ≤ h1.size) (C0 : CHr Z EL vmE h0 vm0 h1) (CS : Sta Z Z.heap "java/lang/String" "COMPACT_STRINGS" "Z" (.int cz)) (SE : Sta Z Z.heap "java/util/Optional" "EMPTY" "Ljava/util/Optional;" (.ref em)) (EE : Exa Z Z.heap em "java/util/Optional") (FE : Fld Z Z.heap em "java/util/Optional" "value" "Ljava/lang/Object;" .null) (ST1 : Sta Z Z.heap "java/lang/Boolean" "TRUE" "Ljava/lang/Boolean;" (.ref bt)) (ST0 : Sta Z Z.heap "java/lang/Boolean" "FALSE" "Ljava/lang/Boolean;" (.ref bf)) (pf0 : Exa Z h1 fo "java/util/Optional") (pf1 : Fld Z h1 fo "java/util/Optional" "value" "Ljava/lang/Object;" (.ref sA)) (pf2 : Exa Z h1 sA "java/lang/String") (pf3 : Fld Z h1 sA "java/lang/String" "value" "[B" (.ref wA)) (pf4 : Fld Z h1 sA "java/lang/String" "coder" "B" (.int (0 : Int32))) (pf5 : Arv Z h1 wA kA .byte NA vA (.int (0 : Int32))) (pf6 : Exa Z h1 xr_q18 "java/lang/String") (pf7 : Fld Z h1 xr_q18 "java/lang/String" "value" "[B" (.ref xtb_q18)) (pf8 : Fld Z h1 xr_q18 "java/lang/String" "coder" "B" (.int (0 : Int32))) (pf9 : Arv Z h1 xtb_q18 xkt_q18 .byte xN1_q18 xvs_q18 (.int (0 : Int32))) (hcz : ¬ cz = (0 : Int32)) (hf0 : ¬ (fk = (0 : Int32))) (hf1 : ¬ (fk = (1 : Int32))) (codA : StrChars.Road.CodA (drw x0) 0 NA vA) (cq1 : ¬ (nk = (0 : Int32))) (cq9 : ¬ (nk = (1 : Int32))) (cq10 : ¬ (nk = (2 : Int32))) (pq18_6 : StrChars.Road.CodA (drw (x0 ^^^ (1 : Int32))) 0 xN1_q18 xvs_q18) (cn1 : n0 ≤ xr_q18) :
    GoesW p e below s room_1.cells room_1.slots n0 (fun v vm h => (fun vv hh => vv = some (.int (1 : Int32))) v h ∧ CHr Z EL vmE h0 vm h) (T.setTop (mkF m 141 #[.val (.int x0), .val (.int x1), .val (.int x2), .val (.int fk), .val (.int nk), .val (.int ak), .val (.ref fo), .val (.ref al), .unset, .unset, .unset] [(.ref xr_q18)])) := by
  have zO := O.le
  have lt_fo := lt_nat pf0.lt
  have lt_sA := lt_nat pf2.lt
  have lt_wA := lt_nat pf5.lt
  have lt_xr_q18 := lt_nat pf6.lt
  have lt_xtb_q18 := lt_nat pf9.lt
  show GoesW _ _ _ _ _ _ _ _ (T.setTop (mkF m 141 #[.val (.int x0), .val (.int x1), .val (.int x2), .val (.int fk), .val (.int nk), .val (.int ak), .val (.ref fo), .val (.ref al), .unset, .unset, .unset] [(.ref xr_q18)]))
  refine GoesW.via (fun _ k => XS.astore X.here hx rfl (hb hby at_141) rfl rfl (l' := #[.val (.int x0), .val (.int x1), .val (.int x2), .val (.int fk), .val (.int nk), .val (.int ak), .val (.ref fo), .val (.ref al), .val (.ref xr_q18), .unset, .unset]) rfl k) ?_
  show GoesW _ _ _ _ _ _ _ _ (T.setTop (mkF m 143 #[.val (.int x0), .val (.int x1), .val (.int x2), .val (.int fk), .val (.int nk), .val (.int ak), .val (.ref fo), .val (.ref al), .val (.ref xr_q18), .unset, .unset] []))
  refine GoesW.via (fun _ k => XS.iloadN X.here hx rfl (hb hby at_143) rfl k) ?_
  show GoesW _ _ _ _ _ _ _ _ (T.setTop (mkF m 144 #[.val (.int x0), .val (.int x1), .val (.int x2), .val (.int fk), .val (.int nk), .val (.int ak), .val (.ref fo), .val (.ref al), .val (.ref xr_q18), .unset, .unset] [(.int fk)]))
  refine GoesW.via (fun _ k => XS.ifNo X.here hx rfl (hb hby at_144) rfl (XT.i0_eq_f hf0) k) ?_
  show GoesW _ _ _ _ _ _ _ _ (T.setTop (mkF m 147 #[.val (.int x0), .val (.int x1), .val (.int x2), .val (.int fk), .val (.int nk), .val (.int ak), .val (.ref fo), .val (.ref al), .val (.ref xr_q18), .unset, .unset] []))
  refine GoesW.via (fun _ k => XS.iloadN X.here hx rfl (hb hby at_147) rfl k) ?_
  show GoesW _ _ _ _ _ _ _ _ (T.setTop (mkF m 148 #[.val (.int x0), .val (.int x1), .val (.int x2), .val (.int fk), .val (.int nk), .val (.int ak), .val (.ref fo), .val (.ref al), .val (.ref xr_q18), .unset, .unset] [(.int fk)]))
  refine GoesW.via (fun _ k => XT.iconstV X.here hx rfl (1 : Int32) (hb hby at_148) (by decide) k) ?_
  show GoesW _ _ _ _ _ _ _ _ (T.setTop (mkF m 149 #[.val (.int x0), .val (.int x1), .val (.int x2), .val (.int fk), .val (.int nk), .val (.int ak), .val (.ref fo), .val (.ref al), .val (.ref xr_q18), .unset, .unset] [(.int (1 : Int32)), (.int fk)]))
  refine GoesW.via (fun _ k => XS.icmpYes X.here hx rfl (pc0 := 149) (pc' := 158) rfl (hb hby at_149) rfl (XT.ii_ne_t hf1) (by decide) (by decide) k) ?_
  show GoesW _ _ _ _ _ _ _ _ (T.setTop (mkF m 158 #[.val (.int x0), .val (.int x1), .val (.int x2), .val (.int fk), .val (.int nk), .val (.int ak), .val (.ref fo), .val (.ref al), .val (.ref xr_q18), .unset, .unset] []))
  refine GoesW.via (fun _ k => XS.iload X.here hx rfl (hb hby at_158) rfl k) ?_
  show GoesW _ _ _ _ _ _ _ _ (T.setTop (mkF m 160 #[.val (.int x0), .val (.int x1), .val (.int x2), .val (.int fk), .val (.int nk), .val (.int ak), .val (.ref fo), .val (.ref al), .val (.ref xr_q18), .unset, .unset] [(.int nk)]))
  refine GoesW.via (fun _ k => XS.ifYes X.here hx rfl (pc0 := 160) (pc' := 173) rfl (hb hby at_160) rfl (XT.i0_ne_t cq1) (by decide) (by decide) k) ?_
  show GoesW _ _ _ _ _ _ _ _ (T.setTop (mkF m 173 #[.val (.int x0), .val (.int x1), .val (.int x2), .val (.int fk), .val (.int nk), .val (.int ak), .val (.ref fo), .val (.ref al), .val (.ref xr_q18), .unset, .unset] []))
  refine GoesW.via (fun _ k => XS.iload X.here hx rfl (hb hby at_173) rfl k) ?_
  show GoesW _ _ _ _ _ _ _ _ (T.setTop (mkF m 175 #[.val (.int x0), .val (.int x1), .val (.int x2), .val (.int fk), .val (.int nk), .val (.int ak), .val (.ref fo), .val (.ref al), .val (.ref xr_q18), .unset, .unset] [(.int nk)]))
  refine GoesW.via (fun _ k => XT.iconstV X.here hx rfl (1 : Int32) (hb hby at_175) (by decide) k) ?_
  show GoesW _ _ _ _ _ _ _ _ (T.setTop (mkF m 176 #[.val (.int x0), .val (.int x1), .val (.int x2), .val (.int fk), .val (.int nk), .val (.int ak), .val (.ref fo), .val (.ref al), .val (.ref xr_q18), .unset, .unset] [(.int (1 : Int32)), (.int nk)]))
  refine GoesW.via (fun _ k => XS.icmpYes X.here hx rfl (pc0 := 176) (pc' := 185) rfl (hb hby at_176) rfl (XT.ii_ne_t cq9) (by decide) (by decide) k) ?_
  show GoesW _ _ _ _ _ _ _ _ (T.setTop (mkF m 185 #[.val (.int x0), .val (.int x1), .val (.int x2), .val (.int fk), .val (.int nk), .val (.int ak), .val (.ref fo), .val (.ref al), .val (.ref xr_q18), .unset, .unset] []))
  refine GoesW.via (fun _ k => XS.iload X.here hx rfl (hb hby at_185) rfl k) ?_
  show GoesW _ _ _ _ _ _ _ _ (T.setTop (mkF m 187 #[.val (.int x0), .val (.int x1), .val (.int x2), .val (.int fk), .val (.int nk), .val (.int ak), .val (.ref fo), .val (.ref al), .val (.ref xr_q18), .unset, .unset] [(.int nk)]))
  refine GoesW.via (fun _ k => XT.iconstV X.here hx rfl (2 : Int32) (hb hby at_187) (by decide) k) ?_
  show GoesW _ _ _ _ _ _ _ _ (T.setTop (mkF m 188 #[.val (.int x0), .val (.int x1), .val (.int x2), .val (.int fk), .val (.int nk), .val (.int ak), .val (.ref fo), .val (.ref al), .val (.ref xr_q18), .unset, .unset] [(.int (2 : Int32)), (.int nk)]))
  refine GoesW.via (fun _ k => XS.icmpYes X.here hx rfl (pc0 := 188) (pc' := 197) rfl (hb hby at_188) rfl (XT.ii_ne_t cq10) (by decide) (by decide) k) ?_
  show GoesW _ _ _ _ _ _ _ _ (T.setTop (mkF m 197 #[.val (.int x0), .val (.int x1), .val (.int x2), .val (.int fk), .val (.int nk), .val (.int ak), .val (.ref fo), .val (.ref al), .val (.ref xr_q18), .unset, .unset] []))
  refine GoesW.via (fun _ k => XS.iloadN X.here hx rfl (hb hby at_197) rfl k) ?_
  show GoesW _ _ _ _ _ _ _ _ (T.setTop (mkF m 198 #[.val (.int x0), .val (.int x1), .val (.int x2), .val (.int fk), .val (.int nk), .val (.int ak), .val (.ref fo), .val (.ref al), .val (.ref xr_q18), .unset, .unset] [(.int x0)]))
  refine GoesW.via (fun _ k => XS.iloadN X.here hx rfl (hb hby at_198) rfl k) ?_
  show GoesW _ _ _ _ _ _ _ _ (T.setTop (mkF m 199 #[.val (.int x0), .val (.int x1), .val (.int x2), .val (.int fk), .val (.int nk), .val (.int ak), .val (.ref fo), .val (.ref al), .val (.ref xr_q18), .unset, .unset] [(.int x0), (.int x0)]))
  refine GoesW.via (fun _ k => XT.iconstV X.here hx rfl (1 : Int32) (hb hby at_199) (by decide) k) ?_
  show GoesW _ _ _ _ _ _ _ _ (T.setTop (mkF m 200 #[.val (.int x0), .val (.int x1), .val (.int x2), .val (.int fk), .val (.int nk), .val (.int ak), .val (.ref fo), .val (.ref al), .val (.ref xr_q18), .unset, .unset] [(.int (1 : Int32)), (.int x0), (.int x0)]))
  refine GoesW.via (fun _ k => XT.ixor X.here hx rfl (hb hby at_200) rfl k) ?_
  show GoesW _ _ _ _ _ _ _ _ (T.setTop (mkF m 201 #[.val (.int x0), .val (.int x1), .val (.int x2), .val (.int fk), .val (.int nk), .val (.int ak), .val (.ref fo), .val (.ref al), .val (.ref xr_q18), .unset, .unset] [(.int (x0 ^^^ (1 : Int32))), (.int x0)]))
  obtain ⟨vq25, Tq25, Lq25, Xq25, qq25, nq25, stq25⟩ := callSt X hx hZ hown (sameD l Z aw hw x0 (x0 ^^^ (1 : Int32)) O) (W_47 hw) (W_48 hw) (W_2 hw) (W_49 hw) (by decide) e0 (by decide) (W := 0) (by decide) (by show _ + 0 ≤ 40; omega) (by show _ + 0 ≤ 5312; omega) (g := (mkF m 201 #[.val (.int x0), .val (.int x1), .val (.int x2), .val (.int fk), .val (.int nk), .val (.int ak), .val (.ref fo), .val (.ref al), .val (.ref xr_q18), .unset, .unset] [(.int (x0 ^^^ (1 : Int32))), (.int x0)])) rfl (by rw [hml]; rfl) (argsL := [(.int x0), (.int (x0 ^^^ (1 : Int32)))]) (rest := []) rfl (lenOf pd_24 rfl) rfl (by show 2 * 0 + _ ≤ _; exact Nat.le_of_eq rfl) (hb hby at_201)
  dsimp only at Xq25
  obtain ⟨rfl, pq25_0⟩ := qq25
  have Nq25 := Fr.app N nq25
  refine GoesW.via stq25 ?_
  show GoesW _ _ _ _ _ _ _ _ (Tq25.setTop (mkF m 204 #[.val (.int x0), .val (.int x1), .val (.int x2), .val (.int fk), .val (.int nk), .val (.int ak), .val (.ref fo), .val (.ref al), .val (.ref xr_q18), .unset, .unset] [(.int (if drw x0 = drw (x0 ^^^ (1 : Int32)) then (1 : Int32) else 0))]))
  refine GoesW.via (fun _ k => XS.istore Xq25.here hx rfl (hb hby at_204) rfl (l' := #[.val (.int x0), .val (.int x1), .val (.int x2), .val (.int fk), .val (.int nk), .val (.int ak), .val (.ref fo), .val (.ref al), .val (.ref xr_q18), .val (.int (if drw x0 = drw (x0 ^^^ (1 : Int32)) then (1 : Int32) else 0)), .unset]) rfl k) ?_
  show GoesW _ _ _ _ _ _ _ _ (Tq25.setTop (mkF m 206 #[.val (.int x0), .val (.int x1), .val (.int x2), .val (.int fk), .val (.int nk), .val (.int ak), .val (.ref fo), .val (.ref al), .val (.ref xr_q18), .val (.int (if drw x0 = drw (x0 ^^^ (1 : Int32)) then (1 : Int32) else 0)), .unset] []))
  obtain ⟨Tq26, hq26, Xq26, eq26, Eq26, Aq26, Dq26, -, stq26⟩ := newO Xq25 hx hZ hown (W_50 hw) (W_51 hw) (W_52 hw) pq25_0 (g := (mkF m 206 #[.val (.int x0), .val (.int x1), .val (.int x2), .val (.int fk), .val (.int nk), .val (.int ak), .val (.ref fo), .val (.ref al), .val (.ref xr_q18), .val (.int (if drw x0 = drw (x0 ^^^ (1 : Int32)) then (1 : Int32) else 0)), .unset] [])) rfl (hb hby at_206) (by show _ + 1 ≤ 40; omega) (by show _ + 2 ≤ 5312; omega)
  obtain ⟨bq26, gq26⟩ : ∃ z, z = h1.size := ⟨_, rfl⟩
  rw [← gq26] at Aq26 Dq26 stq26
  have zq26 := Eq26.1
  have Oq26 := O.ext Eq26
  have Cq26 := C0.trans (CHr.ext Eq26 C0.1)
  have lq26 := lt_nat Aq26.lt
  refine GoesW.via stq26 ?_
  show GoesW _ _ _ _ _ _ _ _ (Tq26.setTop (mkF m 209 #[.val (.int x0), .val (.int x1), .val (.int x2), .val (.int fk), .val (.int nk), .val (.int ak), .val (.ref fo), .val (.ref al), .val (.ref xr_q18), .val (.int (if drw x0 = drw (x0 ^^^ (1 : Int32)) then (1 : Int32) else 0)), .unset] [(.ref bq26)]))
  refine GoesW.via (fun _ k => XS.dup Xq26.here hx rfl (hb hby at_209) rfl rfl k) ?_
  show GoesW _ _ _ _ _ _ _ _ (Tq26.setTop (mkF m 210 #[.val (.int x0), .val (.int x1), .val (.int x2), .val (.int fk), .val (.int nk), .val (.int ak), .val (.ref fo), .val (.ref al), .val (.ref xr_q18), .val (.int (if drw x0 = drw (x0 ^^^ (1 : Int32)) then (1 : Int32) else 0)), .unset] [(.ref bq26), (.ref bq26)]))
  refine GoesW.via (fun _ k => XS.aload Xq26.here hx rfl (hb hby at_210) rfl rfl k) ?_
  show GoesW _ _ _ _ _ _ _ _ (Tq26.setTop (mkF m 212 #[.val (.int x0), .val (.int x1), .val (.int x2), .val (.int fk), .val (.int nk), .val (.int ak), .val (.ref fo), .val (.ref al), .val (.ref xr_q18), .val (.int (if drw x0 = drw (x0 ^^^ (1 : Int32)) then (1 : Int32) else 0)), .unset] [(.ref fo), (.ref bq26), (.ref bq26)]))
  refine GoesW.via (fun _ k => XS.aload Xq26.here hx rfl (hb hby at_212) rfl rfl k) ?_
  show GoesW _ _ _ _ _ _ _ _ (Tq26.setTop (mkF m 214 #[.val (.int x0), .val (.int x1), .val (.int x2), .val (.int fk), .val (.int nk), .val (.int ak), .val (.ref fo), .val (.ref al), .val (.ref xr_q18), .val (.int (if drw x0 = drw (x0 ^^^ (1 : Int32)) then (1 : Int32) else 0)), .unset] [(.ref al), (.ref fo), (.ref bq26), (.ref bq26)]))
  obtain ⟨vq27, Tq27, Lq27, Xq27, Sq27, hZq27, hownq27, Rq27, qq27, nq27, stq27⟩ := callSpW Xq26 hx hZ hown hS (by rw [eq26]; omega) (ew hw) Cq26.1 (allS (lt_ok (by omega)) all0) (allS (Safe.exa hZ.alike Aq26 (by decide) (by decide)) all0) (npInit l Z aw hw bq26 fo al Oq26 Aq26 (Dq26 (Or.inr (W_68 hw)) (ty := (.object "java/util/Optional")) (by decide)) (Dq26 (Or.inr (W_70 hw)) (ty := (.object "java/util/Optional")) (by decide)) (by omega)) rfl (W_53 hw) (W_54 hw) (W_52 hw) (W_55 hw) (by decide) eq26 (by decide) (W := 1) (by decide) (by show _ + 4 ≤ 40; omega) (by show _ + 80 ≤ 5312; omega) (g := (mkF m 214 #[.val (.int x0), .val (.int x1), .val (.int x2), .val (.int fk), .val (.int nk), .val (.int ak), .val (.ref fo), .val (.ref al), .val (.ref xr_q18), .val (.int (if drw x0 = drw (x0 ^^^ (1 : Int32)) then (1 : Int32) else 0)), .unset] [(.ref al), (.ref fo), (.ref bq26), (.ref bq26)])) rfl (by rw [hml]; rfl) (a := bq26) (argsL := [(.ref fo), (.ref al)]) (rest := [(.ref bq26)]) rfl (lenOf pd_20 rfl) rfl (by show 2 * 0 + _ ≤ _; exact Nat.le_of_eq rfl) (hb hby at_214)
  dsimp only at Xq27
  obtain ⟨rfl, pq27_0, pq27_1, pq27_2⟩ := qq27
  have Nq27 := Fr.app Nq25 nq27
  have zq27 := pq27_0.1
  have Oq27 := Oq26.keep pq27_0 (allS (by omega) all0)
  have Cq27 := Cq26.trans Rq27
  have ltpq27_1 := lt_nat pq27_1.lt
  refine GoesW.via stq27 ?_
  show GoesW _ _ _ _ _ _ _ _ (Tq27.setTop (mkF m 217 #[.val (.int x0), .val (.int x1), .val (.int x2), .val (.int fk), .val (.int nk), .val (.int ak), .val (.ref fo), .val (.ref al), .val (.ref xr_q18), .val (.int (if drw x0 = drw (x0 ^^^ (1 : Int32)) then (1 : Int32) else 0)), .unset] [(.ref bq26)]))
  refine GoesW.via (fun _ k => XS.astore Xq27.here hx rfl (hb hby at_217) rfl rfl (l' := #[.val (.int x0), .val (.int x1), .val (.int x2), .val (.int fk), .val (.int nk), .val (.int ak), .val (.ref fo), .val (.ref al), .val (.ref xr_q18), .val (.int (if drw x0 = drw (x0 ^^^ (1 : Int32)) then (1 : Int32) else 0)), .val (.ref bq26)]) rfl k) ?_
  show GoesW _ _ _ _ _ _ _ _ (Tq27.setTop (mkF m 219 #[.val (.int x0), .val (.int x1), .val (.int x2), .val (.int fk), .val (.int nk), .val (.int ak), .val (.ref fo), .val (.ref al), .val (.ref xr_q18), .val (.int (if drw x0 = drw (x0 ^^^ (1 : Int32)) then (1 : Int32) else 0)), .val (.ref bq26)] []))
  refine GoesW.via (fun _ k => XS.aload Xq27.here hx rfl (hb hby at_219) rfl rfl k) ?_
  show GoesW _ _ _ _ _ _ _ _ (Tq27.setTop (mkF m 221 #[.val (.int x0), .val (.int x1), .val (.int x2), .val (.int fk), .val (.int nk), .val (.int ak), .val (.ref fo), .val (.ref al), .val (.ref xr_q18), .val (.int (if drw x0 = drw (x0 ^^^ (1 : Int32)) then (1 : Int32) else 0)), .val (.ref bq26)] [(.ref bq26)]))
  refine GoesW.via (fun _ k => XS.aload Xq27.here hx rfl (hb hby at_221) rfl rfl k) ?_
  show GoesW _ _ _ _ _ _ _ _ (Tq27.setTop (mkF m 223 #[.val (.int x0), .val (.int x1), .val (.int x2), .val (.int fk), .val (.int nk), .val (.int ak), .val (.ref fo), .val (.ref al), .val (.ref xr_q18), .val (.int (if drw x0 = drw (x0 ^^^ (1 : Int32)) then (1 : Int32) else 0)), .val (.ref bq26)] [(.ref xr_q18), (.ref bq26)]))
  have fq28 : Exa Z Tq27.heap fo "java/util/Optional" := ((pf0.ext Eq26).keep pq27_0)
  have fq29 : Fld Z Tq27.heap fo "java/util/Optional" "value" "Ljava/lang/Object;" (.ref sA) := ((pf1.ext Eq26).keep pq27_0 (ninS (ne_ok (by omega)) nin0))
  have fq30 : Exa Z Tq27.heap sA "java/lang/String" := ((pf2.ext Eq26).keep pq27_0)
  have fq31 : Fld Z Tq27.heap sA "java/lang/String" "value" "[B" (.ref wA) := ((pf3.ext Eq26).keep pq27_0 (ninS (ne_ok (by omega)) nin0))
  have fq32 : Fld Z Tq27.heap sA "java/lang/String" "coder" "B" (.int (0 : Int32)) := ((pf4.ext Eq26).keep pq27_0 (ninS (ne_ok (by omega)) nin0))
  have fq33 : Arv Z Tq27.heap wA kA .byte NA vA (.int (0 : Int32)) := ((pf5.ext Eq26).keep pq27_0 (ninS (ne_ok (by omega)) nin0))
  have fq34 : Exa Z Tq27.heap xr_q18 "java/lang/String" := ((pf6.ext Eq26).keep pq27_0)
  have fq35 : Fld Z Tq27.heap xr_q18 "java/lang/String" "value" "[B" (.ref xtb_q18) := ((pf7.ext Eq26).keep pq27_0 (ninS (ne_ok (by omega)) nin0))
  have fq36 : Fld Z Tq27.heap xr_q18 "java/lang/String" "coder" "B" (.int (0 : Int32)) := ((pf8.ext Eq26).keep pq27_0 (ninS (ne_ok (by omega)) nin0))
  have fq37 : Arv Z Tq27.heap xtb_q18 xkt_q18 .byte xN1_q18 xvs_q18 (.int (0 : Int32)) := ((pf9.ext Eq26).keep pq27_0 (ninS (ne_ok (by omega)) nin0))
  obtain ⟨vq38, Tq38, Lq38, Xq38, Sq38, hZq38, hownq38, Rq38, qq38, nq38, stq38⟩ := callViW Xq27 hx hZq27 hownq27 Sq27 (by omega) (ew hw) Cq27.1 all0 all0 (accS l Z aw hw bq26 fo sA wA kA NA vA (drw x0) xr_q18 xtb_q18 xkt_q18 xN1_q18 xvs_q18 (drw (x0 ^^^ (1 : Int32))) cz Oq27 CS pq27_2 fq28 fq29 fq30 fq31 fq32 fq33 fq34 fq35 fq36 fq37 hcz codA (up65 (drw_rg _)) (drw_ln _) pq18_6 (up65 (drw_rg _)) (drw_ln _)) (W_71 hw) (W_72 hw) (notFace_of_selects (args := #[]) (mvT hZq27 (W_74 hw))) (W_74 hw) (W_73 hw) (W_52 hw) (W_75 hw) (by decide) rfl pq27_1 (by decide) (W := 0) (by decide) (by show _ + 2 ≤ 40; omega) (by show _ + 216 ≤ 5312; omega) (g := (mkF m 223 #[.val (.int x0), .val (.int x1), .val (.int x2), .val (.int fk), .val (.int nk), .val (.int ak), .val (.ref fo), .val (.ref al), .val (.ref xr_q18), .val (.int (if drw x0 = drw (x0 ^^^ (1 : Int32)) then (1 : Int32) else 0)), .val (.ref bq26)] [(.ref xr_q18), (.ref bq26)])) rfl (by rw [hml]; rfl) (a := bq26) (argsL := [(.ref xr_q18)]) (rest := []) rfl (lenOf pd_21 rfl) rfl (by show 2 * 0 + _ ≤ _; exact Nat.le_of_eq rfl) (hb hby at_223)
  dsimp only at Xq38
  obtain ⟨rfl, pq38_0⟩ := qq38
  have Nq38 := Fr.app Nq27 nq38
  have zq38 := pq38_0.1
  have Oq38 := Oq27.keep pq38_0 all0
  have Cq38 := Cq27.trans Rq38
  refine GoesW.via stq38 ?_
  show GoesW _ _ _ _ _ _ _ _ (Tq38.setTop (mkF m 226 #[.val (.int x0), .val (.int x1), .val (.int x2), .val (.int fk), .val (.int nk), .val (.int ak), .val (.ref fo), .val (.ref al), .val (.ref xr_q18), .val (.int (if drw x0 = drw (x0 ^^^ (1 : Int32)) then (1 : Int32) else 0)), .val (.ref bq26)] [(.int (if (drw x0) = LIT_0 ∨ (drw x0) = (drw (x0 ^^^ (1 : Int32))) then (1 : Int32) else 0))]))
  refine GoesW.via (fun _ k => XS.iload Xq38.here hx rfl (hb hby at_226) rfl k) ?_
  show GoesW _ _ _ _ _ _ _ _ (Tq38.setTop (mkF m 228 #[.val (.int x0), .val (.int x1), .val (.int x2), .val (.int fk), .val (.int nk), .val (.int ak), .val (.ref fo), .val (.ref al), .val (.ref xr_q18), .val (.int (if drw x0 = drw (x0 ^^^ (1 : Int32)) then (1 : Int32) else 0)), .val (.ref bq26)] [(.int (if drw x0 = drw (x0 ^^^ (1 : Int32)) then (1 : Int32) else 0)), (.int (if (drw x0) = LIT_0 ∨ (drw x0) = (drw (x0 ^^^ (1 : Int32))) then (1 : Int32) else 0))]))
  refine GoesW.via (fun _ k => XS.icmpNo Xq38.here hx rfl (hb hby at_228) rfl (XT.ii_ne_f (or_ite (drw_urn _))) k) ?_
  show GoesW _ _ _ _ _ _ _ _ (Tq38.setTop (mkF m 231 #[.val (.int x0), .val (.int x1), .val (.int x2), .val (.int fk), .val (.int nk), .val (.int ak), .val (.ref fo), .val (.ref al), .val (.ref xr_q18), .val (.int (if drw x0 = drw (x0 ^^^ (1 : Int32)) then (1 : Int32) else 0)), .val (.ref bq26)] []))
  refine GoesW.via (fun _ k => XT.iconstV Xq38.here hx rfl (1 : Int32) (hb hby at_231) (by decide) k) ?_
  show GoesW _ _ _ _ _ _ _ _ (Tq38.setTop (mkF m 232 #[.val (.int x0), .val (.int x1), .val (.int x2), .val (.int fk), .val (.int nk), .val (.int ak), .val (.ref fo), .val (.ref al), .val (.ref xr_q18), .val (.int (if drw x0 = drw (x0 ^^^ (1 : Int32)) then (1 : Int32) else 0)), .val (.ref bq26)] [(.int (1 : Int32))]))
  refine GoesW.via (fun _ k => XS.goto Xq38.here hx rfl (pc0 := 232) (pc' := 236) rfl (hb hby at_232) (by decide) (by decide) k) ?_
  show GoesW _ _ _ _ _ _ _ _ (Tq38.setTop (mkF m 236 #[.val (.int x0), .val (.int x1), .val (.int x2), .val (.int fk), .val (.int nk), .val (.int ak), .val (.ref fo), .val (.ref al), .val (.ref xr_q18), .val (.int (if drw x0 = drw (x0 ^^^ (1 : Int32)) then (1 : Int32) else 0)), .val (.ref bq26)] [(.int (1 : Int32))]))
  refine goRetNW Xq38 hx hrt (by simp) hlk Nq38 Sq38 (by omega) (by show _ ≤ 40; omega) (by show _ ≤ 5312; omega) (hb hby at_236) ?_
  intro hWm
  refine ⟨?_, Cq38.trans (CHv.at Xq38 hZq38 (ew hw) Cq38.1)⟩
  exact rfl
set_option maxRecDepth 65536 in
set_option maxHeartbeats 40000000 in
theorem law_c23 (l : Launch) (Z : State) (aw : Array Value) (hw : ∀ d ∈ tables_1, d.before aw Z = true) (x0 : Int32) (x1 : Int32) (x2 : Int32) (fk : Int32) (nk : Int32) (ak : Int32) (em : Nat) (bt : Nat) (bf : Nat) (cz : Int32) (fo : Nat) (sA : Nat) (wA : Nat) (kA : ClassId) (NA : Int32) (vA : List Value) (al : Nat) {p : Program} {e : Env} {s : State} {m : MethodId} {args : Array Value} {below : List Frame} {meth : Method} {c : Code} {T : State} {locs : List Loc} {cells slots n0 : Nat} {h0 h1 : Heap} (hx : p.tables.exec = Jvm.exec) (hby : c.code = code) (hml : c.maxLocals = 11) (hrt : meth.sig.returnType = some .boolean) (hlk : meth.locks = false) (hnm : meth.name = "law") {vm0 vmE : Vm} {k0 : Nat} (hZ : Z.Warmed39 vm0) (hown : vm0.findClass "com/example/vouchsafe/vouchsafe/message/NameIdPolicyAcceptsPinLaw" = some m.cls) (X : Stand p l e room_1 (s.setVm vm0) m args below meth c T locs cells slots) (e0 : T.heap = h1) (N : Fr n0 locs) (hcells : cells ≤ 10) (hslots : slots ≤ 240) (O : Old Z n0 h1) (hS : s.Since vm0 k0) (hk0 : k0 ≤ h1.size) (C0 : CHr Z EL vmE h0 vm0 h1) (CS : Sta Z Z.heap "java/lang/String" "COMPACT_STRINGS" "Z" (.int cz)) (SE : Sta Z Z.heap "java/util/Optional" "EMPTY" "Ljava/util/Optional;" (.ref em)) (EE : Exa Z Z.heap em "java/util/Optional") (FE : Fld Z Z.heap em "java/util/Optional" "value" "Ljava/lang/Object;" .null) (ST1 : Sta Z Z.heap "java/lang/Boolean" "TRUE" "Ljava/lang/Boolean;" (.ref bt)) (ST0 : Sta Z Z.heap "java/lang/Boolean" "FALSE" "Ljava/lang/Boolean;" (.ref bf)) (pf0 : Exa Z h1 fo "java/util/Optional") (pf1 : Fld Z h1 fo "java/util/Optional" "value" "Ljava/lang/Object;" (.ref sA)) (pf2 : Exa Z h1 sA "java/lang/String") (pf3 : Fld Z h1 sA "java/lang/String" "value" "[B" (.ref wA)) (pf4 : Fld Z h1 sA "java/lang/String" "coder" "B" (.int (0 : Int32))) (pf5 : Arv Z h1 wA kA .byte NA vA (.int (0 : Int32))) (hcz : ¬ cz = (0 : Int32)) (hf0 : ¬ (fk = (0 : Int32))) (hf1 : ¬ (fk = (1 : Int32))) (codA : StrChars.Road.CodA (drw x0) 0 NA vA) (cq1 : ¬ (nk = (0 : Int32))) (cq9 : ¬ (nk = (1 : Int32))) :
    GoesW p e below s room_1.cells room_1.slots n0 (fun v vm h => (fun vv hh => vv = some (.int (1 : Int32))) v h ∧ CHr Z EL vmE h0 vm h) (T.setTop (mkF m 124 #[.val (.int x0), .val (.int x1), .val (.int x2), .val (.int fk), .val (.int nk), .val (.int ak), .val (.ref fo), .val (.ref al), .unset, .unset, .unset] [(.int nk)])) := by
  have zO := O.le
  have lt_fo := lt_nat pf0.lt
  have lt_sA := lt_nat pf2.lt
  have lt_wA := lt_nat pf5.lt
  show GoesW _ _ _ _ _ _ _ _ (T.setTop (mkF m 124 #[.val (.int x0), .val (.int x1), .val (.int x2), .val (.int fk), .val (.int nk), .val (.int ak), .val (.ref fo), .val (.ref al), .unset, .unset, .unset] [(.int nk)]))
  refine GoesW.via (fun _ k => XT.iconstV X.here hx rfl (2 : Int32) (hb hby at_124) (by decide) k) ?_
  show GoesW _ _ _ _ _ _ _ _ (T.setTop (mkF m 125 #[.val (.int x0), .val (.int x1), .val (.int x2), .val (.int fk), .val (.int nk), .val (.int ak), .val (.ref fo), .val (.ref al), .unset, .unset, .unset] [(.int (2 : Int32)), (.int nk)]))
  by_cases cq10 : nk = (2 : Int32)
  · skip
    refine GoesW.via (fun _ k => XS.icmpNo X.here hx rfl (hb hby at_125) rfl (XT.ii_ne_f cq10) k) ?_
    show GoesW _ _ _ _ _ _ _ _ (T.setTop (mkF m 128 #[.val (.int x0), .val (.int x1), .val (.int x2), .val (.int fk), .val (.int nk), .val (.int ak), .val (.ref fo), .val (.ref al), .unset, .unset, .unset] []))
    obtain ⟨aq11, Tq11, hq11, kq11, wq11, kkq11, Xq11, eq11, Eq11, Sq11, hkq11, hZq11, hownq11, exq11, fcq11, fvq11, vaq11, laq11, lbq11, Rq11, -, sfq11, stq11⟩ := ldcCH X hx hZ hown (W_99 hw) (strAtoms hw) e0 hS (by omega) (ew hw) (by decide) C0.1 (vs := [(.int (117 : Int32)), (.int (114 : Int32)), (.int (110 : Int32)), (.int (58 : Int32)), (.int (111 : Int32)), (.int (97 : Int32)), (.int (115 : Int32)), (.int (105 : Int32)), (.int (115 : Int32)), (.int (58 : Int32)), (.int (110 : Int32)), (.int (97 : Int32)), (.int (109 : Int32)), (.int (101 : Int32)), (.int (115 : Int32)), (.int (58 : Int32)), (.int (116 : Int32)), (.int (99 : Int32)), (.int (58 : Int32)), (.int (83 : Int32)), (.int (65 : Int32)), (.int (77 : Int32)), (.int (76 : Int32)), (.int (58 : Int32)), (.int (49 : Int32)), (.int (46 : Int32)), (.int (49 : Int32)), (.int (58 : Int32)), (.int (110 : Int32)), (.int (97 : Int32)), (.int (109 : Int32)), (.int (101 : Int32)), (.int (105 : Int32)), (.int (100 : Int32)), (.int (45 : Int32)), (.int (102 : Int32)), (.int (111 : Int32)), (.int (114 : Int32)), (.int (109 : Int32)), (.int (97 : Int32)), (.int (116 : Int32)), (.int (58 : Int32)), (.int (117 : Int32)), (.int (110 : Int32)), (.int (115 : Int32)), (.int (112 : Int32)), (.int (101 : Int32)), (.int (99 : Int32)), (.int (105 : Int32)), (.int (102 : Int32)), (.int (105 : Int32)), (.int (101 : Int32)), (.int (100 : Int32))]) (z := (53 : Int32)) ⟨by decide +kernel, by decide +kernel⟩ (by decide) (by decide) (g := (mkF m 128 #[.val (.int x0), .val (.int x1), .val (.int x2), .val (.int fk), .val (.int nk), .val (.int ak), .val (.ref fo), .val (.ref al), .unset, .unset, .unset] [])) rfl (hb hby at_128) (n := 212) (by decide +kernel) (by decide) (by show _ + 2 ≤ 40; omega) (by show _ + 216 ≤ 5312; omega)
    replace laq11 := lt_nat laq11
    replace lbq11 := lt_nat lbq11
    have zq11 := Eq11.1
    have Oq11 := O.ext Eq11
    have Cq11 := C0.trans Rq11
    refine GoesW.via stq11 ?_
    show GoesW _ _ _ _ _ _ _ _ (Tq11.setTop (mkF m 130 #[.val (.int x0), .val (.int x1), .val (.int x2), .val (.int fk), .val (.int nk), .val (.int ak), .val (.ref fo), .val (.ref al), .unset, .unset, .unset] [(.ref aq11)]))
    refine GoesW.via (fun _ k => XS.astore Xq11.here hx rfl (hb hby at_130) rfl rfl (l' := #[.val (.int x0), .val (.int x1), .val (.int x2), .val (.int fk), .val (.int nk), .val (.int ak), .val (.ref fo), .val (.ref al), .val (.ref aq11), .unset, .unset]) rfl k) ?_
    show GoesW _ _ _ _ _ _ _ _ (Tq11.setTop (mkF m 132 #[.val (.int x0), .val (.int x1), .val (.int x2), .val (.int fk), .val (.int nk), .val (.int ak), .val (.ref fo), .val (.ref al), .val (.ref aq11), .unset, .unset] []))
    refine GoesW.via (fun _ k => XS.goto Xq11.here hx rfl (pc0 := 132) (pc' := 143) rfl (hb hby at_132) (by decide) (by decide) k) ?_
    show GoesW _ _ _ _ _ _ _ _ (Tq11.setTop (mkF m 143 #[.val (.int x0), .val (.int x1), .val (.int x2), .val (.int fk), .val (.int nk), .val (.int ak), .val (.ref fo), .val (.ref al), .val (.ref aq11), .unset, .unset] []))
    refine GoesW.via (fun _ k => XS.iloadN Xq11.here hx rfl (hb hby at_143) rfl k) ?_
    show GoesW _ _ _ _ _ _ _ _ (Tq11.setTop (mkF m 144 #[.val (.int x0), .val (.int x1), .val (.int x2), .val (.int fk), .val (.int nk), .val (.int ak), .val (.ref fo), .val (.ref al), .val (.ref aq11), .unset, .unset] [(.int fk)]))
    have fq12 : Exa Z hq11 fo "java/util/Optional" := (pf0.ext Eq11)
    have fq13 : Fld Z hq11 fo "java/util/Optional" "value" "Ljava/lang/Object;" (.ref sA) := (pf1.ext Eq11)
    have fq14 : Exa Z hq11 sA "java/lang/String" := (pf2.ext Eq11)
    have fq15 : Fld Z hq11 sA "java/lang/String" "value" "[B" (.ref wA) := (pf3.ext Eq11)
    have fq16 : Fld Z hq11 sA "java/lang/String" "coder" "B" (.int (0 : Int32)) := (pf4.ext Eq11)
    have fq17 : Arv Z hq11 wA kA .byte NA vA (.int (0 : Int32)) := (pf5.ext Eq11)
    exact law_c24 l Z aw hw x0 x1 x2 fk nk ak em bt bf cz fo sA wA kA NA vA al aq11 wq11 kkq11 hx hby hml hrt hlk hnm hZq11 hownq11 Xq11 eq11 N (by omega) (by omega) Oq11 Sq11 (by omega) Cq11 CS SE EE FE ST1 ST0 fq12 fq13 fq14 fq15 fq16 fq17 exq11 fcq11 fvq11 vaq11 hcz hf0 hf1 codA cq1 cq9 cq10
  · skip
    refine GoesW.via (fun _ k => XS.icmpYes X.here hx rfl (pc0 := 125) (pc' := 135) rfl (hb hby at_125) rfl (XT.ii_ne_t cq10) (by decide) (by decide) k) ?_
    show GoesW _ _ _ _ _ _ _ _ (T.setTop (mkF m 135 #[.val (.int x0), .val (.int x1), .val (.int x2), .val (.int fk), .val (.int nk), .val (.int ak), .val (.ref fo), .val (.ref al), .unset, .unset, .unset] []))
    refine GoesW.via (fun _ k => XS.iloadN X.here hx rfl (hb hby at_135) rfl k) ?_
    show GoesW _ _ _ _ _ _ _ _ (T.setTop (mkF m 136 #[.val (.int x0), .val (.int x1), .val (.int x2), .val (.int fk), .val (.int nk), .val (.int ak), .val (.ref fo), .val (.ref al), .unset, .unset, .unset] [(.int x0)]))
    refine GoesW.via (fun _ k => XT.iconstV X.here hx rfl (1 : Int32) (hb hby at_136) (by decide) k) ?_
    show GoesW _ _ _ _ _ _ _ _ (T.setTop (mkF m 137 #[.val (.int x0), .val (.int x1), .val (.int x2), .val (.int fk), .val (.int nk), .val (.int ak), .val (.ref fo), .val (.ref al), .unset, .unset, .unset] [(.int (1 : Int32)), (.int x0)]))
    refine GoesW.via (fun _ k => XT.ixor X.here hx rfl (hb hby at_137) rfl k) ?_
    show GoesW _ _ _ _ _ _ _ _ (T.setTop (mkF m 138 #[.val (.int x0), .val (.int x1), .val (.int x2), .val (.int fk), .val (.int nk), .val (.int ak), .val (.ref fo), .val (.ref al), .unset, .unset, .unset] [(.int (x0 ^^^ (1 : Int32)))]))
    obtain ⟨vq18, Tq18, Lq18, Xq18, Sq18, hZq18, hownq18, Rq18, qq18, nq18, stq18⟩ := callStW X hx hZ hown hS (by rw [e0]; omega) (ew hw) C0.1 all0 all0 (drawnC l Z aw hw (x0 ^^^ (1 : Int32)) cz O CS hcz) (W_0 hw) (W_1 hw) (W_2 hw) (W_3 hw) (by decide) e0 (by decide) (W := 0) (by decide) (by show _ + 6 ≤ 40; omega) (by show _ + 14 ≤ 5312; omega) (g := (mkF m 138 #[.val (.int x0), .val (.int x1), .val (.int x2), .val (.int fk), .val (.int nk), .val (.int ak), .val (.ref fo), .val (.ref al), .unset, .unset, .unset] [(.int (x0 ^^^ (1 : Int32)))])) rfl (by rw [hml]; rfl) (argsL := [(.int (x0 ^^^ (1 : Int32)))]) (rest := []) rfl (lenOf pd_19 rfl) rfl (by show 2 * 0 + _ ≤ _; exact Nat.le_of_eq rfl) (hb hby at_138)
    dsimp only at Xq18
    obtain ⟨xr_q18, xtb_q18, xkt_q18, xN1_q18, xvs_q18, rfl, pq18_0, pq18_1, pq18_2, pq18_3, pq18_4, pq18_5, pq18_6⟩ := qq18
    have Nq18 := Fr.app N nq18
    have zq18 := pq18_1.1
    have Oq18 := O.keep pq18_1 all0
    have Cq18 := C0.trans Rq18
    have ltpq18_2 := lt_nat pq18_2.lt
    have ltpq18_5 := lt_nat pq18_5.lt
    refine GoesW.via stq18 ?_
    show GoesW _ _ _ _ _ _ _ _ (Tq18.setTop (mkF m 141 #[.val (.int x0), .val (.int x1), .val (.int x2), .val (.int fk), .val (.int nk), .val (.int ak), .val (.ref fo), .val (.ref al), .unset, .unset, .unset] [(.ref xr_q18)]))
    have fq19 : Exa Z Tq18.heap fo "java/util/Optional" := (pf0.keep pq18_1)
    have fq20 : Fld Z Tq18.heap fo "java/util/Optional" "value" "Ljava/lang/Object;" (.ref sA) := (pf1.keep pq18_1 nin0)
    have fq21 : Exa Z Tq18.heap sA "java/lang/String" := (pf2.keep pq18_1)
    have fq22 : Fld Z Tq18.heap sA "java/lang/String" "value" "[B" (.ref wA) := (pf3.keep pq18_1 nin0)
    have fq23 : Fld Z Tq18.heap sA "java/lang/String" "coder" "B" (.int (0 : Int32)) := (pf4.keep pq18_1 nin0)
    have fq24 : Arv Z Tq18.heap wA kA .byte NA vA (.int (0 : Int32)) := (pf5.keep pq18_1 nin0)
    exact law_c25 l Z aw hw x0 x1 x2 fk nk ak em bt bf cz fo sA wA kA NA vA al xr_q18 xtb_q18 xkt_q18 xN1_q18 xvs_q18 hx hby hml hrt hlk hnm hZq18 hownq18 Xq18 rfl Nq18 (by omega) (by omega) Oq18 Sq18 (by omega) Cq18 CS SE EE FE ST1 ST0 fq19 fq20 fq21 fq22 fq23 fq24 pq18_2 pq18_3 pq18_4 pq18_5 hcz hf0 hf1 codA cq1 cq9 cq10 pq18_6 (by omega)
set_option maxRecDepth 65536 in
set_option maxHeartbeats 40000000 in
theorem seg93D (l : Launch) (Z : State) (aw : Array Value) (hw : ∀ d ∈ tables_1, d.before aw Z = true) (x0 : Int32) (x1 : Int32) (x2 : Int32) (fk : Int32) (nk : Int32) (ak : Int32) (em : Nat) (bt : Nat) (bf : Nat) (cz : Int32) (fo : Nat) (sA : Nat) (wA : Nat) (kA : ClassId) (NA : Int32) (vA : List Value) (al : Nat) {p : Program} {e : Env} {s : State} {m : MethodId} {args : Array Value} {below : List Frame} {meth : Method} {c : Code} {T : State} {locs : List Loc} {cells slots n0 : Nat} {h0 h1 : Heap} (hx : p.tables.exec = Jvm.exec) (hby : c.code = code) (hml : c.maxLocals = 11) (hrt : meth.sig.returnType = some .boolean) (hlk : meth.locks = false) (hnm : meth.name = "law") {vm0 vmE : Vm} {k0 : Nat} (hZ : Z.Warmed39 vm0) (hown : vm0.findClass "com/example/vouchsafe/vouchsafe/message/NameIdPolicyAcceptsPinLaw" = some m.cls) (X : Stand p l e room_1 (s.setVm vm0) m args below meth c T locs cells slots) (e0 : T.heap = h1) (N : Fr n0 locs) (hcells : cells ≤ 10) (hslots : slots ≤ 240) (O : Old Z n0 h1) (hS : s.Since vm0 k0) (hk0 : k0 ≤ h1.size) (C0 : CHr Z EL vmE h0 vm0 h1) (CS : Sta Z Z.heap "java/lang/String" "COMPACT_STRINGS" "Z" (.int cz)) (SE : Sta Z Z.heap "java/util/Optional" "EMPTY" "Ljava/util/Optional;" (.ref em)) (EE : Exa Z Z.heap em "java/util/Optional") (FE : Fld Z Z.heap em "java/util/Optional" "value" "Ljava/lang/Object;" .null) (ST1 : Sta Z Z.heap "java/lang/Boolean" "TRUE" "Ljava/lang/Boolean;" (.ref bt)) (ST0 : Sta Z Z.heap "java/lang/Boolean" "FALSE" "Ljava/lang/Boolean;" (.ref bf)) (EO : Exa Z h1 fo "java/util/Optional") (FO : Fld Z h1 fo "java/util/Optional" "value" "Ljava/lang/Object;" (.ref sA)) (ESA : Exa Z h1 sA "java/lang/String") (VSA : Fld Z h1 sA "java/lang/String" "value" "[B" (.ref wA)) (CSA : Fld Z h1 sA "java/lang/String" "coder" "B" (.int (0 : Int32))) (ASA : Arv Z h1 wA kA .byte NA vA (.int (0 : Int32))) (hcz : ¬ cz = (0 : Int32)) (hf0 : ¬ (fk = (0 : Int32))) (hf1 : ¬ (fk = (1 : Int32))) (codA : StrChars.Road.CodA (drw x0) 0 NA vA) :
    GoesW p e below s room_1.cells room_1.slots n0 (fun v vm h => (fun vv hh => vv = some (.int (1 : Int32))) v h ∧ CHr Z EL vmE h0 vm h) (T.setTop (mkF m 93 #[.val (.int x0), .val (.int x1), .val (.int x2), .val (.int fk), .val (.int nk), .val (.int ak), .val (.ref fo), .val (.ref al), .unset, .unset, .unset] [])) := by
  have zO := O.le
  have lt_fo := lt_nat EO.lt
  have lt_sA := lt_nat ESA.lt
  have lt_wA := lt_nat ASA.lt
  show GoesW _ _ _ _ _ _ _ _ (T.setTop (mkF m 93 #[.val (.int x0), .val (.int x1), .val (.int x2), .val (.int fk), .val (.int nk), .val (.int ak), .val (.ref fo), .val (.ref al), .unset, .unset, .unset] []))
  refine GoesW.via (fun _ k => XS.iload X.here hx rfl (hb hby at_93) rfl k) ?_
  show GoesW _ _ _ _ _ _ _ _ (T.setTop (mkF m 95 #[.val (.int x0), .val (.int x1), .val (.int x2), .val (.int fk), .val (.int nk), .val (.int ak), .val (.ref fo), .val (.ref al), .unset, .unset, .unset] [(.int nk)]))
  by_cases cq1 : nk = (0 : Int32)
  · skip
    refine GoesW.via (fun _ k => XS.ifNo X.here hx rfl (hb hby at_95) rfl (XT.i0_ne_f cq1) k) ?_
    show GoesW _ _ _ _ _ _ _ _ (T.setTop (mkF m 98 #[.val (.int x0), .val (.int x1), .val (.int x2), .val (.int fk), .val (.int nk), .val (.int ak), .val (.ref fo), .val (.ref al), .unset, .unset, .unset] []))
    refine GoesW.via (fun _ k => XS.iloadN X.here hx rfl (hb hby at_98) rfl k) ?_
    show GoesW _ _ _ _ _ _ _ _ (T.setTop (mkF m 99 #[.val (.int x0), .val (.int x1), .val (.int x2), .val (.int fk), .val (.int nk), .val (.int ak), .val (.ref fo), .val (.ref al), .unset, .unset, .unset] [(.int x1)]))
    obtain ⟨vq2, Tq2, Lq2, Xq2, Sq2, hZq2, hownq2, Rq2, qq2, nq2, stq2⟩ := callStW X hx hZ hown hS (by rw [e0]; omega) (ew hw) C0.1 all0 all0 (drawnC l Z aw hw x1 cz O CS hcz) (W_0 hw) (W_1 hw) (W_2 hw) (W_3 hw) (by decide) e0 (by decide) (W := 0) (by decide) (by show _ + 6 ≤ 40; omega) (by show _ + 14 ≤ 5312; omega) (g := (mkF m 99 #[.val (.int x0), .val (.int x1), .val (.int x2), .val (.int fk), .val (.int nk), .val (.int ak), .val (.ref fo), .val (.ref al), .unset, .unset, .unset] [(.int x1)])) rfl (by rw [hml]; rfl) (argsL := [(.int x1)]) (rest := []) rfl (lenOf pd_19 rfl) rfl (by show 2 * 0 + _ ≤ _; exact Nat.le_of_eq rfl) (hb hby at_99)
    dsimp only at Xq2
    obtain ⟨xr_q2, xtb_q2, xkt_q2, xN1_q2, xvs_q2, rfl, pq2_0, pq2_1, pq2_2, pq2_3, pq2_4, pq2_5, pq2_6⟩ := qq2
    have Nq2 := Fr.app N nq2
    have zq2 := pq2_1.1
    have Oq2 := O.keep pq2_1 all0
    have Cq2 := C0.trans Rq2
    have ltpq2_2 := lt_nat pq2_2.lt
    have ltpq2_5 := lt_nat pq2_5.lt
    refine GoesW.via stq2 ?_
    show GoesW _ _ _ _ _ _ _ _ (Tq2.setTop (mkF m 102 #[.val (.int x0), .val (.int x1), .val (.int x2), .val (.int fk), .val (.int nk), .val (.int ak), .val (.ref fo), .val (.ref al), .unset, .unset, .unset] [(.ref xr_q2)]))
    refine GoesW.via (fun _ k => XS.astore Xq2.here hx rfl (hb hby at_102) rfl rfl (l' := #[.val (.int x0), .val (.int x1), .val (.int x2), .val (.int fk), .val (.int nk), .val (.int ak), .val (.ref fo), .val (.ref al), .val (.ref xr_q2), .unset, .unset]) rfl k) ?_
    show GoesW _ _ _ _ _ _ _ _ (Tq2.setTop (mkF m 104 #[.val (.int x0), .val (.int x1), .val (.int x2), .val (.int fk), .val (.int nk), .val (.int ak), .val (.ref fo), .val (.ref al), .val (.ref xr_q2), .unset, .unset] []))
    refine GoesW.via (fun _ k => XS.goto Xq2.here hx rfl (pc0 := 104) (pc' := 143) rfl (hb hby at_104) (by decide) (by decide) k) ?_
    show GoesW _ _ _ _ _ _ _ _ (Tq2.setTop (mkF m 143 #[.val (.int x0), .val (.int x1), .val (.int x2), .val (.int fk), .val (.int nk), .val (.int ak), .val (.ref fo), .val (.ref al), .val (.ref xr_q2), .unset, .unset] []))
    have fq3 : Exa Z Tq2.heap fo "java/util/Optional" := (EO.keep pq2_1)
    have fq4 : Fld Z Tq2.heap fo "java/util/Optional" "value" "Ljava/lang/Object;" (.ref sA) := (FO.keep pq2_1 nin0)
    have fq5 : Exa Z Tq2.heap sA "java/lang/String" := (ESA.keep pq2_1)
    have fq6 : Fld Z Tq2.heap sA "java/lang/String" "value" "[B" (.ref wA) := (VSA.keep pq2_1 nin0)
    have fq7 : Fld Z Tq2.heap sA "java/lang/String" "coder" "B" (.int (0 : Int32)) := (CSA.keep pq2_1 nin0)
    have fq8 : Arv Z Tq2.heap wA kA .byte NA vA (.int (0 : Int32)) := (ASA.keep pq2_1 nin0)
    exact law_c21 l Z aw hw x0 x1 x2 fk nk ak em bt bf cz fo sA wA kA NA vA al xr_q2 xtb_q2 xkt_q2 xN1_q2 xvs_q2 hx hby hml hrt hlk hnm hZq2 hownq2 Xq2 rfl Nq2 (by omega) (by omega) Oq2 Sq2 (by omega) Cq2 CS SE EE FE ST1 ST0 fq3 fq4 fq5 fq6 fq7 fq8 pq2_2 pq2_3 pq2_4 pq2_5 hcz hf0 hf1 codA cq1 pq2_6 (by omega)
  · skip
    refine GoesW.via (fun _ k => XS.ifYes X.here hx rfl (pc0 := 95) (pc' := 107) rfl (hb hby at_95) rfl (XT.i0_ne_t cq1) (by decide) (by decide) k) ?_
    show GoesW _ _ _ _ _ _ _ _ (T.setTop (mkF m 107 #[.val (.int x0), .val (.int x1), .val (.int x2), .val (.int fk), .val (.int nk), .val (.int ak), .val (.ref fo), .val (.ref al), .unset, .unset, .unset] []))
    refine GoesW.via (fun _ k => XS.iload X.here hx rfl (hb hby at_107) rfl k) ?_
    show GoesW _ _ _ _ _ _ _ _ (T.setTop (mkF m 109 #[.val (.int x0), .val (.int x1), .val (.int x2), .val (.int fk), .val (.int nk), .val (.int ak), .val (.ref fo), .val (.ref al), .unset, .unset, .unset] [(.int nk)]))
    refine GoesW.via (fun _ k => XT.iconstV X.here hx rfl (1 : Int32) (hb hby at_109) (by decide) k) ?_
    show GoesW _ _ _ _ _ _ _ _ (T.setTop (mkF m 110 #[.val (.int x0), .val (.int x1), .val (.int x2), .val (.int fk), .val (.int nk), .val (.int ak), .val (.ref fo), .val (.ref al), .unset, .unset, .unset] [(.int (1 : Int32)), (.int nk)]))
    by_cases cq9 : nk = (1 : Int32)
    · skip
      refine GoesW.via (fun _ k => XS.icmpNo X.here hx rfl (hb hby at_110) rfl (XT.ii_ne_f cq9) k) ?_
      show GoesW _ _ _ _ _ _ _ _ (T.setTop (mkF m 113 #[.val (.int x0), .val (.int x1), .val (.int x2), .val (.int fk), .val (.int nk), .val (.int ak), .val (.ref fo), .val (.ref al), .unset, .unset, .unset] []))
      refine GoesW.via (fun _ k => XS.iloadN X.here hx rfl (hb hby at_113) rfl k) ?_
      show GoesW _ _ _ _ _ _ _ _ (T.setTop (mkF m 114 #[.val (.int x0), .val (.int x1), .val (.int x2), .val (.int fk), .val (.int nk), .val (.int ak), .val (.ref fo), .val (.ref al), .unset, .unset, .unset] [(.int x0)]))
      exact law_c22 l Z aw hw x0 x1 x2 fk nk ak em bt bf cz fo sA wA kA NA vA al hx hby hml hrt hlk hnm hZ hown X e0 N (by omega) (by omega) O hS (by omega) C0 CS SE EE FE ST1 ST0 EO FO ESA VSA CSA ASA hcz hf0 hf1 codA cq1 cq9
    · skip
      refine GoesW.via (fun _ k => XS.icmpYes X.here hx rfl (pc0 := 110) (pc' := 122) rfl (hb hby at_110) rfl (XT.ii_ne_t cq9) (by decide) (by decide) k) ?_
      show GoesW _ _ _ _ _ _ _ _ (T.setTop (mkF m 122 #[.val (.int x0), .val (.int x1), .val (.int x2), .val (.int fk), .val (.int nk), .val (.int ak), .val (.ref fo), .val (.ref al), .unset, .unset, .unset] []))
      refine GoesW.via (fun _ k => XS.iload X.here hx rfl (hb hby at_122) rfl k) ?_
      show GoesW _ _ _ _ _ _ _ _ (T.setTop (mkF m 124 #[.val (.int x0), .val (.int x1), .val (.int x2), .val (.int fk), .val (.int nk), .val (.int ak), .val (.ref fo), .val (.ref al), .unset, .unset, .unset] [(.int nk)]))
      exact law_c23 l Z aw hw x0 x1 x2 fk nk ak em bt bf cz fo sA wA kA NA vA al hx hby hml hrt hlk hnm hZ hown X e0 N (by omega) (by omega) O hS (by omega) C0 CS SE EE FE ST1 ST0 EO FO ESA VSA CSA ASA hcz hf0 hf1 codA cq1 cq9
set_option maxRecDepth 65536 in
set_option maxHeartbeats 40000000 in
theorem seg54D (l : Launch) (Z : State) (aw : Array Value) (hw : ∀ d ∈ tables_1, d.before aw Z = true) (x0 : Int32) (x1 : Int32) (x2 : Int32) (fk : Int32) (nk : Int32) (ak : Int32) (em : Nat) (bt : Nat) (bf : Nat) (cz : Int32) (fo : Nat) (sA : Nat) (wA : Nat) (kA : ClassId) (NA : Int32) (vA : List Value) {p : Program} {e : Env} {s : State} {m : MethodId} {args : Array Value} {below : List Frame} {meth : Method} {c : Code} {T : State} {locs : List Loc} {cells slots n0 : Nat} {h0 h1 : Heap} (hx : p.tables.exec = Jvm.exec) (hby : c.code = code) (hml : c.maxLocals = 11) (hrt : meth.sig.returnType = some .boolean) (hlk : meth.locks = false) (hnm : meth.name = "law") {vm0 vmE : Vm} {k0 : Nat} (hZ : Z.Warmed39 vm0) (hown : vm0.findClass "com/example/vouchsafe/vouchsafe/message/NameIdPolicyAcceptsPinLaw" = some m.cls) (X : Stand p l e room_1 (s.setVm vm0) m args below meth c T locs cells slots) (e0 : T.heap = h1) (N : Fr n0 locs) (hcells : cells ≤ 9) (hslots : slots ≤ 236) (O : Old Z n0 h1) (hS : s.Since vm0 k0) (hk0 : k0 ≤ h1.size) (C0 : CHr Z EL vmE h0 vm0 h1) (CS : Sta Z Z.heap "java/lang/String" "COMPACT_STRINGS" "Z" (.int cz)) (SE : Sta Z Z.heap "java/util/Optional" "EMPTY" "Ljava/util/Optional;" (.ref em)) (EE : Exa Z Z.heap em "java/util/Optional") (FE : Fld Z Z.heap em "java/util/Optional" "value" "Ljava/lang/Object;" .null) (ST1 : Sta Z Z.heap "java/lang/Boolean" "TRUE" "Ljava/lang/Boolean;" (.ref bt)) (ST0 : Sta Z Z.heap "java/lang/Boolean" "FALSE" "Ljava/lang/Boolean;" (.ref bf)) (EO : Exa Z h1 fo "java/util/Optional") (FO : Fld Z h1 fo "java/util/Optional" "value" "Ljava/lang/Object;" (.ref sA)) (ESA : Exa Z h1 sA "java/lang/String") (VSA : Fld Z h1 sA "java/lang/String" "value" "[B" (.ref wA)) (CSA : Fld Z h1 sA "java/lang/String" "coder" "B" (.int (0 : Int32))) (ASA : Arv Z h1 wA kA .byte NA vA (.int (0 : Int32))) (hcz : ¬ cz = (0 : Int32)) (hf0 : ¬ (fk = (0 : Int32))) (hf1 : ¬ (fk = (1 : Int32))) (codA : StrChars.Road.CodA (drw x0) 0 NA vA) :
    GoesW p e below s room_1.cells room_1.slots n0 (fun v vm h => (fun vv hh => vv = some (.int (1 : Int32))) v h ∧ CHr Z EL vmE h0 vm h) (T.setTop (mkF m 54 #[.val (.int x0), .val (.int x1), .val (.int x2), .val (.int fk), .val (.int nk), .val (.int ak), .val (.ref fo), .unset, .unset, .unset, .unset] [])) := by
  have zO := O.le
  have lt_fo := lt_nat EO.lt
  have lt_sA := lt_nat ESA.lt
  have lt_wA := lt_nat ASA.lt
  show GoesW _ _ _ _ _ _ _ _ (T.setTop (mkF m 54 #[.val (.int x0), .val (.int x1), .val (.int x2), .val (.int fk), .val (.int nk), .val (.int ak), .val (.ref fo), .unset, .unset, .unset, .unset] []))
  refine GoesW.via (fun _ k => XS.iload X.here hx rfl (hb hby at_54) rfl k) ?_
  show GoesW _ _ _ _ _ _ _ _ (T.setTop (mkF m 56 #[.val (.int x0), .val (.int x1), .val (.int x2), .val (.int fk), .val (.int nk), .val (.int ak), .val (.ref fo), .unset, .unset, .unset, .unset] [(.int ak)]))
  refine GoesW.via (fun _ k => XT.iconstV X.here hx rfl (1 : Int32) (hb hby at_56) (by decide) k) ?_
  show GoesW _ _ _ _ _ _ _ _ (T.setTop (mkF m 57 #[.val (.int x0), .val (.int x1), .val (.int x2), .val (.int fk), .val (.int nk), .val (.int ak), .val (.ref fo), .unset, .unset, .unset, .unset] [(.int (1 : Int32)), (.int ak)]))
  by_cases cq1 : ak = (1 : Int32)
  · skip
    refine GoesW.via (fun _ k => XS.icmpNo X.here hx rfl (hb hby at_57) rfl (XT.ii_ne_f cq1) k) ?_
    show GoesW _ _ _ _ _ _ _ _ (T.setTop (mkF m 60 #[.val (.int x0), .val (.int x1), .val (.int x2), .val (.int fk), .val (.int nk), .val (.int ak), .val (.ref fo), .unset, .unset, .unset, .unset] []))
    have fq3 : Sta Z h1 "java/lang/Boolean" "TRUE" "Ljava/lang/Boolean;" (.ref bt) := (ST1.ext O.2)
    obtain ⟨Tq2, Xq2, eq2, stq2⟩ := getS2 X hx hZ hown (host := "") (Or.inl (W_112 hw)) Via.refl e0 fq3 (g := (mkF m 60 #[.val (.int x0), .val (.int x1), .val (.int x2), .val (.int fk), .val (.int nk), .val (.int ak), .val (.ref fo), .unset, .unset, .unset, .unset] [])) rfl (hb hby at_60)
    refine GoesW.via stq2 ?_
    show GoesW _ _ _ _ _ _ _ _ (Tq2.setTop (mkF m 63 #[.val (.int x0), .val (.int x1), .val (.int x2), .val (.int fk), .val (.int nk), .val (.int ak), .val (.ref fo), .unset, .unset, .unset, .unset] [(.ref bt)]))
    obtain ⟨vq4, Tq4, Lq4, Xq4, qq4, nq4, stq4⟩ := callSt Xq2 hx hZ hown (optOf l Z aw hw bt O) (W_26 hw) (W_27 hw) (W_28 hw) (W_29 hw) (by decide) eq2 (by decide) (W := 0) (by decide) (by show _ + 1 ≤ 40; omega) (by show _ + 1 ≤ 5312; omega) (g := (mkF m 63 #[.val (.int x0), .val (.int x1), .val (.int x2), .val (.int fk), .val (.int nk), .val (.int ak), .val (.ref fo), .unset, .unset, .unset, .unset] [(.ref bt)])) rfl (by rw [hml]; rfl) (argsL := [(.ref bt)]) (rest := []) rfl (lenOf pd_22 rfl) rfl (by show 2 * 0 + _ ≤ _; exact Nat.le_of_eq rfl) (hb hby at_63)
    dsimp only at Xq4
    obtain ⟨xr_q4, rfl, pq4_0, pq4_1, pq4_2, pq4_3⟩ := qq4
    have Nq4 := Fr.app N nq4
    have zq4 := pq4_1.1
    have Oq4 := O.keep pq4_1 all0
    have Cq4 := C0.trans (CHr.keep pq4_1 all0 C0.1)
    have ltpq4_2 := lt_nat pq4_2.lt
    refine GoesW.via stq4 ?_
    show GoesW _ _ _ _ _ _ _ _ (Tq4.setTop (mkF m 66 #[.val (.int x0), .val (.int x1), .val (.int x2), .val (.int fk), .val (.int nk), .val (.int ak), .val (.ref fo), .unset, .unset, .unset, .unset] [(.ref xr_q4)]))
    refine GoesW.via (fun _ k => XS.astore Xq4.here hx rfl (hb hby at_66) rfl rfl (l' := #[.val (.int x0), .val (.int x1), .val (.int x2), .val (.int fk), .val (.int nk), .val (.int ak), .val (.ref fo), .val (.ref xr_q4), .unset, .unset, .unset]) rfl k) ?_
    show GoesW _ _ _ _ _ _ _ _ (Tq4.setTop (mkF m 68 #[.val (.int x0), .val (.int x1), .val (.int x2), .val (.int fk), .val (.int nk), .val (.int ak), .val (.ref fo), .val (.ref xr_q4), .unset, .unset, .unset] []))
    refine GoesW.via (fun _ k => XS.goto Xq4.here hx rfl (pc0 := 68) (pc' := 93) rfl (hb hby at_68) (by decide) (by decide) k) ?_
    show GoesW _ _ _ _ _ _ _ _ (Tq4.setTop (mkF m 93 #[.val (.int x0), .val (.int x1), .val (.int x2), .val (.int fk), .val (.int nk), .val (.int ak), .val (.ref fo), .val (.ref xr_q4), .unset, .unset, .unset] []))
    have fq5 : Exa Z Tq4.heap fo "java/util/Optional" := (EO.keep pq4_1)
    have fq6 : Fld Z Tq4.heap fo "java/util/Optional" "value" "Ljava/lang/Object;" (.ref sA) := (FO.keep pq4_1 nin0)
    have fq7 : Exa Z Tq4.heap sA "java/lang/String" := (ESA.keep pq4_1)
    have fq8 : Fld Z Tq4.heap sA "java/lang/String" "value" "[B" (.ref wA) := (VSA.keep pq4_1 nin0)
    have fq9 : Fld Z Tq4.heap sA "java/lang/String" "coder" "B" (.int (0 : Int32)) := (CSA.keep pq4_1 nin0)
    have fq10 : Arv Z Tq4.heap wA kA .byte NA vA (.int (0 : Int32)) := (ASA.keep pq4_1 nin0)
    exact seg93D l Z aw hw x0 x1 x2 fk nk ak em bt bf cz fo sA wA kA NA vA xr_q4 hx hby hml hrt hlk hnm hZ hown Xq4 rfl Nq4 (by omega) (by omega) Oq4 hS (by omega) Cq4 CS SE EE FE ST1 ST0 fq5 fq6 fq7 fq8 fq9 fq10 hcz hf0 hf1 codA
  · skip
    refine GoesW.via (fun _ k => XS.icmpYes X.here hx rfl (pc0 := 57) (pc' := 71) rfl (hb hby at_57) rfl (XT.ii_ne_t cq1) (by decide) (by decide) k) ?_
    show GoesW _ _ _ _ _ _ _ _ (T.setTop (mkF m 71 #[.val (.int x0), .val (.int x1), .val (.int x2), .val (.int fk), .val (.int nk), .val (.int ak), .val (.ref fo), .unset, .unset, .unset, .unset] []))
    refine GoesW.via (fun _ k => XS.iload X.here hx rfl (hb hby at_71) rfl k) ?_
    show GoesW _ _ _ _ _ _ _ _ (T.setTop (mkF m 73 #[.val (.int x0), .val (.int x1), .val (.int x2), .val (.int fk), .val (.int nk), .val (.int ak), .val (.ref fo), .unset, .unset, .unset, .unset] [(.int ak)]))
    refine GoesW.via (fun _ k => XT.iconstV X.here hx rfl (2 : Int32) (hb hby at_73) (by decide) k) ?_
    show GoesW _ _ _ _ _ _ _ _ (T.setTop (mkF m 74 #[.val (.int x0), .val (.int x1), .val (.int x2), .val (.int fk), .val (.int nk), .val (.int ak), .val (.ref fo), .unset, .unset, .unset, .unset] [(.int (2 : Int32)), (.int ak)]))
    by_cases cq11 : ak = (2 : Int32)
    · skip
      refine GoesW.via (fun _ k => XS.icmpNo X.here hx rfl (hb hby at_74) rfl (XT.ii_ne_f cq11) k) ?_
      show GoesW _ _ _ _ _ _ _ _ (T.setTop (mkF m 77 #[.val (.int x0), .val (.int x1), .val (.int x2), .val (.int fk), .val (.int nk), .val (.int ak), .val (.ref fo), .unset, .unset, .unset, .unset] []))
      have fq13 : Sta Z h1 "java/lang/Boolean" "FALSE" "Ljava/lang/Boolean;" (.ref bf) := (ST0.ext O.2)
      obtain ⟨Tq12, Xq12, eq12, stq12⟩ := getS2 X hx hZ hown (host := "") (Or.inl (W_110 hw)) Via.refl e0 fq13 (g := (mkF m 77 #[.val (.int x0), .val (.int x1), .val (.int x2), .val (.int fk), .val (.int nk), .val (.int ak), .val (.ref fo), .unset, .unset, .unset, .unset] [])) rfl (hb hby at_77)
      refine GoesW.via stq12 ?_
      show GoesW _ _ _ _ _ _ _ _ (Tq12.setTop (mkF m 80 #[.val (.int x0), .val (.int x1), .val (.int x2), .val (.int fk), .val (.int nk), .val (.int ak), .val (.ref fo), .unset, .unset, .unset, .unset] [(.ref bf)]))
      obtain ⟨vq14, Tq14, Lq14, Xq14, qq14, nq14, stq14⟩ := callSt Xq12 hx hZ hown (optOf l Z aw hw bf O) (W_26 hw) (W_27 hw) (W_28 hw) (W_29 hw) (by decide) eq12 (by decide) (W := 0) (by decide) (by show _ + 1 ≤ 40; omega) (by show _ + 1 ≤ 5312; omega) (g := (mkF m 80 #[.val (.int x0), .val (.int x1), .val (.int x2), .val (.int fk), .val (.int nk), .val (.int ak), .val (.ref fo), .unset, .unset, .unset, .unset] [(.ref bf)])) rfl (by rw [hml]; rfl) (argsL := [(.ref bf)]) (rest := []) rfl (lenOf pd_22 rfl) rfl (by show 2 * 0 + _ ≤ _; exact Nat.le_of_eq rfl) (hb hby at_80)
      dsimp only at Xq14
      obtain ⟨xr_q14, rfl, pq14_0, pq14_1, pq14_2, pq14_3⟩ := qq14
      have Nq14 := Fr.app N nq14
      have zq14 := pq14_1.1
      have Oq14 := O.keep pq14_1 all0
      have Cq14 := C0.trans (CHr.keep pq14_1 all0 C0.1)
      have ltpq14_2 := lt_nat pq14_2.lt
      refine GoesW.via stq14 ?_
      show GoesW _ _ _ _ _ _ _ _ (Tq14.setTop (mkF m 83 #[.val (.int x0), .val (.int x1), .val (.int x2), .val (.int fk), .val (.int nk), .val (.int ak), .val (.ref fo), .unset, .unset, .unset, .unset] [(.ref xr_q14)]))
      refine GoesW.via (fun _ k => XS.astore Xq14.here hx rfl (hb hby at_83) rfl rfl (l' := #[.val (.int x0), .val (.int x1), .val (.int x2), .val (.int fk), .val (.int nk), .val (.int ak), .val (.ref fo), .val (.ref xr_q14), .unset, .unset, .unset]) rfl k) ?_
      show GoesW _ _ _ _ _ _ _ _ (Tq14.setTop (mkF m 85 #[.val (.int x0), .val (.int x1), .val (.int x2), .val (.int fk), .val (.int nk), .val (.int ak), .val (.ref fo), .val (.ref xr_q14), .unset, .unset, .unset] []))
      refine GoesW.via (fun _ k => XS.goto Xq14.here hx rfl (pc0 := 85) (pc' := 93) rfl (hb hby at_85) (by decide) (by decide) k) ?_
      show GoesW _ _ _ _ _ _ _ _ (Tq14.setTop (mkF m 93 #[.val (.int x0), .val (.int x1), .val (.int x2), .val (.int fk), .val (.int nk), .val (.int ak), .val (.ref fo), .val (.ref xr_q14), .unset, .unset, .unset] []))
      have fq15 : Exa Z Tq14.heap fo "java/util/Optional" := (EO.keep pq14_1)
      have fq16 : Fld Z Tq14.heap fo "java/util/Optional" "value" "Ljava/lang/Object;" (.ref sA) := (FO.keep pq14_1 nin0)
      have fq17 : Exa Z Tq14.heap sA "java/lang/String" := (ESA.keep pq14_1)
      have fq18 : Fld Z Tq14.heap sA "java/lang/String" "value" "[B" (.ref wA) := (VSA.keep pq14_1 nin0)
      have fq19 : Fld Z Tq14.heap sA "java/lang/String" "coder" "B" (.int (0 : Int32)) := (CSA.keep pq14_1 nin0)
      have fq20 : Arv Z Tq14.heap wA kA .byte NA vA (.int (0 : Int32)) := (ASA.keep pq14_1 nin0)
      exact seg93D l Z aw hw x0 x1 x2 fk nk ak em bt bf cz fo sA wA kA NA vA xr_q14 hx hby hml hrt hlk hnm hZ hown Xq14 rfl Nq14 (by omega) (by omega) Oq14 hS (by omega) Cq14 CS SE EE FE ST1 ST0 fq15 fq16 fq17 fq18 fq19 fq20 hcz hf0 hf1 codA
    · skip
      refine GoesW.via (fun _ k => XS.icmpYes X.here hx rfl (pc0 := 74) (pc' := 88) rfl (hb hby at_74) rfl (XT.ii_ne_t cq11) (by decide) (by decide) k) ?_
      show GoesW _ _ _ _ _ _ _ _ (T.setTop (mkF m 88 #[.val (.int x0), .val (.int x1), .val (.int x2), .val (.int fk), .val (.int nk), .val (.int ak), .val (.ref fo), .unset, .unset, .unset, .unset] []))
      obtain ⟨vq21, Tq21, Lq21, Xq21, qq21, nq21, stq21⟩ := callSt X hx hZ hown (optEmpty l Z aw hw em O SE) (W_43 hw) (W_44 hw) (W_28 hw) (W_45 hw) (by decide) e0 (by decide) (W := 0) (by decide) (by show _ + 0 ≤ 40; omega) (by show _ + 0 ≤ 5312; omega) (g := (mkF m 88 #[.val (.int x0), .val (.int x1), .val (.int x2), .val (.int fk), .val (.int nk), .val (.int ak), .val (.ref fo), .unset, .unset, .unset, .unset] [])) rfl (by rw [hml]; rfl) (argsL := []) (rest := []) rfl (lenOf pd_23 rfl) rfl (by show 2 * 0 + _ ≤ _; exact Nat.le_of_eq rfl) (hb hby at_88)
      dsimp only at Xq21
      obtain ⟨rfl, pq21_0⟩ := qq21
      have Nq21 := Fr.app N nq21
      refine GoesW.via stq21 ?_
      show GoesW _ _ _ _ _ _ _ _ (Tq21.setTop (mkF m 91 #[.val (.int x0), .val (.int x1), .val (.int x2), .val (.int fk), .val (.int nk), .val (.int ak), .val (.ref fo), .unset, .unset, .unset, .unset] [(.ref em)]))
      refine GoesW.via (fun _ k => XS.astore Xq21.here hx rfl (hb hby at_91) rfl rfl (l' := #[.val (.int x0), .val (.int x1), .val (.int x2), .val (.int fk), .val (.int nk), .val (.int ak), .val (.ref fo), .val (.ref em), .unset, .unset, .unset]) rfl k) ?_
      show GoesW _ _ _ _ _ _ _ _ (Tq21.setTop (mkF m 93 #[.val (.int x0), .val (.int x1), .val (.int x2), .val (.int fk), .val (.int nk), .val (.int ak), .val (.ref fo), .val (.ref em), .unset, .unset, .unset] []))
      exact seg93D l Z aw hw x0 x1 x2 fk nk ak em bt bf cz fo sA wA kA NA vA em hx hby hml hrt hlk hnm hZ hown Xq21 pq21_0 Nq21 (by omega) (by omega) O hS (by omega) C0 CS SE EE FE ST1 ST0 EO FO ESA VSA CSA ASA hcz hf0 hf1 codA
theorem ef_law (m : MethodId) (x0 : Int32) (x1 : Int32) (x2 : Int32) : entryFrame m #[(.int x0), (.int x1), (.int x2)] maxLocals = mkF m 0 #[.val (.int x0), .val (.int x1), .val (.int x2), .unset, .unset, .unset, .unset, .unset, .unset, .unset, .unset] [] := by first | (simp [entryFrame, mkF, argsToLocals, Value.category, maxLocals]; done) | rfl
set_option maxRecDepth 65536 in
set_option maxHeartbeats 40000000 in
theorem law (l : Launch) (Z : State) (aw : Array Value) (hw : ∀ d ∈ tables_1, d.before aw Z = true) (x0 : Int32) (x1 : Int32) (x2 : Int32) (em : Nat) (bt : Nat) (bf : Nat) (cz : Int32) {h0 : Heap} {n0 : Nat} (O : Old Z n0 h0) (CS : Sta Z Z.heap "java/lang/String" "COMPACT_STRINGS" "Z" (.int cz)) (SE : Sta Z Z.heap "java/util/Optional" "EMPTY" "Ljava/util/Optional;" (.ref em)) (EE : Exa Z Z.heap em "java/util/Optional") (FE : Fld Z Z.heap em "java/util/Optional" "value" "Ljava/lang/Object;" .null) (ST1 : Sta Z Z.heap "java/lang/Boolean" "TRUE" "Ljava/lang/Boolean;" (.ref bt)) (ST0 : Sta Z Z.heap "java/lang/Boolean" "FALSE" "Ljava/lang/Boolean;" (.ref bf)) (hcz : ¬ cz = (0 : Int32)) :
    METW l Z x code maxLocals ret room_1 #[(.int x0), (.int x1), (.int x2)] EL [] h0 n0 (fun vv hh => vv = some (.int (1 : Int32))) := by
  refine metOfW (plainFor_of_name pn_17) ?_
  intro p e s m below meth c T vm0 hx hby hml hrt hlk hnm hZ hown X e0 hS C0 hSL
  replace hml : c.maxLocals = 11 := hml
  replace hnm : meth.name = "law" := hnm
  replace hown : vm0.findClass "com/example/vouchsafe/vouchsafe/message/NameIdPolicyAcceptsPinLaw" = some m.cls := hown
  have N := Fr.nil n0
  have zO := O.le
  refine goCastW (ef_law m x0 x1 x2) ?_
  show GoesW _ _ _ _ _ _ _ _ (T.setTop (mkF m 0 #[.val (.int x0), .val (.int x1), .val (.int x2), .unset, .unset, .unset, .unset, .unset, .unset, .unset, .unset] []))
  refine GoesW.via (fun _ k => XS.iloadN X.here hx rfl (hb hby at_0) rfl k) ?_
  show GoesW _ _ _ _ _ _ _ _ (T.setTop (mkF m 1 #[.val (.int x0), .val (.int x1), .val (.int x2), .unset, .unset, .unset, .unset, .unset, .unset, .unset, .unset] [(.int x2)]))
  refine GoesW.via (fun _ k => XT.iconstV X.here hx rfl (3 : Int32) (hb hby at_1) (by decide) k) ?_
  show GoesW _ _ _ _ _ _ _ _ (T.setTop (mkF m 2 #[.val (.int x0), .val (.int x1), .val (.int x2), .unset, .unset, .unset, .unset, .unset, .unset, .unset, .unset] [(.int (3 : Int32)), (.int x2)]))
  refine GoesW.via (fun _ k => XS.iand X.here hx rfl (hb hby at_2) rfl k) ?_
  show GoesW _ _ _ _ _ _ _ _ (T.setTop (mkF m 3 #[.val (.int x0), .val (.int x1), .val (.int x2), .unset, .unset, .unset, .unset, .unset, .unset, .unset, .unset] [(.int (x2 &&& (3 : Int32)))]))
  refine GoesW.via (fun _ k => XS.istoreN X.here hx rfl (hb hby at_3) rfl (l' := #[.val (.int x0), .val (.int x1), .val (.int x2), .val (.int (x2 &&& (3 : Int32))), .unset, .unset, .unset, .unset, .unset, .unset, .unset]) rfl k) ?_
  show GoesW _ _ _ _ _ _ _ _ (T.setTop (mkF m 4 #[.val (.int x0), .val (.int x1), .val (.int x2), .val (.int (x2 &&& (3 : Int32))), .unset, .unset, .unset, .unset, .unset, .unset, .unset] []))
  refine GoesW.via (fun _ k => XS.iloadN X.here hx rfl (hb hby at_4) rfl k) ?_
  show GoesW _ _ _ _ _ _ _ _ (T.setTop (mkF m 5 #[.val (.int x0), .val (.int x1), .val (.int x2), .val (.int (x2 &&& (3 : Int32))), .unset, .unset, .unset, .unset, .unset, .unset, .unset] [(.int x2)]))
  refine GoesW.via (fun _ k => XT.iconstV X.here hx rfl (2 : Int32) (hb hby at_5) (by decide) k) ?_
  show GoesW _ _ _ _ _ _ _ _ (T.setTop (mkF m 6 #[.val (.int x0), .val (.int x1), .val (.int x2), .val (.int (x2 &&& (3 : Int32))), .unset, .unset, .unset, .unset, .unset, .unset, .unset] [(.int (2 : Int32)), (.int x2)]))
  refine GoesW.via (fun _ k => XT.iushr X.here hx rfl (hb hby at_6) rfl k) ?_
  show GoesW _ _ _ _ _ _ _ _ (T.setTop (mkF m 7 #[.val (.int x0), .val (.int x1), .val (.int x2), .val (.int (x2 &&& (3 : Int32))), .unset, .unset, .unset, .unset, .unset, .unset, .unset] [(.int (XT.ushr x2 (2 : Int32)))]))
  refine GoesW.via (fun _ k => XT.iconstV X.here hx rfl (3 : Int32) (hb hby at_7) (by decide) k) ?_
  show GoesW _ _ _ _ _ _ _ _ (T.setTop (mkF m 8 #[.val (.int x0), .val (.int x1), .val (.int x2), .val (.int (x2 &&& (3 : Int32))), .unset, .unset, .unset, .unset, .unset, .unset, .unset] [(.int (3 : Int32)), (.int (XT.ushr x2 (2 : Int32)))]))
  refine GoesW.via (fun _ k => XS.iand X.here hx rfl (hb hby at_8) rfl k) ?_
  show GoesW _ _ _ _ _ _ _ _ (T.setTop (mkF m 9 #[.val (.int x0), .val (.int x1), .val (.int x2), .val (.int (x2 &&& (3 : Int32))), .unset, .unset, .unset, .unset, .unset, .unset, .unset] [(.int ((XT.ushr x2 (2 : Int32)) &&& (3 : Int32)))]))
  refine GoesW.via (fun _ k => XS.istore X.here hx rfl (hb hby at_9) rfl (l' := #[.val (.int x0), .val (.int x1), .val (.int x2), .val (.int (x2 &&& (3 : Int32))), .val (.int ((XT.ushr x2 (2 : Int32)) &&& (3 : Int32))), .unset, .unset, .unset, .unset, .unset, .unset]) rfl k) ?_
  show GoesW _ _ _ _ _ _ _ _ (T.setTop (mkF m 11 #[.val (.int x0), .val (.int x1), .val (.int x2), .val (.int (x2 &&& (3 : Int32))), .val (.int ((XT.ushr x2 (2 : Int32)) &&& (3 : Int32))), .unset, .unset, .unset, .unset, .unset, .unset] []))
  refine GoesW.via (fun _ k => XS.iloadN X.here hx rfl (hb hby at_11) rfl k) ?_
  show GoesW _ _ _ _ _ _ _ _ (T.setTop (mkF m 12 #[.val (.int x0), .val (.int x1), .val (.int x2), .val (.int (x2 &&& (3 : Int32))), .val (.int ((XT.ushr x2 (2 : Int32)) &&& (3 : Int32))), .unset, .unset, .unset, .unset, .unset, .unset] [(.int x2)]))
  refine GoesW.via (fun _ k => XT.iconstV X.here hx rfl (4 : Int32) (hb hby at_12) (by decide) k) ?_
  show GoesW _ _ _ _ _ _ _ _ (T.setTop (mkF m 13 #[.val (.int x0), .val (.int x1), .val (.int x2), .val (.int (x2 &&& (3 : Int32))), .val (.int ((XT.ushr x2 (2 : Int32)) &&& (3 : Int32))), .unset, .unset, .unset, .unset, .unset, .unset] [(.int (4 : Int32)), (.int x2)]))
  refine GoesW.via (fun _ k => XT.iushr X.here hx rfl (hb hby at_13) rfl k) ?_
  show GoesW _ _ _ _ _ _ _ _ (T.setTop (mkF m 14 #[.val (.int x0), .val (.int x1), .val (.int x2), .val (.int (x2 &&& (3 : Int32))), .val (.int ((XT.ushr x2 (2 : Int32)) &&& (3 : Int32))), .unset, .unset, .unset, .unset, .unset, .unset] [(.int (XT.ushr x2 (4 : Int32)))]))
  refine GoesW.via (fun _ k => XT.iconstV X.here hx rfl (3 : Int32) (hb hby at_14) (by decide) k) ?_
  show GoesW _ _ _ _ _ _ _ _ (T.setTop (mkF m 15 #[.val (.int x0), .val (.int x1), .val (.int x2), .val (.int (x2 &&& (3 : Int32))), .val (.int ((XT.ushr x2 (2 : Int32)) &&& (3 : Int32))), .unset, .unset, .unset, .unset, .unset, .unset] [(.int (3 : Int32)), (.int (XT.ushr x2 (4 : Int32)))]))
  refine GoesW.via (fun _ k => XS.iand X.here hx rfl (hb hby at_15) rfl k) ?_
  show GoesW _ _ _ _ _ _ _ _ (T.setTop (mkF m 16 #[.val (.int x0), .val (.int x1), .val (.int x2), .val (.int (x2 &&& (3 : Int32))), .val (.int ((XT.ushr x2 (2 : Int32)) &&& (3 : Int32))), .unset, .unset, .unset, .unset, .unset, .unset] [(.int ((XT.ushr x2 (4 : Int32)) &&& (3 : Int32)))]))
  refine GoesW.via (fun _ k => XS.istore X.here hx rfl (hb hby at_16) rfl (l' := #[.val (.int x0), .val (.int x1), .val (.int x2), .val (.int (x2 &&& (3 : Int32))), .val (.int ((XT.ushr x2 (2 : Int32)) &&& (3 : Int32))), .val (.int ((XT.ushr x2 (4 : Int32)) &&& (3 : Int32))), .unset, .unset, .unset, .unset, .unset]) rfl k) ?_
  show GoesW _ _ _ _ _ _ _ _ (T.setTop (mkF m 18 #[.val (.int x0), .val (.int x1), .val (.int x2), .val (.int (x2 &&& (3 : Int32))), .val (.int ((XT.ushr x2 (2 : Int32)) &&& (3 : Int32))), .val (.int ((XT.ushr x2 (4 : Int32)) &&& (3 : Int32))), .unset, .unset, .unset, .unset, .unset] []))
  refine GoesW.via (fun _ k => XS.iloadN X.here hx rfl (hb hby at_18) rfl k) ?_
  show GoesW _ _ _ _ _ _ _ _ (T.setTop (mkF m 19 #[.val (.int x0), .val (.int x1), .val (.int x2), .val (.int (x2 &&& (3 : Int32))), .val (.int ((XT.ushr x2 (2 : Int32)) &&& (3 : Int32))), .val (.int ((XT.ushr x2 (4 : Int32)) &&& (3 : Int32))), .unset, .unset, .unset, .unset, .unset] [(.int (x2 &&& (3 : Int32)))]))
  by_cases cq1 : (x2 &&& (3 : Int32)) = (0 : Int32)
  · skip
    refine GoesW.via (fun _ k => XS.ifNo X.here hx rfl (hb hby at_19) rfl (XT.i0_ne_f cq1) k) ?_
    show GoesW _ _ _ _ _ _ _ _ (T.setTop (mkF m 22 #[.val (.int x0), .val (.int x1), .val (.int x2), .val (.int (x2 &&& (3 : Int32))), .val (.int ((XT.ushr x2 (2 : Int32)) &&& (3 : Int32))), .val (.int ((XT.ushr x2 (4 : Int32)) &&& (3 : Int32))), .unset, .unset, .unset, .unset, .unset] []))
    obtain ⟨vq2, Tq2, Lq2, Xq2, qq2, nq2, stq2⟩ := callSt X hx hZ hown (optEmpty l Z aw hw em O SE) (W_43 hw) (W_44 hw) (W_28 hw) (W_45 hw) (by decide) e0 (by decide) (W := 0) (by decide) (by decide) (by decide) (g := (mkF m 22 #[.val (.int x0), .val (.int x1), .val (.int x2), .val (.int (x2 &&& (3 : Int32))), .val (.int ((XT.ushr x2 (2 : Int32)) &&& (3 : Int32))), .val (.int ((XT.ushr x2 (4 : Int32)) &&& (3 : Int32))), .unset, .unset, .unset, .unset, .unset] [])) rfl (by rw [hml]; rfl) (argsL := []) (rest := []) rfl (lenOf pd_23 rfl) rfl (by show 2 * 0 + _ ≤ _; exact Nat.le_of_eq rfl) (hb hby at_22)
    obtain ⟨rfl, pq2_0⟩ := qq2
    have Nq2 := Fr.app N nq2
    refine GoesW.via stq2 ?_
    show GoesW _ _ _ _ _ _ _ _ (Tq2.setTop (mkF m 25 #[.val (.int x0), .val (.int x1), .val (.int x2), .val (.int (x2 &&& (3 : Int32))), .val (.int ((XT.ushr x2 (2 : Int32)) &&& (3 : Int32))), .val (.int ((XT.ushr x2 (4 : Int32)) &&& (3 : Int32))), .unset, .unset, .unset, .unset, .unset] [(.ref em)]))
    refine GoesW.via (fun _ k => XS.astore Xq2.here hx rfl (hb hby at_25) rfl rfl (l' := #[.val (.int x0), .val (.int x1), .val (.int x2), .val (.int (x2 &&& (3 : Int32))), .val (.int ((XT.ushr x2 (2 : Int32)) &&& (3 : Int32))), .val (.int ((XT.ushr x2 (4 : Int32)) &&& (3 : Int32))), .val (.ref em), .unset, .unset, .unset, .unset]) rfl k) ?_
    show GoesW _ _ _ _ _ _ _ _ (Tq2.setTop (mkF m 27 #[.val (.int x0), .val (.int x1), .val (.int x2), .val (.int (x2 &&& (3 : Int32))), .val (.int ((XT.ushr x2 (2 : Int32)) &&& (3 : Int32))), .val (.int ((XT.ushr x2 (4 : Int32)) &&& (3 : Int32))), .val (.ref em), .unset, .unset, .unset, .unset] []))
    refine GoesW.via (fun _ k => XS.goto Xq2.here hx rfl (pc0 := 27) (pc' := 54) rfl (hb hby at_27) (by decide) (by decide) k) ?_
    show GoesW _ _ _ _ _ _ _ _ (Tq2.setTop (mkF m 54 #[.val (.int x0), .val (.int x1), .val (.int x2), .val (.int (x2 &&& (3 : Int32))), .val (.int ((XT.ushr x2 (2 : Int32)) &&& (3 : Int32))), .val (.int ((XT.ushr x2 (4 : Int32)) &&& (3 : Int32))), .val (.ref em), .unset, .unset, .unset, .unset] []))
    exact seg54E l Z aw hw x0 x1 x2 (x2 &&& (3 : Int32)) ((XT.ushr x2 (2 : Int32)) &&& (3 : Int32)) ((XT.ushr x2 (4 : Int32)) &&& (3 : Int32)) em bt bf cz hx hby hml hrt hlk hnm hZ hown Xq2 pq2_0 Nq2 (by decide) (by decide) O hS (by omega) C0 CS SE EE FE ST1 ST0 hcz cq1
  · skip
    refine GoesW.via (fun _ k => XS.ifYes X.here hx rfl (pc0 := 19) (pc' := 30) rfl (hb hby at_19) rfl (XT.i0_ne_t cq1) (by decide) (by decide) k) ?_
    show GoesW _ _ _ _ _ _ _ _ (T.setTop (mkF m 30 #[.val (.int x0), .val (.int x1), .val (.int x2), .val (.int (x2 &&& (3 : Int32))), .val (.int ((XT.ushr x2 (2 : Int32)) &&& (3 : Int32))), .val (.int ((XT.ushr x2 (4 : Int32)) &&& (3 : Int32))), .unset, .unset, .unset, .unset, .unset] []))
    refine GoesW.via (fun _ k => XS.iloadN X.here hx rfl (hb hby at_30) rfl k) ?_
    show GoesW _ _ _ _ _ _ _ _ (T.setTop (mkF m 31 #[.val (.int x0), .val (.int x1), .val (.int x2), .val (.int (x2 &&& (3 : Int32))), .val (.int ((XT.ushr x2 (2 : Int32)) &&& (3 : Int32))), .val (.int ((XT.ushr x2 (4 : Int32)) &&& (3 : Int32))), .unset, .unset, .unset, .unset, .unset] [(.int (x2 &&& (3 : Int32)))]))
    refine GoesW.via (fun _ k => XT.iconstV X.here hx rfl (1 : Int32) (hb hby at_31) (by decide) k) ?_
    show GoesW _ _ _ _ _ _ _ _ (T.setTop (mkF m 32 #[.val (.int x0), .val (.int x1), .val (.int x2), .val (.int (x2 &&& (3 : Int32))), .val (.int ((XT.ushr x2 (2 : Int32)) &&& (3 : Int32))), .val (.int ((XT.ushr x2 (4 : Int32)) &&& (3 : Int32))), .unset, .unset, .unset, .unset, .unset] [(.int (1 : Int32)), (.int (x2 &&& (3 : Int32)))]))
    by_cases cq3 : (x2 &&& (3 : Int32)) = (1 : Int32)
    · skip
      refine GoesW.via (fun _ k => XS.icmpNo X.here hx rfl (hb hby at_32) rfl (XT.ii_ne_f cq3) k) ?_
      show GoesW _ _ _ _ _ _ _ _ (T.setTop (mkF m 35 #[.val (.int x0), .val (.int x1), .val (.int x2), .val (.int (x2 &&& (3 : Int32))), .val (.int ((XT.ushr x2 (2 : Int32)) &&& (3 : Int32))), .val (.int ((XT.ushr x2 (4 : Int32)) &&& (3 : Int32))), .unset, .unset, .unset, .unset, .unset] []))
      obtain ⟨aq4, Tq4, hq4, kq4, wq4, kkq4, Xq4, eq4, Eq4, Sq4, hkq4, hZq4, hownq4, exq4, fcq4, fvq4, vaq4, laq4, lbq4, Rq4, -, sfq4, stq4⟩ := ldcCH X hx hZ hown (W_99 hw) (strAtoms hw) e0 hS (by omega) (ew hw) (by decide) C0.1 (vs := [(.int (117 : Int32)), (.int (114 : Int32)), (.int (110 : Int32)), (.int (58 : Int32)), (.int (111 : Int32)), (.int (97 : Int32)), (.int (115 : Int32)), (.int (105 : Int32)), (.int (115 : Int32)), (.int (58 : Int32)), (.int (110 : Int32)), (.int (97 : Int32)), (.int (109 : Int32)), (.int (101 : Int32)), (.int (115 : Int32)), (.int (58 : Int32)), (.int (116 : Int32)), (.int (99 : Int32)), (.int (58 : Int32)), (.int (83 : Int32)), (.int (65 : Int32)), (.int (77 : Int32)), (.int (76 : Int32)), (.int (58 : Int32)), (.int (49 : Int32)), (.int (46 : Int32)), (.int (49 : Int32)), (.int (58 : Int32)), (.int (110 : Int32)), (.int (97 : Int32)), (.int (109 : Int32)), (.int (101 : Int32)), (.int (105 : Int32)), (.int (100 : Int32)), (.int (45 : Int32)), (.int (102 : Int32)), (.int (111 : Int32)), (.int (114 : Int32)), (.int (109 : Int32)), (.int (97 : Int32)), (.int (116 : Int32)), (.int (58 : Int32)), (.int (117 : Int32)), (.int (110 : Int32)), (.int (115 : Int32)), (.int (112 : Int32)), (.int (101 : Int32)), (.int (99 : Int32)), (.int (105 : Int32)), (.int (102 : Int32)), (.int (105 : Int32)), (.int (101 : Int32)), (.int (100 : Int32))]) (z := (53 : Int32)) ⟨by decide +kernel, by decide +kernel⟩ (by decide) (by decide) (g := (mkF m 35 #[.val (.int x0), .val (.int x1), .val (.int x2), .val (.int (x2 &&& (3 : Int32))), .val (.int ((XT.ushr x2 (2 : Int32)) &&& (3 : Int32))), .val (.int ((XT.ushr x2 (4 : Int32)) &&& (3 : Int32))), .unset, .unset, .unset, .unset, .unset] [])) rfl (hb hby at_35) (n := 212) (by decide +kernel) (by decide) (by decide) (by decide)
      replace laq4 := lt_nat laq4
      replace lbq4 := lt_nat lbq4
      have zq4 := Eq4.1
      have Oq4 := O.ext Eq4
      have Cq4 := C0.trans Rq4
      refine GoesW.via stq4 ?_
      show GoesW _ _ _ _ _ _ _ _ (Tq4.setTop (mkF m 37 #[.val (.int x0), .val (.int x1), .val (.int x2), .val (.int (x2 &&& (3 : Int32))), .val (.int ((XT.ushr x2 (2 : Int32)) &&& (3 : Int32))), .val (.int ((XT.ushr x2 (4 : Int32)) &&& (3 : Int32))), .unset, .unset, .unset, .unset, .unset] [(.ref aq4)]))
      obtain ⟨vq5, Tq5, Lq5, Xq5, qq5, nq5, stq5⟩ := callSt Xq4 hx hZq4 hownq4 (optOf l Z aw hw aq4 Oq4) (W_26 hw) (W_27 hw) (W_28 hw) (W_29 hw) (by decide) eq4 (by decide) (W := 0) (by decide) (by decide) (by decide) (g := (mkF m 37 #[.val (.int x0), .val (.int x1), .val (.int x2), .val (.int (x2 &&& (3 : Int32))), .val (.int ((XT.ushr x2 (2 : Int32)) &&& (3 : Int32))), .val (.int ((XT.ushr x2 (4 : Int32)) &&& (3 : Int32))), .unset, .unset, .unset, .unset, .unset] [(.ref aq4)])) rfl (by rw [hml]; rfl) (argsL := [(.ref aq4)]) (rest := []) rfl (lenOf pd_22 rfl) rfl (by show 2 * 0 + _ ≤ _; exact Nat.le_of_eq rfl) (hb hby at_37)
      obtain ⟨xr_q5, rfl, pq5_0, pq5_1, pq5_2, pq5_3⟩ := qq5
      have Nq5 := Fr.app N nq5
      have zq5 := pq5_1.1
      have Oq5 := Oq4.keep pq5_1 all0
      have Cq5 := Cq4.trans (CHr.keep pq5_1 all0 Cq4.1)
      have ltpq5_2 := lt_nat pq5_2.lt
      refine GoesW.via stq5 ?_
      show GoesW _ _ _ _ _ _ _ _ (Tq5.setTop (mkF m 40 #[.val (.int x0), .val (.int x1), .val (.int x2), .val (.int (x2 &&& (3 : Int32))), .val (.int ((XT.ushr x2 (2 : Int32)) &&& (3 : Int32))), .val (.int ((XT.ushr x2 (4 : Int32)) &&& (3 : Int32))), .unset, .unset, .unset, .unset, .unset] [(.ref xr_q5)]))
      refine GoesW.via (fun _ k => XS.astore Xq5.here hx rfl (hb hby at_40) rfl rfl (l' := #[.val (.int x0), .val (.int x1), .val (.int x2), .val (.int (x2 &&& (3 : Int32))), .val (.int ((XT.ushr x2 (2 : Int32)) &&& (3 : Int32))), .val (.int ((XT.ushr x2 (4 : Int32)) &&& (3 : Int32))), .val (.ref xr_q5), .unset, .unset, .unset, .unset]) rfl k) ?_
      show GoesW _ _ _ _ _ _ _ _ (Tq5.setTop (mkF m 42 #[.val (.int x0), .val (.int x1), .val (.int x2), .val (.int (x2 &&& (3 : Int32))), .val (.int ((XT.ushr x2 (2 : Int32)) &&& (3 : Int32))), .val (.int ((XT.ushr x2 (4 : Int32)) &&& (3 : Int32))), .val (.ref xr_q5), .unset, .unset, .unset, .unset] []))
      refine GoesW.via (fun _ k => XS.goto Xq5.here hx rfl (pc0 := 42) (pc' := 54) rfl (hb hby at_42) (by decide) (by decide) k) ?_
      show GoesW _ _ _ _ _ _ _ _ (Tq5.setTop (mkF m 54 #[.val (.int x0), .val (.int x1), .val (.int x2), .val (.int (x2 &&& (3 : Int32))), .val (.int ((XT.ushr x2 (2 : Int32)) &&& (3 : Int32))), .val (.int ((XT.ushr x2 (4 : Int32)) &&& (3 : Int32))), .val (.ref xr_q5), .unset, .unset, .unset, .unset] []))
      have fq6 : Exa Z Tq5.heap aq4 "java/lang/String" := (exq4.keep pq5_1)
      have fq7 : Fld Z Tq5.heap aq4 "java/lang/String" "value" "[B" (.ref wq4) := (fvq4.keep pq5_1 nin0)
      have fq8 : Fld Z Tq5.heap aq4 "java/lang/String" "coder" "B" (.int (0 : Int32)) := (fcq4.keep pq5_1 nin0)
      have fq9 : Arv Z Tq5.heap wq4 kkq4 .byte (53 : Int32) [(.int (117 : Int32)), (.int (114 : Int32)), (.int (110 : Int32)), (.int (58 : Int32)), (.int (111 : Int32)), (.int (97 : Int32)), (.int (115 : Int32)), (.int (105 : Int32)), (.int (115 : Int32)), (.int (58 : Int32)), (.int (110 : Int32)), (.int (97 : Int32)), (.int (109 : Int32)), (.int (101 : Int32)), (.int (115 : Int32)), (.int (58 : Int32)), (.int (116 : Int32)), (.int (99 : Int32)), (.int (58 : Int32)), (.int (83 : Int32)), (.int (65 : Int32)), (.int (77 : Int32)), (.int (76 : Int32)), (.int (58 : Int32)), (.int (49 : Int32)), (.int (46 : Int32)), (.int (49 : Int32)), (.int (58 : Int32)), (.int (110 : Int32)), (.int (97 : Int32)), (.int (109 : Int32)), (.int (101 : Int32)), (.int (105 : Int32)), (.int (100 : Int32)), (.int (45 : Int32)), (.int (102 : Int32)), (.int (111 : Int32)), (.int (114 : Int32)), (.int (109 : Int32)), (.int (97 : Int32)), (.int (116 : Int32)), (.int (58 : Int32)), (.int (117 : Int32)), (.int (110 : Int32)), (.int (115 : Int32)), (.int (112 : Int32)), (.int (101 : Int32)), (.int (99 : Int32)), (.int (105 : Int32)), (.int (102 : Int32)), (.int (105 : Int32)), (.int (101 : Int32)), (.int (100 : Int32))] (.int (0 : Int32)) := (vaq4.keep pq5_1 nin0)
      exact seg54U l Z aw hw x0 x1 x2 (x2 &&& (3 : Int32)) ((XT.ushr x2 (2 : Int32)) &&& (3 : Int32)) ((XT.ushr x2 (4 : Int32)) &&& (3 : Int32)) em bt bf cz xr_q5 aq4 wq4 kkq4 (53 : Int32) ([(.int (117 : Int32)), (.int (114 : Int32)), (.int (110 : Int32)), (.int (58 : Int32)), (.int (111 : Int32)), (.int (97 : Int32)), (.int (115 : Int32)), (.int (105 : Int32)), (.int (115 : Int32)), (.int (58 : Int32)), (.int (110 : Int32)), (.int (97 : Int32)), (.int (109 : Int32)), (.int (101 : Int32)), (.int (115 : Int32)), (.int (58 : Int32)), (.int (116 : Int32)), (.int (99 : Int32)), (.int (58 : Int32)), (.int (83 : Int32)), (.int (65 : Int32)), (.int (77 : Int32)), (.int (76 : Int32)), (.int (58 : Int32)), (.int (49 : Int32)), (.int (46 : Int32)), (.int (49 : Int32)), (.int (58 : Int32)), (.int (110 : Int32)), (.int (97 : Int32)), (.int (109 : Int32)), (.int (101 : Int32)), (.int (105 : Int32)), (.int (100 : Int32)), (.int (45 : Int32)), (.int (102 : Int32)), (.int (111 : Int32)), (.int (114 : Int32)), (.int (109 : Int32)), (.int (97 : Int32)), (.int (116 : Int32)), (.int (58 : Int32)), (.int (117 : Int32)), (.int (110 : Int32)), (.int (115 : Int32)), (.int (112 : Int32)), (.int (101 : Int32)), (.int (99 : Int32)), (.int (105 : Int32)), (.int (102 : Int32)), (.int (105 : Int32)), (.int (101 : Int32)), (.int (100 : Int32))]) hx hby hml hrt hlk hnm hZq4 hownq4 Xq5 rfl Nq5 (by decide) (by decide) Oq5 Sq4 (by omega) Cq5 CS SE EE FE ST1 ST0 pq5_2 pq5_3 fq6 fq7 fq8 fq9 hcz cq1 cq3 codL_0
    · skip
      refine GoesW.via (fun _ k => XS.icmpYes X.here hx rfl (pc0 := 32) (pc' := 45) rfl (hb hby at_32) rfl (XT.ii_ne_t cq3) (by decide) (by decide) k) ?_
      show GoesW _ _ _ _ _ _ _ _ (T.setTop (mkF m 45 #[.val (.int x0), .val (.int x1), .val (.int x2), .val (.int (x2 &&& (3 : Int32))), .val (.int ((XT.ushr x2 (2 : Int32)) &&& (3 : Int32))), .val (.int ((XT.ushr x2 (4 : Int32)) &&& (3 : Int32))), .unset, .unset, .unset, .unset, .unset] []))
      refine GoesW.via (fun _ k => XS.iloadN X.here hx rfl (hb hby at_45) rfl k) ?_
      show GoesW _ _ _ _ _ _ _ _ (T.setTop (mkF m 46 #[.val (.int x0), .val (.int x1), .val (.int x2), .val (.int (x2 &&& (3 : Int32))), .val (.int ((XT.ushr x2 (2 : Int32)) &&& (3 : Int32))), .val (.int ((XT.ushr x2 (4 : Int32)) &&& (3 : Int32))), .unset, .unset, .unset, .unset, .unset] [(.int x0)]))
      obtain ⟨vq10, Tq10, Lq10, Xq10, Sq10, hZq10, hownq10, Rq10, qq10, nq10, stq10⟩ := callStW X hx hZ hown hS (by rw [e0]; omega) (ew hw) C0.1 all0 all0 (drawnC l Z aw hw x0 cz O CS hcz) (W_0 hw) (W_1 hw) (W_2 hw) (W_3 hw) (by decide) e0 (by decide) (W := 0) (by decide) (by decide) (by decide) (g := (mkF m 46 #[.val (.int x0), .val (.int x1), .val (.int x2), .val (.int (x2 &&& (3 : Int32))), .val (.int ((XT.ushr x2 (2 : Int32)) &&& (3 : Int32))), .val (.int ((XT.ushr x2 (4 : Int32)) &&& (3 : Int32))), .unset, .unset, .unset, .unset, .unset] [(.int x0)])) rfl (by rw [hml]; rfl) (argsL := [(.int x0)]) (rest := []) rfl (lenOf pd_19 rfl) rfl (by show 2 * 0 + _ ≤ _; exact Nat.le_of_eq rfl) (hb hby at_46)
      obtain ⟨xr_q10, xtb_q10, xkt_q10, xN1_q10, xvs_q10, rfl, pq10_0, pq10_1, pq10_2, pq10_3, pq10_4, pq10_5, pq10_6⟩ := qq10
      have Nq10 := Fr.app N nq10
      have zq10 := pq10_1.1
      have Oq10 := O.keep pq10_1 all0
      have Cq10 := C0.trans Rq10
      have ltpq10_2 := lt_nat pq10_2.lt
      have ltpq10_5 := lt_nat pq10_5.lt
      refine GoesW.via stq10 ?_
      show GoesW _ _ _ _ _ _ _ _ (Tq10.setTop (mkF m 49 #[.val (.int x0), .val (.int x1), .val (.int x2), .val (.int (x2 &&& (3 : Int32))), .val (.int ((XT.ushr x2 (2 : Int32)) &&& (3 : Int32))), .val (.int ((XT.ushr x2 (4 : Int32)) &&& (3 : Int32))), .unset, .unset, .unset, .unset, .unset] [(.ref xr_q10)]))
      obtain ⟨vq11, Tq11, Lq11, Xq11, qq11, nq11, stq11⟩ := callSt Xq10 hx hZq10 hownq10 (optOf l Z aw hw xr_q10 Oq10) (W_26 hw) (W_27 hw) (W_28 hw) (W_29 hw) (by decide) rfl (by decide) (W := 0) (by decide) (by decide) (by decide) (g := (mkF m 49 #[.val (.int x0), .val (.int x1), .val (.int x2), .val (.int (x2 &&& (3 : Int32))), .val (.int ((XT.ushr x2 (2 : Int32)) &&& (3 : Int32))), .val (.int ((XT.ushr x2 (4 : Int32)) &&& (3 : Int32))), .unset, .unset, .unset, .unset, .unset] [(.ref xr_q10)])) rfl (by rw [hml]; rfl) (argsL := [(.ref xr_q10)]) (rest := []) rfl (lenOf pd_22 rfl) rfl (by show 2 * 0 + _ ≤ _; exact Nat.le_of_eq rfl) (hb hby at_49)
      obtain ⟨xr_q11, rfl, pq11_0, pq11_1, pq11_2, pq11_3⟩ := qq11
      have Nq11 := Fr.app Nq10 nq11
      have zq11 := pq11_1.1
      have Oq11 := Oq10.keep pq11_1 all0
      have Cq11 := Cq10.trans (CHr.keep pq11_1 all0 Cq10.1)
      have ltpq11_2 := lt_nat pq11_2.lt
      refine GoesW.via stq11 ?_
      show GoesW _ _ _ _ _ _ _ _ (Tq11.setTop (mkF m 52 #[.val (.int x0), .val (.int x1), .val (.int x2), .val (.int (x2 &&& (3 : Int32))), .val (.int ((XT.ushr x2 (2 : Int32)) &&& (3 : Int32))), .val (.int ((XT.ushr x2 (4 : Int32)) &&& (3 : Int32))), .unset, .unset, .unset, .unset, .unset] [(.ref xr_q11)]))
      refine GoesW.via (fun _ k => XS.astore Xq11.here hx rfl (hb hby at_52) rfl rfl (l' := #[.val (.int x0), .val (.int x1), .val (.int x2), .val (.int (x2 &&& (3 : Int32))), .val (.int ((XT.ushr x2 (2 : Int32)) &&& (3 : Int32))), .val (.int ((XT.ushr x2 (4 : Int32)) &&& (3 : Int32))), .val (.ref xr_q11), .unset, .unset, .unset, .unset]) rfl k) ?_
      show GoesW _ _ _ _ _ _ _ _ (Tq11.setTop (mkF m 54 #[.val (.int x0), .val (.int x1), .val (.int x2), .val (.int (x2 &&& (3 : Int32))), .val (.int ((XT.ushr x2 (2 : Int32)) &&& (3 : Int32))), .val (.int ((XT.ushr x2 (4 : Int32)) &&& (3 : Int32))), .val (.ref xr_q11), .unset, .unset, .unset, .unset] []))
      have fq12 : Exa Z Tq11.heap xr_q10 "java/lang/String" := (pq10_2.keep pq11_1)
      have fq13 : Fld Z Tq11.heap xr_q10 "java/lang/String" "value" "[B" (.ref xtb_q10) := (pq10_3.keep pq11_1 nin0)
      have fq14 : Fld Z Tq11.heap xr_q10 "java/lang/String" "coder" "B" (.int (0 : Int32)) := (pq10_4.keep pq11_1 nin0)
      have fq15 : Arv Z Tq11.heap xtb_q10 xkt_q10 .byte xN1_q10 xvs_q10 (.int (0 : Int32)) := (pq10_5.keep pq11_1 nin0)
      exact seg54D l Z aw hw x0 x1 x2 (x2 &&& (3 : Int32)) ((XT.ushr x2 (2 : Int32)) &&& (3 : Int32)) ((XT.ushr x2 (4 : Int32)) &&& (3 : Int32)) em bt bf cz xr_q11 xr_q10 xtb_q10 xkt_q10 xN1_q10 xvs_q10 hx hby hml hrt hlk hnm hZq10 hownq10 Xq11 rfl Nq11 (by decide) (by decide) Oq11 Sq10 (by omega) Cq11 CS SE EE FE ST1 ST0 pq11_2 pq11_3 fq12 fq13 fq14 fq15 hcz cq1 cq3 pq10_6
set_option maxRecDepth 65536 in
set_option maxHeartbeats 40000000 in
theorem comes_1 {Post : Tables → Env → Array Value → State → Outcome → State → Prop} (hpost : ∀ tb e args s v u, (limb_1_1.after args s (.returned v) u = true ∧ limb_1_2.after args s (.returned v) u = true ∧ True) → ReturnedEndW s (.returned v) u (Jvm.fieldLocs frame_1_writes args s ++ Jvm.arrayLocs frame_1_arrays args s ++ Jvm.staticLocs frame_1_statics s) 40 5312 → Post tb e args s (.returned v) u) :
    ArmFor flags0 classFile x code maxLocals ret World_1 tables_1 room_1 Calls_1 rest_1 Pre_1 Post := by
  intro l hfl _ _ p e ha hc hk s m args below hf hA hF happ hP
  obtain ⟨hcalls, hrest, hpre⟩ := hP
  obtain ⟨-, -, -, hnamed, -, -, -, hat⟩ := (Spec.applies_iff hf).mp happ
  obtain ⟨hg, hn⟩ := and_e (Cond.before_iff.mp (show (Jvm.Cond.and given_1 narrow_1).before args s = true from hpre))
  obtain ⟨hcnt, ha0⟩ := and_e hg
  obtain ⟨hk0, ha1⟩ := and_e ha0
  obtain ⟨hk1, ha2⟩ := and_e ha1
  have hk2 := ha2
  obtain ⟨w0, w1, w2, rfl⟩ : ∃ w0 w1 w2 : Value, args = #[w0, w1, w2] := by
    have hs : args.size = 3 := by simpa [Cond.value, given_1] using hcnt
    obtain ⟨L⟩ := args
    match L, hs with
    | [w0, w1, w2], _ => exact ⟨w0, w1, w2, rfl⟩
  have hw := fun d (hd : d ∈ tables_1) => atoms_spec (ws := Jvm.Cond.code x code maxLocals ret :: tables_1) hat d (List.mem_cons_of_mem _ hd)
  obtain ⟨hsets, hown0⟩ := atoms_of _ (rest_1_c_eq ▸ (show rest_1_c.before _ s = true from hrest))
  have hfit : Fit s := fun {y c} hc i hi => by
    obtain ⟨ha, rfl⟩ := Array.getElem?_eq_some_iff.mp hc
    have q := List.all_eq_true.mp ((Array.all_eq_true_iff_forall_mem.mp hF) _ (Array.getElem_mem ha)) i (List.mem_range.mpr hi)
    simpa [Array.getElem?_eq_getElem hi] using q
  obtain ⟨i0, ei0⟩ := is_v hk0
  obtain rfl : w0 = (.int i0) := Option.some.inj ei0
  obtain ⟨i1, ei1⟩ := is_v hk1
  obtain rfl : w1 = (.int i1) := Option.some.inj ei1
  obtain ⟨i2, ei2⟩ := is_v hk2
  obtain rfl : w2 = (.int i2) := Option.some.inj ei2
  obtain ⟨cz, ecz⟩ := is_v (Cond.before_iff.mp (hsets _ (List.mem_of_getElem? (i := 5) rfl)))
  have CS := Sta.start ecz (Or.inl (hsets _ (List.mem_of_getElem? (i := 4) rfl)))
  have hcz : ¬ cz = (0 : Int32) := gotF (Cond.eq_ints ecz (Term.int_eval (0))) (not_v (Cond.before_iff.mp (hsets _ (List.mem_of_getElem? (i := 6) rfl))))
  obtain ⟨em, eem⟩ := exa_v (Cond.before_iff.mp (hsets _ (List.mem_of_getElem? (i := 2) rfl)))
  have SE := Sta.start eem (Or.inl (hsets _ (List.mem_of_getElem? (i := 1) rfl)))
  have EE := Exa.start eem (Cond.before_iff.mp (hsets _ (List.mem_of_getElem? (i := 2) rfl)))
  have FE := Fld.start ((fld_at eem).symm.trans (null_v (Cond.before_iff.mp (hsets _ (List.mem_of_getElem? (i := 3) rfl)))))
  obtain ⟨bt, ebt⟩ := exa_v (Cond.before_iff.mp (hsets _ (List.mem_of_getElem? (i := 19) rfl)))
  have ST1 := Sta.start ebt (Or.inl (hsets _ (List.mem_of_getElem? (i := 18) rfl)))
  obtain ⟨bf, ebf⟩ := exa_v (Cond.before_iff.mp (hsets _ (List.mem_of_getElem? (i := 15) rfl)))
  have ST0 := Sta.start ebf (Or.inl (hsets _ (List.mem_of_getElem? (i := 14) rfl)))
  have hch : CHv s EL s.vm s.heap := CHv.start (ew hw) hcalls.1 (hsets _ (List.mem_of_getElem? (i := 6) rfl)) (W_19 hw) (W_5 hw)
  obtain ⟨n, o, h1, h2, h3, _, L, rfl, ⟨⟨rfl, -⟩, N⟩, hq⟩ := law l s _ hw i0 i1 i2 em bt bf cz (Old.start s) CS SE EE FE ST1 ST0 hcz tables_1 p e ha hc hk s m _ below hf ((Spec.applies_iff_loose hf).mp happ).1 ⟨rfl, State.Warmed39.refl s, rfl, hch, fun _ q => nomatch q⟩ trivial
  refine ⟨n, _, h1, h2, h3, hpost _ _ _ _ _ _ ⟨Cond.after_iff.mpr rfl, Cond.after_iff.mpr (eq_i res_at (Term.int_eval (1)) rfl), trivial⟩ ⟨hq.1, hq.2.1, hq.2.2.1, (hq.2.2.2.sift fun y hy => Or.inr (N y hy)).mono (by decide) (by decide)⟩⟩
theorem main_1_1 : Claimed_1_1 := comes_1 fun _ _ _ _ _ _ h hF => ⟨h.1, hF⟩
theorem main_1_2 : Claimed_1_2 := comes_1 fun _ _ _ _ _ _ h hF => ⟨h.2.1, hF⟩

end Jvm.Pilot.@@N@@
namespace Jvm.Pilot.@@N@@
open Jvm Jvm.ClassFile Sem Op Lib Jvm.Free Jvm.Stand Jvm.Pilot.@@N@@.Jvm.D
/-! MADE BY PROGRAM (witnessworld.py) out of the Statement's table words and the real class files: 24 classes; the members and pool entries that the words name. The judged class is class 1, her method 3. -/
namespace start1
open Jvm.ClassFile
def u (s : String) : CpInfo := .utf8 (stringToUtf16 s)
/-- a pool by its gaps: so many unusable entries, then the entry; so many at the end -/
def gap : Nat → List CpInfo → List CpInfo
  | 0, r => r
  | n + 1, r => .unusable :: gap n r
def poolList (es : List (Nat × CpInfo)) (last : Nat) : List CpInfo := es.foldr (fun e r => gap e.1 (e.2 :: r)) (gap last [])
def pool (es : List (Nat × CpInfo)) (last : Nat) : Array CpInfo := ⟨poolList es last⟩
def fileOf (pool : Array CpInfo) (this : Nat) (attrs : Array Attribute := #[]) (ms : Array MethodInfo := #[]) (fl : Nat := 33) (sup : Nat := 0) (ifs : Array Nat := #[]) (fds : Array FieldInfo := #[]) : ClassFile where
  minorVersion := 0
  majorVersion := 65
  constantPool := pool
  accessFlags := fl
  thisClass := this
  superClass := sup
  interfaces := ifs
  fields := fds
  methods := ms
  attributes := attrs
def plain (name : String) (sup : Option ClassId) : Class where
  name := name
  kind := .ordinary
  loader := none
  accessFlags := 33
  super := sup
  interfaces := #[]
  cf := none
  fields := #[]
  methods := #[]
  instanceTypes := #[]
  staticTypes := #[]
  resolved := #[]
  callSites := []
  init := .initialized
  statics := none
  mirror := none

def pool0 : Array CpInfo := pool [(5, u "<init>"), (0, u "()V"), (1, .class_ 10), (1, u "java/lang/Object")] 113

def k0c0 : Code := { maxStack := 0, maxLocals := 1, code := object_method_1_code, exceptionTable := #[], attributes := #[] }
def k0m0 : Method := { name := "<init>", desc := "()V", sig := { parameters := [], returnType := none }, accessFlags := 1, code := some k0c0 }
/-- java/lang/Object -/
def k0 : Class := { plain "java/lang/Object" none with
  accessFlags := 33
  interfaces := #[]
  cf := some (fileOf pool0 8 #[] #[{ accessFlags := 1, nameIndex := 5, descriptorIndex := 6, attributes := #[] }] 33 0 #[] #[])
  fields := #[]
  methods := #[k0m0]
  instanceTypes := #[]
  staticTypes := #[]
  resolved := Array.replicate 124 none
  statics := none }

def pool1 : Array CpInfo := pool [(2, .class_ 4), (1, u "java/lang/Object"), (0, u "<init>"), (0, u "()V"), (0, .class_ 8), (0, u "java/lang/String"), (0, .methodref 7 10), (0, .nameAndType 5 11), (0, u "([C)V"), (0, .integer 65535), (0, .integer 16777215), (0, .methodref 15 16), (0, .class_ 17), (0, .nameAndType 18 19), (0, u "java/util/Optional"), (0, u "empty"), (0, u "()Ljava/util/Optional;"), (0, .string 21), (0, u "urn:oasis:names:tc:SAML:1.1:nameid-format:unspecified"), (0, .methodref 15 23), (0, .nameAndType 24 25), (0, u "of"), (0, u "(Ljava/lang/Object;)Ljava/util/Optional;"), (0, .methodref 27 28), (0, .class_ 29), (0, .nameAndType 30 31), (0, u "com/example/vouchsafe/vouchsafe/message/NameIdPolicyAcceptsPinLaw"), (0, u "drawn"), (0, u "(I)Ljava/lang/String;"), (0, .fieldref 33 34), (0, .class_ 35), (0, .nameAndType 36 37), (0, u "java/lang/Boolean"), (0, u "TRUE"), (0, u "Ljava/lang/Boolean;"), (0, .fieldref 33 39), (0, .nameAndType 40 37), (0, u "FALSE"), (0, .methodref 27 42), (0, .nameAndType 43 44), (0, u "sameDrawn"), (0, u "(II)Z"), (0, .class_ 46), (0, u "com/example/vouchsafe/vouchsafe/message/NameIdPolicy"), (0, .methodref 45 48), (0, .nameAndType 5 49), (0, u "(Ljava/util/Optional;Ljava/util/Optional;)V"), (0, .methodref 45 51), (0, .nameAndType 52 53), (0, u "accepts"), (0, u "(Ljava/lang/String;)Z"), (3, u "law"), (0, u "(III)Z")] 2

def k1m0 : Method := { name := "<init>", desc := "()V", sig := { parameters := [], returnType := none }, accessFlags := 2, code := none }
def k1c1 : Code := { maxStack := 6, maxLocals := 5, code := method_2_code, exceptionTable := #[], attributes := #[] }
def k1m1 : Method := { name := "drawn", desc := "(I)Ljava/lang/String;", sig := { parameters := [.int], returnType := some (.object "java/lang/String") }, accessFlags := 10, code := some k1c1 }
def k1c2 : Code := { maxStack := 3, maxLocals := 5, code := method_3_code, exceptionTable := #[], attributes := #[] }
def k1m2 : Method := { name := "sameDrawn", desc := "(II)Z", sig := { parameters := [.int, .int], returnType := some .boolean }, accessFlags := 10, code := some k1c2 }
def k1c3 : Code := { maxStack := 4, maxLocals := 11, code := code, exceptionTable := #[], attributes := #[] }
def k1m3 : Method := { name := "law", desc := "(III)Z", sig := { parameters := [.int, .int, .int], returnType := some .boolean }, accessFlags := 9, code := some k1c3 }
/-- com/example/vouchsafe/vouchsafe/message/NameIdPolicyAcceptsPinLaw -/
def k1 : Class := { plain "com/example/vouchsafe/vouchsafe/message/NameIdPolicyAcceptsPinLaw" (some 0) with
  accessFlags := 49
  interfaces := #[]
  cf := some (fileOf pool1 27 #[] #[{ accessFlags := 2, nameIndex := 5, descriptorIndex := 6, attributes := #[] }, { accessFlags := 10, nameIndex := 30, descriptorIndex := 31, attributes := #[] }, { accessFlags := 10, nameIndex := 43, descriptorIndex := 44, attributes := #[] }, { accessFlags := 9, nameIndex := 57, descriptorIndex := 58, attributes := #[] }] 49 2 #[] #[])
  fields := #[]
  methods := #[k1m0, k1m1, k1m2, k1m3]
  instanceTypes := #[]
  staticTypes := #[]
  resolved := Array.replicate 61 none
  statics := none }

def pool2 : Array CpInfo := pool [(1, .class_ 2), (0, u "java/io/Serializable"), (0, .class_ 4), (0, u "java/lang/Object")] 2

/-- java/io/Serializable -/
def k2 : Class := { plain "java/io/Serializable" (some 0) with
  accessFlags := 1537
  interfaces := #[]
  cf := some (fileOf pool2 1 #[] #[] 1537 3 #[] #[])
  fields := #[]
  methods := #[]
  instanceTypes := #[]
  staticTypes := #[]
  resolved := Array.replicate 7 none
  statics := none }

def pool3 : Array CpInfo := pool [(1, .class_ 2), (0, u "java/lang/Comparable"), (0, .class_ 4), (0, u "java/lang/Object")] 7

/-- java/lang/Comparable -/
def k3 : Class := { plain "java/lang/Comparable" (some 0) with
  accessFlags := 1537
  interfaces := #[]
  cf := some (fileOf pool3 1 #[] #[] 1537 3 #[] #[])
  fields := #[]
  methods := #[]
  instanceTypes := #[]
  staticTypes := #[]
  resolved := Array.replicate 12 none
  statics := none }

def pool4 : Array CpInfo := pool [(2, .class_ 4), (1, u "java/lang/CharSequence"), (42, .class_ 48), (0, u "java/lang/CharSequence$1CodePointIterator"), (10, .class_ 60), (0, u "java/lang/CharSequence$1CharIterator"), (5, .class_ 67), (0, u "java/lang/Object")] 63

/-- java/lang/CharSequence -/
def k4 : Class := { plain "java/lang/CharSequence" (some 0) with
  accessFlags := 1537
  interfaces := #[]
  cf := some (fileOf pool4 2 #[.nestMembers #[47, 59]] #[] 1537 66 #[] #[])
  fields := #[]
  methods := #[]
  instanceTypes := #[]
  staticTypes := #[]
  resolved := Array.replicate 131 none
  statics := none }

def pool5 : Array CpInfo := pool [(1, .class_ 2), (0, u "java/lang/constant/Constable"), (0, .class_ 4), (0, u "java/lang/Object")] 6

/-- java/lang/constant/Constable -/
def k5 : Class := { plain "java/lang/constant/Constable" (some 0) with
  accessFlags := 1537
  interfaces := #[]
  cf := some (fileOf pool5 1 #[] #[] 1537 3 #[] #[])
  fields := #[]
  methods := #[]
  instanceTypes := #[]
  staticTypes := #[]
  resolved := Array.replicate 11 none
  statics := none }

def pool6 : Array CpInfo := pool [(1, .class_ 2), (0, u "java/lang/constant/ConstantDesc"), (0, .class_ 4), (0, u "java/lang/Object")] 32

/-- java/lang/constant/ConstantDesc -/
def k6 : Class := { plain "java/lang/constant/ConstantDesc" (some 0) with
  accessFlags := 1537
  interfaces := #[]
  cf := some (fileOf pool6 1 #[] #[] 1537 3 #[] #[])
  fields := #[]
  methods := #[]
  instanceTypes := #[]
  staticTypes := #[]
  resolved := Array.replicate 37 none
  statics := none }

def pool7 : Array CpInfo := pool [(1, .methodref 2 3), (0, .class_ 4), (0, .nameAndType 5 6), (0, u "java/lang/Object"), (0, u "<init>"), (0, u "()V"), (0, .string 8), (0, u ""), (0, .fieldref 10 11), (0, .class_ 12), (0, .nameAndType 13 14), (0, u "java/lang/String"), (0, u "value"), (0, u "[B"), (0, .fieldref 10 16), (0, .nameAndType 17 18), (0, u "coder"), (0, u "B"), (2, u "hash"), (0, u "I"), (2, u "hashIsZero"), (0, u "Z"), (0, .methodref 10 28), (0, .nameAndType 5 29), (0, u "([CIILjava/lang/Void;)V"), (8, .fieldref 10 39), (0, .nameAndType 40 26), (0, u "COMPACT_STRINGS"), (1, .class_ 44), (1, u "java/lang/StringUTF16"), (0, u "compress"), (1, .methodref 42 48), (0, .nameAndType 49 50), (0, u "coderFromArrayLen"), (0, u "([BI)B"), (56, .class_ 109), (1, u "java/lang/StringLatin1"), (67, .methodref 42 178), (0, .nameAndType 45 179), (0, u "([CII)[B"), (361, .methodref 107 542), (0, .nameAndType 543 544), (0, u "equals"), (0, u "([B[B)Z"), (28, u "(Ljava/lang/Object;)Z"), (1, .class_ 576), (0, u "java/lang/CharSequence"), (22, u "CASE_INSENSITIVE_ORDER"), (0, u "Ljava/util/Comparator;"), (409, u "([C)V"), (90, u "serialPersistentFields"), (0, u "[Ljava/io/ObjectStreamField;"), (0, .class_ 1104), (0, u "java/lang/String$CaseInsensitiveComparator"), (1, .class_ 1107), (0, u "java/io/Serializable"), (0, .class_ 1109), (0, u "java/lang/Comparable"), (0, .class_ 1111), (0, u "java/lang/constant/Constable"), (0, .class_ 1113), (0, u "java/lang/constant/ConstantDesc"), (2, u "serialVersionUID"), (0, u "J"), (3, u "REPL"), (0, u "C"), (2, u "LATIN1"), (1, u "UTF16")] 323

def k7m0 : Method := { name := "<init>", desc := "()V", sig := { parameters := [], returnType := none }, accessFlags := 1, code := none }
def k7c1 : Code := { maxStack := 5, maxLocals := 2, code := jdk_42_method_3_code, exceptionTable := #[], attributes := #[] }
def k7m1 : Method := { name := "<init>", desc := "([C)V", sig := { parameters := [(.array .char)], returnType := none }, accessFlags := 1, code := some k7c1 }
def k7c2 : Code := { maxStack := 2, maxLocals := 3, code := jdk_42_method_66_code, exceptionTable := #[], attributes := #[] }
def k7m2 : Method := { name := "equals", desc := "(Ljava/lang/Object;)Z", sig := { parameters := [(.object "java/lang/Object")], returnType := some .boolean }, accessFlags := 1, code := some k7c2 }
def k7c3 : Code := { maxStack := 4, maxLocals := 6, code := jdk_42_method_149_code, exceptionTable := #[], attributes := #[] }
def k7m3 : Method := { name := "<init>", desc := "([CIILjava/lang/Void;)V", sig := { parameters := [(.array .char), .int, .int, (.object "java/lang/Void")], returnType := none }, accessFlags := 2, code := some k7c3 }
/-- java/lang/String -/
def k7 : Class := { plain "java/lang/String" (some 0) with
  accessFlags := 49
  interfaces := #[2, 3, 4, 5, 6]
  cf := some (fileOf pool7 10 #[.nestMembers #[1103]] #[{ accessFlags := 1, nameIndex := 5, descriptorIndex := 6, attributes := #[] }, { accessFlags := 1, nameIndex := 5, descriptorIndex := 1010, attributes := #[] }, { accessFlags := 1, nameIndex := 543, descriptorIndex := 573, attributes := #[] }, { accessFlags := 2, nameIndex := 5, descriptorIndex := 29, attributes := #[] }] 49 2 #[1106, 1108, 575, 1110, 1112] #[{ accessFlags := 18, nameIndex := 13, descriptorIndex := 14, attributes := #[] }, { accessFlags := 18, nameIndex := 17, descriptorIndex := 18, attributes := #[] }, { accessFlags := 2, nameIndex := 21, descriptorIndex := 22, attributes := #[] }, { accessFlags := 2, nameIndex := 25, descriptorIndex := 26, attributes := #[] }, { accessFlags := 26, nameIndex := 1116, descriptorIndex := 1117, attributes := #[] }, { accessFlags := 24, nameIndex := 40, descriptorIndex := 26, attributes := #[] }, { accessFlags := 26, nameIndex := 1101, descriptorIndex := 1102, attributes := #[] }, { accessFlags := 26, nameIndex := 1121, descriptorIndex := 1122, attributes := #[] }, { accessFlags := 25, nameIndex := 599, descriptorIndex := 600, attributes := #[] }, { accessFlags := 24, nameIndex := 1125, descriptorIndex := 18, attributes := #[] }, { accessFlags := 24, nameIndex := 1127, descriptorIndex := 18, attributes := #[] }])
  fields := #[{ name := "value", type := (.array .byte), accessFlags := 18, slot := 0, constantValue := 0 }, { name := "coder", type := .byte, accessFlags := 18, slot := 1, constantValue := 0 }, { name := "hash", type := .int, accessFlags := 2, slot := 2, constantValue := 0 }, { name := "hashIsZero", type := .boolean, accessFlags := 2, slot := 3, constantValue := 0 }, { name := "serialVersionUID", type := .long, accessFlags := 26, slot := 0, constantValue := 0 }, { name := "COMPACT_STRINGS", type := .boolean, accessFlags := 24, slot := 1, constantValue := 0 }, { name := "serialPersistentFields", type := (.array (.object "java/io/ObjectStreamField")), accessFlags := 26, slot := 2, constantValue := 0 }, { name := "REPL", type := .char, accessFlags := 26, slot := 3, constantValue := 0 }, { name := "CASE_INSENSITIVE_ORDER", type := (.object "java/util/Comparator"), accessFlags := 25, slot := 4, constantValue := 0 }, { name := "LATIN1", type := .byte, accessFlags := 24, slot := 5, constantValue := 0 }, { name := "UTF16", type := .byte, accessFlags := 24, slot := 6, constantValue := 0 }]
  methods := #[k7m0, k7m1, k7m2, k7m3]
  instanceTypes := #[(.array .byte), .byte, .int, .boolean]
  staticTypes := #[.long, .boolean, (.array (.object "java/io/ObjectStreamField")), .char, (.object "java/util/Comparator"), .byte, .byte]
  resolved := Array.replicate 1451 none
  statics := some 0 }

def pool8 : Array CpInfo := pool [(1, .fieldref 2 3), (0, .class_ 4), (0, .nameAndType 5 6), (0, u "java/util/Optional"), (0, u "EMPTY"), (0, u "Ljava/util/Optional;"), (0, .methodref 8 9), (0, .class_ 10), (0, .nameAndType 11 12), (0, u "java/lang/Object"), (0, u "<init>"), (0, u "()V"), (0, .fieldref 2 14), (0, .nameAndType 15 16), (0, u "value"), (0, u "Ljava/lang/Object;"), (0, .methodref 18 19), (0, .class_ 20), (0, .nameAndType 21 22), (0, u "java/util/Objects"), (0, u "requireNonNull"), (0, u "(Ljava/lang/Object;)Ljava/lang/Object;"), (0, .methodref 2 24), (0, .nameAndType 11 25), (0, u "(Ljava/lang/Object;)V"), (19, u "isEmpty"), (0, u "()Z"), (8, u "empty"), (0, u "()Ljava/util/Optional;"), (8, u "(Ljava/lang/Object;)Ljava/util/Optional;"), (7, u "get"), (0, u "()Ljava/lang/Object;"), (7, u "of")] 104

def k8c0 : Code := { maxStack := 1, maxLocals := 1, code := jdk_32_method_1_code, exceptionTable := #[], attributes := #[] }
def k8m0 : Method := { name := "empty", desc := "()Ljava/util/Optional;", sig := { parameters := [], returnType := some (.object "java/util/Optional") }, accessFlags := 9, code := some k8c0 }
def k8c1 : Code := { maxStack := 2, maxLocals := 2, code := jdk_32_method_2_code, exceptionTable := #[], attributes := #[] }
def k8m1 : Method := { name := "<init>", desc := "(Ljava/lang/Object;)V", sig := { parameters := [(.object "java/lang/Object")], returnType := none }, accessFlags := 2, code := some k8c1 }
def k8c2 : Code := { maxStack := 3, maxLocals := 1, code := jdk_32_method_3_code, exceptionTable := #[], attributes := #[] }
def k8m2 : Method := { name := "of", desc := "(Ljava/lang/Object;)Ljava/util/Optional;", sig := { parameters := [(.object "java/lang/Object")], returnType := some (.object "java/util/Optional") }, accessFlags := 9, code := some k8c2 }
def k8c3 : Code := { maxStack := 3, maxLocals := 1, code := jdk_32_method_5_code, exceptionTable := #[], attributes := #[] }
def k8m3 : Method := { name := "get", desc := "()Ljava/lang/Object;", sig := { parameters := [], returnType := some (.object "java/lang/Object") }, accessFlags := 1, code := some k8c3 }
def k8c4 : Code := { maxStack := 1, maxLocals := 1, code := jdk_32_method_7_code, exceptionTable := #[], attributes := #[] }
def k8m4 : Method := { name := "isEmpty", desc := "()Z", sig := { parameters := [], returnType := some .boolean }, accessFlags := 1, code := some k8c4 }
/-- java/util/Optional -/
def k8 : Class := { plain "java/util/Optional" (some 0) with
  accessFlags := 49
  interfaces := #[]
  cf := some (fileOf pool8 2 #[] #[{ accessFlags := 9, nameIndex := 55, descriptorIndex := 56, attributes := #[] }, { accessFlags := 2, nameIndex := 11, descriptorIndex := 25, attributes := #[] }, { accessFlags := 9, nameIndex := 82, descriptorIndex := 65, attributes := #[] }, { accessFlags := 1, nameIndex := 73, descriptorIndex := 74, attributes := #[] }, { accessFlags := 1, nameIndex := 45, descriptorIndex := 46, attributes := #[] }] 49 8 #[] #[{ accessFlags := 26, nameIndex := 5, descriptorIndex := 6, attributes := #[] }, { accessFlags := 18, nameIndex := 15, descriptorIndex := 16, attributes := #[] }])
  fields := #[{ name := "EMPTY", type := (.object "java/util/Optional"), accessFlags := 26, slot := 0, constantValue := 0 }, { name := "value", type := (.object "java/lang/Object"), accessFlags := 18, slot := 0, constantValue := 0 }]
  methods := #[k8m0, k8m1, k8m2, k8m3, k8m4]
  instanceTypes := #[(.object "java/lang/Object")]
  staticTypes := #[(.object "java/util/Optional")]
  resolved := Array.replicate 187 none
  statics := some 1 }

def pool9 : Array CpInfo := pool [(2, .class_ 4), (1, u "java/lang/Object"), (0, u "<init>"), (0, u "()V"), (35, .class_ 44), (1, u "java/util/Objects"), (0, u "requireNonNull"), (0, u "(Ljava/lang/Object;)Ljava/lang/Object;"), (47, u "(Ljava/lang/Object;Ljava/lang/String;)Ljava/lang/Object;")] 89

def k9m0 : Method := { name := "<init>", desc := "()V", sig := { parameters := [], returnType := none }, accessFlags := 2, code := none }
def k9c1 : Code := { maxStack := 2, maxLocals := 1, code := jdk_31_method_10_code, exceptionTable := #[], attributes := #[] }
def k9m1 : Method := { name := "requireNonNull", desc := "(Ljava/lang/Object;)Ljava/lang/Object;", sig := { parameters := [(.object "java/lang/Object")], returnType := some (.object "java/lang/Object") }, accessFlags := 9, code := some k9c1 }
def k9c2 : Code := { maxStack := 3, maxLocals := 2, code := jdk_31_method_11_code, exceptionTable := #[], attributes := #[] }
def k9m2 : Method := { name := "requireNonNull", desc := "(Ljava/lang/Object;Ljava/lang/String;)Ljava/lang/Object;", sig := { parameters := [(.object "java/lang/Object"), (.object "java/lang/String")], returnType := some (.object "java/lang/Object") }, accessFlags := 9, code := some k9c2 }
/-- java/util/Objects -/
def k9 : Class := { plain "java/util/Objects" (some 0) with
  accessFlags := 49
  interfaces := #[]
  cf := some (fileOf pool9 42 #[] #[{ accessFlags := 2, nameIndex := 5, descriptorIndex := 6, attributes := #[] }, { accessFlags := 9, nameIndex := 45, descriptorIndex := 46, attributes := #[] }, { accessFlags := 9, nameIndex := 45, descriptorIndex := 94, attributes := #[] }] 49 2 #[] #[])
  fields := #[]
  methods := #[k9m0, k9m1, k9m2]
  instanceTypes := #[]
  staticTypes := #[]
  resolved := Array.replicate 184 none
  statics := none }

def pool10 : Array CpInfo := pool [(1, .methodref 2 3), (0, .class_ 4), (0, .nameAndType 5 6), (0, u "java/lang/Object"), (0, u "<init>"), (0, u "()V"), (0, .class_ 8), (0, u "java/lang/Record")] 13

def k10c0 : Code := { maxStack := 1, maxLocals := 1, code := jdk_30_method_1_code, exceptionTable := #[], attributes := #[] }
def k10m0 : Method := { name := "<init>", desc := "()V", sig := { parameters := [], returnType := none }, accessFlags := 4, code := some k10c0 }
/-- java/lang/Record -/
def k10 : Class := { plain "java/lang/Record" (some 0) with
  accessFlags := 1057
  interfaces := #[]
  cf := some (fileOf pool10 7 #[] #[{ accessFlags := 4, nameIndex := 5, descriptorIndex := 6, attributes := #[] }] 1057 2 #[] #[])
  fields := #[]
  methods := #[k10m0]
  instanceTypes := #[]
  staticTypes := #[]
  resolved := Array.replicate 22 none
  statics := none }

def pool11 : Array CpInfo := pool [(1, .methodref 2 3), (0, .class_ 4), (0, .nameAndType 5 6), (0, u "java/lang/Record"), (0, u "<init>"), (0, u "()V"), (0, .string 8), (0, u "format"), (0, .methodref 10 11), (0, .class_ 12), (0, .nameAndType 13 14), (0, u "java/util/Objects"), (0, u "requireNonNull"), (0, u "(Ljava/lang/Object;Ljava/lang/String;)Ljava/lang/Object;"), (0, .string 16), (0, u "allowCreate"), (0, .fieldref 18 19), (0, .class_ 20), (0, .nameAndType 8 21), (0, u "com/example/vouchsafe/vouchsafe/message/NameIdPolicy"), (0, u "Ljava/util/Optional;"), (0, .fieldref 18 23), (0, .nameAndType 16 21), (15, u "(Ljava/util/Optional;Ljava/util/Optional;)V"), (0, .methodref 41 42), (0, .class_ 43), (0, .nameAndType 44 45), (0, u "java/util/Optional"), (0, u "isEmpty"), (0, u "()Z"), (0, .methodref 41 47), (0, .nameAndType 48 49), (0, u "get"), (0, u "()Ljava/lang/Object;"), (0, .class_ 51), (0, u "java/lang/String"), (0, .string 53), (0, u "urn:oasis:names:tc:SAML:1.1:nameid-format:unspecified"), (0, .methodref 50 55), (0, .nameAndType 56 57), (0, u "equals"), (0, u "(Ljava/lang/Object;)Z"), (34, u "UNSPECIFIED"), (0, u "Ljava/lang/String;"), (10, u "accepts"), (0, u "(Ljava/lang/String;)Z")] 30

def k11c0 : Code := { maxStack := 2, maxLocals := 3, code := prog_34_method_1_code, exceptionTable := #[], attributes := #[] }
def k11m0 : Method := { name := "<init>", desc := "(Ljava/util/Optional;Ljava/util/Optional;)V", sig := { parameters := [(.object "java/util/Optional"), (.object "java/util/Optional")], returnType := none }, accessFlags := 1, code := some k11c0 }
def k11c1 : Code := { maxStack := 2, maxLocals := 2, code := prog_34_method_3_code, exceptionTable := #[], attributes := #[] }
def k11m1 : Method := { name := "accepts", desc := "(Ljava/lang/String;)Z", sig := { parameters := [(.object "java/lang/String")], returnType := some .boolean }, accessFlags := 1, code := some k11c1 }
/-- com/example/vouchsafe/vouchsafe/message/NameIdPolicy -/
def k11 : Class := { plain "com/example/vouchsafe/vouchsafe/message/NameIdPolicy" (some 10) with
  accessFlags := 49
  interfaces := #[]
  cf := some (fileOf pool11 18 #[] #[{ accessFlags := 1, nameIndex := 5, descriptorIndex := 39, attributes := #[] }, { accessFlags := 1, nameIndex := 104, descriptorIndex := 105, attributes := #[] }] 49 2 #[] #[{ accessFlags := 18, nameIndex := 8, descriptorIndex := 21, attributes := #[] }, { accessFlags := 18, nameIndex := 16, descriptorIndex := 21, attributes := #[] }, { accessFlags := 25, nameIndex := 92, descriptorIndex := 93, attributes := #[] }])
  fields := #[{ name := "format", type := (.object "java/util/Optional"), accessFlags := 18, slot := 0, constantValue := 0 }, { name := "allowCreate", type := (.object "java/util/Optional"), accessFlags := 18, slot := 1, constantValue := 0 }, { name := "UNSPECIFIED", type := (.object "java/lang/String"), accessFlags := 25, slot := 0, constantValue := 0 }]
  methods := #[k11m0, k11m1]
  instanceTypes := #[(.object "java/util/Optional"), (.object "java/util/Optional")]
  staticTypes := #[(.object "java/lang/String")]
  resolved := Array.replicate 136 none
  statics := none }

def pool12 : Array CpInfo := pool [(4, .class_ 6), (1, u "java/lang/Object"), (0, u "<init>"), (0, u "()V"), (5, .class_ 16), (1, u "java/lang/StringLatin1"), (104, u "$assertionsDisabled"), (0, u "Z"), (98, .class_ 223), (1, u "java/lang/StringLatin1$LinesSpliterator"), (57, u "equals"), (0, u "([B[B)Z"), (107, .class_ 391), (0, u "java/lang/StringLatin1$CharsSpliterator")] 3

def k12m0 : Method := { name := "<init>", desc := "()V", sig := { parameters := [], returnType := none }, accessFlags := 0, code := none }
def k12c1 : Code := { maxStack := 3, maxLocals := 3, code := jdk_43_method_13_code, exceptionTable := #[], attributes := #[] }
def k12m1 : Method := { name := "equals", desc := "([B[B)Z", sig := { parameters := [(.array .byte), (.array .byte)], returnType := some .boolean }, accessFlags := 9, code := some k12c1 }
/-- java/lang/StringLatin1 -/
def k12 : Class := { plain "java/lang/StringLatin1" (some 0) with
  accessFlags := 48
  interfaces := #[]
  cf := some (fileOf pool12 14 #[.nestMembers #[390, 221]] #[{ accessFlags := 0, nameIndex := 7, descriptorIndex := 8, attributes := #[] }, { accessFlags := 9, nameIndex := 281, descriptorIndex := 282, attributes := #[] }] 48 4 #[] #[{ accessFlags := 4120, nameIndex := 121, descriptorIndex := 122, attributes := #[] }])
  fields := #[{ name := "$assertionsDisabled", type := .boolean, accessFlags := 4120, slot := 0, constantValue := 0 }]
  methods := #[k12m0, k12m1]
  instanceTypes := #[]
  staticTypes := #[.boolean]
  resolved := Array.replicate 395 none
  statics := none }

def pool13 : Array CpInfo := pool [(6, .class_ 8), (1, u "java/lang/Object"), (0, u "<init>"), (0, u "()V"), (1, .class_ 14), (1, u "java/lang/StringUTF16"), (31, u "$assertionsDisabled"), (0, u "Z"), (13, u "HI_BYTE_SHIFT"), (0, u "I"), (2, u "LO_BYTE_SHIFT"), (49, .methodref 12 116), (0, .nameAndType 117 118), (0, u "compress"), (0, u "([CI[BII)I"), (3, u "([CII)[B"), (138, u "coderFromArrayLen"), (0, u "([BI)B"), (106, .class_ 371), (1, u "java/lang/StringUTF16$LinesSpliterator"), (58, u "MAX_LENGTH"), (196, .class_ 628), (0, u "java/lang/StringUTF16$CodePointsSpliterator"), (0, .class_ 630), (0, u "java/lang/StringUTF16$CharsSpliterator")] 4

def k13m0 : Method := { name := "<init>", desc := "()V", sig := { parameters := [], returnType := none }, accessFlags := 0, code := none }
def k13c1 : Code := { maxStack := 2, maxLocals := 2, code := jdk_52_method_15_code, exceptionTable := #[], attributes := #[] }
def k13m1 : Method := { name := "coderFromArrayLen", desc := "([BI)B", sig := { parameters := [(.array .byte), .int], returnType := some .byte }, accessFlags := 8, code := some k13c1 }
def k13c2 : Code := { maxStack := 5, maxLocals := 6, code := jdk_52_method_16_code, exceptionTable := #[], attributes := #[] }
def k13m2 : Method := { name := "compress", desc := "([CII)[B", sig := { parameters := [(.array .char), .int, .int], returnType := some (.array .byte) }, accessFlags := 9, code := some k13c2 }
def k13c3 : Code := { maxStack := 3, maxLocals := 7, code := jdk_52_method_21_code, exceptionTable := #[], attributes := #[] }
def k13m3 : Method := { name := "compress", desc := "([CI[BII)I", sig := { parameters := [(.array .char), .int, (.array .byte), .int, .int], returnType := some .int }, accessFlags := 9, code := some k13c3 }
/-- java/lang/StringUTF16 -/
def k13 : Class := { plain "java/lang/StringUTF16" (some 0) with
  accessFlags := 48
  interfaces := #[]
  cf := some (fileOf pool13 12 #[.nestMembers #[627, 629, 369]] #[{ accessFlags := 0, nameIndex := 9, descriptorIndex := 10, attributes := #[] }, { accessFlags := 8, nameIndex := 261, descriptorIndex := 262, attributes := #[] }, { accessFlags := 9, nameIndex := 117, descriptorIndex := 122, attributes := #[] }, { accessFlags := 9, nameIndex := 117, descriptorIndex := 118, attributes := #[] }] 48 6 #[] #[{ accessFlags := 26, nameIndex := 61, descriptorIndex := 62, attributes := #[] }, { accessFlags := 26, nameIndex := 65, descriptorIndex := 62, attributes := #[] }, { accessFlags := 24, nameIndex := 430, descriptorIndex := 62, attributes := #[] }, { accessFlags := 4120, nameIndex := 46, descriptorIndex := 47, attributes := #[] }])
  fields := #[{ name := "HI_BYTE_SHIFT", type := .int, accessFlags := 26, slot := 0, constantValue := 0 }, { name := "LO_BYTE_SHIFT", type := .int, accessFlags := 26, slot := 1, constantValue := 0 }, { name := "MAX_LENGTH", type := .int, accessFlags := 24, slot := 2, constantValue := 0 }, { name := "$assertionsDisabled", type := .boolean, accessFlags := 4120, slot := 3, constantValue := 0 }]
  methods := #[k13m0, k13m1, k13m2, k13m3]
  instanceTypes := #[]
  staticTypes := #[.int, .int, .int, .boolean]
  resolved := Array.replicate 635 none
  statics := none }

def pool14 : Array CpInfo := pool [(2, .class_ 4), (1, u "java/lang/Object"), (3, .class_ 10), (1, u "java/lang/Boolean"), (0, u "value"), (0, u "Z"), (16, u "TRUE"), (0, u "Ljava/lang/Boolean;"), (2, u "FALSE"), (53, u "TYPE"), (0, u "Ljava/lang/Class;"), (0, .class_ 90), (0, u "java/io/Serializable"), (0, .class_ 92), (0, u "java/lang/Comparable"), (0, .class_ 94), (0, u "java/lang/constant/Constable"), (2, u "serialVersionUID"), (0, u "J")] 53

/-- java/lang/Boolean -/
def k14 : Class := { plain "java/lang/Boolean" (some 0) with
  accessFlags := 49
  interfaces := #[2, 3, 5]
  cf := some (fileOf pool14 8 #[] #[] 49 2 #[89, 91, 93] #[{ accessFlags := 25, nameIndex := 29, descriptorIndex := 30, attributes := #[] }, { accessFlags := 25, nameIndex := 33, descriptorIndex := 30, attributes := #[] }, { accessFlags := 25, nameIndex := 87, descriptorIndex := 88, attributes := #[] }, { accessFlags := 18, nameIndex := 11, descriptorIndex := 12, attributes := #[] }, { accessFlags := 26, nameIndex := 97, descriptorIndex := 98, attributes := #[] }])
  fields := #[{ name := "TRUE", type := (.object "java/lang/Boolean"), accessFlags := 25, slot := 0, constantValue := 0 }, { name := "FALSE", type := (.object "java/lang/Boolean"), accessFlags := 25, slot := 1, constantValue := 0 }, { name := "TYPE", type := (.object "java/lang/Class"), accessFlags := 25, slot := 2, constantValue := 0 }, { name := "value", type := .boolean, accessFlags := 18, slot := 0, constantValue := 0 }, { name := "serialVersionUID", type := .long, accessFlags := 26, slot := 3, constantValue := 0 }]
  methods := #[]
  instanceTypes := #[.boolean]
  staticTypes := #[(.object "java/lang/Boolean"), (.object "java/lang/Boolean"), (.object "java/lang/Class"), .long]
  resolved := Array.replicate 152 none
  statics := some 2 }

def pool15 : Array CpInfo := pool [(2, .class_ 4), (1, u "java/lang/Object"), (0, u "<init>"), (0, u "()V"), (17, .class_ 26), (1, u "jdk/internal/util/Preconditions"), (28, .class_ 56), (0, u "jdk/internal/util/Preconditions$4"), (57, .class_ 115), (0, u "jdk/internal/util/Preconditions$1"), (7, u "SIOOBE_FORMATTER"), (0, u "Ljava/util/function/BiFunction;"), (0, .class_ 126), (0, u "jdk/internal/util/Preconditions$2"), (3, u "AIOOBE_FORMATTER"), (0, .class_ 132), (0, u "jdk/internal/util/Preconditions$3"), (3, u "IOOBE_FORMATTER")] 57

def k15m0 : Method := { name := "<init>", desc := "()V", sig := { parameters := [], returnType := none }, accessFlags := 1, code := none }
/-- jdk/internal/util/Preconditions -/
def k15 : Class := { plain "jdk/internal/util/Preconditions" (some 0) with
  accessFlags := 33
  interfaces := #[]
  cf := some (fileOf pool15 24 #[.nestMembers #[55, 131, 125, 114]] #[{ accessFlags := 1, nameIndex := 5, descriptorIndex := 6, attributes := #[] }] 33 2 #[] #[{ accessFlags := 25, nameIndex := 123, descriptorIndex := 124, attributes := #[] }, { accessFlags := 25, nameIndex := 130, descriptorIndex := 124, attributes := #[] }, { accessFlags := 25, nameIndex := 136, descriptorIndex := 124, attributes := #[] }])
  fields := #[{ name := "SIOOBE_FORMATTER", type := (.object "java/util/function/BiFunction"), accessFlags := 25, slot := 0, constantValue := 0 }, { name := "AIOOBE_FORMATTER", type := (.object "java/util/function/BiFunction"), accessFlags := 25, slot := 1, constantValue := 0 }, { name := "IOOBE_FORMATTER", type := (.object "java/util/function/BiFunction"), accessFlags := 25, slot := 2, constantValue := 0 }]
  methods := #[k15m0]
  instanceTypes := #[]
  staticTypes := #[(.object "java/util/function/BiFunction"), (.object "java/util/function/BiFunction"), (.object "java/util/function/BiFunction")]
  resolved := Array.replicate 194 none
  statics := some 3 }

def pool16 : Array CpInfo := pool [(9, u "<init>"), (6, .class_ 18), (1, u "java/lang/Object"), (0, u "()V"), (1, .class_ 23), (1, u "jdk/internal/util/ArraysSupport"), (0, u "LOG2_ARRAY_LONG_INDEX_SCALE"), (0, u "I"), (2, u "U"), (0, u "Ljdk/internal/misc/Unsafe;"), (8, u "BIG_ENDIAN"), (0, u "Z"), (8, u "LOG2_BYTE_BIT_SIZE"), (4, u "LOG2_ARRAY_INT_INDEX_SCALE"), (54, u "JLA"), (0, u "Ljdk/internal/access/JavaLangAccess;"), (11, u "LOG2_ARRAY_BOOLEAN_INDEX_SCALE"), (9, u "LOG2_ARRAY_BYTE_INDEX_SCALE"), (5, u "LOG2_ARRAY_CHAR_INDEX_SCALE"), (5, u "LOG2_ARRAY_SHORT_INDEX_SCALE"), (18, u "LOG2_ARRAY_FLOAT_INDEX_SCALE"), (24, u "LOG2_ARRAY_DOUBLE_INDEX_SCALE"), (89, u "T_BOOLEAN"), (2, u "T_CHAR"), (1, u "T_FLOAT"), (1, u "T_DOUBLE"), (1, u "T_BYTE"), (1, u "T_SHORT"), (1, u "T_INT"), (1, u "T_LONG"), (1, u "SOFT_MAX_ARRAY_LENGTH")] 83

def k16m0 : Method := { name := "<init>", desc := "()V", sig := { parameters := [], returnType := none }, accessFlags := 2, code := none }
/-- jdk/internal/util/ArraysSupport -/
def k16 : Class := { plain "jdk/internal/util/ArraysSupport" (some 0) with
  accessFlags := 33
  interfaces := #[]
  cf := some (fileOf pool16 21 #[] #[{ accessFlags := 2, nameIndex := 9, descriptorIndex := 19, attributes := #[] }] 33 16 #[] #[{ accessFlags := 24, nameIndex := 28, descriptorIndex := 29, attributes := #[] }, { accessFlags := 26, nameIndex := 38, descriptorIndex := 39, attributes := #[] }, { accessFlags := 25, nameIndex := 121, descriptorIndex := 25, attributes := #[] }, { accessFlags := 25, nameIndex := 131, descriptorIndex := 25, attributes := #[] }, { accessFlags := 25, nameIndex := 137, descriptorIndex := 25, attributes := #[] }, { accessFlags := 25, nameIndex := 143, descriptorIndex := 25, attributes := #[] }, { accessFlags := 25, nameIndex := 53, descriptorIndex := 25, attributes := #[] }, { accessFlags := 25, nameIndex := 24, descriptorIndex := 25, attributes := #[] }, { accessFlags := 25, nameIndex := 162, descriptorIndex := 25, attributes := #[] }, { accessFlags := 25, nameIndex := 187, descriptorIndex := 25, attributes := #[] }, { accessFlags := 26, nameIndex := 48, descriptorIndex := 25, attributes := #[] }, { accessFlags := 25, nameIndex := 277, descriptorIndex := 25, attributes := #[] }, { accessFlags := 25, nameIndex := 280, descriptorIndex := 25, attributes := #[] }, { accessFlags := 25, nameIndex := 282, descriptorIndex := 25, attributes := #[] }, { accessFlags := 25, nameIndex := 284, descriptorIndex := 25, attributes := #[] }, { accessFlags := 25, nameIndex := 286, descriptorIndex := 25, attributes := #[] }, { accessFlags := 25, nameIndex := 288, descriptorIndex := 25, attributes := #[] }, { accessFlags := 25, nameIndex := 290, descriptorIndex := 25, attributes := #[] }, { accessFlags := 25, nameIndex := 292, descriptorIndex := 25, attributes := #[] }, { accessFlags := 26, nameIndex := 108, descriptorIndex := 109, attributes := #[] }, { accessFlags := 25, nameIndex := 294, descriptorIndex := 25, attributes := #[] }])
  fields := #[{ name := "U", type := (.object "jdk/internal/misc/Unsafe"), accessFlags := 24, slot := 0, constantValue := 0 }, { name := "BIG_ENDIAN", type := .boolean, accessFlags := 26, slot := 1, constantValue := 0 }, { name := "LOG2_ARRAY_BOOLEAN_INDEX_SCALE", type := .int, accessFlags := 25, slot := 2, constantValue := 0 }, { name := "LOG2_ARRAY_BYTE_INDEX_SCALE", type := .int, accessFlags := 25, slot := 3, constantValue := 0 }, { name := "LOG2_ARRAY_CHAR_INDEX_SCALE", type := .int, accessFlags := 25, slot := 4, constantValue := 0 }, { name := "LOG2_ARRAY_SHORT_INDEX_SCALE", type := .int, accessFlags := 25, slot := 5, constantValue := 0 }, { name := "LOG2_ARRAY_INT_INDEX_SCALE", type := .int, accessFlags := 25, slot := 6, constantValue := 0 }, { name := "LOG2_ARRAY_LONG_INDEX_SCALE", type := .int, accessFlags := 25, slot := 7, constantValue := 0 }, { name := "LOG2_ARRAY_FLOAT_INDEX_SCALE", type := .int, accessFlags := 25, slot := 8, constantValue := 0 }, { name := "LOG2_ARRAY_DOUBLE_INDEX_SCALE", type := .int, accessFlags := 25, slot := 9, constantValue := 0 }, { name := "LOG2_BYTE_BIT_SIZE", type := .int, accessFlags := 26, slot := 10, constantValue := 0 }, { name := "T_BOOLEAN", type := .int, accessFlags := 25, slot := 11, constantValue := 0 }, { name := "T_CHAR", type := .int, accessFlags := 25, slot := 12, constantValue := 0 }, { name := "T_FLOAT", type := .int, accessFlags := 25, slot := 13, constantValue := 0 }, { name := "T_DOUBLE", type := .int, accessFlags := 25, slot := 14, constantValue := 0 }, { name := "T_BYTE", type := .int, accessFlags := 25, slot := 15, constantValue := 0 }, { name := "T_SHORT", type := .int, accessFlags := 25, slot := 16, constantValue := 0 }, { name := "T_INT", type := .int, accessFlags := 25, slot := 17, constantValue := 0 }, { name := "T_LONG", type := .int, accessFlags := 25, slot := 18, constantValue := 0 }, { name := "JLA", type := (.object "jdk/internal/access/JavaLangAccess"), accessFlags := 26, slot := 19, constantValue := 0 }, { name := "SOFT_MAX_ARRAY_LENGTH", type := .int, accessFlags := 25, slot := 20, constantValue := 0 }]
  methods := #[k16m0]
  instanceTypes := #[]
  staticTypes := #[(.object "jdk/internal/misc/Unsafe"), .boolean, .int, .int, .int, .int, .int, .int, .int, .int, .int, .int, .int, .int, .int, .int, .int, .int, .int, (.object "jdk/internal/access/JavaLangAccess"), .int]
  resolved := Array.replicate 378 none
  statics := none }

def pool17 : Array CpInfo := pool [(1, u "java/lang/Cloneable"), (0, .class_ 1), (0, u "java/lang/Object"), (0, .class_ 3)] 3

/-- java/lang/Cloneable -/
def k17 : Class := { plain "java/lang/Cloneable" (some 0) with
  accessFlags := 1537
  interfaces := #[]
  cf := some (fileOf pool17 2 #[] #[] 1537 4 #[] #[])
  fields := #[]
  methods := #[]
  instanceTypes := #[]
  staticTypes := #[]
  resolved := Array.replicate 8 none
  statics := none }

/-- the primitive byte -/
def k18 : Class := { plain "byte" none with kind := .primitive 'B', accessFlags := 0x411 }
/-- [B -/
def k19 : Class := { plain "[B" (some 0) with kind := .array 18 .byte, interfaces := #[17, 2], accessFlags := 1041 }

/-- the primitive char -/
def k20 : Class := { plain "char" none with kind := .primitive 'C', accessFlags := 0x411 }
/-- [C -/
def k21 : Class := { plain "[C" (some 0) with kind := .array 20 .char, interfaces := #[17, 2], accessFlags := 1041 }

/-- the primitive int -/
def k22 : Class := { plain "int" none with kind := .primitive 'I', accessFlags := 0x411 }
/-- [I -/
def k23 : Class := { plain "[I" (some 0) with kind := .array 22 .int, interfaces := #[17, 2], accessFlags := 1041 }

def heap : Heap := #[{ cls := 7, slots := #[.long 0, .int 1, .null, .int 0, .null, .int 0, .int 0], vm := .statics 7 },
  { cls := 8, slots := #[.ref 4], vm := .statics 8 },
  { cls := 14, slots := #[.ref 6, .ref 5, .null, .long 0], vm := .statics 14 },
  { cls := 15, slots := #[.null, .null, .null], vm := .statics 15 },
  { cls := 8, slots := #[.null], vm := .none },
  { cls := 14, slots := #[.int 0], vm := .none },
  { cls := 14, slots := #[.int 1], vm := .none }]
def classes : Array Class := #[k0, k1, k2, k3, k4, k5, k6, k7, k8, k9, k10, k11, k12, k13, k14, k15, k16, k17, k18, k19, k20, k21, k22, k23]
def interned : List (Array UInt16 × Addr) := []
def slotsUsed : Nat := 18
def theMethod : MethodId := ⟨1, 3⟩
def args0 : Array Value := #[.int 5, .int 7, .int 9]
def aboutOver (below : List Frame) : State where
  vm := { classes := classes, interned := interned.toArray }
  heap := heap
  slotsUsed := slotsUsed
  threads := #[{ frames := .invoking theMethod args0 :: below }]
def below0 : List Frame := [.native { method := ⟨0, 0⟩, args := #[] }]
def about1 : State := aboutOver below0
def p0 : Program := .bare "" "" ""
def e0 : Env := launch0.env 0 0 0
theorem w_frames : about1.frames = Frame.invoking theMethod args0 :: below0 := rfl
set_option maxRecDepth 65536 in
theorem w_args : argsFit about1.vm theMethod args0 = true := by decide +kernel
set_option maxRecDepth 65536 in
theorem w_heap : heapFits about1 = true := by decide +kernel
set_option maxRecDepth 65536 in
theorem w_runnable : about1.curStatus? = some .runnable := by decide +kernel
set_option maxRecDepth 65536 in
theorem w_alone : about1.alone = true := by decide +kernel
set_option maxRecDepth 65536 in
theorem w_named : about1.methodNamed? x = some theMethod := by decide +kernel
set_option maxRecDepth 65536 in
theorem w_hears : about1.hears theMethod below0 = true := by decide +kernel
set_option maxRecDepth 65536 in
theorem w_ripe : about1.ripe theMethod args0 below0 = true := by decide +kernel
theorem w_running : about1.status = .running := rfl
set_option maxRecDepth 65536 in
theorem w_room : about1.hasRoom e0.platform room_1 = true :=
  launch0.hasRoom_least _ room_1 (by decide +kernel) (by decide +kernel) (by decide +kernel) (by decide +kernel) (by decide +kernel) (by decide +kernel)
theorem allAtoms_all (ts : List Jvm.Cond) (a : Array Jvm.Value) (st : Jvm.State) : (allAtoms ts).before a st = ts.all (fun c => c.before a st) := by
  induction ts with
  | nil => rfl
  | cons c t ih =>
    show (Jvm.Cond.and c (allAtoms t)).before a st = _
    rw [Jvm.Cond.before_and, ih, List.all_cons]
def words1 : List Jvm.Cond := Jvm.Cond.code x code maxLocals ret :: tables_1
/-- a 'code' word, met by the world's own term for the bytes: nothing is compared byte by byte -/
theorem code_word {y : MethodName} {bytes : ByteArray} {mx : Nat} {rt : Option FieldType} {a : Array Value} {s : State} {m : MethodId} {meth : Method} {c : Code} (h1 : s.methodNamed? y = some m) (h2 : s.vm.method? m = some meth) (h3 : meth.code = some c) (h4 : c.code = bytes)
    (h5 : (c.maxLocals == mx && c.exceptionTable.isEmpty && decide (c.maxStack ≤ mostOperands) && decide (meth.sig.returnType = rt) && !meth.locks && decide (parseMethodDescriptor y.desc = some meth.sig)) = true) : (Jvm.Cond.code y bytes mx rt).before a s = true := by
  simp only [Bool.and_eq_true, beq_iff_eq, Bool.not_eq_true', decide_eq_true_eq] at h5
  obtain ⟨⟨⟨⟨⟨g1, g2⟩, g3⟩, g4⟩, g5⟩, g6⟩ := h5
  simp [Cond.before, Cond.holds, Cond.value, h1, h2, h3, h4, g1, g2, g3, g4, g5, g6]
def isCode : Jvm.Cond → Bool
  | .code _ _ _ _ => true
  | _ => false
theorem all_split {L : List Jvm.Cond} {P : Jvm.Cond → Bool} (h1 : L.all (fun c => isCode c || P c) = true) (h2 : ∀ c ∈ L.filter isCode, P c = true) : L.all P = true := by
  refine List.all_eq_true.mpr fun c hc => ?_
  have h := List.all_eq_true.mp h1 c hc
  rcases Bool.eq_false_or_eq_true (isCode c) with hi | hi
  · exact h2 c (List.mem_filter.mpr ⟨hc, hi⟩)
  · simpa [hi] using h
set_option maxRecDepth 65536 in
theorem w_c0 : (Jvm.Cond.code x code maxLocals ret).before args0 about1 = true := code_word (m := ⟨1, 3⟩) (meth := k1m3) (c := k1c3) (by decide +kernel) rfl rfl rfl (by decide +kernel)
set_option maxRecDepth 65536 in
theorem w_c1 : (Jvm.Cond.code ({ cls := "com/example/vouchsafe/vouchsafe/message/NameIdPolicyAcceptsPinLaw", name := "drawn", desc := "(I)Ljava/lang/String;" } : Jvm.MethodName) method_2_code (5 : Nat) (Option.some (Jvm.ClassFile.FieldType.object "java/lang/String"))).before args0 about1 = true := code_word (m := ⟨1, 1⟩) (meth := k1m1) (c := k1c1) (by decide +kernel) rfl rfl rfl (by decide +kernel)
set_option maxRecDepth 65536 in
theorem w_c2 : (Jvm.Cond.code ({ cls := "java/lang/String", name := "<init>", desc := "([C)V" } : Jvm.MethodName) jdk_42_method_3_code (2 : Nat) (Option.none : Option Jvm.ClassFile.FieldType)).before args0 about1 = true := code_word (m := ⟨7, 1⟩) (meth := k7m1) (c := k7c1) (by decide +kernel) rfl rfl rfl (by decide +kernel)
set_option maxRecDepth 65536 in
theorem w_c3 : (Jvm.Cond.code ({ cls := "java/lang/String", name := "<init>", desc := "([CIILjava/lang/Void;)V" } : Jvm.MethodName) jdk_42_method_149_code (6 : Nat) (Option.none : Option Jvm.ClassFile.FieldType)).before args0 about1 = true := code_word (m := ⟨7, 3⟩) (meth := k7m3) (c := k7c3) (by decide +kernel) rfl rfl rfl (by decide +kernel)
set_option maxRecDepth 65536 in
theorem w_c4 : (Jvm.Cond.code ({ cls := "java/lang/Object", name := "<init>", desc := "()V" } : Jvm.MethodName) object_method_1_code (1 : Nat) (Option.none : Option Jvm.ClassFile.FieldType)).before args0 about1 = true := code_word (m := ⟨0, 0⟩) (meth := k0m0) (c := k0c0) (by decide +kernel) rfl rfl rfl (by decide +kernel)
set_option maxRecDepth 65536 in
theorem w_c5 : (Jvm.Cond.code ({ cls := "java/util/Optional", name := "of", desc := "(Ljava/lang/Object;)Ljava/util/Optional;" } : Jvm.MethodName) jdk_32_method_3_code (1 : Nat) (Option.some (Jvm.ClassFile.FieldType.object "java/util/Optional"))).before args0 about1 = true := code_word (m := ⟨8, 2⟩) (meth := k8m2) (c := k8c2) (by decide +kernel) rfl rfl rfl (by decide +kernel)
set_option maxRecDepth 65536 in
theorem w_c6 : (Jvm.Cond.code ({ cls := "java/util/Objects", name := "requireNonNull", desc := "(Ljava/lang/Object;)Ljava/lang/Object;" } : Jvm.MethodName) jdk_31_method_10_code (1 : Nat) (Option.some (Jvm.ClassFile.FieldType.object "java/lang/Object"))).before args0 about1 = true := code_word (m := ⟨9, 1⟩) (meth := k9m1) (c := k9c1) (by decide +kernel) rfl rfl rfl (by decide +kernel)
set_option maxRecDepth 65536 in
theorem w_c7 : (Jvm.Cond.code ({ cls := "java/util/Optional", name := "<init>", desc := "(Ljava/lang/Object;)V" } : Jvm.MethodName) jdk_32_method_2_code (2 : Nat) (Option.none : Option Jvm.ClassFile.FieldType)).before args0 about1 = true := code_word (m := ⟨8, 1⟩) (meth := k8m1) (c := k8c1) (by decide +kernel) rfl rfl rfl (by decide +kernel)
set_option maxRecDepth 65536 in
theorem w_c8 : (Jvm.Cond.code ({ cls := "java/util/Optional", name := "empty", desc := "()Ljava/util/Optional;" } : Jvm.MethodName) jdk_32_method_1_code (1 : Nat) (Option.some (Jvm.ClassFile.FieldType.object "java/util/Optional"))).before args0 about1 = true := code_word (m := ⟨8, 0⟩) (meth := k8m0) (c := k8c0) (by decide +kernel) rfl rfl rfl (by decide +kernel)
set_option maxRecDepth 65536 in
theorem w_c9 : (Jvm.Cond.code ({ cls := "com/example/vouchsafe/vouchsafe/message/NameIdPolicyAcceptsPinLaw", name := "sameDrawn", desc := "(II)Z" } : Jvm.MethodName) method_3_code (5 : Nat) (Option.some Jvm.ClassFile.FieldType.boolean)).before args0 about1 = true := code_word (m := ⟨1, 2⟩) (meth := k1m2) (c := k1c2) (by decide +kernel) rfl rfl rfl (by decide +kernel)
set_option maxRecDepth 65536 in
theorem w_c10 : (Jvm.Cond.code ({ cls := "com/example/vouchsafe/vouchsafe/message/NameIdPolicy", name := "<init>", desc := "(Ljava/util/Optional;Ljava/util/Optional;)V" } : Jvm.MethodName) prog_34_method_1_code (3 : Nat) (Option.none : Option Jvm.ClassFile.FieldType)).before args0 about1 = true := code_word (m := ⟨11, 0⟩) (meth := k11m0) (c := k11c0) (by decide +kernel) rfl rfl rfl (by decide +kernel)
set_option maxRecDepth 65536 in
theorem w_c11 : (Jvm.Cond.code ({ cls := "java/lang/Record", name := "<init>", desc := "()V" } : Jvm.MethodName) jdk_30_method_1_code (1 : Nat) (Option.none : Option Jvm.ClassFile.FieldType)).before args0 about1 = true := code_word (m := ⟨10, 0⟩) (meth := k10m0) (c := k10c0) (by decide +kernel) rfl rfl rfl (by decide +kernel)
set_option maxRecDepth 65536 in
theorem w_c12 : (Jvm.Cond.code ({ cls := "java/util/Objects", name := "requireNonNull", desc := "(Ljava/lang/Object;Ljava/lang/String;)Ljava/lang/Object;" } : Jvm.MethodName) jdk_31_method_11_code (2 : Nat) (Option.some (Jvm.ClassFile.FieldType.object "java/lang/Object"))).before args0 about1 = true := code_word (m := ⟨9, 2⟩) (meth := k9m2) (c := k9c2) (by decide +kernel) rfl rfl rfl (by decide +kernel)
set_option maxRecDepth 65536 in
theorem w_c13 : (Jvm.Cond.code ({ cls := "com/example/vouchsafe/vouchsafe/message/NameIdPolicy", name := "accepts", desc := "(Ljava/lang/String;)Z" } : Jvm.MethodName) prog_34_method_3_code (2 : Nat) (Option.some Jvm.ClassFile.FieldType.boolean)).before args0 about1 = true := code_word (m := ⟨11, 1⟩) (meth := k11m1) (c := k11c1) (by decide +kernel) rfl rfl rfl (by decide +kernel)
set_option maxRecDepth 65536 in
theorem w_c14 : (Jvm.Cond.code ({ cls := "java/util/Optional", name := "isEmpty", desc := "()Z" } : Jvm.MethodName) jdk_32_method_7_code (1 : Nat) (Option.some Jvm.ClassFile.FieldType.boolean)).before args0 about1 = true := code_word (m := ⟨8, 4⟩) (meth := k8m4) (c := k8c4) (by decide +kernel) rfl rfl rfl (by decide +kernel)
set_option maxRecDepth 65536 in
theorem w_c15 : (Jvm.Cond.code ({ cls := "java/util/Optional", name := "get", desc := "()Ljava/lang/Object;" } : Jvm.MethodName) jdk_32_method_5_code (1 : Nat) (Option.some (Jvm.ClassFile.FieldType.object "java/lang/Object"))).before args0 about1 = true := code_word (m := ⟨8, 3⟩) (meth := k8m3) (c := k8c3) (by decide +kernel) rfl rfl rfl (by decide +kernel)
set_option maxRecDepth 65536 in
theorem w_c16 : (Jvm.Cond.code ({ cls := "java/lang/String", name := "equals", desc := "(Ljava/lang/Object;)Z" } : Jvm.MethodName) jdk_42_method_66_code (3 : Nat) (Option.some Jvm.ClassFile.FieldType.boolean)).before args0 about1 = true := code_word (m := ⟨7, 2⟩) (meth := k7m2) (c := k7c2) (by decide +kernel) rfl rfl rfl (by decide +kernel)
set_option maxRecDepth 65536 in
theorem w_c17 : (Jvm.Cond.code ({ cls := "java/lang/StringLatin1", name := "equals", desc := "([B[B)Z" } : Jvm.MethodName) jdk_43_method_13_code (3 : Nat) (Option.some Jvm.ClassFile.FieldType.boolean)).before args0 about1 = true := code_word (m := ⟨12, 1⟩) (meth := k12m1) (c := k12c1) (by decide +kernel) rfl rfl rfl (by decide +kernel)
set_option maxRecDepth 65536 in
theorem w_c18 : (Jvm.Cond.code ({ cls := "java/lang/StringUTF16", name := "compress", desc := "([CII)[B" } : Jvm.MethodName) jdk_52_method_16_code (6 : Nat) (Option.some (Jvm.ClassFile.FieldType.array Jvm.ClassFile.FieldType.byte))).before args0 about1 = true := code_word (m := ⟨13, 2⟩) (meth := k13m2) (c := k13c2) (by decide +kernel) rfl rfl rfl (by decide +kernel)
set_option maxRecDepth 65536 in
theorem w_c19 : (Jvm.Cond.code ({ cls := "java/lang/StringUTF16", name := "compress", desc := "([CI[BII)I" } : Jvm.MethodName) jdk_52_method_21_code (7 : Nat) (Option.some Jvm.ClassFile.FieldType.int)).before args0 about1 = true := code_word (m := ⟨13, 3⟩) (meth := k13m3) (c := k13c3) (by decide +kernel) rfl rfl rfl (by decide +kernel)
set_option maxRecDepth 65536 in
theorem w_c20 : (Jvm.Cond.code ({ cls := "java/lang/StringUTF16", name := "coderFromArrayLen", desc := "([BI)B" } : Jvm.MethodName) jdk_52_method_15_code (2 : Nat) (Option.some Jvm.ClassFile.FieldType.byte)).before args0 about1 = true := code_word (m := ⟨13, 1⟩) (meth := k13m1) (c := k13c1) (by decide +kernel) rfl rfl rfl (by decide +kernel)
def codes1 : List Jvm.Cond := [Jvm.Cond.code x code maxLocals ret, Jvm.Cond.code ({ cls := "com/example/vouchsafe/vouchsafe/message/NameIdPolicyAcceptsPinLaw", name := "drawn", desc := "(I)Ljava/lang/String;" } : Jvm.MethodName) method_2_code (5 : Nat) (Option.some (Jvm.ClassFile.FieldType.object "java/lang/String")), Jvm.Cond.code ({ cls := "java/lang/String", name := "<init>", desc := "([C)V" } : Jvm.MethodName) jdk_42_method_3_code (2 : Nat) (Option.none : Option Jvm.ClassFile.FieldType), Jvm.Cond.code ({ cls := "java/lang/String", name := "<init>", desc := "([CIILjava/lang/Void;)V" } : Jvm.MethodName) jdk_42_method_149_code (6 : Nat) (Option.none : Option Jvm.ClassFile.FieldType), Jvm.Cond.code ({ cls := "java/lang/Object", name := "<init>", desc := "()V" } : Jvm.MethodName) object_method_1_code (1 : Nat) (Option.none : Option Jvm.ClassFile.FieldType), Jvm.Cond.code ({ cls := "java/util/Optional", name := "of", desc := "(Ljava/lang/Object;)Ljava/util/Optional;" } : Jvm.MethodName) jdk_32_method_3_code (1 : Nat) (Option.some (Jvm.ClassFile.FieldType.object "java/util/Optional")), Jvm.Cond.code ({ cls := "java/util/Objects", name := "requireNonNull", desc := "(Ljava/lang/Object;)Ljava/lang/Object;" } : Jvm.MethodName) jdk_31_method_10_code (1 : Nat) (Option.some (Jvm.ClassFile.FieldType.object "java/lang/Object")), Jvm.Cond.code ({ cls := "java/util/Optional", name := "<init>", desc := "(Ljava/lang/Object;)V" } : Jvm.MethodName) jdk_32_method_2_code (2 : Nat) (Option.none : Option Jvm.ClassFile.FieldType), Jvm.Cond.code ({ cls := "java/util/Optional", name := "empty", desc := "()Ljava/util/Optional;" } : Jvm.MethodName) jdk_32_method_1_code (1 : Nat) (Option.some (Jvm.ClassFile.FieldType.object "java/util/Optional")), Jvm.Cond.code ({ cls := "com/example/vouchsafe/vouchsafe/message/NameIdPolicyAcceptsPinLaw", name := "sameDrawn", desc := "(II)Z" } : Jvm.MethodName) method_3_code (5 : Nat) (Option.some Jvm.ClassFile.FieldType.boolean), Jvm.Cond.code ({ cls := "com/example/vouchsafe/vouchsafe/message/NameIdPolicy", name := "<init>", desc := "(Ljava/util/Optional;Ljava/util/Optional;)V" } : Jvm.MethodName) prog_34_method_1_code (3 : Nat) (Option.none : Option Jvm.ClassFile.FieldType), Jvm.Cond.code ({ cls := "java/lang/Record", name := "<init>", desc := "()V" } : Jvm.MethodName) jdk_30_method_1_code (1 : Nat) (Option.none : Option Jvm.ClassFile.FieldType), Jvm.Cond.code ({ cls := "java/util/Objects", name := "requireNonNull", desc := "(Ljava/lang/Object;Ljava/lang/String;)Ljava/lang/Object;" } : Jvm.MethodName) jdk_31_method_11_code (2 : Nat) (Option.some (Jvm.ClassFile.FieldType.object "java/lang/Object")), Jvm.Cond.code ({ cls := "com/example/vouchsafe/vouchsafe/message/NameIdPolicy", name := "accepts", desc := "(Ljava/lang/String;)Z" } : Jvm.MethodName) prog_34_method_3_code (2 : Nat) (Option.some Jvm.ClassFile.FieldType.boolean), Jvm.Cond.code ({ cls := "java/util/Optional", name := "isEmpty", desc := "()Z" } : Jvm.MethodName) jdk_32_method_7_code (1 : Nat) (Option.some Jvm.ClassFile.FieldType.boolean), Jvm.Cond.code ({ cls := "java/util/Optional", name := "get", desc := "()Ljava/lang/Object;" } : Jvm.MethodName) jdk_32_method_5_code (1 : Nat) (Option.some (Jvm.ClassFile.FieldType.object "java/lang/Object")), Jvm.Cond.code ({ cls := "java/lang/String", name := "equals", desc := "(Ljava/lang/Object;)Z" } : Jvm.MethodName) jdk_42_method_66_code (3 : Nat) (Option.some Jvm.ClassFile.FieldType.boolean), Jvm.Cond.code ({ cls := "java/lang/StringLatin1", name := "equals", desc := "([B[B)Z" } : Jvm.MethodName) jdk_43_method_13_code (3 : Nat) (Option.some Jvm.ClassFile.FieldType.boolean), Jvm.Cond.code ({ cls := "java/lang/StringUTF16", name := "compress", desc := "([CII)[B" } : Jvm.MethodName) jdk_52_method_16_code (6 : Nat) (Option.some (Jvm.ClassFile.FieldType.array Jvm.ClassFile.FieldType.byte)), Jvm.Cond.code ({ cls := "java/lang/StringUTF16", name := "compress", desc := "([CI[BII)I" } : Jvm.MethodName) jdk_52_method_21_code (7 : Nat) (Option.some Jvm.ClassFile.FieldType.int), Jvm.Cond.code ({ cls := "java/lang/StringUTF16", name := "coderFromArrayLen", desc := "([BI)B" } : Jvm.MethodName) jdk_52_method_15_code (2 : Nat) (Option.some Jvm.ClassFile.FieldType.byte)]
set_option maxRecDepth 65536 in
theorem codes_eq : words1.filter isCode = codes1 := rfl
theorem w_codes : ∀ c ∈ words1.filter isCode, c.before args0 about1 = true := by
  rw [codes_eq]
  intro c hc
  simp only [codes1, List.mem_cons, List.not_mem_nil, or_false] at hc
  rcases hc with rfl | rfl | rfl | rfl | rfl | rfl | rfl | rfl | rfl | rfl | rfl | rfl | rfl | rfl | rfl | rfl | rfl | rfl | rfl | rfl | rfl
  · exact w_c0
  · exact w_c1
  · exact w_c2
  · exact w_c3
  · exact w_c4
  · exact w_c5
  · exact w_c6
  · exact w_c7
  · exact w_c8
  · exact w_c9
  · exact w_c10
  · exact w_c11
  · exact w_c12
  · exact w_c13
  · exact w_c14
  · exact w_c15
  · exact w_c16
  · exact w_c17
  · exact w_c18
  · exact w_c19
  · exact w_c20
set_option maxRecDepth 65536 in
theorem w_t1 : (words1.take 24).all (fun c => isCode c || c.before args0 about1) = true := by decide +kernel
set_option maxRecDepth 65536 in
theorem w_t2 : ((words1.drop 24).take 24).all (fun c => isCode c || c.before args0 about1) = true := by decide +kernel
set_option maxRecDepth 65536 in
theorem w_t3 : (((words1.drop 24).drop 24).take 24).all (fun c => isCode c || c.before args0 about1) = true := by decide +kernel
set_option maxRecDepth 65536 in
theorem w_t4 : ((((words1.drop 24).drop 24).drop 24).take 24).all (fun c => isCode c || c.before args0 about1) = true := by decide +kernel
set_option maxRecDepth 65536 in
theorem w_t5 : ((((words1.drop 24).drop 24).drop 24).drop 24).all (fun c => isCode c || c.before args0 about1) = true := by decide +kernel
theorem w_tables : (allAtoms (Jvm.Cond.code x code maxLocals ret :: tables_1)).before args0 about1 = true := by
  rw [allAtoms_all]
  show words1.all (fun c => c.before args0 about1) = true
  refine all_split ?_ w_codes
  rw [← List.take_append_drop 24 words1, List.all_append, w_t1, ← List.take_append_drop 24 (words1.drop 24), List.all_append, w_t2, ← List.take_append_drop 24 ((words1.drop 24).drop 24), List.all_append, w_t3, ← List.take_append_drop 24 (((words1.drop 24).drop 24).drop 24), List.all_append, w_t4, w_t5]
  rfl
set_option maxRecDepth 65536 in
theorem w_rest : rest_1_c.before args0 about1 = true := by decide +kernel
set_option maxRecDepth 65536 in
theorem w_case : (Jvm.Cond.and given_1 narrow_1).before args0 about1 = true := by decide +kernel
set_option maxRecDepth 65536 in
theorem w_consts : constsHeld consts_1 about1 := Jvm.Lit.constsHeldB_iff.mp (by decide +kernel)
theorem w_applies : (headSpec (Jvm.Cond.code x code maxLocals ret :: tables_1) room_1).applies x e0.platform about1 = true :=
  (Spec.applies_iff w_frames).mpr ⟨w_running, w_runnable, w_alone, w_named, w_hears, w_ripe, w_room, w_tables⟩
theorem atStart : AtStart classFile x code maxLocals ret World_1 tables_1 room_1 Calls_1 rest_1 Pre_1 launch0 p0 e0 about1 theMethod args0 below0 :=
  ⟨lists_1, trivial, launch0.admits_env _ _ _, launch0.least_env, fairChoices_fair.cas, fairChoices_fair.clock, w_frames, w_args, w_heap, w_applies, ⟨w_consts, trivial⟩, w_rest, w_case⟩
end start1
theorem witness_1 : WitnessClaimed_1 := ⟨start1.p0, start1.e0, start1.about1, start1.theMethod, start1.args0, start1.below0, start1.atStart⟩
end Jvm.Pilot.@@N@@
