import JvmDerived
import JvmDerived.Pilot.@@N@@Statement
import JvmDerived.Pilot.@@N@@Code
set_option linter.unusedVariables false
set_option linter.unusedSimpArgs false
/-! the layer of this seat's own: a walk that ends well (Goes), contracts (MET), calls by them -/
namespace Jvm.RoadKit
open Sem ClassFile Op Lib Jvm.Stand Jvm.Free Jvm.LawKit
theorem lt_nat {a b : Nat} (h : @LT.lt Addr instLTNat a b) : @LT.lt Nat instLTNat a b := h
theorem lt_ok {a b : Nat} (h : @LT.lt Nat instLTNat a b) : @LT.lt Addr instLTNat a b := h
theorem ne_ok {a b : Nat} (h : ¬ @Eq Nat a b) : @Ne Addr a b := h
theorem ne2_nat {x a b : Nat} (h : @Ne Addr x a ∧ @Ne Addr x b) : ¬ @Eq Nat x a ∧ ¬ @Eq Nat x b := h
section OwnLayer
variable {p : Program} {l : Launch} {e : Env} {R : Room} {s : State} {m : MethodId} {args : Array Value} {below : List Frame} {meth : Method} {c : Code} {T : State} {locs : List Loc} {cells slots : Nat} {Z : State} {a0 : Array Value} {h : Heap} {kc ks n0 : Nat} {Q : Option Value → Heap → Prop} {A B : State}
/-- from S the run comes to the end of this invocation, and Q holds there -/
def Goes (p : Program) (e : Env) (below : List Frame) (s : State) (kc ks n0 : Nat) (Q : Option Value → Heap → Prop) (S : State) : Prop :=
  ∃ s₂ o, Steps p.tables e below S s₂ ∧ s₂.status = .running ∧ Ended s₂ below o ∧ ∃ v L, o = .returned v ∧ (Q v s₂.heap ∧ Fr n0 L) ∧ FrameEnd s o s₂ L kc ks
theorem Goes.via (h : ∀ t, Steps p.tables e below B t → Steps p.tables e below A t) (g : Goes p e below s kc ks n0 Q B) : Goes p e below s kc ks n0 Q A := by
  obtain ⟨s₂, o, h1, h2⟩ := g
  exact ⟨s₂, o, h _ h1, h2⟩
theorem Goes.fin (X : Stand p l e R s m args below meth c T locs cells slots) {v : Option Value} {g : JFrame} (hv : meth.sig.returnType = none → v = none) (hlk : meth.locks = false) (N : Fr n0 locs) (hc : cells ≤ kc) (hs : slots ≤ ks) (hq : Q v T.heap)
    (hr : ∀ fs, (∀ (f : JFrame) (acts : List Action), f.method = m → f.locked = none → f.entered = [] → (doReturn e (T.setTop f) acts v).1 = T.setFrames fs) → Steps p.tables e below (T.setTop g) (T.setFrames fs)) : Goes p e below s kc ks n0 Q (T.setTop g) := by
  obtain ⟨fs, hr', hrun, hended, hW, hsame⟩ := X.leave hv hlk
  exact ⟨_, _, hr fs hr', hrun, hended, _, _, rfl, ⟨hq, N⟩, ⟨_, rfl⟩, hW, hsame.mono hc hs⟩
theorem goRetN (X : Stand p l e R s m args below meth c T locs cells slots) (hx : p.tables.exec = Jvm.exec) {t : FieldType} (hrt : meth.sig.returnType = some t) (ht : t = .boolean ∨ t = .byte ∨ t = .char ∨ t = .short) (hlk : meth.locks = false) (N : Fr n0 locs) (hc : cells ≤ kc) (hs : slots ≤ ks)
    {pc : Nat} {Ls : Array Slot} {z : Int32} {rest : List Value} (hd : decode c.code pc = .ok (.ireturn, 1)) (hq : Q (some (.int (nar t z))) T.heap) : Goes p e below s kc ks n0 Q (T.setTop (mkF m pc Ls (.int z :: rest))) :=
  Goes.fin X (fun q => by rw [hrt] at q; cases q) hlk N hc hs hq fun fs hr => retN X hx (t := t) hrt ht hd hr
theorem goRetO (X : Stand p l e R s m args below meth c T locs cells slots) (hx : p.tables.exec = Jvm.exec) {t : FieldType} (hrt : meth.sig.returnType = some t) (hlk : meth.locks = false) (N : Fr n0 locs) (hc : cells ≤ kc) (hs : slots ≤ ks)
    {pc : Nat} {Ls : Array Slot} {w : Value} {i : Instr} {rest : List Value} (hn : narrow t w = w)
    (hi : (i = .ireturn ∧ (t = .int ∨ t = .boolean ∨ t = .byte ∨ t = .char ∨ t = .short) ∧ ∃ z, w = .int z) ∨ (i = .lreturn ∧ t = .long ∧ ∃ z, w = .long z) ∨ (i = .dreturn ∧ t = .double ∧ ∃ z, w = .double z) ∨ (i = .freturn ∧ t = .float ∧ ∃ z, w = .float z) ∨ (i = .areturn ∧ t.isReference = true ∧ w.isRef = true))
    (hd : decode c.code pc = .ok (i, 1)) (hq : Q (some w) T.heap) : Goes p e below s kc ks n0 Q (T.setTop (mkF m pc Ls (w :: rest))) :=
  Goes.fin X (fun q => by rw [hrt] at q; cases q) hlk N hc hs hq fun fs hr => retOut X hx hrt hn hi hd hr
theorem goRetI (X : Stand p l e R s m args below meth c T locs cells slots) (hx : p.tables.exec = Jvm.exec) (hrt : meth.sig.returnType = some .int) (hlk : meth.locks = false) (N : Fr n0 locs) (hc : cells ≤ kc) (hs : slots ≤ ks)
    {pc : Nat} {Ls : Array Slot} {z : Int32} {rest : List Value} (hd : decode c.code pc = .ok (.ireturn, 1)) (hq : Q (some (.int z)) T.heap) : Goes p e below s kc ks n0 Q (T.setTop (mkF m pc Ls (.int z :: rest))) :=
  goRetO X hx hrt hlk N hc hs rfl (Or.inl ⟨rfl, Or.inl rfl, _, rfl⟩) hd hq
theorem goRetJ (X : Stand p l e R s m args below meth c T locs cells slots) (hx : p.tables.exec = Jvm.exec) (hrt : meth.sig.returnType = some .long) (hlk : meth.locks = false) (N : Fr n0 locs) (hc : cells ≤ kc) (hs : slots ≤ ks)
    {pc : Nat} {Ls : Array Slot} {z : Int64} {rest : List Value} (hd : decode c.code pc = .ok (.lreturn, 1)) (hq : Q (some (.long z)) T.heap) : Goes p e below s kc ks n0 Q (T.setTop (mkF m pc Ls (.long z :: rest))) :=
  goRetO X hx hrt hlk N hc hs rfl (Or.inr (Or.inl ⟨rfl, rfl, _, rfl⟩)) hd hq
theorem goRetA (X : Stand p l e R s m args below meth c T locs cells slots) (hx : p.tables.exec = Jvm.exec) {t : FieldType} (hrt : meth.sig.returnType = some t) (ht : t.isReference = true) (hlk : meth.locks = false) (N : Fr n0 locs) (hc : cells ≤ kc) (hs : slots ≤ ks)
    {pc : Nat} {Ls : Array Slot} {w : Value} {rest : List Value} (hw : w.isRef = true) (hd : decode c.code pc = .ok (.areturn, 1)) (hq : Q (some w) T.heap) : Goes p e below s kc ks n0 Q (T.setTop (mkF m pc Ls (w :: rest))) :=
  goRetO X hx hrt hlk N hc hs (by cases t <;> cases w <;> first | rfl | (cases ht; done) | (cases hw; done)) (Or.inr (Or.inr (Or.inr (Or.inr ⟨rfl, ht, hw⟩)))) hd hq
theorem goRetV (X : Stand p l e R s m args below meth c T locs cells slots) (hx : p.tables.exec = Jvm.exec) (hrt : meth.sig.returnType = none) (hlk : meth.locks = false) (N : Fr n0 locs) (hc : cells ≤ kc) (hs : slots ≤ ks)
    {pc : Nat} {Ls : Array Slot} (hd : decode c.code pc = .ok (.return_, 1)) (hq : Q none T.heap) : Goes p e below s kc ks n0 Q (T.setTop (mkF m pc Ls [])) :=
  Goes.fin X (fun _ => rfl) hlk N hc hs hq fun fs hr => X.returnOut hx hrt hd hr
/-- a contract: from a heap h0, with these arguments, the invocation returns and Q holds of what it returned and of the heap -/
abbrev MET (l : Launch) (Z : State) (y : MethodName) (bytes : ByteArray) (maxL : Nat) (ret : Option FieldType) (rm : Room) (as' : Array Value) (h0 : Heap) (n0 : Nat) (Q : Option Value → Heap → Prop) : Prop :=
  ∀ ws : List Jvm.Cond, MetFree l y (head1 (Jvm.Cond.code y bytes maxL ret :: ws) rm) (fun a U => a = as' ∧ Z.Warmed39 U.vm ∧ U.heap = h0) (fun _ _ _ _ _ => True) (fun _ U o U' => ∃ v L, o = .returned v ∧ (Q v U'.heap ∧ Fr n0 L) ∧ FrameEnd U o U' L rm.cells rm.slots)
theorem metOf {y : MethodName} {bytes : ByteArray} {maxL : Nat} {ret : Option FieldType} {rm : Room} {as' : Array Value} {h0 : Heap} (hpf : plainFor y = true)
    (body : ∀ (p : Program) (e : Env) (s : State) (m : MethodId) (below : List Frame) (meth : Method) (c : Code) (T : State), p.tables.exec = Jvm.exec → c.code = bytes → c.maxLocals = maxL → meth.sig.returnType = ret → meth.locks = false → meth.name = y.name → Z.Warmed39 s.vm → s.vm.findClass y.cls = some m.cls →
      Stand p l e rm s m as' below meth c T [] 0 0 → T.heap = h0 → Goes p e below s rm.cells rm.slots n0 Q (T.setTop (entryFrame m as' maxL))) : MET l Z y bytes maxL ret rm as' h0 n0 Q := by
  intro ws
  refine MetFree.of_bodySF hpf hisR ?_
  intro p e s m args below meth c s₁ Bd hml0 hP hK
  obtain ⟨rfl, hZ, hh⟩ := hP
  exact body p e s m below meth c s₁ Bd.exec Bd.bytes hml0 Bd.returns Bd.notSynchronized (name_of_methodNamed Bd.named Bd.method).1 hZ (findClass_of_methodNamed Bd.named) (Stand.of_body Bd) (by rw [← hh, Bd.state]; rfl)
theorem goCast {g g' : JFrame} (q : g = g') (k : Goes p e below s kc ks n0 Q (T.setTop g')) : Goes p e below s kc ks n0 Q (T.setTop g) := q ▸ k
theorem iincZ {tb : Tables} [Ours tb] {target : State} {g : JFrame} (h : At T m c below) (hx : tb.exec = Jvm.exec) (hg : g.method = m) {k : Nat} {cst : Int} {x : Int32} {l' : Array Slot} (z : Int32) (hd : decode c.code g.pc = .ok (.iinc k cst, 3)) (hz : x + Int32.ofInt cst = z) (hl : g.locals[k]? = some (.val (.int x))) (hl' : storeLocals g.locals k (.int z) = some l')
    (hr : Steps tb e below (T.setTop { g with pc := g.pc + 3, locals := l' }) target) : Steps tb e below (T.setTop g) target := XS.iinc h hx hg hd hl (hz ▸ hl') hr
theorem all_getD {P : Value → Prop} {d : Value} (hd : P d) : ∀ (vs : List Value) (i : Nat), (∀ v ∈ vs, P v) → P (vs.getD i d)
  | [], i, _ => by simpa using hd
  | v :: vs, 0, q => by simpa using q v (List.mem_cons_self ..)
  | v :: vs, i + 1, q => by simpa using all_getD hd vs i fun w hw => q w (List.mem_cons_of_mem _ hw)
/-! calls by a contract -/
section Calls
variable {own C : String} {index : Nat} {y z : MethodName} {bytes : ByteArray} {maxL : Nat} {ret : Option FieldType} {rm : Room} {as' : Array Value} {Qc : Option Value → Heap → Prop} {W : Nat} {g : JFrame} {argsL rest : List Value} {a : Addr}
theorem callSt (X : Stand p l e R s m args below meth c T locs cells slots) (hx : p.tables.exec = Jvm.exec) (hZ : Z.Warmed39 s.vm) (hown : s.vm.findClass own = some m.cls) (hM : MET l Z y bytes maxL ret rm as' h n0 Qc) (w1 : (Jvm.Cond.methodLink own index y).before a0 Z = true) (w2 : (Jvm.Cond.static y).before a0 Z = true) (w3 : (Jvm.Cond.initialized y.cls).before a0 Z = true) (w4 : (Jvm.Cond.code y bytes maxL ret).before a0 Z = true)
    (hy : y.cls ≠ "java/lang/invoke/MethodHandle" ∧ y.cls ≠ "java/lang/invoke/VarHandle") (eT : T.heap = h) (hf : rm.frames + 1 ≤ R.frames) (hl : W + (maxL + 11) + rm.locals ≤ R.locals) (hc : cells + rm.cells ≤ R.cells) (hsl : slots + rm.slots ≤ R.slots)
    (hg : g.method = m) (hsize : g.locals.size = c.maxLocals) (ha : argsL.toArray = as') (hlen : ∀ sig, parseMethodDescriptor y.desc = some sig → argsL.length = sig.parameters.length) (hs : g.stack = argsL.reverse ++ rest) (hW : 2 * g.monitorRoom + (rest.map fun v => v.category).sum ≤ W) (hd : decode c.code g.pc = .ok (.invokestatic index, 3)) :
    ∃ (v : Option Value) (T' : State) (L : List Loc), Stand p l e R s m args below meth c T' (locs ++ L) (cells + rm.cells) (slots + rm.slots) ∧ Qc v T'.heap ∧ Fr n0 L ∧ ∀ t, Steps p.tables e below (T'.setTop { g with pc := g.pc + 3, stack := v.toList ++ rest }) t → Steps p.tables e below (T.setTop g) t := by
  obtain ⟨v, _, ⟨T', L', k', n'⟩, -, X', ⟨Lc, ⟨hq, hn⟩, e1, e2, e3⟩, st⟩ := Jvm.LawKit.callS X hx (y := y) hown (mvT hZ w1) (mvT hZ w2) (mvT hZ w3) (mvT hZ w4) hy (backOf (W := W) (Q := fun v h L => Qc v h ∧ Fr n0 L) (hM []) hZ w4 w3 hf hl) hg hsize hlen hs hW hd (fun _ _ => ⟨ha, eT, hc, hsl⟩)
  dsimp only [Pt.U, Pt.locs, Pt.cells, Pt.slots] at X' e1 e2 e3 st hq
  subst e1 e2 e3
  exact ⟨v, T', Lc, X', hq, hn, st⟩
theorem callSp (X : Stand p l e R s m args below meth c T locs cells slots) (hx : p.tables.exec = Jvm.exec) (hZ : Z.Warmed39 s.vm) (hown : s.vm.findClass own = some m.cls) (hM : MET l Z y bytes maxL none rm as' h n0 Qc) (hin : y.name = "<init>") (w1 : (Jvm.Cond.methodLink own index y).before a0 Z = true) (w2 : (Jvm.Cond.instanceMethod y).before a0 Z = true) (w3 : (Jvm.Cond.initialized y.cls).before a0 Z = true) (w4 : (Jvm.Cond.code y bytes maxL none).before a0 Z = true)
    (hy : y.cls ≠ "java/lang/invoke/MethodHandle" ∧ y.cls ≠ "java/lang/invoke/VarHandle") (eT : T.heap = h) (hf : rm.frames + 1 ≤ R.frames) (hl : W + (maxL + 11) + rm.locals ≤ R.locals) (hc : cells + rm.cells ≤ R.cells) (hsl : slots + rm.slots ≤ R.slots)
    (hg : g.method = m) (hsize : g.locals.size = c.maxLocals) (ha : (Value.ref a :: argsL).toArray = as') (hlen : ∀ sig, parseMethodDescriptor y.desc = some sig → argsL.length = sig.parameters.length) (hs : g.stack = argsL.reverse ++ .ref a :: rest) (hW : 2 * g.monitorRoom + (rest.map fun v => v.category).sum ≤ W) (hd : decode c.code g.pc = .ok (.invokespecial index, 3)) :
    ∃ (v : Option Value) (T' : State) (L : List Loc), Stand p l e R s m args below meth c T' (locs ++ L) (cells + rm.cells) (slots + rm.slots) ∧ Qc v T'.heap ∧ Fr n0 L ∧ ∀ t, Steps p.tables e below (T'.setTop { g with pc := g.pc + 3, stack := v.toList ++ rest }) t → Steps p.tables e below (T.setTop g) t := by
  obtain ⟨v, _, ⟨T', L', k', n'⟩, -, X', ⟨Lc, ⟨hq, hn⟩, e1, e2, e3⟩, st⟩ := X.specialBack hx (y := y) hin hown (mvT hZ w1) (mvT hZ w2) (mvT hZ w4) hy (backOf (W := W) (Q := fun v h L => Qc v h ∧ Fr n0 L) (hM []) hZ w4 w3 hf hl) hg hsize (Steps.refl _) (a := a) (argsL := argsL) (rest := rest) hlen hs hW hd (fun _ _ => ⟨ha, eT, hc, hsl⟩)
  dsimp only [Pt.U, Pt.locs, Pt.cells, Pt.slots] at X' e1 e2 e3 st hq
  subst e1 e2 e3
  exact ⟨v, T', Lc, X', hq, hn, fun t k => st.trans k⟩
theorem callVi (X : Stand p l e R s m args below meth c T locs cells slots) (hx : p.tables.exec = Jvm.exec) (hZ : Z.Warmed39 s.vm) (hown : s.vm.findClass own = some m.cls) (hM : MET l Z z bytes maxL ret rm as' h n0 Qc) (w1 : (Jvm.Cond.methodLink own index y).before a0 Z = true) (w2 : (Jvm.Cond.declares y).before a0 Z = true) (nf : NotFace s y) (w5 : (Jvm.Cond.selects C y z).before a0 Z = true) (w6 : (Jvm.Cond.instanceMethod z).before a0 Z = true) (w3 : (Jvm.Cond.initialized z.cls).before a0 Z = true) (w4 : (Jvm.Cond.code z bytes maxL ret).before a0 Z = true)
    (hy : y.cls ≠ "java/lang/invoke/MethodHandle" ∧ y.cls ≠ "java/lang/invoke/VarHandle") (eT : T.heap = h) (E : Exa Z h a C) (hf : rm.frames + 1 ≤ R.frames) (hl : W + (maxL + 11) + rm.locals ≤ R.locals) (hc : cells + rm.cells ≤ R.cells) (hsl : slots + rm.slots ≤ R.slots)
    (hg : g.method = m) (hsize : g.locals.size = c.maxLocals) (ha : (Value.ref a :: argsL).toArray = as') (hlen : ∀ sig, parseMethodDescriptor y.desc = some sig → argsL.length = sig.parameters.length) (hs : g.stack = argsL.reverse ++ .ref a :: rest) (hW : 2 * g.monitorRoom + (rest.map fun v => v.category).sum ≤ W) (hd : decode c.code g.pc = .ok (.invokevirtual index, 3)) :
    ∃ (v : Option Value) (T' : State) (L : List Loc), Stand p l e R s m args below meth c T' (locs ++ L) (cells + rm.cells) (slots + rm.slots) ∧ Qc v T'.heap ∧ Fr n0 L ∧ ∀ t, Steps p.tables e below (T'.setTop { g with pc := g.pc + 3, stack := v.toList ++ rest }) t → Steps p.tables e below (T.setTop g) t := by
  obtain ⟨cq, kq, qa, qb, qc⟩ := isOf hZ eT E
  obtain ⟨v, _, ⟨T', L', k', n'⟩, -, X', ⟨Lc, ⟨hq, hn⟩, e1, e2, e3⟩, st⟩ := X.virtualBack hx (y := y) (z := z) hown (mvT hZ w1) (mvT hZ w2) nf (mvT hZ w5) (mvT hZ w6) hy (backOf (W := W) (Q := fun v h L => Qc v h ∧ Fr n0 L) (hM []) hZ w4 w3 hf hl) qa qc hg hsize (Steps.refl _) (argsL := argsL) (rest := rest) hlen hs hW hd (fun _ _ => ⟨ha, eT, hc, hsl⟩)
  dsimp only [Pt.U, Pt.locs, Pt.cells, Pt.slots] at X' e1 e2 e3 st hq
  subst e1 e2 e3
  exact ⟨v, T', Lc, X', hq, hn, fun t k => st.trans k⟩
theorem callUp {owner : String} (X : Stand p l e R s m args below meth c T locs cells slots) (hx : p.tables.exec = Jvm.exec) (hZ : Z.Warmed39 s.vm) (hown : s.vm.findClass own = some m.cls) (hM : MET l Z z bytes maxL ret rm as' h n0 Qc) (w1 : (Jvm.Cond.methodLink own index y).before a0 Z = true) (w7 : (Jvm.Cond.sameMethod y.cls owner y.name y.desc).before a0 Z = true) (w2 : (Jvm.Cond.declares ⟨owner, y.name, y.desc⟩).before a0 Z = true) (w5 : (Jvm.Cond.selects C y z).before a0 Z = true) (w6 : (Jvm.Cond.instanceMethod z).before a0 Z = true) (w3 : (Jvm.Cond.initialized z.cls).before a0 Z = true) (w4 : (Jvm.Cond.code z bytes maxL ret).before a0 Z = true)
    (hy : owner ≠ "java/lang/invoke/MethodHandle" ∧ owner ≠ "java/lang/invoke/VarHandle") (eT : T.heap = h) (E : Exa Z h a C) (hf : rm.frames + 1 ≤ R.frames) (hl : W + (maxL + 11) + rm.locals ≤ R.locals) (hc : cells + rm.cells ≤ R.cells) (hsl : slots + rm.slots ≤ R.slots)
    (hg : g.method = m) (hsize : g.locals.size = c.maxLocals) (ha : (Value.ref a :: argsL).toArray = as') (hlen : ∀ sig, parseMethodDescriptor y.desc = some sig → argsL.length = sig.parameters.length) (hs : g.stack = argsL.reverse ++ .ref a :: rest) (hW : 2 * g.monitorRoom + (rest.map fun v => v.category).sum ≤ W) (hd : decode c.code g.pc = .ok (.invokevirtual index, 3)) :
    ∃ (v : Option Value) (T' : State) (L : List Loc), Stand p l e R s m args below meth c T' (locs ++ L) (cells + rm.cells) (slots + rm.slots) ∧ Qc v T'.heap ∧ Fr n0 L ∧ ∀ t, Steps p.tables e below (T'.setTop { g with pc := g.pc + 3, stack := v.toList ++ rest }) t → Steps p.tables e below (T.setTop g) t := by
  obtain ⟨cq, kq, qa, qb, qc⟩ := isOf hZ eT E
  obtain ⟨v, _, ⟨T', L', k', n'⟩, -, X', ⟨Lc, ⟨hq, hn⟩, e1, e2, e3⟩, st⟩ := X.virtualBackUp hx (x := y) (y := z) hown (mvT hZ w1) (mvT hZ w7) (mvT hZ w2) hy (mvT hZ w5) (mvT hZ w6) (backOf (W := W) (Q := fun v h L => Qc v h ∧ Fr n0 L) (hM []) hZ w4 w3 hf hl) qa qc hg hsize (Steps.refl _) (argsL := argsL) (rest := rest) hlen hs hW hd (fun _ _ => ⟨ha, eT, hc, hsl⟩)
  dsimp only [Pt.U, Pt.locs, Pt.cells, Pt.slots] at X' e1 e2 e3 st hq
  subst e1 e2 e3
  exact ⟨v, T', Lc, X', hq, hn, fun t k => st.trans k⟩
theorem callIf {count : Nat} (X : Stand p l e R s m args below meth c T locs cells slots) (hx : p.tables.exec = Jvm.exec) (hZ : Z.Warmed39 s.vm) (hown : s.vm.findClass own = some m.cls) (hM : MET l Z z bytes maxL ret rm as' h n0 Qc) (w1 : (Jvm.Cond.methodLink own index y).before a0 Z = true) (w2 : (Jvm.Cond.declares y).before a0 Z = true) (w7 : ∀ s' : State, Z.Warmed39 s'.vm → (Jvm.Cond.interfaceMethod y.cls y.cls y.name y.desc).before args s' = true) (w5 : (Jvm.Cond.selects C y z).before a0 Z = true) (w6 : (Jvm.Cond.instanceMethod z).before a0 Z = true) (w8 : (Jvm.Cond.publicMethod z).before a0 Z = true) (w9 : (Jvm.Cond.unhidden C y.name y.desc).before a0 Z = true) (w10 : (Jvm.Cond.castable C y.cls).before a0 Z = true) (w3 : (Jvm.Cond.initialized z.cls).before a0 Z = true) (w4 : (Jvm.Cond.code z bytes maxL ret).before a0 Z = true)
    (hy : y.cls ≠ "java/lang/invoke/MethodHandle" ∧ y.cls ≠ "java/lang/invoke/VarHandle") (eT : T.heap = h) (E : Exa Z h a C) (hf : rm.frames + 1 ≤ R.frames) (hl : W + (maxL + 11) + rm.locals ≤ R.locals) (hc : cells + rm.cells ≤ R.cells) (hsl : slots + rm.slots ≤ R.slots)
    (hg : g.method = m) (hsize : g.locals.size = c.maxLocals) (ha : (Value.ref a :: argsL).toArray = as') (hlen : ∀ sig, parseMethodDescriptor y.desc = some sig → argsL.length = sig.parameters.length) (hs : g.stack = argsL.reverse ++ .ref a :: rest) (hW : 2 * g.monitorRoom + (rest.map fun v => v.category).sum ≤ W) (hd : decode c.code g.pc = .ok (.invokeinterface index count, 5)) :
    ∃ (v : Option Value) (T' : State) (L : List Loc), Stand p l e R s m args below meth c T' (locs ++ L) (cells + rm.cells) (slots + rm.slots) ∧ Qc v T'.heap ∧ Fr n0 L ∧ ∀ t, Steps p.tables e below (T'.setTop { g with pc := g.pc + 5, stack := v.toList ++ rest }) t → Steps p.tables e below (T.setTop g) t := by
  obtain ⟨cq, kq, qa, qb, qc⟩ := isOf hZ eT E
  obtain ⟨v, _, ⟨T', L', k', n'⟩, -, X', ⟨Lc, ⟨hq, hn⟩, e1, e2, e3⟩, st⟩ := X.interfaceBack hx (xi := y) (y := z) hown (mvT hZ w1) (mvT hZ w2) (w7 s hZ) (mvT hZ w5) (mvT hZ w6) (mvT hZ w8) (mvT hZ w9) (mvT hZ w10) hy (backOf (W := W) (Q := fun v h L => Qc v h ∧ Fr n0 L) (hM []) hZ w4 w3 hf hl) qa qb qc hg hsize (Steps.refl _) (argsL := argsL) (rest := rest) hlen hs hW hd (fun _ _ => ⟨ha, eT, hc, hsl⟩)
  dsimp only [Pt.U, Pt.locs, Pt.cells, Pt.slots] at X' e1 e2 e3 st hq
  subst e1 e2 e3
  exact ⟨v, T', Lc, X', hq, hn, fun t k => st.trans k⟩
end Calls
end OwnLayer
end Jvm.RoadKit

/-! facts of the start, out of the sheet's words -/
namespace Jvm.RoadKit
open Sem ClassFile Op Lib Jvm.Stand Jvm.Free Jvm.LawKit
section OwnStart
variable {Z : State} {args : Array Value} {t : Term} {a : Addr} {c : Cell} {ty : FieldType} {n : Int32} {dv : Value} {n0 : Nat} {h h' : Heap} {ws : List Addr}
theorem Old.le (X : Old Z n0 h) : n0 ≤ h.size := X.1 ▸ X.2.1
theorem len_start (ev : t.eval args Z none [] Z = some (.ref a)) (A : Arr Z Z.heap a c ty) (hl : (Jvm.Cond.eq (.length t) (.int n)).value args Z none Z [] = some true) : c.slots.size < 2 ^ 31 ∧ c.slots.size.toInt32 = n := by
  have ha : Z.arrayAt? a = some c := A.fin (Vm.Alike.refl _)
  by_cases q : c.slots.size < 2 ^ 31
  · exact ⟨q, gotT (Cond.eq_ints (len_f ev ha q) (Term.int_eval n)) hl⟩
  · simp [Cond.value, Term.eval, ev, ha, q] at hl
theorem arv_start (hf : Fit Z) (ev : t.eval args Z none [] Z = some (.ref a)) (A : Arr Z Z.heap a c ty) (hl : (Jvm.Cond.eq (.length t) (.int n)).value args Z none Z [] = some true) : Arv Z Z.heap a c.cls ty n c.slots.toList dv := by
  obtain ⟨q1, q2⟩ := len_start ev A hl
  have hz : ¬ n < 0 := by
    rw [← q2, Int32.lt_iff_toInt_lt, len_toInt q1]
    have : (0 : Int32).toInt = 0 := by decide
    omega
  have hs : c.slots.size = n.toNatClampNeg := by
    have := len_toInt q1
    rw [q2] at this
    rw [Int32.toNatClampNeg, this]; rfl
  have g : ∀ i, i < c.slots.size → c.slots[i]? = some (c.slots.toList.getD i dv) := fun i hi => by
    simp [hi]
  refine ⟨c, A, rfl, hs, hz, g, fun i hi => ?_⟩
  have hj : ¬ ((Int32.ofNat i) < 0 ∨ c.slots.size ≤ (Int32.ofNat i).toNatClampNeg) := idx_in hi q1
  obtain ⟨v, e1, e2⟩ := elem_fit hf A hj
  have e3 : (Int32.ofNat i).toNatClampNeg = i := by
    have := len_toInt (n := i) (by omega)
    rw [Int32.toNatClampNeg, show (Int32.ofNat i).toInt = (i : Int) from this]; rfl
  rw [e3, g i hi] at e1
  cases e1
  exact e2
theorem eq_int {u : Term} {o : Option Outcome} {first : State} {idx : List Nat} (hl : (Jvm.Cond.eq u (.int n)).value args first o Z idx = some true) : u.eval args first o idx Z = some (.int n) := by
  obtain ⟨x, y, e1, e2, k1, k2⟩ := cmp_v (Or.inl hl)
  have e3 : Term.eval args first o idx Z (.int n) = some (.int n) := rfl
  cases (e3.symm.trans e2)
  obtain ⟨z, rfl⟩ := k2
  have q := gotT (Cond.eq_ints e1 e2) hl
  rw [e1, q]
theorem eq_long {n : Int64} {u : Term} {o : Option Outcome} {first : State} {idx : List Nat} (hl : (Jvm.Cond.eq u (.long n)).value args first o Z idx = some true) : u.eval args first o idx Z = some (.long n) := by
  obtain ⟨x, y, e1, e2, k1, k2⟩ := cmp_v (Or.inl hl)
  have e3 : Term.eval args first o idx Z (.long n) = some (.long n) := rfl
  cases (e3.symm.trans e2)
  obtain ⟨z, rfl⟩ := k2
  have q := gotT (eq_L e1 e2) hl
  rw [e1, q]
theorem eq_ref {x : Addr} {u w : Term} {o : Option Outcome} {first : State} {idx : List Nat} (hl : (Jvm.Cond.eq u w).value args first o Z idx = some true) (hw : w.eval args first o idx Z = some (.ref x)) : u.eval args first o idx Z = some (.ref x) := by
  obtain ⟨v, y, e1, e2, k1, k2⟩ := cmp_v (Or.inl hl)
  cases (hw.symm.trans e2)
  have q := gotT (eq_R e1 e2 k2.2 rfl) hl
  rw [e1, q]
theorem ins_keep {C : String} (F : Ins Z h a C true) (K : Keep h h' ws) : Ins Z h' a C true := by
  obtain ⟨cell, cT, h1, h2, h3⟩ := F
  obtain ⟨c', e1, e2, e3, -⟩ := K.2.2 a cell h1
  exact ⟨c', cT, e1, h2, by rw [e2, e3]; exact h3⟩
theorem arr_keep (F : Arr Z h a c ty) (K : Keep h h' ws) (q : a ∉ ws) : Arr Z h' a c ty := ⟨K.2.1 a c F.1 q, F.2⟩
end OwnStart
end Jvm.RoadKit

/-! the same for walks that may load String constants (the wide frame) -/
namespace Jvm.RoadKit
open Sem ClassFile Op Lib Jvm.Stand Jvm.Free Jvm.LawKit
section OwnWide
variable {p : Program} {l : Launch} {e : Env} {R : Room} {s : State} {m : MethodId} {args : Array Value} {below : List Frame} {meth : Method} {c : Code} {T : State} {locs : List Loc} {cells slots : Nat} {Z : State} {a0 : Array Value} {h : Heap} {kc ks n0 k0 : Nat} {Q : Option Value → Vm → Heap → Prop} {A B : State} {vm0 : Vm} {I : Vm → Prop}
def GoesW (p : Program) (e : Env) (below : List Frame) (s : State) (kc ks n0 : Nat) (Q : Option Value → Vm → Heap → Prop) (S : State) : Prop :=
  ∃ s₂ o, Steps p.tables e below S s₂ ∧ s₂.status = .running ∧ Ended s₂ below o ∧ ∃ v L, o = .returned v ∧ (Q v s₂.vm s₂.heap ∧ Fr n0 L) ∧ ReturnedEndW s o s₂ L kc ks
theorem GoesW.via (h : ∀ t, Steps p.tables e below B t → Steps p.tables e below A t) (g : GoesW p e below s kc ks n0 Q B) : GoesW p e below s kc ks n0 Q A := by
  obtain ⟨s₂, o, h1, h2⟩ := g
  exact ⟨s₂, o, h _ h1, h2⟩
theorem GoesW.fin (X : Stand p l e R (s.setVm vm0) m args below meth c T locs cells slots) {v : Option Value} {g : JFrame} (hv : meth.sig.returnType = none → v = none) (hlk : meth.locks = false) (N : Fr n0 locs) (hS : s.Since vm0 k0) (hk : k0 ≤ T.heap.size) (hc : cells ≤ kc) (hs : slots ≤ ks) (hq : (s.setVm vm0).WarmedH T.vm → Q v T.vm T.heap)
    (hr : ∀ fs, (∀ (f : JFrame) (acts : List Action), f.method = m → f.locked = none → f.entered = [] → (doReturn e (T.setTop f) acts v).1 = T.setFrames fs) → Steps p.tables e below (T.setTop g) (T.setFrames fs)) : GoesW p e below s kc ks n0 Q (T.setTop g) := by
  obtain ⟨fs, hr', hrun, hended, hW⟩ := X.leaveW hS hk hv hlk
  exact ⟨_, _, hr fs hr', hrun, hended, _, _, rfl, ⟨hq X.warmed, N⟩, ⟨_, rfl⟩, hW.2.1, hW.2.2.1, hW.2.2.2.mono hc hs⟩
theorem goRetNW (X : Stand p l e R (s.setVm vm0) m args below meth c T locs cells slots) (hx : p.tables.exec = Jvm.exec) {t : FieldType} (hrt : meth.sig.returnType = some t) (ht : t = .boolean ∨ t = .byte ∨ t = .char ∨ t = .short) (hlk : meth.locks = false) (N : Fr n0 locs) (hS : s.Since vm0 k0) (hk : k0 ≤ T.heap.size) (hc : cells ≤ kc) (hs : slots ≤ ks)
    {pc : Nat} {Ls : Array Slot} {z : Int32} {rest : List Value} (hd : decode c.code pc = .ok (.ireturn, 1)) (hq : (s.setVm vm0).WarmedH T.vm → Q (some (.int (nar t z))) T.vm T.heap) : GoesW p e below s kc ks n0 Q (T.setTop (mkF m pc Ls (.int z :: rest))) :=
  GoesW.fin X (fun q => by rw [hrt] at q; cases q) hlk N hS hk hc hs hq fun fs hr => retN X hx (t := t) hrt ht hd hr
theorem goRetOW (X : Stand p l e R (s.setVm vm0) m args below meth c T locs cells slots) (hx : p.tables.exec = Jvm.exec) {t : FieldType} (hrt : meth.sig.returnType = some t) (hlk : meth.locks = false) (N : Fr n0 locs) (hS : s.Since vm0 k0) (hk : k0 ≤ T.heap.size) (hc : cells ≤ kc) (hs : slots ≤ ks)
    {pc : Nat} {Ls : Array Slot} {w : Value} {i : Instr} {rest : List Value} (hn : narrow t w = w)
    (hi : (i = .ireturn ∧ (t = .int ∨ t = .boolean ∨ t = .byte ∨ t = .char ∨ t = .short) ∧ ∃ z, w = .int z) ∨ (i = .lreturn ∧ t = .long ∧ ∃ z, w = .long z) ∨ (i = .dreturn ∧ t = .double ∧ ∃ z, w = .double z) ∨ (i = .freturn ∧ t = .float ∧ ∃ z, w = .float z) ∨ (i = .areturn ∧ t.isReference = true ∧ w.isRef = true))
    (hd : decode c.code pc = .ok (i, 1)) (hq : (s.setVm vm0).WarmedH T.vm → Q (some w) T.vm T.heap) : GoesW p e below s kc ks n0 Q (T.setTop (mkF m pc Ls (w :: rest))) :=
  GoesW.fin X (fun q => by rw [hrt] at q; cases q) hlk N hS hk hc hs hq fun fs hr => retOut X hx hrt hn hi hd hr
theorem goRetIW (X : Stand p l e R (s.setVm vm0) m args below meth c T locs cells slots) (hx : p.tables.exec = Jvm.exec) (hrt : meth.sig.returnType = some .int) (hlk : meth.locks = false) (N : Fr n0 locs) (hS : s.Since vm0 k0) (hk : k0 ≤ T.heap.size) (hc : cells ≤ kc) (hs : slots ≤ ks)
    {pc : Nat} {Ls : Array Slot} {z : Int32} {rest : List Value} (hd : decode c.code pc = .ok (.ireturn, 1)) (hq : (s.setVm vm0).WarmedH T.vm → Q (some (.int z)) T.vm T.heap) : GoesW p e below s kc ks n0 Q (T.setTop (mkF m pc Ls (.int z :: rest))) :=
  goRetOW X hx hrt hlk N hS hk hc hs rfl (Or.inl ⟨rfl, Or.inl rfl, _, rfl⟩) hd hq
theorem goRetJW (X : Stand p l e R (s.setVm vm0) m args below meth c T locs cells slots) (hx : p.tables.exec = Jvm.exec) (hrt : meth.sig.returnType = some .long) (hlk : meth.locks = false) (N : Fr n0 locs) (hS : s.Since vm0 k0) (hk : k0 ≤ T.heap.size) (hc : cells ≤ kc) (hs : slots ≤ ks)
    {pc : Nat} {Ls : Array Slot} {z : Int64} {rest : List Value} (hd : decode c.code pc = .ok (.lreturn, 1)) (hq : (s.setVm vm0).WarmedH T.vm → Q (some (.long z)) T.vm T.heap) : GoesW p e below s kc ks n0 Q (T.setTop (mkF m pc Ls (.long z :: rest))) :=
  goRetOW X hx hrt hlk N hS hk hc hs rfl (Or.inr (Or.inl ⟨rfl, rfl, _, rfl⟩)) hd hq
theorem goRetAW (X : Stand p l e R (s.setVm vm0) m args below meth c T locs cells slots) (hx : p.tables.exec = Jvm.exec) {t : FieldType} (hrt : meth.sig.returnType = some t) (ht : t.isReference = true) (hlk : meth.locks = false) (N : Fr n0 locs) (hS : s.Since vm0 k0) (hk : k0 ≤ T.heap.size) (hc : cells ≤ kc) (hs : slots ≤ ks)
    {pc : Nat} {Ls : Array Slot} {w : Value} {rest : List Value} (hw : w.isRef = true) (hd : decode c.code pc = .ok (.areturn, 1)) (hq : (s.setVm vm0).WarmedH T.vm → Q (some w) T.vm T.heap) : GoesW p e below s kc ks n0 Q (T.setTop (mkF m pc Ls (w :: rest))) :=
  goRetOW X hx hrt hlk N hS hk hc hs (by cases t <;> cases w <;> first | rfl | (cases ht; done) | (cases hw; done)) (Or.inr (Or.inr (Or.inr (Or.inr ⟨rfl, ht, hw⟩)))) hd hq
theorem goRetVW (X : Stand p l e R (s.setVm vm0) m args below meth c T locs cells slots) (hx : p.tables.exec = Jvm.exec) (hrt : meth.sig.returnType = none) (hlk : meth.locks = false) (N : Fr n0 locs) (hS : s.Since vm0 k0) (hk : k0 ≤ T.heap.size) (hc : cells ≤ kc) (hs : slots ≤ ks)
    {pc : Nat} {Ls : Array Slot} (hd : decode c.code pc = .ok (.return_, 1)) (hq : (s.setVm vm0).WarmedH T.vm → Q none T.vm T.heap) : GoesW p e below s kc ks n0 Q (T.setTop (mkF m pc Ls [])) :=
  GoesW.fin X (fun _ => rfl) hlk N hS hk hc hs hq fun fs hr => X.returnOut hx hrt hd hr
/-- a contract of a body that may load String constants: EL the entries whose texts are read somewhere (CHv: what the tables book for them says its text), SL the cells that it writes and that no entry books -/
abbrev METW (l : Launch) (Z : State) (y : MethodName) (bytes : ByteArray) (maxL : Nat) (ret : Option FieldType) (rm : Room) (as' : Array Value) (EL : List (String × Nat)) (SL : List Addr) (h0 : Heap) (n0 : Nat) (Q : Option Value → Heap → Prop) : Prop :=
  ∀ ws : List Jvm.Cond, MetFree l y (head1 (Jvm.Cond.code y bytes maxL ret :: ws) rm) (fun a U => a = as' ∧ Z.Warmed39 U.vm ∧ U.heap = h0 ∧ CHv Z EL U.vm h0 ∧ ∀ x ∈ SL, Safe Z EL U.vm h0 x) (fun _ _ _ _ _ => True) (fun _ U o U' => ∃ v L, o = .returned v ∧ ((Q v U'.heap ∧ CHr Z EL U.vm U.heap U'.vm U'.heap) ∧ Fr n0 L) ∧ ReturnedEndW U o U' L rm.cells rm.slots)
theorem metOfW {y : MethodName} {bytes : ByteArray} {maxL : Nat} {ret : Option FieldType} {rm : Room} {as' : Array Value} {h0 : Heap} {EL : List (String × Nat)} {SL : List Addr} {Q : Option Value → Heap → Prop} (hpf : plainFor y = true)
    (body : ∀ (p : Program) (e : Env) (s : State) (m : MethodId) (below : List Frame) (meth : Method) (c : Code) (T : State) (vm0 : Vm), p.tables.exec = Jvm.exec → c.code = bytes → c.maxLocals = maxL → meth.sig.returnType = ret → meth.locks = false → meth.name = y.name → Z.Warmed39 vm0 → vm0.findClass y.cls = some m.cls →
      Stand p l e rm (s.setVm vm0) m as' below meth c T [] 0 0 → T.heap = h0 → s.Since vm0 h0.size → CHr Z EL vm0 h0 vm0 h0 → (∀ x ∈ SL, Safe Z EL vm0 h0 x) → GoesW p e below s rm.cells rm.slots n0 (fun v vm h => Q v h ∧ CHr Z EL vm0 h0 vm h) (T.setTop (entryFrame m as' maxL))) : METW l Z y bytes maxL ret rm as' EL SL h0 n0 Q := by
  intro ws
  refine MetFree.of_bodySF hpf hisR ?_
  intro p e s m args below meth c s₁ Bd hml0 hP hK
  obtain ⟨rfl, hZ, hh, hI, hSL⟩ := hP
  subst hh
  exact body p e s m below meth c s₁ s.vm Bd.exec Bd.bytes hml0 Bd.returns Bd.notSynchronized (name_of_methodNamed Bd.named Bd.method).1 hZ (findClass_of_methodNamed Bd.named) (Stand.of_body Bd) (by rw [Bd.state]; rfl) ((State.WarmedH.refl s).since _) (CHr.refl hI) hSL
/-- the tables at hand may be warmer -/
theorem CHv.warm {EL : List (String × Nat)} {vm1 : Vm} (hZ : Z.Warmed39 vm0) (w : EW Z a0 EL) (H : CHv Z EL vm0 h) (hw : (s.setVm vm0).WarmedH vm1) : CHr Z EL vm0 h vm1 h := by
  have q := CHv.later (h' := h) hZ (hW := (show (Wst Z vm0 h).Warmed39 vm1 from hw.wide)) w ⟨Nat.le_refl _, fun _ _ q => q⟩ (Or.inl hw.interned_eq) H
  exact ⟨q.1, Nat.le_refl _, q.2⟩
theorem Safe.arvO {EL : List (String × Nat)} {x : Addr} {k : ClassId} {ty : FieldType} {z : Int32} {vs : List Value} {d : Value} (hal : Z.vm.Alike vm0) (V : Arv Z h x k ty z vs d) (ht : ty ≠ .byte) : Safe Z EL vm0 h x := by
  obtain ⟨cl, A, -⟩ := V
  exact Safe.arr hal A ht
theorem CHr.safeAll {EL : List (String × Nat)} {vm1 : Vm} {h' : Heap} {SL : List Addr} (A : CHr Z EL vm0 h vm1 h') (hx : ∀ x ∈ SL, x < h.size) (S : ∀ x ∈ SL, Safe Z EL vm0 h x) : ∀ x ∈ SL, Safe Z EL vm1 h' x := fun x q => A.safe (hx x q) (S x q)
theorem goCastW {g g' : JFrame} (q : g = g') (k : GoesW p e below s kc ks n0 Q (T.setTop g')) : GoesW p e below s kc ks n0 Q (T.setTop g) := q ▸ k
section Calls
variable {own C : String} {index : Nat} {y z : MethodName} {bytes : ByteArray} {maxL : Nat} {ret : Option FieldType} {rm : Room} {as' : Array Value} {Qc : Option Value → Heap → Prop} {W : Nat} {g : JFrame} {argsL rest : List Value} {a : Addr} {len : Nat} {EL : List (String × Nat)} {SL : List Addr}
theorem backOfV (hM : METW l Z y bytes maxL ret rm as' EL SL h n0 Qc) (hZ : Z.Warmed39 vm0) (wc : (Jvm.Cond.code y bytes maxL ret).before a0 Z = true) (wz : (Jvm.Cond.initialized y.cls).before a0 Z = true) (hf : rm.frames + 1 ≤ R.frames) (hl : W + (maxL + 11) + rm.locals ≤ R.locals) (hEL : EW Z a0 EL) (hC : CHv Z EL vm0 h) (hSl : ∀ x ∈ SL, x < h.size) (hSs : ∀ x ∈ SL, Safe Z EL vm0 h x) :
    BackS l R p e below (s.setVm vm0) args y len W (fun A a => a = as' ∧ A.U.heap = h ∧ A.cells + rm.cells ≤ R.cells ∧ A.slots + rm.slots ≤ R.slots)
      (fun A _ v B => ∃ L, ((Qc v B.U.heap ∧ CHr Z EL vm0 h B.U.vm B.U.heap) ∧ Fr n0 L) ∧ B.locs = A.locs ++ L ∧ B.cells = A.cells + rm.cells ∧ B.slots = A.slots + rm.slots) :=
  BackS.of_freeW (bytes := bytes) (maxL := maxL) (ret := ret) (E := fun _ first o t L k n => k = rm.cells ∧ n = rm.slots ∧ ∃ v, o = .returned v ∧ (Qc v t.heap ∧ CHr Z EL first.vm first.heap t.vm t.heap) ∧ Fr n0 L) (hM []) hf hl
    (fun m meth c A a Y hp => have hU : Z.Warmed39 A.U.vm := wtrans (s := s.setVm vm0) hZ Y.warmed
      ⟨by show (Jvm.Cond.and _ .tt).before a A.U = true; rw [Cond.before_and, mv hU wc]; rfl, mv hU wc, mv hU wz, hp.2.2.1, hp.2.2.2⟩)
    (fun m meth c A a g mk Y hp => ⟨hp.1, wtrans (s := s.setVm vm0) hZ Y.warmed, hp.2.1, (CHv.at Y hZ hEL hC).1, (CHv.at Y hZ hEL hC).safeAll hSl hSs⟩) (fun _ _ _ _ _ _ _ _ _ => trivial)
    (fun _ _ _ _ ⟨v, L, h1, h2, h3⟩ => ⟨L, _, _, h3, rfl, rfl, v, h1, h2⟩)
    (fun m meth c A a g mk v t L k n Y hp _ _ ⟨e1, e2, v', e3, ⟨e4, e5⟩, e6⟩ => by
      cases e3; subst e1 e2
      refine ⟨L, ⟨⟨e4, (CHv.at Y hZ hEL hC).trans ?_⟩, e6⟩, rfl, rfl, rfl⟩
      rw [← hp.2.1]; exact e5)
theorem callStW (X : Stand p l e R (s.setVm vm0) m args below meth c T locs cells slots) (hx : p.tables.exec = Jvm.exec) (hZ : Z.Warmed39 vm0) (hown : vm0.findClass own = some m.cls) (hS : s.Since vm0 k0) (hk : k0 ≤ T.heap.size) (hEL : EW Z a0 EL) (hC : CHv Z EL vm0 h) (hSl : ∀ x ∈ SL, x < h.size) (hSs : ∀ x ∈ SL, Safe Z EL vm0 h x) (hM : METW l Z y bytes maxL ret rm as' EL SL h n0 Qc) (w1 : (Jvm.Cond.methodLink own index y).before a0 Z = true) (w2 : (Jvm.Cond.static y).before a0 Z = true) (w3 : (Jvm.Cond.initialized y.cls).before a0 Z = true) (w4 : (Jvm.Cond.code y bytes maxL ret).before a0 Z = true)
    (hy : y.cls ≠ "java/lang/invoke/MethodHandle" ∧ y.cls ≠ "java/lang/invoke/VarHandle") (eT : T.heap = h) (hf : rm.frames + 1 ≤ R.frames) (hl : W + (maxL + 11) + rm.locals ≤ R.locals) (hc : cells + rm.cells ≤ R.cells) (hsl : slots + rm.slots ≤ R.slots)
    (hg : g.method = m) (hsize : g.locals.size = c.maxLocals) (ha : argsL.toArray = as') (hlen : ∀ sig, parseMethodDescriptor y.desc = some sig → argsL.length = sig.parameters.length) (hs : g.stack = argsL.reverse ++ rest) (hW : 2 * g.monitorRoom + (rest.map fun v => v.category).sum ≤ W) (hd : decode c.code g.pc = .ok (.invokestatic index, 3)) :
    ∃ (v : Option Value) (T' : State) (L : List Loc), Stand p l e R (s.setVm T'.vm) m args below meth c T' (locs ++ L) (cells + rm.cells) (slots + rm.slots) ∧ s.Since T'.vm T'.heap.size ∧ Z.Warmed39 T'.vm ∧ T'.vm.findClass own = some m.cls ∧ CHr Z EL vm0 h T'.vm T'.heap ∧ Qc v T'.heap ∧ Fr n0 L ∧ ∀ t, Steps p.tables e below (T'.setTop { g with pc := g.pc + 3, stack := v.toList ++ rest }) t → Steps p.tables e below (T.setTop g) t := by
  obtain ⟨v, _, ⟨T', L', k', n'⟩, -, X', hS', hg', ⟨Lc, ⟨⟨hq, hr⟩, hn⟩, e1, e2, e3⟩, st⟩ := callSS X hx (y := y) hown (mvT (s := s.setVm vm0) hZ w1) (mvT (s := s.setVm vm0) hZ w2) (mvT (s := s.setVm vm0) hZ w3) (mvT (s := s.setVm vm0) hZ w4) hy (backOfV (W := W) (s := s) hM hZ w4 w3 hf hl hEL hC hSl hSs) hg hsize hlen hs hW hd (fun _ _ => ⟨ha, eT, hc, hsl⟩)
  dsimp only [Pt.U, Pt.locs, Pt.cells, Pt.slots] at X' hS' hg' e1 e2 e3 st hq hr
  subst e1 e2 e3
  obtain ⟨r1, r2, r3, r4⟩ := rebS hS hk X' hS' hg' hZ hown
  exact ⟨v, T', Lc, r1, r2, r3, r4, hr, hq, hn, fun t k => st.trans k⟩
theorem callSpW (X : Stand p l e R (s.setVm vm0) m args below meth c T locs cells slots) (hx : p.tables.exec = Jvm.exec) (hZ : Z.Warmed39 vm0) (hown : vm0.findClass own = some m.cls) (hS : s.Since vm0 k0) (hk : k0 ≤ T.heap.size) (hEL : EW Z a0 EL) (hC : CHv Z EL vm0 h) (hSl : ∀ x ∈ SL, x < h.size) (hSs : ∀ x ∈ SL, Safe Z EL vm0 h x) (hM : METW l Z y bytes maxL none rm as' EL SL h n0 Qc) (hin : y.name = "<init>") (w1 : (Jvm.Cond.methodLink own index y).before a0 Z = true) (w2 : (Jvm.Cond.instanceMethod y).before a0 Z = true) (w3 : (Jvm.Cond.initialized y.cls).before a0 Z = true) (w4 : (Jvm.Cond.code y bytes maxL none).before a0 Z = true)
    (hy : y.cls ≠ "java/lang/invoke/MethodHandle" ∧ y.cls ≠ "java/lang/invoke/VarHandle") (eT : T.heap = h) (hf : rm.frames + 1 ≤ R.frames) (hl : W + (maxL + 11) + rm.locals ≤ R.locals) (hc : cells + rm.cells ≤ R.cells) (hsl : slots + rm.slots ≤ R.slots)
    (hg : g.method = m) (hsize : g.locals.size = c.maxLocals) (ha : (Value.ref a :: argsL).toArray = as') (hlen : ∀ sig, parseMethodDescriptor y.desc = some sig → argsL.length = sig.parameters.length) (hs : g.stack = argsL.reverse ++ .ref a :: rest) (hW : 2 * g.monitorRoom + (rest.map fun v => v.category).sum ≤ W) (hd : decode c.code g.pc = .ok (.invokespecial index, 3)) :
    ∃ (v : Option Value) (T' : State) (L : List Loc), Stand p l e R (s.setVm T'.vm) m args below meth c T' (locs ++ L) (cells + rm.cells) (slots + rm.slots) ∧ s.Since T'.vm T'.heap.size ∧ Z.Warmed39 T'.vm ∧ T'.vm.findClass own = some m.cls ∧ CHr Z EL vm0 h T'.vm T'.heap ∧ Qc v T'.heap ∧ Fr n0 L ∧ ∀ t, Steps p.tables e below (T'.setTop { g with pc := g.pc + 3, stack := v.toList ++ rest }) t → Steps p.tables e below (T.setTop g) t := by
  obtain ⟨v, _, ⟨T', L', k', n'⟩, -, X', hS', hg', ⟨Lc, ⟨⟨hq, hr⟩, hn⟩, e1, e2, e3⟩, st⟩ := X.specialBackS hx (y := y) hin hown (mvT (s := s.setVm vm0) hZ w1) (mvT (s := s.setVm vm0) hZ w2) (mvT (s := s.setVm vm0) hZ w4) hy (backOfV (W := W) (s := s) hM hZ w4 w3 hf hl hEL hC hSl hSs) hg hsize (Steps.refl _) (a := a) (argsL := argsL) (rest := rest) hlen hs hW hd (fun _ _ => ⟨ha, eT, hc, hsl⟩)
  dsimp only [Pt.U, Pt.locs, Pt.cells, Pt.slots] at X' hS' hg' e1 e2 e3 st hq hr
  subst e1 e2 e3
  obtain ⟨r1, r2, r3, r4⟩ := rebS hS hk X' hS' hg' hZ hown
  exact ⟨v, T', Lc, r1, r2, r3, r4, hr, hq, hn, fun t k => st.trans k⟩
theorem callViW (X : Stand p l e R (s.setVm vm0) m args below meth c T locs cells slots) (hx : p.tables.exec = Jvm.exec) (hZ : Z.Warmed39 vm0) (hown : vm0.findClass own = some m.cls) (hS : s.Since vm0 k0) (hk : k0 ≤ T.heap.size) (hEL : EW Z a0 EL) (hC : CHv Z EL vm0 h) (hSl : ∀ x ∈ SL, x < h.size) (hSs : ∀ x ∈ SL, Safe Z EL vm0 h x) (hM : METW l Z z bytes maxL ret rm as' EL SL h n0 Qc) (w1 : (Jvm.Cond.methodLink own index y).before a0 Z = true) (w2 : (Jvm.Cond.declares y).before a0 Z = true) (nf : NotFace (s.setVm vm0) y) (w5 : (Jvm.Cond.selects C y z).before a0 Z = true) (w6 : (Jvm.Cond.instanceMethod z).before a0 Z = true) (w3 : (Jvm.Cond.initialized z.cls).before a0 Z = true) (w4 : (Jvm.Cond.code z bytes maxL ret).before a0 Z = true)
    (hy : y.cls ≠ "java/lang/invoke/MethodHandle" ∧ y.cls ≠ "java/lang/invoke/VarHandle") (eT : T.heap = h) (E : Exa Z h a C) (hf : rm.frames + 1 ≤ R.frames) (hl : W + (maxL + 11) + rm.locals ≤ R.locals) (hc : cells + rm.cells ≤ R.cells) (hsl : slots + rm.slots ≤ R.slots)
    (hg : g.method = m) (hsize : g.locals.size = c.maxLocals) (ha : (Value.ref a :: argsL).toArray = as') (hlen : ∀ sig, parseMethodDescriptor y.desc = some sig → argsL.length = sig.parameters.length) (hs : g.stack = argsL.reverse ++ .ref a :: rest) (hW : 2 * g.monitorRoom + (rest.map fun v => v.category).sum ≤ W) (hd : decode c.code g.pc = .ok (.invokevirtual index, 3)) :
    ∃ (v : Option Value) (T' : State) (L : List Loc), Stand p l e R (s.setVm T'.vm) m args below meth c T' (locs ++ L) (cells + rm.cells) (slots + rm.slots) ∧ s.Since T'.vm T'.heap.size ∧ Z.Warmed39 T'.vm ∧ T'.vm.findClass own = some m.cls ∧ CHr Z EL vm0 h T'.vm T'.heap ∧ Qc v T'.heap ∧ Fr n0 L ∧ ∀ t, Steps p.tables e below (T'.setTop { g with pc := g.pc + 3, stack := v.toList ++ rest }) t → Steps p.tables e below (T.setTop g) t := by
  obtain ⟨cq, kq, qa, qb, qc⟩ := isOf (s := s.setVm vm0) hZ eT E
  obtain ⟨v, _, ⟨T', L', k', n'⟩, -, X', hS', hg', ⟨Lc, ⟨⟨hq, hr⟩, hn⟩, e1, e2, e3⟩, st⟩ := X.virtualBackS hx (y := y) (z := z) hown (mvT (s := s.setVm vm0) hZ w1) (mvT (s := s.setVm vm0) hZ w2) nf (mvT (s := s.setVm vm0) hZ w5) (mvT (s := s.setVm vm0) hZ w6) hy (backOfV (W := W) (s := s) hM hZ w4 w3 hf hl hEL hC hSl hSs) qa qc hg hsize (Steps.refl _) (argsL := argsL) (rest := rest) hlen hs hW hd (fun _ _ => ⟨ha, eT, hc, hsl⟩)
  dsimp only [Pt.U, Pt.locs, Pt.cells, Pt.slots] at X' hS' hg' e1 e2 e3 st hq hr
  subst e1 e2 e3
  obtain ⟨r1, r2, r3, r4⟩ := rebS hS hk X' hS' hg' hZ hown
  exact ⟨v, T', Lc, r1, r2, r3, r4, hr, hq, hn, fun t k => st.trans k⟩
end Calls
end OwnWide
end Jvm.RoadKit

namespace Jvm.Pilot.@@N@@
open Jvm Jvm.ClassFile Sem Op Lib Jvm.Free Jvm.Stand Jvm.LawKit Jvm.RoadKit Bundle Jvm.Pilot.@@N@@.Jvm.D
theorem W_0 {Z : State} {aw : Array Value} (hw : ∀ d ∈ tables_1, d.before aw Z = true) : (Jvm.Cond.arrayClass Jvm.ClassFile.FieldType.char).before aw Z = true := hw _ (List.mem_of_getElem? (i := 0) rfl)
theorem W_1 {Z : State} {aw : Array Value} (hw : ∀ d ∈ tables_1, d.before aw Z = true) : (Jvm.Cond.classLink "com/example/zonetally/zonetally/DayFaultsWholePinLaw" (7 : Nat) "java/lang/String").before aw Z = true := hw _ (List.mem_of_getElem? (i := 1) rfl)
theorem W_2 {Z : State} {aw : Array Value} (hw : ∀ d ∈ tables_1, d.before aw Z = true) : (Jvm.Cond.instantiable "java/lang/String" (4 : Nat)).before aw Z = true := hw _ (List.mem_of_getElem? (i := 2) rfl)
theorem W_3 {Z : State} {aw : Array Value} (hw : ∀ d ∈ tables_1, d.before aw Z = true) : (Jvm.Cond.initialized "java/lang/String").before aw Z = true := hw _ (List.mem_of_getElem? (i := 3) rfl)
theorem W_4 {Z : State} {aw : Array Value} (hw : ∀ d ∈ tables_1, d.before aw Z = true) : (Jvm.Cond.methodLink "com/example/zonetally/zonetally/DayFaultsWholePinLaw" (9 : Nat) ({ cls := "java/lang/String", name := "<init>", desc := "([C)V" } : Jvm.MethodName)).before aw Z = true := hw _ (List.mem_of_getElem? (i := 4) rfl)
theorem W_5 {Z : State} {aw : Array Value} (hw : ∀ d ∈ tables_1, d.before aw Z = true) : (Jvm.Cond.instanceMethod ({ cls := "java/lang/String", name := "<init>", desc := "([C)V" } : Jvm.MethodName)).before aw Z = true := hw _ (List.mem_of_getElem? (i := 5) rfl)
theorem W_6 {Z : State} {aw : Array Value} (hw : ∀ d ∈ tables_1, d.before aw Z = true) : (Jvm.Cond.code ({ cls := "java/lang/String", name := "<init>", desc := "([C)V" } : Jvm.MethodName) jdk_42_method_3_code (2 : Nat) (Option.none : Option Jvm.ClassFile.FieldType)).before aw Z = true := hw _ (List.mem_of_getElem? (i := 6) rfl)
theorem W_7 {Z : State} {aw : Array Value} (hw : ∀ d ∈ tables_1, d.before aw Z = true) : (Jvm.Cond.methodLink "java/lang/String" (27 : Nat) ({ cls := "java/lang/String", name := "<init>", desc := "([CIILjava/lang/Void;)V" } : Jvm.MethodName)).before aw Z = true := hw _ (List.mem_of_getElem? (i := 7) rfl)
theorem W_8 {Z : State} {aw : Array Value} (hw : ∀ d ∈ tables_1, d.before aw Z = true) : (Jvm.Cond.instanceMethod ({ cls := "java/lang/String", name := "<init>", desc := "([CIILjava/lang/Void;)V" } : Jvm.MethodName)).before aw Z = true := hw _ (List.mem_of_getElem? (i := 8) rfl)
theorem W_10 {Z : State} {aw : Array Value} (hw : ∀ d ∈ tables_1, d.before aw Z = true) : (Jvm.Cond.code ({ cls := "java/lang/String", name := "<init>", desc := "([CIILjava/lang/Void;)V" } : Jvm.MethodName) jdk_42_method_149_code (6 : Nat) (Option.none : Option Jvm.ClassFile.FieldType)).before aw Z = true := hw _ (List.mem_of_getElem? (i := 10) rfl)
theorem W_11 {Z : State} {aw : Array Value} (hw : ∀ d ∈ tables_1, d.before aw Z = true) : (Jvm.Cond.methodLink "java/lang/String" (1 : Nat) ({ cls := "java/lang/Object", name := "<init>", desc := "()V" } : Jvm.MethodName)).before aw Z = true := hw _ (List.mem_of_getElem? (i := 11) rfl)
theorem W_12 {Z : State} {aw : Array Value} (hw : ∀ d ∈ tables_1, d.before aw Z = true) : (Jvm.Cond.instanceMethod ({ cls := "java/lang/Object", name := "<init>", desc := "()V" } : Jvm.MethodName)).before aw Z = true := hw _ (List.mem_of_getElem? (i := 12) rfl)
theorem W_13 {Z : State} {aw : Array Value} (hw : ∀ d ∈ tables_1, d.before aw Z = true) : (Jvm.Cond.code ({ cls := "java/lang/Object", name := "<init>", desc := "()V" } : Jvm.MethodName) object_method_1_code (1 : Nat) (Option.none : Option Jvm.ClassFile.FieldType)).before aw Z = true := hw _ (List.mem_of_getElem? (i := 13) rfl)
theorem W_14 {Z : State} {aw : Array Value} (hw : ∀ d ∈ tables_1, d.before aw Z = true) : (Jvm.Cond.stringLink "java/lang/String" (7 : Nat) "").before aw Z = true := hw _ (List.mem_of_getElem? (i := 14) rfl)
theorem W_15 {Z : State} {aw : Array Value} (hw : ∀ d ∈ tables_1, d.before aw Z = true) : (Jvm.Cond.arrayClass Jvm.ClassFile.FieldType.byte).before aw Z = true := hw _ (List.mem_of_getElem? (i := 15) rfl)
theorem W_16 {Z : State} {aw : Array Value} (hw : ∀ d ∈ tables_1, d.before aw Z = true) : (Jvm.Cond.laysFinal "java/lang/String" "java/lang/String" "value" "[B").before aw Z = true := hw _ (List.mem_of_getElem? (i := 16) rfl)
theorem W_17 {Z : State} {aw : Array Value} (hw : ∀ d ∈ tables_1, d.before aw Z = true) : (Jvm.Cond.laysFinal "java/lang/String" "java/lang/String" "coder" "B").before aw Z = true := hw _ (List.mem_of_getElem? (i := 17) rfl)
theorem W_18 {Z : State} {aw : Array Value} (hw : ∀ d ∈ tables_1, d.before aw Z = true) : (Jvm.Cond.soleField "java/lang/String" "value").before aw Z = true := hw _ (List.mem_of_getElem? (i := 18) rfl)
theorem W_19 {Z : State} {aw : Array Value} (hw : ∀ d ∈ tables_1, d.before aw Z = true) : (Jvm.Cond.soleField "java/lang/String" "coder").before aw Z = true := hw _ (List.mem_of_getElem? (i := 19) rfl)
theorem W_20 {Z : State} {aw : Array Value} (hw : ∀ d ∈ tables_1, d.before aw Z = true) : (Jvm.Cond.fieldLink "java/lang/String" (9 : Nat) "java/lang/String" "value" "[B").before aw Z = true := hw _ (List.mem_of_getElem? (i := 20) rfl)
theorem W_21 {Z : State} {aw : Array Value} (hw : ∀ d ∈ tables_1, d.before aw Z = true) : (Jvm.Cond.fieldLink "java/lang/String" (15 : Nat) "java/lang/String" "coder" "B").before aw Z = true := hw _ (List.mem_of_getElem? (i := 21) rfl)
theorem W_22 {Z : State} {aw : Array Value} (hw : ∀ d ∈ tables_1, d.before aw Z = true) : (Jvm.Cond.methodLink "com/example/zonetally/zonetally/DayFaultsWholePinLaw" (16 : Nat) ({ cls := "com/example/zonetally/zonetally/DayFaults", name := "whole", desc := "(Ljava/lang/String;)Lcom/example/zonetally/zonetally/DayFaults;" } : Jvm.MethodName)).before aw Z = true := hw _ (List.mem_of_getElem? (i := 22) rfl)
theorem W_23 {Z : State} {aw : Array Value} (hw : ∀ d ∈ tables_1, d.before aw Z = true) : (Jvm.Cond.static ({ cls := "com/example/zonetally/zonetally/DayFaults", name := "whole", desc := "(Ljava/lang/String;)Lcom/example/zonetally/zonetally/DayFaults;" } : Jvm.MethodName)).before aw Z = true := hw _ (List.mem_of_getElem? (i := 23) rfl)
theorem W_24 {Z : State} {aw : Array Value} (hw : ∀ d ∈ tables_1, d.before aw Z = true) : (Jvm.Cond.initialized "com/example/zonetally/zonetally/DayFaults").before aw Z = true := hw _ (List.mem_of_getElem? (i := 24) rfl)
theorem W_25 {Z : State} {aw : Array Value} (hw : ∀ d ∈ tables_1, d.before aw Z = true) : (Jvm.Cond.code ({ cls := "com/example/zonetally/zonetally/DayFaults", name := "whole", desc := "(Ljava/lang/String;)Lcom/example/zonetally/zonetally/DayFaults;" } : Jvm.MethodName) prog_17_method_2_code (1 : Nat) (Option.some (Jvm.ClassFile.FieldType.object "com/example/zonetally/zonetally/DayFaults"))).before aw Z = true := hw _ (List.mem_of_getElem? (i := 25) rfl)
theorem W_26 {Z : State} {aw : Array Value} (hw : ∀ d ∈ tables_1, d.before aw Z = true) : (Jvm.Cond.methodLink "com/example/zonetally/zonetally/DayFaults" (27 : Nat) ({ cls := "java/util/List", name := "of", desc := "(Ljava/lang/Object;)Ljava/util/List;" } : Jvm.MethodName)).before aw Z = true := hw _ (List.mem_of_getElem? (i := 26) rfl)
theorem W_27 {Z : State} {aw : Array Value} (hw : ∀ d ∈ tables_1, d.before aw Z = true) : (Jvm.Cond.static ({ cls := "java/util/List", name := "of", desc := "(Ljava/lang/Object;)Ljava/util/List;" } : Jvm.MethodName)).before aw Z = true := hw _ (List.mem_of_getElem? (i := 27) rfl)
theorem W_28 {Z : State} {aw : Array Value} (hw : ∀ d ∈ tables_1, d.before aw Z = true) : (Jvm.Cond.initialized "java/util/List").before aw Z = true := hw _ (List.mem_of_getElem? (i := 28) rfl)
theorem W_29 {Z : State} {aw : Array Value} (hw : ∀ d ∈ tables_1, d.before aw Z = true) : (Jvm.Cond.code ({ cls := "java/util/List", name := "of", desc := "(Ljava/lang/Object;)Ljava/util/List;" } : Jvm.MethodName) jdk_40_method_37_code (1 : Nat) (Option.some (Jvm.ClassFile.FieldType.object "java/util/List"))).before aw Z = true := hw _ (List.mem_of_getElem? (i := 29) rfl)
theorem W_30 {Z : State} {aw : Array Value} (hw : ∀ d ∈ tables_1, d.before aw Z = true) : (Jvm.Cond.classLink "java/util/List" (96 : Nat) "java/util/ImmutableCollections$List12").before aw Z = true := hw _ (List.mem_of_getElem? (i := 30) rfl)
theorem W_31 {Z : State} {aw : Array Value} (hw : ∀ d ∈ tables_1, d.before aw Z = true) : (Jvm.Cond.instantiable "java/util/ImmutableCollections$List12" (2 : Nat)).before aw Z = true := hw _ (List.mem_of_getElem? (i := 31) rfl)
theorem W_32 {Z : State} {aw : Array Value} (hw : ∀ d ∈ tables_1, d.before aw Z = true) : (Jvm.Cond.initialized "java/util/ImmutableCollections$List12").before aw Z = true := hw _ (List.mem_of_getElem? (i := 32) rfl)
theorem W_33 {Z : State} {aw : Array Value} (hw : ∀ d ∈ tables_1, d.before aw Z = true) : (Jvm.Cond.methodLink "java/util/List" (98 : Nat) ({ cls := "java/util/ImmutableCollections$List12", name := "<init>", desc := "(Ljava/lang/Object;)V" } : Jvm.MethodName)).before aw Z = true := hw _ (List.mem_of_getElem? (i := 33) rfl)
theorem W_34 {Z : State} {aw : Array Value} (hw : ∀ d ∈ tables_1, d.before aw Z = true) : (Jvm.Cond.instanceMethod ({ cls := "java/util/ImmutableCollections$List12", name := "<init>", desc := "(Ljava/lang/Object;)V" } : Jvm.MethodName)).before aw Z = true := hw _ (List.mem_of_getElem? (i := 34) rfl)
theorem W_36 {Z : State} {aw : Array Value} (hw : ∀ d ∈ tables_1, d.before aw Z = true) : (Jvm.Cond.code ({ cls := "java/util/ImmutableCollections$List12", name := "<init>", desc := "(Ljava/lang/Object;)V" } : Jvm.MethodName) jdk_44_method_1_code (2 : Nat) (Option.none : Option Jvm.ClassFile.FieldType)).before aw Z = true := hw _ (List.mem_of_getElem? (i := 36) rfl)
theorem W_37 {Z : State} {aw : Array Value} (hw : ∀ d ∈ tables_1, d.before aw Z = true) : (Jvm.Cond.methodLink "java/util/ImmutableCollections$List12" (1 : Nat) ({ cls := "java/util/ImmutableCollections$AbstractImmutableList", name := "<init>", desc := "()V" } : Jvm.MethodName)).before aw Z = true := hw _ (List.mem_of_getElem? (i := 37) rfl)
theorem W_38 {Z : State} {aw : Array Value} (hw : ∀ d ∈ tables_1, d.before aw Z = true) : (Jvm.Cond.instanceMethod ({ cls := "java/util/ImmutableCollections$AbstractImmutableList", name := "<init>", desc := "()V" } : Jvm.MethodName)).before aw Z = true := hw _ (List.mem_of_getElem? (i := 38) rfl)
theorem W_41 {Z : State} {aw : Array Value} (hw : ∀ d ∈ tables_1, d.before aw Z = true) : (Jvm.Cond.initialized "java/util/ImmutableCollections$AbstractImmutableList").before aw Z = true := hw _ (List.mem_of_getElem? (i := 41) rfl)
theorem W_42 {Z : State} {aw : Array Value} (hw : ∀ d ∈ tables_1, d.before aw Z = true) : (Jvm.Cond.code ({ cls := "java/util/ImmutableCollections$AbstractImmutableList", name := "<init>", desc := "()V" } : Jvm.MethodName) jdk_46_method_1_code (1 : Nat) (Option.none : Option Jvm.ClassFile.FieldType)).before aw Z = true := hw _ (List.mem_of_getElem? (i := 42) rfl)
theorem W_43 {Z : State} {aw : Array Value} (hw : ∀ d ∈ tables_1, d.before aw Z = true) : (Jvm.Cond.methodLink "java/util/ImmutableCollections$AbstractImmutableList" (1 : Nat) ({ cls := "java/util/ImmutableCollections$AbstractImmutableCollection", name := "<init>", desc := "()V" } : Jvm.MethodName)).before aw Z = true := hw _ (List.mem_of_getElem? (i := 43) rfl)
theorem W_44 {Z : State} {aw : Array Value} (hw : ∀ d ∈ tables_1, d.before aw Z = true) : (Jvm.Cond.instanceMethod ({ cls := "java/util/ImmutableCollections$AbstractImmutableCollection", name := "<init>", desc := "()V" } : Jvm.MethodName)).before aw Z = true := hw _ (List.mem_of_getElem? (i := 44) rfl)
theorem W_47 {Z : State} {aw : Array Value} (hw : ∀ d ∈ tables_1, d.before aw Z = true) : (Jvm.Cond.initialized "java/util/ImmutableCollections$AbstractImmutableCollection").before aw Z = true := hw _ (List.mem_of_getElem? (i := 47) rfl)
theorem W_48 {Z : State} {aw : Array Value} (hw : ∀ d ∈ tables_1, d.before aw Z = true) : (Jvm.Cond.code ({ cls := "java/util/ImmutableCollections$AbstractImmutableCollection", name := "<init>", desc := "()V" } : Jvm.MethodName) jdk_47_method_1_code (1 : Nat) (Option.none : Option Jvm.ClassFile.FieldType)).before aw Z = true := hw _ (List.mem_of_getElem? (i := 48) rfl)
theorem W_49 {Z : State} {aw : Array Value} (hw : ∀ d ∈ tables_1, d.before aw Z = true) : (Jvm.Cond.methodLink "java/util/ImmutableCollections$AbstractImmutableCollection" (1 : Nat) ({ cls := "java/util/AbstractCollection", name := "<init>", desc := "()V" } : Jvm.MethodName)).before aw Z = true := hw _ (List.mem_of_getElem? (i := 49) rfl)
theorem W_50 {Z : State} {aw : Array Value} (hw : ∀ d ∈ tables_1, d.before aw Z = true) : (Jvm.Cond.instanceMethod ({ cls := "java/util/AbstractCollection", name := "<init>", desc := "()V" } : Jvm.MethodName)).before aw Z = true := hw _ (List.mem_of_getElem? (i := 50) rfl)
theorem W_53 {Z : State} {aw : Array Value} (hw : ∀ d ∈ tables_1, d.before aw Z = true) : (Jvm.Cond.initialized "java/util/AbstractCollection").before aw Z = true := hw _ (List.mem_of_getElem? (i := 53) rfl)
theorem W_54 {Z : State} {aw : Array Value} (hw : ∀ d ∈ tables_1, d.before aw Z = true) : (Jvm.Cond.code ({ cls := "java/util/AbstractCollection", name := "<init>", desc := "()V" } : Jvm.MethodName) jdk_22_method_1_code (1 : Nat) (Option.none : Option Jvm.ClassFile.FieldType)).before aw Z = true := hw _ (List.mem_of_getElem? (i := 54) rfl)
theorem W_55 {Z : State} {aw : Array Value} (hw : ∀ d ∈ tables_1, d.before aw Z = true) : (Jvm.Cond.methodLink "java/util/AbstractCollection" (1 : Nat) ({ cls := "java/lang/Object", name := "<init>", desc := "()V" } : Jvm.MethodName)).before aw Z = true := hw _ (List.mem_of_getElem? (i := 55) rfl)
theorem W_56 {Z : State} {aw : Array Value} (hw : ∀ d ∈ tables_1, d.before aw Z = true) : (Jvm.Cond.methodLink "java/util/ImmutableCollections$List12" (7 : Nat) ({ cls := "java/util/Objects", name := "requireNonNull", desc := "(Ljava/lang/Object;)Ljava/lang/Object;" } : Jvm.MethodName)).before aw Z = true := hw _ (List.mem_of_getElem? (i := 56) rfl)
theorem W_57 {Z : State} {aw : Array Value} (hw : ∀ d ∈ tables_1, d.before aw Z = true) : (Jvm.Cond.static ({ cls := "java/util/Objects", name := "requireNonNull", desc := "(Ljava/lang/Object;)Ljava/lang/Object;" } : Jvm.MethodName)).before aw Z = true := hw _ (List.mem_of_getElem? (i := 57) rfl)
theorem W_58 {Z : State} {aw : Array Value} (hw : ∀ d ∈ tables_1, d.before aw Z = true) : (Jvm.Cond.initialized "java/util/Objects").before aw Z = true := hw _ (List.mem_of_getElem? (i := 58) rfl)
theorem W_59 {Z : State} {aw : Array Value} (hw : ∀ d ∈ tables_1, d.before aw Z = true) : (Jvm.Cond.code ({ cls := "java/util/Objects", name := "requireNonNull", desc := "(Ljava/lang/Object;)Ljava/lang/Object;" } : Jvm.MethodName) jdk_31_method_10_code (1 : Nat) (Option.some (Jvm.ClassFile.FieldType.object "java/lang/Object"))).before aw Z = true := hw _ (List.mem_of_getElem? (i := 59) rfl)
theorem W_60 {Z : State} {aw : Array Value} (hw : ∀ d ∈ tables_1, d.before aw Z = true) : (Jvm.Cond.fieldLink "java/util/ImmutableCollections$List12" (13 : Nat) "java/util/ImmutableCollections$List12" "e0" "Ljava/lang/Object;").before aw Z = true := hw _ (List.mem_of_getElem? (i := 60) rfl)
theorem W_61 {Z : State} {aw : Array Value} (hw : ∀ d ∈ tables_1, d.before aw Z = true) : (Jvm.Cond.laysFinal "java/util/ImmutableCollections$List12" "java/util/ImmutableCollections$List12" "e0" "Ljava/lang/Object;").before aw Z = true := hw _ (List.mem_of_getElem? (i := 61) rfl)
theorem W_62 {Z : State} {aw : Array Value} (hw : ∀ d ∈ tables_1, d.before aw Z = true) : (Jvm.Cond.fieldLinkNest "java/util/ImmutableCollections$List12" (19 : Nat) "java/util/ImmutableCollections" "EMPTY" "Ljava/lang/Object;" "java/util/ImmutableCollections").before aw Z = true := hw _ (List.mem_of_getElem? (i := 62) rfl)
theorem W_64 {Z : State} {aw : Array Value} (hw : ∀ d ∈ tables_1, d.before aw Z = true) : (Jvm.Cond.fieldLink "java/util/ImmutableCollections$List12" (24 : Nat) "java/util/ImmutableCollections$List12" "e1" "Ljava/lang/Object;").before aw Z = true := hw _ (List.mem_of_getElem? (i := 64) rfl)
theorem W_65 {Z : State} {aw : Array Value} (hw : ∀ d ∈ tables_1, d.before aw Z = true) : (Jvm.Cond.laysFinal "java/util/ImmutableCollections$List12" "java/util/ImmutableCollections$List12" "e1" "Ljava/lang/Object;").before aw Z = true := hw _ (List.mem_of_getElem? (i := 65) rfl)
theorem W_66 {Z : State} {aw : Array Value} (hw : ∀ d ∈ tables_1, d.before aw Z = true) : (Jvm.Cond.methodLink "com/example/zonetally/zonetally/DayFaults" (33 : Nat) ({ cls := "com/example/zonetally/zonetally/DayFaults", name := "whole", desc := "(Ljava/util/List;)Lcom/example/zonetally/zonetally/DayFaults;" } : Jvm.MethodName)).before aw Z = true := hw _ (List.mem_of_getElem? (i := 66) rfl)
theorem W_67 {Z : State} {aw : Array Value} (hw : ∀ d ∈ tables_1, d.before aw Z = true) : (Jvm.Cond.static ({ cls := "com/example/zonetally/zonetally/DayFaults", name := "whole", desc := "(Ljava/util/List;)Lcom/example/zonetally/zonetally/DayFaults;" } : Jvm.MethodName)).before aw Z = true := hw _ (List.mem_of_getElem? (i := 67) rfl)
theorem W_68 {Z : State} {aw : Array Value} (hw : ∀ d ∈ tables_1, d.before aw Z = true) : (Jvm.Cond.code ({ cls := "com/example/zonetally/zonetally/DayFaults", name := "whole", desc := "(Ljava/util/List;)Lcom/example/zonetally/zonetally/DayFaults;" } : Jvm.MethodName) prog_17_method_3_code (1 : Nat) (Option.some (Jvm.ClassFile.FieldType.object "com/example/zonetally/zonetally/DayFaults"))).before aw Z = true := hw _ (List.mem_of_getElem? (i := 68) rfl)
theorem W_69 {Z : State} {aw : Array Value} (hw : ∀ d ∈ tables_1, d.before aw Z = true) : (Jvm.Cond.classLink "com/example/zonetally/zonetally/DayFaults" (8 : Nat) "com/example/zonetally/zonetally/DayFaults").before aw Z = true := hw _ (List.mem_of_getElem? (i := 69) rfl)
theorem W_70 {Z : State} {aw : Array Value} (hw : ∀ d ∈ tables_1, d.before aw Z = true) : (Jvm.Cond.instantiable "com/example/zonetally/zonetally/DayFaults" (5 : Nat)).before aw Z = true := hw _ (List.mem_of_getElem? (i := 70) rfl)
theorem W_71 {Z : State} {aw : Array Value} (hw : ∀ d ∈ tables_1, d.before aw Z = true) : (Jvm.Cond.methodLink "com/example/zonetally/zonetally/DayFaults" (37 : Nat) ({ cls := "java/util/List", name := "of", desc := "()Ljava/util/List;" } : Jvm.MethodName)).before aw Z = true := hw _ (List.mem_of_getElem? (i := 71) rfl)
theorem W_72 {Z : State} {aw : Array Value} (hw : ∀ d ∈ tables_1, d.before aw Z = true) : (Jvm.Cond.static ({ cls := "java/util/List", name := "of", desc := "()Ljava/util/List;" } : Jvm.MethodName)).before aw Z = true := hw _ (List.mem_of_getElem? (i := 72) rfl)
theorem W_73 {Z : State} {aw : Array Value} (hw : ∀ d ∈ tables_1, d.before aw Z = true) : (Jvm.Cond.code ({ cls := "java/util/List", name := "of", desc := "()Ljava/util/List;" } : Jvm.MethodName) jdk_40_method_36_code (0 : Nat) (Option.some (Jvm.ClassFile.FieldType.object "java/util/List"))).before aw Z = true := hw _ (List.mem_of_getElem? (i := 73) rfl)
theorem W_74 {Z : State} {aw : Array Value} (hw : ∀ d ∈ tables_1, d.before aw Z = true) : (Jvm.Cond.fieldLink "java/util/List" (90 : Nat) "java/util/ImmutableCollections" "EMPTY_LIST" "Ljava/util/ImmutableCollections$ListN;").before aw Z = true := hw _ (List.mem_of_getElem? (i := 74) rfl)
theorem W_75 {Z : State} {aw : Array Value} (hw : ∀ d ∈ tables_1, d.before aw Z = true) : (Jvm.Cond.methodLink "com/example/zonetally/zonetally/DayFaults" (40 : Nat) ({ cls := "com/example/zonetally/zonetally/DayFaults", name := "<init>", desc := "(Lcom/example/zonetally/zonetally/DailyFile;Ljava/util/List;Ljava/util/List;Ljava/util/List;J)V" } : Jvm.MethodName)).before aw Z = true := hw _ (List.mem_of_getElem? (i := 75) rfl)
theorem W_76 {Z : State} {aw : Array Value} (hw : ∀ d ∈ tables_1, d.before aw Z = true) : (Jvm.Cond.instanceMethod ({ cls := "com/example/zonetally/zonetally/DayFaults", name := "<init>", desc := "(Lcom/example/zonetally/zonetally/DailyFile;Ljava/util/List;Ljava/util/List;Ljava/util/List;J)V" } : Jvm.MethodName)).before aw Z = true := hw _ (List.mem_of_getElem? (i := 76) rfl)
theorem W_77 {Z : State} {aw : Array Value} (hw : ∀ d ∈ tables_1, d.before aw Z = true) : (Jvm.Cond.code ({ cls := "com/example/zonetally/zonetally/DayFaults", name := "<init>", desc := "(Lcom/example/zonetally/zonetally/DailyFile;Ljava/util/List;Ljava/util/List;Ljava/util/List;J)V" } : Jvm.MethodName) prog_17_method_1_code (7 : Nat) (Option.none : Option Jvm.ClassFile.FieldType)).before aw Z = true := hw _ (List.mem_of_getElem? (i := 77) rfl)
theorem W_78 {Z : State} {aw : Array Value} (hw : ∀ d ∈ tables_1, d.before aw Z = true) : (Jvm.Cond.methodLink "com/example/zonetally/zonetally/DayFaults" (1 : Nat) ({ cls := "java/lang/Record", name := "<init>", desc := "()V" } : Jvm.MethodName)).before aw Z = true := hw _ (List.mem_of_getElem? (i := 78) rfl)
theorem W_79 {Z : State} {aw : Array Value} (hw : ∀ d ∈ tables_1, d.before aw Z = true) : (Jvm.Cond.instanceMethod ({ cls := "java/lang/Record", name := "<init>", desc := "()V" } : Jvm.MethodName)).before aw Z = true := hw _ (List.mem_of_getElem? (i := 79) rfl)
theorem W_81 {Z : State} {aw : Array Value} (hw : ∀ d ∈ tables_1, d.before aw Z = true) : (Jvm.Cond.initialized "java/lang/Record").before aw Z = true := hw _ (List.mem_of_getElem? (i := 81) rfl)
theorem W_82 {Z : State} {aw : Array Value} (hw : ∀ d ∈ tables_1, d.before aw Z = true) : (Jvm.Cond.code ({ cls := "java/lang/Record", name := "<init>", desc := "()V" } : Jvm.MethodName) jdk_30_method_1_code (1 : Nat) (Option.none : Option Jvm.ClassFile.FieldType)).before aw Z = true := hw _ (List.mem_of_getElem? (i := 82) rfl)
theorem W_83 {Z : State} {aw : Array Value} (hw : ∀ d ∈ tables_1, d.before aw Z = true) : (Jvm.Cond.methodLink "java/lang/Record" (1 : Nat) ({ cls := "java/lang/Object", name := "<init>", desc := "()V" } : Jvm.MethodName)).before aw Z = true := hw _ (List.mem_of_getElem? (i := 83) rfl)
theorem W_84 {Z : State} {aw : Array Value} (hw : ∀ d ∈ tables_1, d.before aw Z = true) : (Jvm.Cond.fieldLink "com/example/zonetally/zonetally/DayFaults" (7 : Nat) "com/example/zonetally/zonetally/DayFaults" "file" "Lcom/example/zonetally/zonetally/DailyFile;").before aw Z = true := hw _ (List.mem_of_getElem? (i := 84) rfl)
theorem W_85 {Z : State} {aw : Array Value} (hw : ∀ d ∈ tables_1, d.before aw Z = true) : (Jvm.Cond.laysFinal "com/example/zonetally/zonetally/DayFaults" "com/example/zonetally/zonetally/DayFaults" "file" "Lcom/example/zonetally/zonetally/DailyFile;").before aw Z = true := hw _ (List.mem_of_getElem? (i := 85) rfl)
theorem W_86 {Z : State} {aw : Array Value} (hw : ∀ d ∈ tables_1, d.before aw Z = true) : (Jvm.Cond.fieldLink "com/example/zonetally/zonetally/DayFaults" (13 : Nat) "com/example/zonetally/zonetally/DayFaults" "hours" "Ljava/util/List;").before aw Z = true := hw _ (List.mem_of_getElem? (i := 86) rfl)
theorem W_87 {Z : State} {aw : Array Value} (hw : ∀ d ∈ tables_1, d.before aw Z = true) : (Jvm.Cond.laysFinal "com/example/zonetally/zonetally/DayFaults" "com/example/zonetally/zonetally/DayFaults" "hours" "Ljava/util/List;").before aw Z = true := hw _ (List.mem_of_getElem? (i := 87) rfl)
theorem W_88 {Z : State} {aw : Array Value} (hw : ∀ d ∈ tables_1, d.before aw Z = true) : (Jvm.Cond.fieldLink "com/example/zonetally/zonetally/DayFaults" (17 : Nat) "com/example/zonetally/zonetally/DayFaults" "found" "Ljava/util/List;").before aw Z = true := hw _ (List.mem_of_getElem? (i := 88) rfl)
theorem W_89 {Z : State} {aw : Array Value} (hw : ∀ d ∈ tables_1, d.before aw Z = true) : (Jvm.Cond.laysFinal "com/example/zonetally/zonetally/DayFaults" "com/example/zonetally/zonetally/DayFaults" "found" "Ljava/util/List;").before aw Z = true := hw _ (List.mem_of_getElem? (i := 89) rfl)
theorem W_90 {Z : State} {aw : Array Value} (hw : ∀ d ∈ tables_1, d.before aw Z = true) : (Jvm.Cond.fieldLink "com/example/zonetally/zonetally/DayFaults" (20 : Nat) "com/example/zonetally/zonetally/DayFaults" "unlisted" "Ljava/util/List;").before aw Z = true := hw _ (List.mem_of_getElem? (i := 90) rfl)
theorem W_91 {Z : State} {aw : Array Value} (hw : ∀ d ∈ tables_1, d.before aw Z = true) : (Jvm.Cond.laysFinal "com/example/zonetally/zonetally/DayFaults" "com/example/zonetally/zonetally/DayFaults" "unlisted" "Ljava/util/List;").before aw Z = true := hw _ (List.mem_of_getElem? (i := 91) rfl)
theorem W_92 {Z : State} {aw : Array Value} (hw : ∀ d ∈ tables_1, d.before aw Z = true) : (Jvm.Cond.fieldLink "com/example/zonetally/zonetally/DayFaults" (23 : Nat) "com/example/zonetally/zonetally/DayFaults" "lacking" "J").before aw Z = true := hw _ (List.mem_of_getElem? (i := 92) rfl)
theorem W_93 {Z : State} {aw : Array Value} (hw : ∀ d ∈ tables_1, d.before aw Z = true) : (Jvm.Cond.laysFinal "com/example/zonetally/zonetally/DayFaults" "com/example/zonetally/zonetally/DayFaults" "lacking" "J").before aw Z = true := hw _ (List.mem_of_getElem? (i := 93) rfl)
theorem W_94 {Z : State} {aw : Array Value} (hw : ∀ d ∈ tables_1, d.before aw Z = true) : (Jvm.Cond.methodLink "com/example/zonetally/zonetally/DayFaultsWholePinLaw" (22 : Nat) ({ cls := "com/example/zonetally/zonetally/DayFaults", name := "found", desc := "()Ljava/util/List;" } : Jvm.MethodName)).before aw Z = true := hw _ (List.mem_of_getElem? (i := 94) rfl)
theorem W_95 {Z : State} {aw : Array Value} (hw : ∀ d ∈ tables_1, d.before aw Z = true) : (Jvm.Cond.declares ({ cls := "com/example/zonetally/zonetally/DayFaults", name := "found", desc := "()Ljava/util/List;" } : Jvm.MethodName)).before aw Z = true := hw _ (List.mem_of_getElem? (i := 95) rfl)
theorem W_96 {Z : State} {aw : Array Value} (hw : ∀ d ∈ tables_1, d.before aw Z = true) : (Jvm.Cond.instanceMethod ({ cls := "com/example/zonetally/zonetally/DayFaults", name := "found", desc := "()Ljava/util/List;" } : Jvm.MethodName)).before aw Z = true := hw _ (List.mem_of_getElem? (i := 96) rfl)
theorem W_97 {Z : State} {aw : Array Value} (hw : ∀ d ∈ tables_1, d.before aw Z = true) : (Jvm.Cond.selects "com/example/zonetally/zonetally/DayFaults" ({ cls := "com/example/zonetally/zonetally/DayFaults", name := "found", desc := "()Ljava/util/List;" } : Jvm.MethodName) ({ cls := "com/example/zonetally/zonetally/DayFaults", name := "found", desc := "()Ljava/util/List;" } : Jvm.MethodName)).before aw Z = true := hw _ (List.mem_of_getElem? (i := 97) rfl)
theorem W_98 {Z : State} {aw : Array Value} (hw : ∀ d ∈ tables_1, d.before aw Z = true) : (Jvm.Cond.code ({ cls := "com/example/zonetally/zonetally/DayFaults", name := "found", desc := "()Ljava/util/List;" } : Jvm.MethodName) prog_17_method_11_code (1 : Nat) (Option.some (Jvm.ClassFile.FieldType.object "java/util/List"))).before aw Z = true := hw _ (List.mem_of_getElem? (i := 98) rfl)
theorem W_99 {Z : State} {aw : Array Value} (hw : ∀ d ∈ tables_1, d.before aw Z = true) : (Jvm.Cond.classLink "com/example/zonetally/zonetally/DayFaultsWholePinLaw" (26 : Nat) "java/util/ArrayList").before aw Z = true := hw _ (List.mem_of_getElem? (i := 99) rfl)
theorem W_100 {Z : State} {aw : Array Value} (hw : ∀ d ∈ tables_1, d.before aw Z = true) : (Jvm.Cond.instantiable "java/util/ArrayList" (3 : Nat)).before aw Z = true := hw _ (List.mem_of_getElem? (i := 100) rfl)
theorem W_101 {Z : State} {aw : Array Value} (hw : ∀ d ∈ tables_1, d.before aw Z = true) : (Jvm.Cond.initialized "java/util/ArrayList").before aw Z = true := hw _ (List.mem_of_getElem? (i := 101) rfl)
theorem W_102 {Z : State} {aw : Array Value} (hw : ∀ d ∈ tables_1, d.before aw Z = true) : (Jvm.Cond.methodLink "com/example/zonetally/zonetally/DayFaultsWholePinLaw" (28 : Nat) ({ cls := "java/util/ArrayList", name := "<init>", desc := "()V" } : Jvm.MethodName)).before aw Z = true := hw _ (List.mem_of_getElem? (i := 102) rfl)
theorem W_103 {Z : State} {aw : Array Value} (hw : ∀ d ∈ tables_1, d.before aw Z = true) : (Jvm.Cond.instanceMethod ({ cls := "java/util/ArrayList", name := "<init>", desc := "()V" } : Jvm.MethodName)).before aw Z = true := hw _ (List.mem_of_getElem? (i := 103) rfl)
theorem W_104 {Z : State} {aw : Array Value} (hw : ∀ d ∈ tables_1, d.before aw Z = true) : (Jvm.Cond.code ({ cls := "java/util/ArrayList", name := "<init>", desc := "()V" } : Jvm.MethodName) jdk_38_method_2_code (1 : Nat) (Option.none : Option Jvm.ClassFile.FieldType)).before aw Z = true := hw _ (List.mem_of_getElem? (i := 104) rfl)
theorem W_105 {Z : State} {aw : Array Value} (hw : ∀ d ∈ tables_1, d.before aw Z = true) : (Jvm.Cond.methodLink "java/util/ArrayList" (1 : Nat) ({ cls := "java/util/AbstractList", name := "<init>", desc := "()V" } : Jvm.MethodName)).before aw Z = true := hw _ (List.mem_of_getElem? (i := 105) rfl)
theorem W_106 {Z : State} {aw : Array Value} (hw : ∀ d ∈ tables_1, d.before aw Z = true) : (Jvm.Cond.instanceMethod ({ cls := "java/util/AbstractList", name := "<init>", desc := "()V" } : Jvm.MethodName)).before aw Z = true := hw _ (List.mem_of_getElem? (i := 106) rfl)
theorem W_109 {Z : State} {aw : Array Value} (hw : ∀ d ∈ tables_1, d.before aw Z = true) : (Jvm.Cond.initialized "java/util/AbstractList").before aw Z = true := hw _ (List.mem_of_getElem? (i := 109) rfl)
theorem W_110 {Z : State} {aw : Array Value} (hw : ∀ d ∈ tables_1, d.before aw Z = true) : (Jvm.Cond.code ({ cls := "java/util/AbstractList", name := "<init>", desc := "()V" } : Jvm.MethodName) jdk_39_method_1_code (1 : Nat) (Option.none : Option Jvm.ClassFile.FieldType)).before aw Z = true := hw _ (List.mem_of_getElem? (i := 110) rfl)
theorem W_111 {Z : State} {aw : Array Value} (hw : ∀ d ∈ tables_1, d.before aw Z = true) : (Jvm.Cond.methodLink "java/util/AbstractList" (1 : Nat) ({ cls := "java/util/AbstractCollection", name := "<init>", desc := "()V" } : Jvm.MethodName)).before aw Z = true := hw _ (List.mem_of_getElem? (i := 111) rfl)
theorem W_113 {Z : State} {aw : Array Value} (hw : ∀ d ∈ tables_1, d.before aw Z = true) : (Jvm.Cond.fieldLink "java/util/AbstractList" (7 : Nat) "java/util/AbstractList" "modCount" "I").before aw Z = true := hw _ (List.mem_of_getElem? (i := 113) rfl)
theorem W_114 {Z : State} {aw : Array Value} (hw : ∀ d ∈ tables_1, d.before aw Z = true) : (Jvm.Cond.lays "java/util/ArrayList" "java/util/AbstractList" "modCount" "I").before aw Z = true := hw _ (List.mem_of_getElem? (i := 114) rfl)
theorem W_115 {Z : State} {aw : Array Value} (hw : ∀ d ∈ tables_1, d.before aw Z = true) : (Jvm.Cond.fieldLink "java/util/ArrayList" (39 : Nat) "java/util/ArrayList" "DEFAULTCAPACITY_EMPTY_ELEMENTDATA" "[Ljava/lang/Object;").before aw Z = true := hw _ (List.mem_of_getElem? (i := 115) rfl)
theorem W_116 {Z : State} {aw : Array Value} (hw : ∀ d ∈ tables_1, d.before aw Z = true) : (Jvm.Cond.fieldLink "java/util/ArrayList" (9 : Nat) "java/util/ArrayList" "elementData" "[Ljava/lang/Object;").before aw Z = true := hw _ (List.mem_of_getElem? (i := 116) rfl)
theorem W_117 {Z : State} {aw : Array Value} (hw : ∀ d ∈ tables_1, d.before aw Z = true) : (Jvm.Cond.lays "java/util/ArrayList" "java/util/ArrayList" "elementData" "[Ljava/lang/Object;").before aw Z = true := hw _ (List.mem_of_getElem? (i := 117) rfl)
theorem W_118 {Z : State} {aw : Array Value} (hw : ∀ d ∈ tables_1, d.before aw Z = true) : (Jvm.Cond.arrayClass Jvm.ClassFile.FieldType.boolean).before aw Z = true := hw _ (List.mem_of_getElem? (i := 118) rfl)
theorem W_119 {Z : State} {aw : Array Value} (hw : ∀ d ∈ tables_1, d.before aw Z = true) : (Jvm.Cond.methodLink "com/example/zonetally/zonetally/DayFaultsWholePinLaw" (29 : Nat) ({ cls := "com/example/zonetally/zonetally/DayFaults", name := "named", desc := "(Ljava/util/List;[Z)Ljava/util/List;" } : Jvm.MethodName)).before aw Z = true := hw _ (List.mem_of_getElem? (i := 119) rfl)
theorem W_120 {Z : State} {aw : Array Value} (hw : ∀ d ∈ tables_1, d.before aw Z = true) : (Jvm.Cond.declares ({ cls := "com/example/zonetally/zonetally/DayFaults", name := "named", desc := "(Ljava/util/List;[Z)Ljava/util/List;" } : Jvm.MethodName)).before aw Z = true := hw _ (List.mem_of_getElem? (i := 120) rfl)
theorem W_121 {Z : State} {aw : Array Value} (hw : ∀ d ∈ tables_1, d.before aw Z = true) : (Jvm.Cond.instanceMethod ({ cls := "com/example/zonetally/zonetally/DayFaults", name := "named", desc := "(Ljava/util/List;[Z)Ljava/util/List;" } : Jvm.MethodName)).before aw Z = true := hw _ (List.mem_of_getElem? (i := 121) rfl)
theorem W_122 {Z : State} {aw : Array Value} (hw : ∀ d ∈ tables_1, d.before aw Z = true) : (Jvm.Cond.selects "com/example/zonetally/zonetally/DayFaults" ({ cls := "com/example/zonetally/zonetally/DayFaults", name := "named", desc := "(Ljava/util/List;[Z)Ljava/util/List;" } : Jvm.MethodName) ({ cls := "com/example/zonetally/zonetally/DayFaults", name := "named", desc := "(Ljava/util/List;[Z)Ljava/util/List;" } : Jvm.MethodName)).before aw Z = true := hw _ (List.mem_of_getElem? (i := 122) rfl)
theorem W_123 {Z : State} {aw : Array Value} (hw : ∀ d ∈ tables_1, d.before aw Z = true) : (Jvm.Cond.code ({ cls := "com/example/zonetally/zonetally/DayFaults", name := "named", desc := "(Ljava/util/List;[Z)Ljava/util/List;" } : Jvm.MethodName) prog_17_method_5_code (8 : Nat) (Option.some (Jvm.ClassFile.FieldType.object "java/util/List"))).before aw Z = true := hw _ (List.mem_of_getElem? (i := 123) rfl)
theorem W_124 {Z : State} {aw : Array Value} (hw : ∀ d ∈ tables_1, d.before aw Z = true) : (Jvm.Cond.methodLink "com/example/zonetally/zonetally/DayFaultsWholePinLaw" (33 : Nat) ({ cls := "com/example/zonetally/zonetally/DayFaults", name := "file", desc := "()Lcom/example/zonetally/zonetally/DailyFile;" } : Jvm.MethodName)).before aw Z = true := hw _ (List.mem_of_getElem? (i := 124) rfl)
theorem W_125 {Z : State} {aw : Array Value} (hw : ∀ d ∈ tables_1, d.before aw Z = true) : (Jvm.Cond.declares ({ cls := "com/example/zonetally/zonetally/DayFaults", name := "file", desc := "()Lcom/example/zonetally/zonetally/DailyFile;" } : Jvm.MethodName)).before aw Z = true := hw _ (List.mem_of_getElem? (i := 125) rfl)
theorem W_126 {Z : State} {aw : Array Value} (hw : ∀ d ∈ tables_1, d.before aw Z = true) : (Jvm.Cond.instanceMethod ({ cls := "com/example/zonetally/zonetally/DayFaults", name := "file", desc := "()Lcom/example/zonetally/zonetally/DailyFile;" } : Jvm.MethodName)).before aw Z = true := hw _ (List.mem_of_getElem? (i := 126) rfl)
theorem W_127 {Z : State} {aw : Array Value} (hw : ∀ d ∈ tables_1, d.before aw Z = true) : (Jvm.Cond.selects "com/example/zonetally/zonetally/DayFaults" ({ cls := "com/example/zonetally/zonetally/DayFaults", name := "file", desc := "()Lcom/example/zonetally/zonetally/DailyFile;" } : Jvm.MethodName) ({ cls := "com/example/zonetally/zonetally/DayFaults", name := "file", desc := "()Lcom/example/zonetally/zonetally/DailyFile;" } : Jvm.MethodName)).before aw Z = true := hw _ (List.mem_of_getElem? (i := 127) rfl)
theorem W_128 {Z : State} {aw : Array Value} (hw : ∀ d ∈ tables_1, d.before aw Z = true) : (Jvm.Cond.code ({ cls := "com/example/zonetally/zonetally/DayFaults", name := "file", desc := "()Lcom/example/zonetally/zonetally/DailyFile;" } : Jvm.MethodName) prog_17_method_9_code (1 : Nat) (Option.some (Jvm.ClassFile.FieldType.object "com/example/zonetally/zonetally/DailyFile"))).before aw Z = true := hw _ (List.mem_of_getElem? (i := 128) rfl)
theorem W_129 {Z : State} {aw : Array Value} (hw : ∀ d ∈ tables_1, d.before aw Z = true) : (Jvm.Cond.methodLink "com/example/zonetally/zonetally/DayFaultsWholePinLaw" (37 : Nat) ({ cls := "com/example/zonetally/zonetally/DayFaults", name := "hours", desc := "()Ljava/util/List;" } : Jvm.MethodName)).before aw Z = true := hw _ (List.mem_of_getElem? (i := 129) rfl)
theorem W_130 {Z : State} {aw : Array Value} (hw : ∀ d ∈ tables_1, d.before aw Z = true) : (Jvm.Cond.declares ({ cls := "com/example/zonetally/zonetally/DayFaults", name := "hours", desc := "()Ljava/util/List;" } : Jvm.MethodName)).before aw Z = true := hw _ (List.mem_of_getElem? (i := 130) rfl)
theorem W_131 {Z : State} {aw : Array Value} (hw : ∀ d ∈ tables_1, d.before aw Z = true) : (Jvm.Cond.instanceMethod ({ cls := "com/example/zonetally/zonetally/DayFaults", name := "hours", desc := "()Ljava/util/List;" } : Jvm.MethodName)).before aw Z = true := hw _ (List.mem_of_getElem? (i := 131) rfl)
theorem W_132 {Z : State} {aw : Array Value} (hw : ∀ d ∈ tables_1, d.before aw Z = true) : (Jvm.Cond.selects "com/example/zonetally/zonetally/DayFaults" ({ cls := "com/example/zonetally/zonetally/DayFaults", name := "hours", desc := "()Ljava/util/List;" } : Jvm.MethodName) ({ cls := "com/example/zonetally/zonetally/DayFaults", name := "hours", desc := "()Ljava/util/List;" } : Jvm.MethodName)).before aw Z = true := hw _ (List.mem_of_getElem? (i := 132) rfl)
theorem W_133 {Z : State} {aw : Array Value} (hw : ∀ d ∈ tables_1, d.before aw Z = true) : (Jvm.Cond.code ({ cls := "com/example/zonetally/zonetally/DayFaults", name := "hours", desc := "()Ljava/util/List;" } : Jvm.MethodName) prog_17_method_10_code (1 : Nat) (Option.some (Jvm.ClassFile.FieldType.object "java/util/List"))).before aw Z = true := hw _ (List.mem_of_getElem? (i := 133) rfl)
theorem W_134 {Z : State} {aw : Array Value} (hw : ∀ d ∈ tables_1, d.before aw Z = true) : (Jvm.Cond.methodLink "com/example/zonetally/zonetally/DayFaultsWholePinLaw" (40 : Nat) ({ cls := "java/util/List", name := "size", desc := "()I" } : Jvm.MethodName)).before aw Z = true := hw _ (List.mem_of_getElem? (i := 134) rfl)
theorem W_135 {Z : State} {aw : Array Value} (hw : ∀ d ∈ tables_1, d.before aw Z = true) : (Jvm.Cond.declares ({ cls := "java/util/List", name := "size", desc := "()I" } : Jvm.MethodName)).before aw Z = true := hw _ (List.mem_of_getElem? (i := 135) rfl)
theorem W_136 {Z : State} {aw : Array Value} (hw : ∀ d ∈ tables_1, d.before aw Z = true) : (Jvm.Cond.interfaceMethod "java/util/List" "java/util/List" "size" "()I").before aw Z = true := hw _ (List.mem_of_getElem? (i := 136) rfl)
theorem W_137 {Z : State} {aw : Array Value} (hw : ∀ d ∈ tables_1, d.before aw Z = true) : (Jvm.Cond.selects "java/util/ImmutableCollections$ListN" ({ cls := "java/util/List", name := "size", desc := "()I" } : Jvm.MethodName) ({ cls := "java/util/ImmutableCollections$ListN", name := "size", desc := "()I" } : Jvm.MethodName)).before aw Z = true := hw _ (List.mem_of_getElem? (i := 137) rfl)
theorem W_138 {Z : State} {aw : Array Value} (hw : ∀ d ∈ tables_1, d.before aw Z = true) : (Jvm.Cond.instanceMethod ({ cls := "java/util/ImmutableCollections$ListN", name := "size", desc := "()I" } : Jvm.MethodName)).before aw Z = true := hw _ (List.mem_of_getElem? (i := 138) rfl)
theorem W_139 {Z : State} {aw : Array Value} (hw : ∀ d ∈ tables_1, d.before aw Z = true) : (Jvm.Cond.publicMethod ({ cls := "java/util/ImmutableCollections$ListN", name := "size", desc := "()I" } : Jvm.MethodName)).before aw Z = true := hw _ (List.mem_of_getElem? (i := 139) rfl)
theorem W_140 {Z : State} {aw : Array Value} (hw : ∀ d ∈ tables_1, d.before aw Z = true) : (Jvm.Cond.unhidden "java/util/ImmutableCollections$ListN" "size" "()I").before aw Z = true := hw _ (List.mem_of_getElem? (i := 140) rfl)
theorem W_141 {Z : State} {aw : Array Value} (hw : ∀ d ∈ tables_1, d.before aw Z = true) : (Jvm.Cond.castable "java/util/ImmutableCollections$ListN" "java/util/List").before aw Z = true := hw _ (List.mem_of_getElem? (i := 141) rfl)
theorem W_142 {Z : State} {aw : Array Value} (hw : ∀ d ∈ tables_1, d.before aw Z = true) : (Jvm.Cond.initialized "java/util/ImmutableCollections$ListN").before aw Z = true := hw _ (List.mem_of_getElem? (i := 142) rfl)
theorem W_143 {Z : State} {aw : Array Value} (hw : ∀ d ∈ tables_1, d.before aw Z = true) : (Jvm.Cond.code ({ cls := "java/util/ImmutableCollections$ListN", name := "size", desc := "()I" } : Jvm.MethodName) jdk_45_method_3_code (1 : Nat) (Option.some Jvm.ClassFile.FieldType.int)).before aw Z = true := hw _ (List.mem_of_getElem? (i := 143) rfl)
theorem W_144 {Z : State} {aw : Array Value} (hw : ∀ d ∈ tables_1, d.before aw Z = true) : (Jvm.Cond.fieldLink "java/util/ImmutableCollections$ListN" (7 : Nat) "java/util/ImmutableCollections$ListN" "elements" "[Ljava/lang/Object;").before aw Z = true := hw _ (List.mem_of_getElem? (i := 144) rfl)
theorem W_146 {Z : State} {aw : Array Value} (hw : ∀ d ∈ tables_1, d.before aw Z = true) : (Jvm.Cond.methodLink "com/example/zonetally/zonetally/DayFaultsWholePinLaw" (46 : Nat) ({ cls := "com/example/zonetally/zonetally/DayFaults", name := "unlisted", desc := "()Ljava/util/List;" } : Jvm.MethodName)).before aw Z = true := hw _ (List.mem_of_getElem? (i := 146) rfl)
theorem W_147 {Z : State} {aw : Array Value} (hw : ∀ d ∈ tables_1, d.before aw Z = true) : (Jvm.Cond.declares ({ cls := "com/example/zonetally/zonetally/DayFaults", name := "unlisted", desc := "()Ljava/util/List;" } : Jvm.MethodName)).before aw Z = true := hw _ (List.mem_of_getElem? (i := 147) rfl)
theorem W_148 {Z : State} {aw : Array Value} (hw : ∀ d ∈ tables_1, d.before aw Z = true) : (Jvm.Cond.instanceMethod ({ cls := "com/example/zonetally/zonetally/DayFaults", name := "unlisted", desc := "()Ljava/util/List;" } : Jvm.MethodName)).before aw Z = true := hw _ (List.mem_of_getElem? (i := 148) rfl)
theorem W_149 {Z : State} {aw : Array Value} (hw : ∀ d ∈ tables_1, d.before aw Z = true) : (Jvm.Cond.selects "com/example/zonetally/zonetally/DayFaults" ({ cls := "com/example/zonetally/zonetally/DayFaults", name := "unlisted", desc := "()Ljava/util/List;" } : Jvm.MethodName) ({ cls := "com/example/zonetally/zonetally/DayFaults", name := "unlisted", desc := "()Ljava/util/List;" } : Jvm.MethodName)).before aw Z = true := hw _ (List.mem_of_getElem? (i := 149) rfl)
theorem W_150 {Z : State} {aw : Array Value} (hw : ∀ d ∈ tables_1, d.before aw Z = true) : (Jvm.Cond.code ({ cls := "com/example/zonetally/zonetally/DayFaults", name := "unlisted", desc := "()Ljava/util/List;" } : Jvm.MethodName) prog_17_method_12_code (1 : Nat) (Option.some (Jvm.ClassFile.FieldType.object "java/util/List"))).before aw Z = true := hw _ (List.mem_of_getElem? (i := 150) rfl)
theorem W_151 {Z : State} {aw : Array Value} (hw : ∀ d ∈ tables_1, d.before aw Z = true) : (Jvm.Cond.methodLink "com/example/zonetally/zonetally/DayFaultsWholePinLaw" (49 : Nat) ({ cls := "com/example/zonetally/zonetally/DayFaults", name := "lacking", desc := "()J" } : Jvm.MethodName)).before aw Z = true := hw _ (List.mem_of_getElem? (i := 151) rfl)
theorem W_152 {Z : State} {aw : Array Value} (hw : ∀ d ∈ tables_1, d.before aw Z = true) : (Jvm.Cond.declares ({ cls := "com/example/zonetally/zonetally/DayFaults", name := "lacking", desc := "()J" } : Jvm.MethodName)).before aw Z = true := hw _ (List.mem_of_getElem? (i := 152) rfl)
theorem W_153 {Z : State} {aw : Array Value} (hw : ∀ d ∈ tables_1, d.before aw Z = true) : (Jvm.Cond.instanceMethod ({ cls := "com/example/zonetally/zonetally/DayFaults", name := "lacking", desc := "()J" } : Jvm.MethodName)).before aw Z = true := hw _ (List.mem_of_getElem? (i := 153) rfl)
theorem W_154 {Z : State} {aw : Array Value} (hw : ∀ d ∈ tables_1, d.before aw Z = true) : (Jvm.Cond.selects "com/example/zonetally/zonetally/DayFaults" ({ cls := "com/example/zonetally/zonetally/DayFaults", name := "lacking", desc := "()J" } : Jvm.MethodName) ({ cls := "com/example/zonetally/zonetally/DayFaults", name := "lacking", desc := "()J" } : Jvm.MethodName)).before aw Z = true := hw _ (List.mem_of_getElem? (i := 154) rfl)
theorem W_155 {Z : State} {aw : Array Value} (hw : ∀ d ∈ tables_1, d.before aw Z = true) : (Jvm.Cond.code ({ cls := "com/example/zonetally/zonetally/DayFaults", name := "lacking", desc := "()J" } : Jvm.MethodName) prog_17_method_13_code (1 : Nat) (Option.some Jvm.ClassFile.FieldType.long)).before aw Z = true := hw _ (List.mem_of_getElem? (i := 155) rfl)
theorem W_156 {Z : State} {aw : Array Value} (hw : ∀ d ∈ tables_1, d.before aw Z = true) : (Jvm.Cond.selects "java/util/ImmutableCollections$List12" ({ cls := "java/util/List", name := "size", desc := "()I" } : Jvm.MethodName) ({ cls := "java/util/ImmutableCollections$List12", name := "size", desc := "()I" } : Jvm.MethodName)).before aw Z = true := hw _ (List.mem_of_getElem? (i := 156) rfl)
theorem W_157 {Z : State} {aw : Array Value} (hw : ∀ d ∈ tables_1, d.before aw Z = true) : (Jvm.Cond.instanceMethod ({ cls := "java/util/ImmutableCollections$List12", name := "size", desc := "()I" } : Jvm.MethodName)).before aw Z = true := hw _ (List.mem_of_getElem? (i := 157) rfl)
theorem W_158 {Z : State} {aw : Array Value} (hw : ∀ d ∈ tables_1, d.before aw Z = true) : (Jvm.Cond.publicMethod ({ cls := "java/util/ImmutableCollections$List12", name := "size", desc := "()I" } : Jvm.MethodName)).before aw Z = true := hw _ (List.mem_of_getElem? (i := 158) rfl)
theorem W_159 {Z : State} {aw : Array Value} (hw : ∀ d ∈ tables_1, d.before aw Z = true) : (Jvm.Cond.unhidden "java/util/ImmutableCollections$List12" "size" "()I").before aw Z = true := hw _ (List.mem_of_getElem? (i := 159) rfl)
theorem W_160 {Z : State} {aw : Array Value} (hw : ∀ d ∈ tables_1, d.before aw Z = true) : (Jvm.Cond.castable "java/util/ImmutableCollections$List12" "java/util/List").before aw Z = true := hw _ (List.mem_of_getElem? (i := 160) rfl)
theorem W_161 {Z : State} {aw : Array Value} (hw : ∀ d ∈ tables_1, d.before aw Z = true) : (Jvm.Cond.code ({ cls := "java/util/ImmutableCollections$List12", name := "size", desc := "()I" } : Jvm.MethodName) jdk_44_method_3_code (1 : Nat) (Option.some Jvm.ClassFile.FieldType.int)).before aw Z = true := hw _ (List.mem_of_getElem? (i := 161) rfl)
theorem W_162 {Z : State} {aw : Array Value} (hw : ∀ d ∈ tables_1, d.before aw Z = true) : (Jvm.Cond.methodLink "com/example/zonetally/zonetally/DayFaultsWholePinLaw" (53 : Nat) ({ cls := "java/util/List", name := "get", desc := "(I)Ljava/lang/Object;" } : Jvm.MethodName)).before aw Z = true := hw _ (List.mem_of_getElem? (i := 162) rfl)
theorem W_163 {Z : State} {aw : Array Value} (hw : ∀ d ∈ tables_1, d.before aw Z = true) : (Jvm.Cond.declares ({ cls := "java/util/List", name := "get", desc := "(I)Ljava/lang/Object;" } : Jvm.MethodName)).before aw Z = true := hw _ (List.mem_of_getElem? (i := 163) rfl)
theorem W_164 {Z : State} {aw : Array Value} (hw : ∀ d ∈ tables_1, d.before aw Z = true) : (Jvm.Cond.interfaceMethod "java/util/List" "java/util/List" "get" "(I)Ljava/lang/Object;").before aw Z = true := hw _ (List.mem_of_getElem? (i := 164) rfl)
theorem W_165 {Z : State} {aw : Array Value} (hw : ∀ d ∈ tables_1, d.before aw Z = true) : (Jvm.Cond.selects "java/util/ImmutableCollections$List12" ({ cls := "java/util/List", name := "get", desc := "(I)Ljava/lang/Object;" } : Jvm.MethodName) ({ cls := "java/util/ImmutableCollections$List12", name := "get", desc := "(I)Ljava/lang/Object;" } : Jvm.MethodName)).before aw Z = true := hw _ (List.mem_of_getElem? (i := 165) rfl)
theorem W_166 {Z : State} {aw : Array Value} (hw : ∀ d ∈ tables_1, d.before aw Z = true) : (Jvm.Cond.instanceMethod ({ cls := "java/util/ImmutableCollections$List12", name := "get", desc := "(I)Ljava/lang/Object;" } : Jvm.MethodName)).before aw Z = true := hw _ (List.mem_of_getElem? (i := 166) rfl)
theorem W_167 {Z : State} {aw : Array Value} (hw : ∀ d ∈ tables_1, d.before aw Z = true) : (Jvm.Cond.publicMethod ({ cls := "java/util/ImmutableCollections$List12", name := "get", desc := "(I)Ljava/lang/Object;" } : Jvm.MethodName)).before aw Z = true := hw _ (List.mem_of_getElem? (i := 167) rfl)
theorem W_168 {Z : State} {aw : Array Value} (hw : ∀ d ∈ tables_1, d.before aw Z = true) : (Jvm.Cond.unhidden "java/util/ImmutableCollections$List12" "get" "(I)Ljava/lang/Object;").before aw Z = true := hw _ (List.mem_of_getElem? (i := 168) rfl)
theorem W_169 {Z : State} {aw : Array Value} (hw : ∀ d ∈ tables_1, d.before aw Z = true) : (Jvm.Cond.code ({ cls := "java/util/ImmutableCollections$List12", name := "get", desc := "(I)Ljava/lang/Object;" } : Jvm.MethodName) jdk_44_method_5_code (2 : Nat) (Option.some (Jvm.ClassFile.FieldType.object "java/lang/Object"))).before aw Z = true := hw _ (List.mem_of_getElem? (i := 169) rfl)
theorem W_170 {Z : State} {aw : Array Value} (hw : ∀ d ∈ tables_1, d.before aw Z = true) : (Jvm.Cond.methodLink "com/example/zonetally/zonetally/DayFaultsWholePinLaw" (57 : Nat) ({ cls := "com/example/zonetally/zonetally/DayFaults", name := "namesNothing", desc := "()Z" } : Jvm.MethodName)).before aw Z = true := hw _ (List.mem_of_getElem? (i := 170) rfl)
theorem W_171 {Z : State} {aw : Array Value} (hw : ∀ d ∈ tables_1, d.before aw Z = true) : (Jvm.Cond.declares ({ cls := "com/example/zonetally/zonetally/DayFaults", name := "namesNothing", desc := "()Z" } : Jvm.MethodName)).before aw Z = true := hw _ (List.mem_of_getElem? (i := 171) rfl)
theorem W_172 {Z : State} {aw : Array Value} (hw : ∀ d ∈ tables_1, d.before aw Z = true) : (Jvm.Cond.instanceMethod ({ cls := "com/example/zonetally/zonetally/DayFaults", name := "namesNothing", desc := "()Z" } : Jvm.MethodName)).before aw Z = true := hw _ (List.mem_of_getElem? (i := 172) rfl)
theorem W_173 {Z : State} {aw : Array Value} (hw : ∀ d ∈ tables_1, d.before aw Z = true) : (Jvm.Cond.selects "com/example/zonetally/zonetally/DayFaults" ({ cls := "com/example/zonetally/zonetally/DayFaults", name := "namesNothing", desc := "()Z" } : Jvm.MethodName) ({ cls := "com/example/zonetally/zonetally/DayFaults", name := "namesNothing", desc := "()Z" } : Jvm.MethodName)).before aw Z = true := hw _ (List.mem_of_getElem? (i := 173) rfl)
theorem W_174 {Z : State} {aw : Array Value} (hw : ∀ d ∈ tables_1, d.before aw Z = true) : (Jvm.Cond.code ({ cls := "com/example/zonetally/zonetally/DayFaults", name := "namesNothing", desc := "()Z" } : Jvm.MethodName) prog_17_method_4_code (1 : Nat) (Option.some Jvm.ClassFile.FieldType.boolean)).before aw Z = true := hw _ (List.mem_of_getElem? (i := 174) rfl)
theorem W_175 {Z : State} {aw : Array Value} (hw : ∀ d ∈ tables_1, d.before aw Z = true) : (Jvm.Cond.methodLink "com/example/zonetally/zonetally/DayFaults" (43 : Nat) ({ cls := "java/util/List", name := "isEmpty", desc := "()Z" } : Jvm.MethodName)).before aw Z = true := hw _ (List.mem_of_getElem? (i := 175) rfl)
theorem W_176 {Z : State} {aw : Array Value} (hw : ∀ d ∈ tables_1, d.before aw Z = true) : (Jvm.Cond.declares ({ cls := "java/util/List", name := "isEmpty", desc := "()Z" } : Jvm.MethodName)).before aw Z = true := hw _ (List.mem_of_getElem? (i := 176) rfl)
theorem W_177 {Z : State} {aw : Array Value} (hw : ∀ d ∈ tables_1, d.before aw Z = true) : (Jvm.Cond.interfaceMethod "java/util/List" "java/util/List" "isEmpty" "()Z").before aw Z = true := hw _ (List.mem_of_getElem? (i := 177) rfl)
theorem W_178 {Z : State} {aw : Array Value} (hw : ∀ d ∈ tables_1, d.before aw Z = true) : (Jvm.Cond.selects "java/util/ImmutableCollections$List12" ({ cls := "java/util/List", name := "isEmpty", desc := "()Z" } : Jvm.MethodName) ({ cls := "java/util/ImmutableCollections$List12", name := "isEmpty", desc := "()Z" } : Jvm.MethodName)).before aw Z = true := hw _ (List.mem_of_getElem? (i := 178) rfl)
theorem W_179 {Z : State} {aw : Array Value} (hw : ∀ d ∈ tables_1, d.before aw Z = true) : (Jvm.Cond.instanceMethod ({ cls := "java/util/ImmutableCollections$List12", name := "isEmpty", desc := "()Z" } : Jvm.MethodName)).before aw Z = true := hw _ (List.mem_of_getElem? (i := 179) rfl)
theorem W_180 {Z : State} {aw : Array Value} (hw : ∀ d ∈ tables_1, d.before aw Z = true) : (Jvm.Cond.publicMethod ({ cls := "java/util/ImmutableCollections$List12", name := "isEmpty", desc := "()Z" } : Jvm.MethodName)).before aw Z = true := hw _ (List.mem_of_getElem? (i := 180) rfl)
theorem W_181 {Z : State} {aw : Array Value} (hw : ∀ d ∈ tables_1, d.before aw Z = true) : (Jvm.Cond.unhidden "java/util/ImmutableCollections$List12" "isEmpty" "()Z").before aw Z = true := hw _ (List.mem_of_getElem? (i := 181) rfl)
theorem W_182 {Z : State} {aw : Array Value} (hw : ∀ d ∈ tables_1, d.before aw Z = true) : (Jvm.Cond.code ({ cls := "java/util/ImmutableCollections$List12", name := "isEmpty", desc := "()Z" } : Jvm.MethodName) jdk_44_method_4_code (1 : Nat) (Option.some Jvm.ClassFile.FieldType.boolean)).before aw Z = true := hw _ (List.mem_of_getElem? (i := 182) rfl)
theorem W_183 {Z : State} {aw : Array Value} (hw : ∀ d ∈ tables_1, d.before aw Z = true) : (Jvm.Cond.fieldLink "java/lang/String" (38 : Nat) "java/lang/String" "COMPACT_STRINGS" "Z").before aw Z = true := hw _ (List.mem_of_getElem? (i := 183) rfl)
theorem W_184 {Z : State} {aw : Array Value} (hw : ∀ d ∈ tables_1, d.before aw Z = true) : (Jvm.Cond.methodLink "java/lang/String" (177 : Nat) ({ cls := "java/lang/StringUTF16", name := "compress", desc := "([CII)[B" } : Jvm.MethodName)).before aw Z = true := hw _ (List.mem_of_getElem? (i := 184) rfl)
theorem W_185 {Z : State} {aw : Array Value} (hw : ∀ d ∈ tables_1, d.before aw Z = true) : (Jvm.Cond.static ({ cls := "java/lang/StringUTF16", name := "compress", desc := "([CII)[B" } : Jvm.MethodName)).before aw Z = true := hw _ (List.mem_of_getElem? (i := 185) rfl)
theorem W_186 {Z : State} {aw : Array Value} (hw : ∀ d ∈ tables_1, d.before aw Z = true) : (Jvm.Cond.initialized "java/lang/StringUTF16").before aw Z = true := hw _ (List.mem_of_getElem? (i := 186) rfl)
theorem W_187 {Z : State} {aw : Array Value} (hw : ∀ d ∈ tables_1, d.before aw Z = true) : (Jvm.Cond.code ({ cls := "java/lang/StringUTF16", name := "compress", desc := "([CII)[B" } : Jvm.MethodName) jdk_52_method_16_code (6 : Nat) (Option.some (Jvm.ClassFile.FieldType.array Jvm.ClassFile.FieldType.byte))).before aw Z = true := hw _ (List.mem_of_getElem? (i := 187) rfl)
theorem W_188 {Z : State} {aw : Array Value} (hw : ∀ d ∈ tables_1, d.before aw Z = true) : (Jvm.Cond.methodLink "java/lang/StringUTF16" (115 : Nat) ({ cls := "java/lang/StringUTF16", name := "compress", desc := "([CI[BII)I" } : Jvm.MethodName)).before aw Z = true := hw _ (List.mem_of_getElem? (i := 188) rfl)
theorem W_189 {Z : State} {aw : Array Value} (hw : ∀ d ∈ tables_1, d.before aw Z = true) : (Jvm.Cond.static ({ cls := "java/lang/StringUTF16", name := "compress", desc := "([CI[BII)I" } : Jvm.MethodName)).before aw Z = true := hw _ (List.mem_of_getElem? (i := 189) rfl)
theorem W_190 {Z : State} {aw : Array Value} (hw : ∀ d ∈ tables_1, d.before aw Z = true) : (Jvm.Cond.code ({ cls := "java/lang/StringUTF16", name := "compress", desc := "([CI[BII)I" } : Jvm.MethodName) jdk_52_method_21_code (7 : Nat) (Option.some Jvm.ClassFile.FieldType.int)).before aw Z = true := hw _ (List.mem_of_getElem? (i := 190) rfl)
theorem W_191 {Z : State} {aw : Array Value} (hw : ∀ d ∈ tables_1, d.before aw Z = true) : (Jvm.Cond.methodLink "java/lang/String" (47 : Nat) ({ cls := "java/lang/StringUTF16", name := "coderFromArrayLen", desc := "([BI)B" } : Jvm.MethodName)).before aw Z = true := hw _ (List.mem_of_getElem? (i := 191) rfl)
theorem W_192 {Z : State} {aw : Array Value} (hw : ∀ d ∈ tables_1, d.before aw Z = true) : (Jvm.Cond.static ({ cls := "java/lang/StringUTF16", name := "coderFromArrayLen", desc := "([BI)B" } : Jvm.MethodName)).before aw Z = true := hw _ (List.mem_of_getElem? (i := 192) rfl)
theorem W_193 {Z : State} {aw : Array Value} (hw : ∀ d ∈ tables_1, d.before aw Z = true) : (Jvm.Cond.code ({ cls := "java/lang/StringUTF16", name := "coderFromArrayLen", desc := "([BI)B" } : Jvm.MethodName) jdk_52_method_15_code (2 : Nat) (Option.some Jvm.ClassFile.FieldType.byte)).before aw Z = true := hw _ (List.mem_of_getElem? (i := 193) rfl)
theorem W_194 {Z : State} {aw : Array Value} (hw : ∀ d ∈ tables_1, d.before aw Z = true) : (Jvm.Cond.methodLink "com/example/zonetally/zonetally/DayFaultsWholePinLaw" (12 : Nat) ({ cls := "java/lang/String", name := "valueOf", desc := "(C)Ljava/lang/String;" } : Jvm.MethodName)).before aw Z = true := hw _ (List.mem_of_getElem? (i := 194) rfl)
theorem W_195 {Z : State} {aw : Array Value} (hw : ∀ d ∈ tables_1, d.before aw Z = true) : (Jvm.Cond.static ({ cls := "java/lang/String", name := "valueOf", desc := "(C)Ljava/lang/String;" } : Jvm.MethodName)).before aw Z = true := hw _ (List.mem_of_getElem? (i := 195) rfl)
theorem W_196 {Z : State} {aw : Array Value} (hw : ∀ d ∈ tables_1, d.before aw Z = true) : (Jvm.Cond.code ({ cls := "java/lang/String", name := "valueOf", desc := "(C)Ljava/lang/String;" } : Jvm.MethodName) jdk_42_method_139_code (1 : Nat) (Option.some (Jvm.ClassFile.FieldType.object "java/lang/String"))).before aw Z = true := hw _ (List.mem_of_getElem? (i := 196) rfl)
theorem W_197 {Z : State} {aw : Array Value} (hw : ∀ d ∈ tables_1, d.before aw Z = true) : (Jvm.Cond.methodLink "java/lang/String" (1015 : Nat) ({ cls := "java/lang/StringLatin1", name := "canEncode", desc := "(C)Z" } : Jvm.MethodName)).before aw Z = true := hw _ (List.mem_of_getElem? (i := 197) rfl)
theorem W_198 {Z : State} {aw : Array Value} (hw : ∀ d ∈ tables_1, d.before aw Z = true) : (Jvm.Cond.static ({ cls := "java/lang/StringLatin1", name := "canEncode", desc := "(C)Z" } : Jvm.MethodName)).before aw Z = true := hw _ (List.mem_of_getElem? (i := 198) rfl)
theorem W_199 {Z : State} {aw : Array Value} (hw : ∀ d ∈ tables_1, d.before aw Z = true) : (Jvm.Cond.initialized "java/lang/StringLatin1").before aw Z = true := hw _ (List.mem_of_getElem? (i := 199) rfl)
theorem W_200 {Z : State} {aw : Array Value} (hw : ∀ d ∈ tables_1, d.before aw Z = true) : (Jvm.Cond.code ({ cls := "java/lang/StringLatin1", name := "canEncode", desc := "(C)Z" } : Jvm.MethodName) jdk_43_method_3_code (1 : Nat) (Option.some Jvm.ClassFile.FieldType.boolean)).before aw Z = true := hw _ (List.mem_of_getElem? (i := 200) rfl)
theorem W_201 {Z : State} {aw : Array Value} (hw : ∀ d ∈ tables_1, d.before aw Z = true) : (Jvm.Cond.classLink "java/lang/String" (10 : Nat) "java/lang/String").before aw Z = true := hw _ (List.mem_of_getElem? (i := 201) rfl)
theorem W_202 {Z : State} {aw : Array Value} (hw : ∀ d ∈ tables_1, d.before aw Z = true) : (Jvm.Cond.methodLink "java/lang/String" (1018 : Nat) ({ cls := "java/lang/StringLatin1", name := "toBytes", desc := "(C)[B" } : Jvm.MethodName)).before aw Z = true := hw _ (List.mem_of_getElem? (i := 202) rfl)
theorem W_203 {Z : State} {aw : Array Value} (hw : ∀ d ∈ tables_1, d.before aw Z = true) : (Jvm.Cond.static ({ cls := "java/lang/StringLatin1", name := "toBytes", desc := "(C)[B" } : Jvm.MethodName)).before aw Z = true := hw _ (List.mem_of_getElem? (i := 203) rfl)
theorem W_204 {Z : State} {aw : Array Value} (hw : ∀ d ∈ tables_1, d.before aw Z = true) : (Jvm.Cond.code ({ cls := "java/lang/StringLatin1", name := "toBytes", desc := "(C)[B" } : Jvm.MethodName) jdk_43_method_46_code (1 : Nat) (Option.some (Jvm.ClassFile.FieldType.array Jvm.ClassFile.FieldType.byte))).before aw Z = true := hw _ (List.mem_of_getElem? (i := 204) rfl)
theorem W_205 {Z : State} {aw : Array Value} (hw : ∀ d ∈ tables_1, d.before aw Z = true) : (Jvm.Cond.methodLink "java/lang/String" (209 : Nat) ({ cls := "java/lang/String", name := "<init>", desc := "([BB)V" } : Jvm.MethodName)).before aw Z = true := hw _ (List.mem_of_getElem? (i := 205) rfl)
theorem W_206 {Z : State} {aw : Array Value} (hw : ∀ d ∈ tables_1, d.before aw Z = true) : (Jvm.Cond.instanceMethod ({ cls := "java/lang/String", name := "<init>", desc := "([BB)V" } : Jvm.MethodName)).before aw Z = true := hw _ (List.mem_of_getElem? (i := 206) rfl)
theorem W_207 {Z : State} {aw : Array Value} (hw : ∀ d ∈ tables_1, d.before aw Z = true) : (Jvm.Cond.code ({ cls := "java/lang/String", name := "<init>", desc := "([BB)V" } : Jvm.MethodName) jdk_42_method_151_code (3 : Nat) (Option.none : Option Jvm.ClassFile.FieldType)).before aw Z = true := hw _ (List.mem_of_getElem? (i := 207) rfl)
abbrev EL : List (String × Nat) := [("java/lang/String", 7)]
theorem ew {Z : State} {aw : Array Value} (hw : ∀ d ∈ tables_1, d.before aw Z = true) : EW Z aw EL := (EW.cons (W_14 hw) (by decide +kernel) EW.nil)
theorem strAtoms {Z : State} {aw : Array Value} (hw : ∀ d ∈ tables_1, d.before aw Z = true) : ∀ a ∈ Bundle.stringAtoms, a.before aw Z = true := by
  intro a ha
  simp only [Bundle.stringAtoms, List.mem_cons, List.not_mem_nil, or_false] at ha
  rcases ha with rfl | rfl | rfl | rfl | rfl | rfl | rfl
  · first | exact (W_3 hw) | exact (W_2 hw) | exact (W_15 hw) | exact (W_16 hw) | exact (W_17 hw) | exact (W_18 hw) | exact (W_19 hw)
  · first | exact (W_3 hw) | exact (W_2 hw) | exact (W_15 hw) | exact (W_16 hw) | exact (W_17 hw) | exact (W_18 hw) | exact (W_19 hw)
  · first | exact (W_3 hw) | exact (W_2 hw) | exact (W_15 hw) | exact (W_16 hw) | exact (W_17 hw) | exact (W_18 hw) | exact (W_19 hw)
  · first | exact (W_3 hw) | exact (W_2 hw) | exact (W_15 hw) | exact (W_16 hw) | exact (W_17 hw) | exact (W_18 hw) | exact (W_19 hw)
  · first | exact (W_3 hw) | exact (W_2 hw) | exact (W_15 hw) | exact (W_16 hw) | exact (W_17 hw) | exact (W_18 hw) | exact (W_19 hw)
  · first | exact (W_3 hw) | exact (W_2 hw) | exact (W_15 hw) | exact (W_16 hw) | exact (W_17 hw) | exact (W_18 hw) | exact (W_19 hw)
  · first | exact (W_3 hw) | exact (W_2 hw) | exact (W_15 hw) | exact (W_16 hw) | exact (W_17 hw) | exact (W_18 hw) | exact (W_19 hw)
theorem d_jdk_22_method_1_code_0 : decode jdk_22_method_1_code 0 = .ok (.aload_n 0, 1) := by decide +kernel
theorem d_jdk_22_method_1_code_1 : decode jdk_22_method_1_code 1 = .ok (.invokespecial 1, 3) := by decide +kernel
theorem d_jdk_22_method_1_code_4 : decode jdk_22_method_1_code 4 = .ok (.return_, 1) := by decide +kernel
theorem d_jdk_47_method_1_code_0 : decode jdk_47_method_1_code 0 = .ok (.aload_n 0, 1) := by decide +kernel
theorem d_jdk_47_method_1_code_1 : decode jdk_47_method_1_code 1 = .ok (.invokespecial 1, 3) := by decide +kernel
theorem d_jdk_47_method_1_code_4 : decode jdk_47_method_1_code 4 = .ok (.return_, 1) := by decide +kernel
theorem d_jdk_46_method_1_code_0 : decode jdk_46_method_1_code 0 = .ok (.aload_n 0, 1) := by decide +kernel
theorem d_jdk_46_method_1_code_1 : decode jdk_46_method_1_code 1 = .ok (.invokespecial 1, 3) := by decide +kernel
theorem d_jdk_46_method_1_code_4 : decode jdk_46_method_1_code 4 = .ok (.return_, 1) := by decide +kernel
theorem d_jdk_30_method_1_code_0 : decode jdk_30_method_1_code 0 = .ok (.aload_n 0, 1) := by decide +kernel
theorem d_jdk_30_method_1_code_1 : decode jdk_30_method_1_code 1 = .ok (.invokespecial 1, 3) := by decide +kernel
theorem d_jdk_30_method_1_code_4 : decode jdk_30_method_1_code 4 = .ok (.return_, 1) := by decide +kernel
theorem d_jdk_31_method_10_code_0 : decode jdk_31_method_10_code 0 = .ok (.aload_n 0, 1) := by decide +kernel
theorem d_jdk_31_method_10_code_1 : decode jdk_31_method_10_code 1 = .ok (.ifnonnull 11, 3) := by decide +kernel
theorem d_jdk_31_method_10_code_12 : decode jdk_31_method_10_code 12 = .ok (.aload_n 0, 1) := by decide +kernel
theorem d_jdk_31_method_10_code_13 : decode jdk_31_method_10_code 13 = .ok (.areturn, 1) := by decide +kernel
theorem d_jdk_44_method_1_code_0 : decode jdk_44_method_1_code 0 = .ok (.aload_n 0, 1) := by decide +kernel
theorem d_jdk_44_method_1_code_1 : decode jdk_44_method_1_code 1 = .ok (.invokespecial 1, 3) := by decide +kernel
theorem d_jdk_44_method_1_code_4 : decode jdk_44_method_1_code 4 = .ok (.aload_n 0, 1) := by decide +kernel
theorem d_jdk_44_method_1_code_5 : decode jdk_44_method_1_code 5 = .ok (.aload_n 1, 1) := by decide +kernel
theorem d_jdk_44_method_1_code_6 : decode jdk_44_method_1_code 6 = .ok (.invokestatic 7, 3) := by decide +kernel
theorem d_jdk_44_method_1_code_9 : decode jdk_44_method_1_code 9 = .ok (.putfield 13, 3) := by decide +kernel
theorem d_jdk_44_method_1_code_12 : decode jdk_44_method_1_code 12 = .ok (.aload_n 0, 1) := by decide +kernel
theorem d_jdk_44_method_1_code_13 : decode jdk_44_method_1_code 13 = .ok (.getstatic 19, 3) := by decide +kernel
theorem d_jdk_44_method_1_code_16 : decode jdk_44_method_1_code 16 = .ok (.putfield 24, 3) := by decide +kernel
theorem d_jdk_44_method_1_code_19 : decode jdk_44_method_1_code 19 = .ok (.return_, 1) := by decide +kernel
theorem d_jdk_40_method_37_code_0 : decode jdk_40_method_37_code 0 = .ok (.new 96, 3) := by decide +kernel
theorem d_jdk_40_method_37_code_3 : decode jdk_40_method_37_code 3 = .ok (.dup, 1) := by decide +kernel
theorem d_jdk_40_method_37_code_4 : decode jdk_40_method_37_code 4 = .ok (.aload_n 0, 1) := by decide +kernel
theorem d_jdk_40_method_37_code_5 : decode jdk_40_method_37_code 5 = .ok (.invokespecial 98, 3) := by decide +kernel
theorem d_jdk_40_method_37_code_8 : decode jdk_40_method_37_code 8 = .ok (.areturn, 1) := by decide +kernel
theorem d_jdk_40_method_36_code_0 : decode jdk_40_method_36_code 0 = .ok (.getstatic 90, 3) := by decide +kernel
theorem d_jdk_40_method_36_code_3 : decode jdk_40_method_36_code 3 = .ok (.areturn, 1) := by decide +kernel
theorem d_prog_17_method_1_code_0 : decode prog_17_method_1_code 0 = .ok (.aload_n 0, 1) := by decide +kernel
theorem d_prog_17_method_1_code_1 : decode prog_17_method_1_code 1 = .ok (.invokespecial 1, 3) := by decide +kernel
theorem d_prog_17_method_1_code_4 : decode prog_17_method_1_code 4 = .ok (.aload_n 0, 1) := by decide +kernel
theorem d_prog_17_method_1_code_5 : decode prog_17_method_1_code 5 = .ok (.aload_n 1, 1) := by decide +kernel
theorem d_prog_17_method_1_code_6 : decode prog_17_method_1_code 6 = .ok (.putfield 7, 3) := by decide +kernel
theorem d_prog_17_method_1_code_9 : decode prog_17_method_1_code 9 = .ok (.aload_n 0, 1) := by decide +kernel
theorem d_prog_17_method_1_code_10 : decode prog_17_method_1_code 10 = .ok (.aload_n 2, 1) := by decide +kernel
theorem d_prog_17_method_1_code_11 : decode prog_17_method_1_code 11 = .ok (.putfield 13, 3) := by decide +kernel
theorem d_prog_17_method_1_code_14 : decode prog_17_method_1_code 14 = .ok (.aload_n 0, 1) := by decide +kernel
theorem d_prog_17_method_1_code_15 : decode prog_17_method_1_code 15 = .ok (.aload_n 3, 1) := by decide +kernel
theorem d_prog_17_method_1_code_16 : decode prog_17_method_1_code 16 = .ok (.putfield 17, 3) := by decide +kernel
theorem d_prog_17_method_1_code_19 : decode prog_17_method_1_code 19 = .ok (.aload_n 0, 1) := by decide +kernel
theorem d_prog_17_method_1_code_20 : decode prog_17_method_1_code 20 = .ok (.aload 4, 2) := by decide +kernel
theorem d_prog_17_method_1_code_22 : decode prog_17_method_1_code 22 = .ok (.putfield 20, 3) := by decide +kernel
theorem d_prog_17_method_1_code_25 : decode prog_17_method_1_code 25 = .ok (.aload_n 0, 1) := by decide +kernel
theorem d_prog_17_method_1_code_26 : decode prog_17_method_1_code 26 = .ok (.lload 5, 2) := by decide +kernel
theorem d_prog_17_method_1_code_28 : decode prog_17_method_1_code 28 = .ok (.putfield 23, 3) := by decide +kernel
theorem d_prog_17_method_1_code_31 : decode prog_17_method_1_code 31 = .ok (.return_, 1) := by decide +kernel
theorem d_prog_17_method_3_code_0 : decode prog_17_method_3_code 0 = .ok (.new 8, 3) := by decide +kernel
theorem d_prog_17_method_3_code_3 : decode prog_17_method_3_code 3 = .ok (.dup, 1) := by decide +kernel
theorem d_prog_17_method_3_code_4 : decode prog_17_method_3_code 4 = .ok (.aconst_null, 1) := by decide +kernel
theorem d_prog_17_method_3_code_5 : decode prog_17_method_3_code 5 = .ok (.invokestatic 37, 3) := by decide +kernel
theorem d_prog_17_method_3_code_8 : decode prog_17_method_3_code 8 = .ok (.aload_n 0, 1) := by decide +kernel
theorem d_prog_17_method_3_code_9 : decode prog_17_method_3_code 9 = .ok (.invokestatic 37, 3) := by decide +kernel
theorem d_prog_17_method_3_code_12 : decode prog_17_method_3_code 12 = .ok (.lconst 0, 1) := by decide +kernel
theorem d_prog_17_method_3_code_13 : decode prog_17_method_3_code 13 = .ok (.invokespecial 40, 3) := by decide +kernel
theorem d_prog_17_method_3_code_16 : decode prog_17_method_3_code 16 = .ok (.areturn, 1) := by decide +kernel
theorem d_prog_17_method_2_code_0 : decode prog_17_method_2_code 0 = .ok (.aload_n 0, 1) := by decide +kernel
theorem d_prog_17_method_2_code_1 : decode prog_17_method_2_code 1 = .ok (.invokestatic 27, 3) := by decide +kernel
theorem d_prog_17_method_2_code_4 : decode prog_17_method_2_code 4 = .ok (.invokestatic 33, 3) := by decide +kernel
theorem d_prog_17_method_2_code_7 : decode prog_17_method_2_code 7 = .ok (.areturn, 1) := by decide +kernel
theorem d_prog_17_method_9_code_0 : decode prog_17_method_9_code 0 = .ok (.aload_n 0, 1) := by decide +kernel
theorem d_prog_17_method_9_code_1 : decode prog_17_method_9_code 1 = .ok (.getfield 7, 3) := by decide +kernel
theorem d_prog_17_method_9_code_4 : decode prog_17_method_9_code 4 = .ok (.areturn, 1) := by decide +kernel
theorem d_prog_17_method_10_code_0 : decode prog_17_method_10_code 0 = .ok (.aload_n 0, 1) := by decide +kernel
theorem d_prog_17_method_10_code_1 : decode prog_17_method_10_code 1 = .ok (.getfield 13, 3) := by decide +kernel
theorem d_prog_17_method_10_code_4 : decode prog_17_method_10_code 4 = .ok (.areturn, 1) := by decide +kernel
theorem d_prog_17_method_11_code_0 : decode prog_17_method_11_code 0 = .ok (.aload_n 0, 1) := by decide +kernel
theorem d_prog_17_method_11_code_1 : decode prog_17_method_11_code 1 = .ok (.getfield 17, 3) := by decide +kernel
theorem d_prog_17_method_11_code_4 : decode prog_17_method_11_code 4 = .ok (.areturn, 1) := by decide +kernel
theorem d_prog_17_method_12_code_0 : decode prog_17_method_12_code 0 = .ok (.aload_n 0, 1) := by decide +kernel
theorem d_prog_17_method_12_code_1 : decode prog_17_method_12_code 1 = .ok (.getfield 20, 3) := by decide +kernel
theorem d_prog_17_method_12_code_4 : decode prog_17_method_12_code 4 = .ok (.areturn, 1) := by decide +kernel
theorem d_prog_17_method_13_code_0 : decode prog_17_method_13_code 0 = .ok (.aload_n 0, 1) := by decide +kernel
theorem d_prog_17_method_13_code_1 : decode prog_17_method_13_code 1 = .ok (.getfield 23, 3) := by decide +kernel
theorem d_prog_17_method_13_code_4 : decode prog_17_method_13_code 4 = .ok (.lreturn, 1) := by decide +kernel
theorem d_prog_17_method_5_code_0 : decode prog_17_method_5_code 0 = .ok (.aload_n 0, 1) := by decide +kernel
theorem d_prog_17_method_5_code_1 : decode prog_17_method_5_code 1 = .ok (.getfield 23, 3) := by decide +kernel
theorem d_prog_17_method_5_code_4 : decode prog_17_method_5_code 4 = .ok (.lconst 0, 1) := by decide +kernel
theorem d_prog_17_method_5_code_5 : decode prog_17_method_5_code 5 = .ok (.lcmp, 1) := by decide +kernel
theorem d_prog_17_method_5_code_6 : decode prog_17_method_5_code 6 = .ok (.ifCond .ne 8, 3) := by decide +kernel
theorem d_prog_17_method_5_code_9 : decode prog_17_method_5_code 9 = .ok (.aload_n 0, 1) := by decide +kernel
theorem d_prog_17_method_5_code_10 : decode prog_17_method_5_code 10 = .ok (.getfield 17, 3) := by decide +kernel
theorem d_prog_17_method_5_code_13 : decode prog_17_method_5_code 13 = .ok (.areturn, 1) := by decide +kernel
theorem d_jdk_45_method_3_code_0 : decode jdk_45_method_3_code 0 = .ok (.aload_n 0, 1) := by decide +kernel
theorem d_jdk_45_method_3_code_1 : decode jdk_45_method_3_code 1 = .ok (.getfield 7, 3) := by decide +kernel
theorem d_jdk_45_method_3_code_4 : decode jdk_45_method_3_code 4 = .ok (.arraylength, 1) := by decide +kernel
theorem d_jdk_45_method_3_code_5 : decode jdk_45_method_3_code 5 = .ok (.ireturn, 1) := by decide +kernel
theorem d_jdk_44_method_3_code_0 : decode jdk_44_method_3_code 0 = .ok (.aload_n 0, 1) := by decide +kernel
theorem d_jdk_44_method_3_code_1 : decode jdk_44_method_3_code 1 = .ok (.getfield 24, 3) := by decide +kernel
theorem d_jdk_44_method_3_code_4 : decode jdk_44_method_3_code 4 = .ok (.getstatic 19, 3) := by decide +kernel
theorem d_jdk_44_method_3_code_7 : decode jdk_44_method_3_code 7 = .ok (.if_acmp .eq 7, 3) := by decide +kernel
theorem d_jdk_44_method_3_code_14 : decode jdk_44_method_3_code 14 = .ok (.iconst 1, 1) := by decide +kernel
theorem d_jdk_44_method_3_code_15 : decode jdk_44_method_3_code 15 = .ok (.ireturn, 1) := by decide +kernel
theorem d_jdk_44_method_5_code_0 : decode jdk_44_method_5_code 0 = .ok (.iload_n 1, 1) := by decide +kernel
theorem d_jdk_44_method_5_code_1 : decode jdk_44_method_5_code 1 = .ok (.ifCond .ne 8, 3) := by decide +kernel
theorem d_jdk_44_method_5_code_4 : decode jdk_44_method_5_code 4 = .ok (.aload_n 0, 1) := by decide +kernel
theorem d_jdk_44_method_5_code_5 : decode jdk_44_method_5_code 5 = .ok (.getfield 13, 3) := by decide +kernel
theorem d_jdk_44_method_5_code_8 : decode jdk_44_method_5_code 8 = .ok (.areturn, 1) := by decide +kernel
theorem d_jdk_44_method_4_code_0 : decode jdk_44_method_4_code 0 = .ok (.iconst 0, 1) := by decide +kernel
theorem d_jdk_44_method_4_code_1 : decode jdk_44_method_4_code 1 = .ok (.ireturn, 1) := by decide +kernel
theorem d_prog_17_method_4_code_0 : decode prog_17_method_4_code 0 = .ok (.aload_n 0, 1) := by decide +kernel
theorem d_prog_17_method_4_code_1 : decode prog_17_method_4_code 1 = .ok (.getfield 17, 3) := by decide +kernel
theorem d_prog_17_method_4_code_4 : decode prog_17_method_4_code 4 = .ok (.invokeinterface 43 1, 5) := by decide +kernel
theorem d_prog_17_method_4_code_9 : decode prog_17_method_4_code 9 = .ok (.ifCond .eq 16, 3) := by decide +kernel
theorem d_prog_17_method_4_code_25 : decode prog_17_method_4_code 25 = .ok (.iconst 0, 1) := by decide +kernel
theorem d_prog_17_method_4_code_26 : decode prog_17_method_4_code 26 = .ok (.ireturn, 1) := by decide +kernel
theorem d_jdk_39_method_1_code_0 : decode jdk_39_method_1_code 0 = .ok (.aload_n 0, 1) := by decide +kernel
theorem d_jdk_39_method_1_code_1 : decode jdk_39_method_1_code 1 = .ok (.invokespecial 1, 3) := by decide +kernel
theorem d_jdk_39_method_1_code_4 : decode jdk_39_method_1_code 4 = .ok (.aload_n 0, 1) := by decide +kernel
theorem d_jdk_39_method_1_code_5 : decode jdk_39_method_1_code 5 = .ok (.iconst 0, 1) := by decide +kernel
theorem d_jdk_39_method_1_code_6 : decode jdk_39_method_1_code 6 = .ok (.putfield 7, 3) := by decide +kernel
theorem d_jdk_39_method_1_code_9 : decode jdk_39_method_1_code 9 = .ok (.return_, 1) := by decide +kernel
theorem d_jdk_38_method_2_code_0 : decode jdk_38_method_2_code 0 = .ok (.aload_n 0, 1) := by decide +kernel
theorem d_jdk_38_method_2_code_1 : decode jdk_38_method_2_code 1 = .ok (.invokespecial 1, 3) := by decide +kernel
theorem d_jdk_38_method_2_code_4 : decode jdk_38_method_2_code 4 = .ok (.aload_n 0, 1) := by decide +kernel
theorem d_jdk_38_method_2_code_5 : decode jdk_38_method_2_code 5 = .ok (.getstatic 39, 3) := by decide +kernel
theorem d_jdk_38_method_2_code_8 : decode jdk_38_method_2_code 8 = .ok (.putfield 9, 3) := by decide +kernel
theorem d_jdk_38_method_2_code_11 : decode jdk_38_method_2_code 11 = .ok (.return_, 1) := by decide +kernel
theorem d_jdk_43_method_3_code_0 : decode jdk_43_method_3_code 0 = .ok (.iload_n 0, 1) := by decide +kernel
theorem d_jdk_43_method_3_code_1 : decode jdk_43_method_3_code 1 = .ok (.sipush 255, 3) := by decide +kernel
theorem d_jdk_43_method_3_code_4 : decode jdk_43_method_3_code 4 = .ok (.if_icmp .gt 7, 3) := by decide +kernel
theorem d_jdk_43_method_3_code_7 : decode jdk_43_method_3_code 7 = .ok (.iconst 1, 1) := by decide +kernel
theorem d_jdk_43_method_3_code_8 : decode jdk_43_method_3_code 8 = .ok (.goto 4, 3) := by decide +kernel
theorem d_jdk_43_method_3_code_12 : decode jdk_43_method_3_code 12 = .ok (.ireturn, 1) := by decide +kernel
theorem d_jdk_43_method_46_code_0 : decode jdk_43_method_46_code 0 = .ok (.iconst 1, 1) := by decide +kernel
theorem d_jdk_43_method_46_code_1 : decode jdk_43_method_46_code 1 = .ok (.newarray .byte, 2) := by decide +kernel
theorem d_jdk_43_method_46_code_3 : decode jdk_43_method_46_code 3 = .ok (.dup, 1) := by decide +kernel
theorem d_jdk_43_method_46_code_4 : decode jdk_43_method_46_code 4 = .ok (.iconst 0, 1) := by decide +kernel
theorem d_jdk_43_method_46_code_5 : decode jdk_43_method_46_code 5 = .ok (.iload_n 0, 1) := by decide +kernel
theorem d_jdk_43_method_46_code_6 : decode jdk_43_method_46_code 6 = .ok (.i2b, 1) := by decide +kernel
theorem d_jdk_43_method_46_code_7 : decode jdk_43_method_46_code 7 = .ok (.bastore, 1) := by decide +kernel
theorem d_jdk_43_method_46_code_8 : decode jdk_43_method_46_code 8 = .ok (.areturn, 1) := by decide +kernel
theorem d_jdk_42_method_151_code_0 : decode jdk_42_method_151_code 0 = .ok (.aload_n 0, 1) := by decide +kernel
theorem d_jdk_42_method_151_code_1 : decode jdk_42_method_151_code 1 = .ok (.invokespecial 1, 3) := by decide +kernel
theorem d_jdk_42_method_151_code_4 : decode jdk_42_method_151_code 4 = .ok (.aload_n 0, 1) := by decide +kernel
theorem d_jdk_42_method_151_code_5 : decode jdk_42_method_151_code 5 = .ok (.aload_n 1, 1) := by decide +kernel
theorem d_jdk_42_method_151_code_6 : decode jdk_42_method_151_code 6 = .ok (.putfield 9, 3) := by decide +kernel
theorem d_jdk_42_method_151_code_9 : decode jdk_42_method_151_code 9 = .ok (.aload_n 0, 1) := by decide +kernel
theorem d_jdk_42_method_151_code_10 : decode jdk_42_method_151_code 10 = .ok (.iload_n 2, 1) := by decide +kernel
theorem d_jdk_42_method_151_code_11 : decode jdk_42_method_151_code 11 = .ok (.putfield 15, 3) := by decide +kernel
theorem d_jdk_42_method_151_code_14 : decode jdk_42_method_151_code 14 = .ok (.return_, 1) := by decide +kernel
theorem d_jdk_42_method_139_code_0 : decode jdk_42_method_139_code 0 = .ok (.getstatic 38, 3) := by decide +kernel
theorem d_jdk_42_method_139_code_3 : decode jdk_42_method_139_code 3 = .ok (.ifCond .eq 23, 3) := by decide +kernel
theorem d_jdk_42_method_139_code_6 : decode jdk_42_method_139_code 6 = .ok (.iload_n 0, 1) := by decide +kernel
theorem d_jdk_42_method_139_code_7 : decode jdk_42_method_139_code 7 = .ok (.invokestatic 1015, 3) := by decide +kernel
theorem d_jdk_42_method_139_code_10 : decode jdk_42_method_139_code 10 = .ok (.ifCond .eq 16, 3) := by decide +kernel
theorem d_jdk_42_method_139_code_13 : decode jdk_42_method_139_code 13 = .ok (.new 10, 3) := by decide +kernel
theorem d_jdk_42_method_139_code_16 : decode jdk_42_method_139_code 16 = .ok (.dup, 1) := by decide +kernel
theorem d_jdk_42_method_139_code_17 : decode jdk_42_method_139_code 17 = .ok (.iload_n 0, 1) := by decide +kernel
theorem d_jdk_42_method_139_code_18 : decode jdk_42_method_139_code 18 = .ok (.invokestatic 1018, 3) := by decide +kernel
theorem d_jdk_42_method_139_code_21 : decode jdk_42_method_139_code 21 = .ok (.iconst 0, 1) := by decide +kernel
theorem d_jdk_42_method_139_code_22 : decode jdk_42_method_139_code 22 = .ok (.invokespecial 209, 3) := by decide +kernel
theorem d_jdk_42_method_139_code_25 : decode jdk_42_method_139_code 25 = .ok (.areturn, 1) := by decide +kernel
theorem d_jdk_42_method_149_code_0 : decode jdk_42_method_149_code 0 = .ok (.aload_n 0, 1) := by decide +kernel
theorem d_jdk_42_method_149_code_1 : decode jdk_42_method_149_code 1 = .ok (.invokespecial 1, 3) := by decide +kernel
theorem d_jdk_42_method_149_code_4 : decode jdk_42_method_149_code 4 = .ok (.iload_n 3, 1) := by decide +kernel
theorem d_jdk_42_method_149_code_5 : decode jdk_42_method_149_code 5 = .ok (.ifCond .ne 22, 3) := by decide +kernel
theorem d_jdk_42_method_149_code_8 : decode jdk_42_method_149_code 8 = .ok (.aload_n 0, 1) := by decide +kernel
theorem d_jdk_42_method_149_code_9 : decode jdk_42_method_149_code 9 = .ok (.ldc 7, 2) := by decide +kernel
theorem d_jdk_42_method_149_code_11 : decode jdk_42_method_149_code 11 = .ok (.getfield 9, 3) := by decide +kernel
theorem d_jdk_42_method_149_code_14 : decode jdk_42_method_149_code 14 = .ok (.putfield 9, 3) := by decide +kernel
theorem d_jdk_42_method_149_code_17 : decode jdk_42_method_149_code 17 = .ok (.aload_n 0, 1) := by decide +kernel
theorem d_jdk_42_method_149_code_18 : decode jdk_42_method_149_code 18 = .ok (.ldc 7, 2) := by decide +kernel
theorem d_jdk_42_method_149_code_20 : decode jdk_42_method_149_code 20 = .ok (.getfield 15, 3) := by decide +kernel
theorem d_jdk_42_method_149_code_23 : decode jdk_42_method_149_code 23 = .ok (.putfield 15, 3) := by decide +kernel
theorem d_jdk_42_method_149_code_26 : decode jdk_42_method_149_code 26 = .ok (.return_, 1) := by decide +kernel
theorem d_jdk_42_method_3_code_0 : decode jdk_42_method_3_code 0 = .ok (.aload_n 0, 1) := by decide +kernel
theorem d_jdk_42_method_3_code_1 : decode jdk_42_method_3_code 1 = .ok (.aload_n 1, 1) := by decide +kernel
theorem d_jdk_42_method_3_code_2 : decode jdk_42_method_3_code 2 = .ok (.iconst 0, 1) := by decide +kernel
theorem d_jdk_42_method_3_code_3 : decode jdk_42_method_3_code 3 = .ok (.aload_n 1, 1) := by decide +kernel
theorem d_jdk_42_method_3_code_4 : decode jdk_42_method_3_code 4 = .ok (.arraylength, 1) := by decide +kernel
theorem d_jdk_42_method_3_code_5 : decode jdk_42_method_3_code 5 = .ok (.aconst_null, 1) := by decide +kernel
theorem d_jdk_42_method_3_code_6 : decode jdk_42_method_3_code 6 = .ok (.invokespecial 27, 3) := by decide +kernel
theorem d_jdk_42_method_3_code_9 : decode jdk_42_method_3_code 9 = .ok (.return_, 1) := by decide +kernel
theorem d_jdk_52_method_21_code_0 : decode jdk_52_method_21_code 0 = .ok (.iconst 0, 1) := by decide +kernel
theorem d_jdk_52_method_21_code_1 : decode jdk_52_method_21_code 1 = .ok (.istore 5, 2) := by decide +kernel
theorem d_jdk_52_method_21_code_3 : decode jdk_52_method_21_code 3 = .ok (.iload 5, 2) := by decide +kernel
theorem d_jdk_52_method_21_code_5 : decode jdk_52_method_21_code 5 = .ok (.iload 4, 2) := by decide +kernel
theorem d_jdk_52_method_21_code_7 : decode jdk_52_method_21_code 7 = .ok (.if_icmp .ge 37, 3) := by decide +kernel
theorem d_jdk_52_method_21_code_10 : decode jdk_52_method_21_code 10 = .ok (.aload_n 0, 1) := by decide +kernel
theorem d_jdk_52_method_21_code_11 : decode jdk_52_method_21_code 11 = .ok (.iload_n 1, 1) := by decide +kernel
theorem d_jdk_52_method_21_code_12 : decode jdk_52_method_21_code 12 = .ok (.caload, 1) := by decide +kernel
theorem d_jdk_52_method_21_code_13 : decode jdk_52_method_21_code 13 = .ok (.istore 6, 2) := by decide +kernel
theorem d_jdk_52_method_21_code_15 : decode jdk_52_method_21_code 15 = .ok (.iload 6, 2) := by decide +kernel
theorem d_jdk_52_method_21_code_17 : decode jdk_52_method_21_code 17 = .ok (.sipush 255, 3) := by decide +kernel
theorem d_jdk_52_method_21_code_20 : decode jdk_52_method_21_code 20 = .ok (.if_icmp .le 6, 3) := by decide +kernel
theorem d_jdk_52_method_21_code_26 : decode jdk_52_method_21_code 26 = .ok (.aload_n 2, 1) := by decide +kernel
theorem d_jdk_52_method_21_code_27 : decode jdk_52_method_21_code 27 = .ok (.iload_n 3, 1) := by decide +kernel
theorem d_jdk_52_method_21_code_28 : decode jdk_52_method_21_code 28 = .ok (.iload 6, 2) := by decide +kernel
theorem d_jdk_52_method_21_code_30 : decode jdk_52_method_21_code 30 = .ok (.i2b, 1) := by decide +kernel
theorem d_jdk_52_method_21_code_31 : decode jdk_52_method_21_code 31 = .ok (.bastore, 1) := by decide +kernel
theorem d_jdk_52_method_21_code_32 : decode jdk_52_method_21_code 32 = .ok (.iinc 1 1, 3) := by decide +kernel
theorem d_jdk_52_method_21_code_35 : decode jdk_52_method_21_code 35 = .ok (.iinc 3 1, 3) := by decide +kernel
theorem d_jdk_52_method_21_code_38 : decode jdk_52_method_21_code 38 = .ok (.iinc 5 1, 3) := by decide +kernel
theorem d_jdk_52_method_21_code_41 : decode jdk_52_method_21_code 41 = .ok (.goto (-38), 3) := by decide +kernel
theorem d_jdk_52_method_21_code_44 : decode jdk_52_method_21_code 44 = .ok (.iload 4, 2) := by decide +kernel
theorem d_jdk_52_method_21_code_46 : decode jdk_52_method_21_code 46 = .ok (.ireturn, 1) := by decide +kernel
theorem d_jdk_52_method_16_code_0 : decode jdk_52_method_16_code 0 = .ok (.iload_n 2, 1) := by decide +kernel
theorem d_jdk_52_method_16_code_1 : decode jdk_52_method_16_code 1 = .ok (.newarray .byte, 2) := by decide +kernel
theorem d_jdk_52_method_16_code_3 : decode jdk_52_method_16_code 3 = .ok (.astore_n 3, 1) := by decide +kernel
theorem d_jdk_52_method_16_code_4 : decode jdk_52_method_16_code 4 = .ok (.aload_n 0, 1) := by decide +kernel
theorem d_jdk_52_method_16_code_5 : decode jdk_52_method_16_code 5 = .ok (.iload_n 1, 1) := by decide +kernel
theorem d_jdk_52_method_16_code_6 : decode jdk_52_method_16_code 6 = .ok (.aload_n 3, 1) := by decide +kernel
theorem d_jdk_52_method_16_code_7 : decode jdk_52_method_16_code 7 = .ok (.iconst 0, 1) := by decide +kernel
theorem d_jdk_52_method_16_code_8 : decode jdk_52_method_16_code 8 = .ok (.iload_n 2, 1) := by decide +kernel
theorem d_jdk_52_method_16_code_9 : decode jdk_52_method_16_code 9 = .ok (.invokestatic 115, 3) := by decide +kernel
theorem d_jdk_52_method_16_code_12 : decode jdk_52_method_16_code 12 = .ok (.istore 4, 2) := by decide +kernel
theorem d_jdk_52_method_16_code_14 : decode jdk_52_method_16_code 14 = .ok (.iload 4, 2) := by decide +kernel
theorem d_jdk_52_method_16_code_16 : decode jdk_52_method_16_code 16 = .ok (.iload_n 2, 1) := by decide +kernel
theorem d_jdk_52_method_16_code_17 : decode jdk_52_method_16_code 17 = .ok (.if_icmp .eq 40, 3) := by decide +kernel
theorem d_jdk_52_method_16_code_57 : decode jdk_52_method_16_code 57 = .ok (.aload_n 3, 1) := by decide +kernel
theorem d_jdk_52_method_16_code_58 : decode jdk_52_method_16_code 58 = .ok (.areturn, 1) := by decide +kernel
theorem d_jdk_52_method_15_code_0 : decode jdk_52_method_15_code 0 = .ok (.iload_n 1, 1) := by decide +kernel
theorem d_jdk_52_method_15_code_1 : decode jdk_52_method_15_code 1 = .ok (.aload_n 0, 1) := by decide +kernel
theorem d_jdk_52_method_15_code_2 : decode jdk_52_method_15_code 2 = .ok (.arraylength, 1) := by decide +kernel
theorem d_jdk_52_method_15_code_3 : decode jdk_52_method_15_code 3 = .ok (.isub, 1) := by decide +kernel
theorem d_jdk_52_method_15_code_4 : decode jdk_52_method_15_code 4 = .ok (.bipush 31, 2) := by decide +kernel
theorem d_jdk_52_method_15_code_6 : decode jdk_52_method_15_code 6 = .ok (.iushr, 1) := by decide +kernel
theorem d_jdk_52_method_15_code_7 : decode jdk_52_method_15_code 7 = .ok (.i2b, 1) := by decide +kernel
theorem d_jdk_52_method_15_code_8 : decode jdk_52_method_15_code 8 = .ok (.ireturn, 1) := by decide +kernel
theorem d_jdk_42_method_149_code_27 : decode jdk_42_method_149_code 27 = .ok (.getstatic 38, 3) := by decide +kernel
theorem d_jdk_42_method_149_code_30 : decode jdk_42_method_149_code 30 = .ok (.ifCond .eq 28, 3) := by decide +kernel
theorem d_jdk_42_method_149_code_33 : decode jdk_42_method_149_code 33 = .ok (.aload_n 1, 1) := by decide +kernel
theorem d_jdk_42_method_149_code_34 : decode jdk_42_method_149_code 34 = .ok (.iload_n 2, 1) := by decide +kernel
theorem d_jdk_42_method_149_code_35 : decode jdk_42_method_149_code 35 = .ok (.iload_n 3, 1) := by decide +kernel
theorem d_jdk_42_method_149_code_36 : decode jdk_42_method_149_code 36 = .ok (.invokestatic 177, 3) := by decide +kernel
theorem d_jdk_42_method_149_code_39 : decode jdk_42_method_149_code 39 = .ok (.astore 5, 2) := by decide +kernel
theorem d_jdk_42_method_149_code_41 : decode jdk_42_method_149_code 41 = .ok (.aload_n 0, 1) := by decide +kernel
theorem d_jdk_42_method_149_code_42 : decode jdk_42_method_149_code 42 = .ok (.aload 5, 2) := by decide +kernel
theorem d_jdk_42_method_149_code_44 : decode jdk_42_method_149_code 44 = .ok (.iload_n 3, 1) := by decide +kernel
theorem d_jdk_42_method_149_code_45 : decode jdk_42_method_149_code 45 = .ok (.invokestatic 47, 3) := by decide +kernel
theorem d_jdk_42_method_149_code_48 : decode jdk_42_method_149_code 48 = .ok (.putfield 15, 3) := by decide +kernel
theorem d_jdk_42_method_149_code_51 : decode jdk_42_method_149_code 51 = .ok (.aload_n 0, 1) := by decide +kernel
theorem d_jdk_42_method_149_code_52 : decode jdk_42_method_149_code 52 = .ok (.aload 5, 2) := by decide +kernel
theorem d_jdk_42_method_149_code_54 : decode jdk_42_method_149_code 54 = .ok (.putfield 9, 3) := by decide +kernel
theorem d_jdk_42_method_149_code_57 : decode jdk_42_method_149_code 57 = .ok (.return_, 1) := by decide +kernel
theorem pn_0 : plainName "java/util/AbstractCollection" = true := by first | (simp [plainName, overriddenIn]; done) | decide +kernel
theorem pn_1 : plainName "java/util/ImmutableCollections$AbstractImmutableCollection" = true := by first | (simp [plainName, overriddenIn]; done) | decide +kernel
theorem pd_2 : parseMethodDescriptor "()V" = some ⟨[], none⟩ := by decide +kernel
theorem pn_3 : plainName "java/util/ImmutableCollections$AbstractImmutableList" = true := by first | (simp [plainName, overriddenIn]; done) | decide +kernel
theorem pn_4 : plainName "java/lang/Record" = true := by first | (simp [plainName, overriddenIn]; done) | decide +kernel
theorem pn_5 : plainName "java/util/Objects" = true := by first | (simp [plainName, overriddenIn]; done) | decide +kernel
theorem pn_6 : plainName "java/util/ImmutableCollections$List12" = true := by first | (simp [plainName, overriddenIn]; done) | decide +kernel
theorem pd_7 : parseMethodDescriptor "(Ljava/lang/Object;)Ljava/lang/Object;" = some ⟨[(.object "java/lang/Object")], some (.object "java/lang/Object")⟩ := by decide +kernel
theorem pn_8 : plainName "java/util/List" = true := by first | (simp [plainName, overriddenIn]; done) | decide +kernel
theorem pd_9 : parseMethodDescriptor "(Ljava/lang/Object;)V" = some ⟨[(.object "java/lang/Object")], none⟩ := by decide +kernel
theorem pn_10 : plainName "com/example/zonetally/zonetally/DayFaults" = true := by first | (simp [plainName, overriddenIn]; done) | decide +kernel
theorem pd_11 : parseMethodDescriptor "()Ljava/util/List;" = some ⟨[], some (.object "java/util/List")⟩ := by decide +kernel
theorem pd_12 : parseMethodDescriptor "(Lcom/example/zonetally/zonetally/DailyFile;Ljava/util/List;Ljava/util/List;Ljava/util/List;J)V" = some ⟨[(.object "com/example/zonetally/zonetally/DailyFile"), (.object "java/util/List"), (.object "java/util/List"), (.object "java/util/List"), .long], none⟩ := by decide +kernel
theorem pd_13 : parseMethodDescriptor "(Ljava/lang/Object;)Ljava/util/List;" = some ⟨[(.object "java/lang/Object")], some (.object "java/util/List")⟩ := by decide +kernel
theorem pd_14 : parseMethodDescriptor "(Ljava/util/List;)Lcom/example/zonetally/zonetally/DayFaults;" = some ⟨[(.object "java/util/List")], some (.object "com/example/zonetally/zonetally/DayFaults")⟩ := by decide +kernel
theorem pn_15 : plainName "java/util/ImmutableCollections$ListN" = true := by first | (simp [plainName, overriddenIn]; done) | decide +kernel
theorem pd_16 : parseMethodDescriptor "()Z" = some ⟨[], some .boolean⟩ := by decide +kernel
theorem pn_17 : plainName "java/util/AbstractList" = true := by first | (simp [plainName, overriddenIn]; done) | decide +kernel
theorem pn_18 : plainName "java/util/ArrayList" = true := by first | (simp [plainName, overriddenIn]; done) | decide +kernel
theorem pn_19 : plainName "java/lang/StringLatin1" = true := by first | (simp [plainName, overriddenIn]; done) | decide +kernel
theorem pn_20 : plainName "java/lang/String" = true := by first | (simp [plainName, overriddenIn]; done) | decide +kernel
theorem pd_21 : parseMethodDescriptor "(C)Z" = some ⟨[.char], some .boolean⟩ := by decide +kernel
theorem pd_22 : parseMethodDescriptor "(C)[B" = some ⟨[.char], some (.array .byte)⟩ := by decide +kernel
theorem pd_23 : parseMethodDescriptor "([BB)V" = some ⟨[(.array .byte), .byte], none⟩ := by decide +kernel
theorem pd_24 : parseMethodDescriptor "([CIILjava/lang/Void;)V" = some ⟨[(.array .char), .int, .int, (.object "java/lang/Void")], none⟩ := by decide +kernel
theorem pn_25 : plainName "java/lang/StringUTF16" = true := by first | (simp [plainName, overriddenIn]; done) | decide +kernel
theorem pd_26 : parseMethodDescriptor "([CI[BII)I" = some ⟨[(.array .char), .int, (.array .byte), .int, .int], some .int⟩ := by decide +kernel
theorem pd_27 : parseMethodDescriptor "([CII)[B" = some ⟨[(.array .char), .int, .int], some (.array .byte)⟩ := by decide +kernel
theorem pd_28 : parseMethodDescriptor "([BI)B" = some ⟨[(.array .byte), .int], some .byte⟩ := by decide +kernel
theorem pd_29 : parseMethodDescriptor "(Ljava/lang/String;)Lcom/example/zonetally/zonetally/DayFaults;" = some ⟨[(.object "java/lang/String")], some (.object "com/example/zonetally/zonetally/DayFaults")⟩ := by decide +kernel
theorem pd_30 : parseMethodDescriptor "(Ljava/util/List;[Z)Ljava/util/List;" = some ⟨[(.object "java/util/List"), (.array .boolean)], some (.object "java/util/List")⟩ := by decide +kernel
theorem pd_31 : parseMethodDescriptor "()Lcom/example/zonetally/zonetally/DailyFile;" = some ⟨[], some (.object "com/example/zonetally/zonetally/DailyFile")⟩ := by decide +kernel
theorem pd_32 : parseMethodDescriptor "()I" = some ⟨[], some .int⟩ := by decide +kernel
theorem pd_33 : parseMethodDescriptor "()J" = some ⟨[], some .long⟩ := by decide +kernel
theorem pd_34 : parseMethodDescriptor "(I)Ljava/lang/Object;" = some ⟨[.int], some (.object "java/lang/Object")⟩ := by decide +kernel
theorem pn_35 : plainName "com/example/zonetally/zonetally/DayFaultsWholePinLaw" = true := by first | (simp [plainName, overriddenIn]; done) | decide +kernel
theorem pd_36 : parseMethodDescriptor "([C)V" = some ⟨[(.array .char)], none⟩ := by decide +kernel
theorem pd_37 : parseMethodDescriptor "(C)Ljava/lang/String;" = some ⟨[.char], some (.object "java/lang/String")⟩ := by decide +kernel
theorem ef_acInit (m : MethodId) (a : Nat) : entryFrame m #[(.ref a)] 1 = mkF m 0 #[.val (.ref a)] [] := by first | (simp [entryFrame, mkF, argsToLocals, Value.category]; done) | rfl
set_option maxRecDepth 65536 in
set_option maxHeartbeats 40000000 in
theorem acInit (l : Launch) (Z : State) (aw : Array Value) (hw : ∀ d ∈ tables_1, d.before aw Z = true) (a : Nat) {h0 : Heap} {n0 : Nat} (O : Old Z n0 h0) :
    MET l Z (⟨"java/util/AbstractCollection", "<init>", "()V"⟩ : MethodName) jdk_22_method_1_code 1 none ({ frames := 1, cells := 0, slots := 0, locals := 12 } : Room) #[(.ref a)] h0 n0 (fun vv hh => vv = none ∧ hh = h0) := by
  refine metOf (plainFor_of_name pn_0) ?_
  intro p e s m below meth c T hx hby hml hrt hlk hnm hZ hown X e0
  replace hml : c.maxLocals = 1 := hml
  replace hnm : meth.name = "<init>" := hnm
  replace hown : s.vm.findClass "java/util/AbstractCollection" = some m.cls := hown
  have N := Fr.nil n0
  have zO := O.le
  refine goCast (ef_acInit m a) ?_
  show Goes _ _ _ _ _ _ _ _ (T.setTop (mkF m 0 #[.val (.ref a)] []))
  refine Goes.via (fun _ k => XS.aloadN X.here hx rfl (hb hby d_jdk_22_method_1_code_0) rfl rfl k) ?_
  show Goes _ _ _ _ _ _ _ _ (T.setTop (mkF m 1 #[.val (.ref a)] [(.ref a)]))
  obtain ⟨Tq1, Xq1, eq1, stq1⟩ := initO X hx hZ hown (W_55 hw) (W_12 hw) (W_13 hw) e0 (g := (mkF m 1 #[.val (.ref a)] [(.ref a)])) rfl (by rw [hml]; rfl) rfl (hb hby d_jdk_22_method_1_code_1) (by decide) (W := 0) (by show 2 * 0 + _ ≤ _; exact Nat.le_of_eq rfl) (by decide)
  refine Goes.via stq1 ?_
  show Goes _ _ _ _ _ _ _ _ (Tq1.setTop (mkF m 4 #[.val (.ref a)] []))
  refine goRetV Xq1 hx hrt hlk N (by decide) (by decide) (hb hby d_jdk_22_method_1_code_4) ?_
  try rw [eq1]
  exact ⟨rfl, rfl⟩
theorem ef_aicInit (m : MethodId) (a : Nat) : entryFrame m #[(.ref a)] 1 = mkF m 0 #[.val (.ref a)] [] := by first | (simp [entryFrame, mkF, argsToLocals, Value.category]; done) | rfl
set_option maxRecDepth 65536 in
set_option maxHeartbeats 40000000 in
theorem aicInit (l : Launch) (Z : State) (aw : Array Value) (hw : ∀ d ∈ tables_1, d.before aw Z = true) (a : Nat) {h0 : Heap} {n0 : Nat} (O : Old Z n0 h0) :
    MET l Z (⟨"java/util/ImmutableCollections$AbstractImmutableCollection", "<init>", "()V"⟩ : MethodName) jdk_47_method_1_code 1 none ({ frames := 2, cells := 0, slots := 0, locals := 24 } : Room) #[(.ref a)] h0 n0 (fun vv hh => vv = none ∧ hh = h0) := by
  refine metOf (plainFor_of_name pn_1) ?_
  intro p e s m below meth c T hx hby hml hrt hlk hnm hZ hown X e0
  replace hml : c.maxLocals = 1 := hml
  replace hnm : meth.name = "<init>" := hnm
  replace hown : s.vm.findClass "java/util/ImmutableCollections$AbstractImmutableCollection" = some m.cls := hown
  have N := Fr.nil n0
  have zO := O.le
  refine goCast (ef_aicInit m a) ?_
  show Goes _ _ _ _ _ _ _ _ (T.setTop (mkF m 0 #[.val (.ref a)] []))
  refine Goes.via (fun _ k => XS.aloadN X.here hx rfl (hb hby d_jdk_47_method_1_code_0) rfl rfl k) ?_
  show Goes _ _ _ _ _ _ _ _ (T.setTop (mkF m 1 #[.val (.ref a)] [(.ref a)]))
  obtain ⟨vq1, Tq1, Lq1, Xq1, qq1, nq1, stq1⟩ := callSp X hx hZ hown (acInit l Z aw hw a O) rfl (W_49 hw) (W_50 hw) (W_53 hw) (W_54 hw) (by decide) e0 (by decide) (W := 0) (by decide) (by decide) (by decide) (g := (mkF m 1 #[.val (.ref a)] [(.ref a)])) rfl (by rw [hml]; rfl) (a := a) (argsL := []) (rest := []) rfl (lenOf pd_2 rfl) rfl (by show 2 * 0 + _ ≤ _; exact Nat.le_of_eq rfl) (hb hby d_jdk_47_method_1_code_1)
  obtain ⟨rfl, pq1_0⟩ := qq1
  have Nq1 := Fr.app N nq1
  refine Goes.via stq1 ?_
  show Goes _ _ _ _ _ _ _ _ (Tq1.setTop (mkF m 4 #[.val (.ref a)] []))
  refine goRetV Xq1 hx hrt hlk Nq1 (by decide) (by decide) (hb hby d_jdk_47_method_1_code_4) ?_
  try rw [pq1_0]
  exact ⟨rfl, rfl⟩
theorem ef_ailInit (m : MethodId) (a : Nat) : entryFrame m #[(.ref a)] 1 = mkF m 0 #[.val (.ref a)] [] := by first | (simp [entryFrame, mkF, argsToLocals, Value.category]; done) | rfl
set_option maxRecDepth 65536 in
set_option maxHeartbeats 40000000 in
theorem ailInit (l : Launch) (Z : State) (aw : Array Value) (hw : ∀ d ∈ tables_1, d.before aw Z = true) (a : Nat) {h0 : Heap} {n0 : Nat} (O : Old Z n0 h0) :
    MET l Z (⟨"java/util/ImmutableCollections$AbstractImmutableList", "<init>", "()V"⟩ : MethodName) jdk_46_method_1_code 1 none ({ frames := 3, cells := 0, slots := 0, locals := 36 } : Room) #[(.ref a)] h0 n0 (fun vv hh => vv = none ∧ hh = h0) := by
  refine metOf (plainFor_of_name pn_3) ?_
  intro p e s m below meth c T hx hby hml hrt hlk hnm hZ hown X e0
  replace hml : c.maxLocals = 1 := hml
  replace hnm : meth.name = "<init>" := hnm
  replace hown : s.vm.findClass "java/util/ImmutableCollections$AbstractImmutableList" = some m.cls := hown
  have N := Fr.nil n0
  have zO := O.le
  refine goCast (ef_ailInit m a) ?_
  show Goes _ _ _ _ _ _ _ _ (T.setTop (mkF m 0 #[.val (.ref a)] []))
  refine Goes.via (fun _ k => XS.aloadN X.here hx rfl (hb hby d_jdk_46_method_1_code_0) rfl rfl k) ?_
  show Goes _ _ _ _ _ _ _ _ (T.setTop (mkF m 1 #[.val (.ref a)] [(.ref a)]))
  obtain ⟨vq1, Tq1, Lq1, Xq1, qq1, nq1, stq1⟩ := callSp X hx hZ hown (aicInit l Z aw hw a O) rfl (W_43 hw) (W_44 hw) (W_47 hw) (W_48 hw) (by decide) e0 (by decide) (W := 0) (by decide) (by decide) (by decide) (g := (mkF m 1 #[.val (.ref a)] [(.ref a)])) rfl (by rw [hml]; rfl) (a := a) (argsL := []) (rest := []) rfl (lenOf pd_2 rfl) rfl (by show 2 * 0 + _ ≤ _; exact Nat.le_of_eq rfl) (hb hby d_jdk_46_method_1_code_1)
  obtain ⟨rfl, pq1_0⟩ := qq1
  have Nq1 := Fr.app N nq1
  refine Goes.via stq1 ?_
  show Goes _ _ _ _ _ _ _ _ (Tq1.setTop (mkF m 4 #[.val (.ref a)] []))
  refine goRetV Xq1 hx hrt hlk Nq1 (by decide) (by decide) (hb hby d_jdk_46_method_1_code_4) ?_
  try rw [pq1_0]
  exact ⟨rfl, rfl⟩
theorem ef_recInit (m : MethodId) (a : Nat) : entryFrame m #[(.ref a)] 1 = mkF m 0 #[.val (.ref a)] [] := by first | (simp [entryFrame, mkF, argsToLocals, Value.category]; done) | rfl
set_option maxRecDepth 65536 in
set_option maxHeartbeats 40000000 in
theorem recInit (l : Launch) (Z : State) (aw : Array Value) (hw : ∀ d ∈ tables_1, d.before aw Z = true) (a : Nat) {h0 : Heap} {n0 : Nat} (O : Old Z n0 h0) :
    MET l Z (⟨"java/lang/Record", "<init>", "()V"⟩ : MethodName) jdk_30_method_1_code 1 none ({ frames := 1, cells := 0, slots := 0, locals := 12 } : Room) #[(.ref a)] h0 n0 (fun vv hh => vv = none ∧ hh = h0) := by
  refine metOf (plainFor_of_name pn_4) ?_
  intro p e s m below meth c T hx hby hml hrt hlk hnm hZ hown X e0
  replace hml : c.maxLocals = 1 := hml
  replace hnm : meth.name = "<init>" := hnm
  replace hown : s.vm.findClass "java/lang/Record" = some m.cls := hown
  have N := Fr.nil n0
  have zO := O.le
  refine goCast (ef_recInit m a) ?_
  show Goes _ _ _ _ _ _ _ _ (T.setTop (mkF m 0 #[.val (.ref a)] []))
  refine Goes.via (fun _ k => XS.aloadN X.here hx rfl (hb hby d_jdk_30_method_1_code_0) rfl rfl k) ?_
  show Goes _ _ _ _ _ _ _ _ (T.setTop (mkF m 1 #[.val (.ref a)] [(.ref a)]))
  obtain ⟨Tq1, Xq1, eq1, stq1⟩ := initO X hx hZ hown (W_83 hw) (W_12 hw) (W_13 hw) e0 (g := (mkF m 1 #[.val (.ref a)] [(.ref a)])) rfl (by rw [hml]; rfl) rfl (hb hby d_jdk_30_method_1_code_1) (by decide) (W := 0) (by show 2 * 0 + _ ≤ _; exact Nat.le_of_eq rfl) (by decide)
  refine Goes.via stq1 ?_
  show Goes _ _ _ _ _ _ _ _ (Tq1.setTop (mkF m 4 #[.val (.ref a)] []))
  refine goRetV Xq1 hx hrt hlk N (by decide) (by decide) (hb hby d_jdk_30_method_1_code_4) ?_
  try rw [eq1]
  exact ⟨rfl, rfl⟩
theorem ef_rnn1 (m : MethodId) (a : Nat) : entryFrame m #[(.ref a)] 1 = mkF m 0 #[.val (.ref a)] [] := by first | (simp [entryFrame, mkF, argsToLocals, Value.category]; done) | rfl
set_option maxRecDepth 65536 in
set_option maxHeartbeats 40000000 in
theorem rnn1 (l : Launch) (Z : State) (aw : Array Value) (hw : ∀ d ∈ tables_1, d.before aw Z = true) (a : Nat) {h0 : Heap} {n0 : Nat} (O : Old Z n0 h0) :
    MET l Z (⟨"java/util/Objects", "requireNonNull", "(Ljava/lang/Object;)Ljava/lang/Object;"⟩ : MethodName) jdk_31_method_10_code 1 (some (.object "java/lang/Object")) ({ frames := 0, cells := 0, slots := 0, locals := 0 } : Room) #[(.ref a)] h0 n0 (fun vv hh => vv = some (.ref a) ∧ hh = h0) := by
  refine metOf (plainFor_of_name pn_5) ?_
  intro p e s m below meth c T hx hby hml hrt hlk hnm hZ hown X e0
  replace hml : c.maxLocals = 1 := hml
  replace hnm : meth.name = "requireNonNull" := hnm
  replace hown : s.vm.findClass "java/util/Objects" = some m.cls := hown
  have N := Fr.nil n0
  have zO := O.le
  refine goCast (ef_rnn1 m a) ?_
  show Goes _ _ _ _ _ _ _ _ (T.setTop (mkF m 0 #[.val (.ref a)] []))
  refine Goes.via (fun _ k => XS.aloadN X.here hx rfl (hb hby d_jdk_31_method_10_code_0) rfl rfl k) ?_
  show Goes _ _ _ _ _ _ _ _ (T.setTop (mkF m 1 #[.val (.ref a)] [(.ref a)]))
  refine Goes.via (fun _ k => XT.ifnonnullYes X.here hx rfl (pc0 := 1) (pc' := 12) rfl (hb hby d_jdk_31_method_10_code_1) rfl (by decide) (by decide) k) ?_
  show Goes _ _ _ _ _ _ _ _ (T.setTop (mkF m 12 #[.val (.ref a)] []))
  refine Goes.via (fun _ k => XS.aloadN X.here hx rfl (hb hby d_jdk_31_method_10_code_12) rfl rfl k) ?_
  show Goes _ _ _ _ _ _ _ _ (T.setTop (mkF m 13 #[.val (.ref a)] [(.ref a)]))
  refine goRetA X hx hrt rfl hlk N (by decide) (by decide) rfl (hb hby d_jdk_31_method_10_code_13) ?_
  try rw [e0]
  exact ⟨rfl, rfl⟩
theorem ef_l12Init (m : MethodId) (a : Nat) (e1 : Nat) : entryFrame m #[(.ref a), (.ref e1)] 2 = mkF m 0 #[.val (.ref a), .val (.ref e1)] [] := by first | (simp [entryFrame, mkF, argsToLocals, Value.category]; done) | rfl
set_option maxRecDepth 65536 in
set_option maxHeartbeats 40000000 in
theorem l12Init (l : Launch) (Z : State) (aw : Array Value) (hw : ∀ d ∈ tables_1, d.before aw Z = true) (a : Nat) (e1 : Nat) (em : Nat) {h0 : Heap} {n0 : Nat} (O : Old Z n0 h0) (SE : Sta Z Z.heap "java/util/ImmutableCollections" "EMPTY" "Ljava/lang/Object;" (.ref em)) (E : Exa Z h0 a "java/util/ImmutableCollections$List12") (F0 : Fld Z h0 a "java/util/ImmutableCollections$List12" "e0" "Ljava/lang/Object;" .null) (F1 : Fld Z h0 a "java/util/ImmutableCollections$List12" "e1" "Ljava/lang/Object;" .null) (ga : n0 ≤ a) :
    MET l Z (⟨"java/util/ImmutableCollections$List12", "<init>", "(Ljava/lang/Object;)V"⟩ : MethodName) jdk_44_method_1_code 2 none ({ frames := 4, cells := 0, slots := 0, locals := 48 } : Room) #[(.ref a), (.ref e1)] h0 n0 (fun vv hh => vv = none ∧ Keep h0 hh [a] ∧ Exa Z hh a "java/util/ImmutableCollections$List12" ∧ Fld Z hh a "java/util/ImmutableCollections$List12" "e0" "Ljava/lang/Object;" (.ref e1) ∧ Fld Z hh a "java/util/ImmutableCollections$List12" "e1" "Ljava/lang/Object;" (.ref em)) := by
  refine metOf (plainFor_of_name pn_6) ?_
  intro p e s m below meth c T hx hby hml hrt hlk hnm hZ hown X e0
  replace hml : c.maxLocals = 2 := hml
  replace hnm : meth.name = "<init>" := hnm
  replace hown : s.vm.findClass "java/util/ImmutableCollections$List12" = some m.cls := hown
  have N := Fr.nil n0
  have zO := O.le
  refine goCast (ef_l12Init m a e1) ?_
  have lt_a := lt_nat E.lt
  show Goes _ _ _ _ _ _ _ _ (T.setTop (mkF m 0 #[.val (.ref a), .val (.ref e1)] []))
  refine Goes.via (fun _ k => XS.aloadN X.here hx rfl (hb hby d_jdk_44_method_1_code_0) rfl rfl k) ?_
  show Goes _ _ _ _ _ _ _ _ (T.setTop (mkF m 1 #[.val (.ref a), .val (.ref e1)] [(.ref a)]))
  obtain ⟨vq1, Tq1, Lq1, Xq1, qq1, nq1, stq1⟩ := callSp X hx hZ hown (ailInit l Z aw hw a O) rfl (W_37 hw) (W_38 hw) (W_41 hw) (W_42 hw) (by decide) e0 (by decide) (W := 0) (by decide) (by decide) (by decide) (g := (mkF m 1 #[.val (.ref a), .val (.ref e1)] [(.ref a)])) rfl (by rw [hml]; rfl) (a := a) (argsL := []) (rest := []) rfl (lenOf pd_2 rfl) rfl (by show 2 * 0 + _ ≤ _; exact Nat.le_of_eq rfl) (hb hby d_jdk_44_method_1_code_1)
  obtain ⟨rfl, pq1_0⟩ := qq1
  have Nq1 := Fr.app N nq1
  refine Goes.via stq1 ?_
  show Goes _ _ _ _ _ _ _ _ (Tq1.setTop (mkF m 4 #[.val (.ref a), .val (.ref e1)] []))
  refine Goes.via (fun _ k => XS.aloadN Xq1.here hx rfl (hb hby d_jdk_44_method_1_code_4) rfl rfl k) ?_
  show Goes _ _ _ _ _ _ _ _ (Tq1.setTop (mkF m 5 #[.val (.ref a), .val (.ref e1)] [(.ref a)]))
  refine Goes.via (fun _ k => XS.aloadN Xq1.here hx rfl (hb hby d_jdk_44_method_1_code_5) rfl rfl k) ?_
  show Goes _ _ _ _ _ _ _ _ (Tq1.setTop (mkF m 6 #[.val (.ref a), .val (.ref e1)] [(.ref e1), (.ref a)]))
  obtain ⟨vq2, Tq2, Lq2, Xq2, qq2, nq2, stq2⟩ := callSt Xq1 hx hZ hown (rnn1 l Z aw hw e1 O) (W_56 hw) (W_57 hw) (W_58 hw) (W_59 hw) (by decide) pq1_0 (by decide) (W := 1) (by decide) (by decide) (by decide) (g := (mkF m 6 #[.val (.ref a), .val (.ref e1)] [(.ref e1), (.ref a)])) rfl (by rw [hml]; rfl) (argsL := [(.ref e1)]) (rest := [(.ref a)]) rfl (lenOf pd_7 rfl) rfl (by show 2 * 0 + _ ≤ _; exact Nat.le_of_eq rfl) (hb hby d_jdk_44_method_1_code_6)
  obtain ⟨rfl, pq2_0⟩ := qq2
  have Nq2 := Fr.app Nq1 nq2
  refine Goes.via stq2 ?_
  show Goes _ _ _ _ _ _ _ _ (Tq2.setTop (mkF m 9 #[.val (.ref a), .val (.ref e1)] [(.ref e1), (.ref a)]))
  obtain ⟨Tq3, hq3, Xq3, eq3, Wq3, stq3⟩ := putF Xq2 hx hZ hown (host := "") (Or.inl (W_60 hw)) Via.refl pq2_0 F0 E (Or.inr ⟨(W_61 hw), rfl, hnm⟩) (W_31 hw) (ty := (.object "java/lang/Object")) (by decide) rfl rfl (g := (mkF m 9 #[.val (.ref a), .val (.ref e1)] [(.ref e1), (.ref a)])) rfl rfl (hb hby d_jdk_44_method_1_code_9)
  have Nq3 := Fr.snoc Xq3 Nq2 (by omega)
  have zq3 := Wq3.size
  have Oq3 := O.wr Wq3 (by omega)
  have Fq3 : Fld Z hq3 a "java/util/ImmutableCollections$List12" "e0" "Ljava/lang/Object;" (.ref e1) := F0.same Wq3
  refine Goes.via stq3 ?_
  show Goes _ _ _ _ _ _ _ _ (Tq3.setTop (mkF m 12 #[.val (.ref a), .val (.ref e1)] []))
  refine Goes.via (fun _ k => XS.aloadN Xq3.here hx rfl (hb hby d_jdk_44_method_1_code_12) rfl rfl k) ?_
  show Goes _ _ _ _ _ _ _ _ (Tq3.setTop (mkF m 13 #[.val (.ref a), .val (.ref e1)] [(.ref a)]))
  have fq5 : Sta Z hq3 "java/util/ImmutableCollections" "EMPTY" "Ljava/lang/Object;" (.ref em) := (SE.ext Oq3.2)
  obtain ⟨Tq4, Xq4, eq4, stq4⟩ := getS2 Xq3 hx hZ hown (Or.inr (W_62 hw)) Via.refl eq3 fq5 (g := (mkF m 13 #[.val (.ref a), .val (.ref e1)] [(.ref a)])) rfl (hb hby d_jdk_44_method_1_code_13)
  refine Goes.via stq4 ?_
  show Goes _ _ _ _ _ _ _ _ (Tq4.setTop (mkF m 16 #[.val (.ref a), .val (.ref e1)] [(.ref em), (.ref a)]))
  have fq7 : Fld Z hq3 a "java/util/ImmutableCollections$List12" "e1" "Ljava/lang/Object;" .null := (F1.other Wq3 (Or.inr (slot_ne (Or.inr (W_65 hw)) (Or.inr (W_61 hw)) (by decide) (t := (.object "java/lang/Object")) (t' := (.object "java/lang/Object")) (by decide) (by decide))))
  have fq8 : Exa Z hq3 a "java/util/ImmutableCollections$List12" := (E.wr Wq3)
  obtain ⟨Tq6, hq6, Xq6, eq6, Wq6, stq6⟩ := putF Xq4 hx hZ hown (host := "") (Or.inl (W_64 hw)) Via.refl eq4 fq7 fq8 (Or.inr ⟨(W_65 hw), rfl, hnm⟩) (W_31 hw) (ty := (.object "java/lang/Object")) (by decide) rfl rfl (g := (mkF m 16 #[.val (.ref a), .val (.ref e1)] [(.ref em), (.ref a)])) rfl rfl (hb hby d_jdk_44_method_1_code_16)
  have Nq6 := Fr.snoc Xq6 Nq3 (by omega)
  have zq6 := Wq6.size
  have Oq6 := Oq3.wr Wq6 (by omega)
  have Fq6 : Fld Z hq6 a "java/util/ImmutableCollections$List12" "e1" "Ljava/lang/Object;" (.ref em) := fq7.same Wq6
  refine Goes.via stq6 ?_
  show Goes _ _ _ _ _ _ _ _ (Tq6.setTop (mkF m 19 #[.val (.ref a), .val (.ref e1)] []))
  refine goRetV Xq6 hx hrt hlk Nq6 (by decide) (by decide) (hb hby d_jdk_44_method_1_code_19) ?_
  try rw [eq6]
  have fq9 : Exa Z hq6 a "java/util/ImmutableCollections$List12" := (fq8.wr Wq6)
  have fq10 : Fld Z hq6 a "java/util/ImmutableCollections$List12" "e0" "Ljava/lang/Object;" (.ref e1) := (Fq3.other Wq6 (Or.inr (slot_ne (Or.inr (W_61 hw)) (Or.inr (W_65 hw)) (by decide) (t := (.object "java/lang/Object")) (t' := (.object "java/lang/Object")) (by decide) (by decide))))
  exact ⟨rfl, (((Keep.refl _ [a]).wr Wq3 (Or.inl (by simp))).wr Wq6 (Or.inl (by simp))), fq9, fq10, Fq6⟩
theorem ef_listOf1 (m : MethodId) (e1 : Nat) : entryFrame m #[(.ref e1)] 1 = mkF m 0 #[.val (.ref e1)] [] := by first | (simp [entryFrame, mkF, argsToLocals, Value.category]; done) | rfl
set_option maxRecDepth 65536 in
set_option maxHeartbeats 40000000 in
theorem listOf1 (l : Launch) (Z : State) (aw : Array Value) (hw : ∀ d ∈ tables_1, d.before aw Z = true) (e1 : Nat) (em : Nat) {h0 : Heap} {n0 : Nat} (O : Old Z n0 h0) (SE : Sta Z Z.heap "java/util/ImmutableCollections" "EMPTY" "Ljava/lang/Object;" (.ref em)) :
    MET l Z (⟨"java/util/List", "of", "(Ljava/lang/Object;)Ljava/util/List;"⟩ : MethodName) jdk_40_method_37_code 1 (some (.object "java/util/List")) ({ frames := 5, cells := 1, slots := 2, locals := 62 } : Room) #[(.ref e1)] h0 n0 (fun vv hh => ∃ r : Nat, vv = some (.ref r) ∧ h0.size ≤ r ∧ Keep h0 hh [] ∧ Exa Z hh r "java/util/ImmutableCollections$List12" ∧ Fld Z hh r "java/util/ImmutableCollections$List12" "e0" "Ljava/lang/Object;" (.ref e1) ∧ Fld Z hh r "java/util/ImmutableCollections$List12" "e1" "Ljava/lang/Object;" (.ref em)) := by
  refine metOf (plainFor_of_name pn_8) ?_
  intro p e s m below meth c T hx hby hml hrt hlk hnm hZ hown X e0
  replace hml : c.maxLocals = 1 := hml
  replace hnm : meth.name = "of" := hnm
  replace hown : s.vm.findClass "java/util/List" = some m.cls := hown
  have N := Fr.nil n0
  have zO := O.le
  refine goCast (ef_listOf1 m e1) ?_
  show Goes _ _ _ _ _ _ _ _ (T.setTop (mkF m 0 #[.val (.ref e1)] []))
  obtain ⟨Tq1, hq1, Xq1, eq1, Eq1, Aq1, Dq1, -, stq1⟩ := newO X hx hZ hown (W_30 hw) (W_31 hw) (W_32 hw) e0 (g := (mkF m 0 #[.val (.ref e1)] [])) rfl (hb hby d_jdk_40_method_37_code_0) (by decide) (by decide)
  obtain ⟨bq1, gq1⟩ : ∃ z, z = h0.size := ⟨_, rfl⟩
  rw [← gq1] at Aq1 Dq1 stq1
  have zq1 := Eq1.1
  have Oq1 := O.ext Eq1
  have lq1 := lt_nat Aq1.lt
  refine Goes.via stq1 ?_
  show Goes _ _ _ _ _ _ _ _ (Tq1.setTop (mkF m 3 #[.val (.ref e1)] [(.ref bq1)]))
  refine Goes.via (fun _ k => XS.dup Xq1.here hx rfl (hb hby d_jdk_40_method_37_code_3) rfl rfl k) ?_
  show Goes _ _ _ _ _ _ _ _ (Tq1.setTop (mkF m 4 #[.val (.ref e1)] [(.ref bq1), (.ref bq1)]))
  refine Goes.via (fun _ k => XS.aloadN Xq1.here hx rfl (hb hby d_jdk_40_method_37_code_4) rfl rfl k) ?_
  show Goes _ _ _ _ _ _ _ _ (Tq1.setTop (mkF m 5 #[.val (.ref e1)] [(.ref e1), (.ref bq1), (.ref bq1)]))
  obtain ⟨vq2, Tq2, Lq2, Xq2, qq2, nq2, stq2⟩ := callSp Xq1 hx hZ hown (l12Init l Z aw hw bq1 e1 em Oq1 SE Aq1 (Dq1 (Or.inr (W_61 hw)) (ty := (.object "java/lang/Object")) (by decide)) (Dq1 (Or.inr (W_65 hw)) (ty := (.object "java/lang/Object")) (by decide)) (by omega)) rfl (W_33 hw) (W_34 hw) (W_32 hw) (W_36 hw) (by decide) eq1 (by decide) (W := 1) (by decide) (by decide) (by decide) (g := (mkF m 5 #[.val (.ref e1)] [(.ref e1), (.ref bq1), (.ref bq1)])) rfl (by rw [hml]; rfl) (a := bq1) (argsL := [(.ref e1)]) (rest := [(.ref bq1)]) rfl (lenOf pd_9 rfl) rfl (by show 2 * 0 + _ ≤ _; exact Nat.le_of_eq rfl) (hb hby d_jdk_40_method_37_code_5)
  obtain ⟨rfl, pq2_0, pq2_1, pq2_2, pq2_3⟩ := qq2
  have Nq2 := Fr.app N nq2
  have zq2 := pq2_0.1
  have Oq2 := Oq1.keep pq2_0 (allS (by omega) all0)
  have ltpq2_1 := lt_nat pq2_1.lt
  refine Goes.via stq2 ?_
  show Goes _ _ _ _ _ _ _ _ (Tq2.setTop (mkF m 8 #[.val (.ref e1)] [(.ref bq1)]))
  refine goRetA Xq2 hx hrt rfl hlk Nq2 (by decide) (by decide) rfl (hb hby d_jdk_40_method_37_code_8) ?_
  exact ⟨bq1, rfl, by omega, (((Keep.refl _ []).ext Eq1).trans pq2_0 (allS (Or.inr (by omega)) all0)), pq2_1, pq2_2, pq2_3⟩
theorem ef_listOf0 (m : MethodId) : entryFrame m #[] 0 = mkF m 0 #[] [] := by first | (simp [entryFrame, mkF, argsToLocals, Value.category]; done) | rfl
set_option maxRecDepth 65536 in
set_option maxHeartbeats 40000000 in
theorem listOf0 (l : Launch) (Z : State) (aw : Array Value) (hw : ∀ d ∈ tables_1, d.before aw Z = true) (el : Nat) {h0 : Heap} {n0 : Nat} (O : Old Z n0 h0) (SL : Sta Z Z.heap "java/util/ImmutableCollections" "EMPTY_LIST" "Ljava/util/ImmutableCollections$ListN;" (.ref el)) :
    MET l Z (⟨"java/util/List", "of", "()Ljava/util/List;"⟩ : MethodName) jdk_40_method_36_code 0 (some (.object "java/util/List")) ({ frames := 0, cells := 0, slots := 0, locals := 0 } : Room) #[] h0 n0 (fun vv hh => vv = some (.ref el) ∧ hh = h0) := by
  refine metOf (plainFor_of_name pn_8) ?_
  intro p e s m below meth c T hx hby hml hrt hlk hnm hZ hown X e0
  replace hml : c.maxLocals = 0 := hml
  replace hnm : meth.name = "of" := hnm
  replace hown : s.vm.findClass "java/util/List" = some m.cls := hown
  have N := Fr.nil n0
  have zO := O.le
  refine goCast (ef_listOf0 m) ?_
  show Goes _ _ _ _ _ _ _ _ (T.setTop (mkF m 0 #[] []))
  have fq2 : Sta Z h0 "java/util/ImmutableCollections" "EMPTY_LIST" "Ljava/util/ImmutableCollections$ListN;" (.ref el) := (SL.ext O.2)
  obtain ⟨Tq1, Xq1, eq1, stq1⟩ := getS2 X hx hZ hown (host := "") (Or.inl (W_74 hw)) Via.refl e0 fq2 (g := (mkF m 0 #[] [])) rfl (hb hby d_jdk_40_method_36_code_0)
  refine Goes.via stq1 ?_
  show Goes _ _ _ _ _ _ _ _ (Tq1.setTop (mkF m 3 #[] [(.ref el)]))
  refine goRetA Xq1 hx hrt rfl hlk N (by decide) (by decide) rfl (hb hby d_jdk_40_method_36_code_3) ?_
  try rw [eq1]
  exact ⟨rfl, rfl⟩
theorem ef_dfInit (m : MethodId) (a : Nat) (el : Nat) (f : Nat) : entryFrame m #[(.ref a), .null, (.ref el), (.ref f), (.ref el), (.long (0 : Int64))] 7 = mkF m 0 #[.val (.ref a), .val .null, .val (.ref el), .val (.ref f), .val (.ref el), .val (.long (0 : Int64)), .second] [] := by first | (simp [entryFrame, mkF, argsToLocals, Value.category]; done) | rfl
set_option maxRecDepth 65536 in
set_option maxHeartbeats 40000000 in
theorem dfInit (l : Launch) (Z : State) (aw : Array Value) (hw : ∀ d ∈ tables_1, d.before aw Z = true) (a : Nat) (el : Nat) (f : Nat) {h0 : Heap} {n0 : Nat} (O : Old Z n0 h0) (E : Exa Z h0 a "com/example/zonetally/zonetally/DayFaults") (F0 : Fld Z h0 a "com/example/zonetally/zonetally/DayFaults" "file" "Lcom/example/zonetally/zonetally/DailyFile;" .null) (F1 : Fld Z h0 a "com/example/zonetally/zonetally/DayFaults" "hours" "Ljava/util/List;" .null) (F2 : Fld Z h0 a "com/example/zonetally/zonetally/DayFaults" "found" "Ljava/util/List;" .null) (F3 : Fld Z h0 a "com/example/zonetally/zonetally/DayFaults" "unlisted" "Ljava/util/List;" .null) (F4 : Fld Z h0 a "com/example/zonetally/zonetally/DayFaults" "lacking" "J" (.long (0 : Int64))) (ga : n0 ≤ a) :
    MET l Z (⟨"com/example/zonetally/zonetally/DayFaults", "<init>", "(Lcom/example/zonetally/zonetally/DailyFile;Ljava/util/List;Ljava/util/List;Ljava/util/List;J)V"⟩ : MethodName) prog_17_method_1_code 7 none ({ frames := 2, cells := 0, slots := 0, locals := 24 } : Room) #[(.ref a), .null, (.ref el), (.ref f), (.ref el), (.long (0 : Int64))] h0 n0 (fun vv hh => vv = none ∧ Keep h0 hh [a] ∧ Exa Z hh a "com/example/zonetally/zonetally/DayFaults" ∧ Fld Z hh a "com/example/zonetally/zonetally/DayFaults" "file" "Lcom/example/zonetally/zonetally/DailyFile;" .null ∧ Fld Z hh a "com/example/zonetally/zonetally/DayFaults" "hours" "Ljava/util/List;" (.ref el) ∧ Fld Z hh a "com/example/zonetally/zonetally/DayFaults" "found" "Ljava/util/List;" (.ref f) ∧ Fld Z hh a "com/example/zonetally/zonetally/DayFaults" "unlisted" "Ljava/util/List;" (.ref el) ∧ Fld Z hh a "com/example/zonetally/zonetally/DayFaults" "lacking" "J" (.long (0 : Int64))) := by
  refine metOf (plainFor_of_name pn_10) ?_
  intro p e s m below meth c T hx hby hml hrt hlk hnm hZ hown X e0
  replace hml : c.maxLocals = 7 := hml
  replace hnm : meth.name = "<init>" := hnm
  replace hown : s.vm.findClass "com/example/zonetally/zonetally/DayFaults" = some m.cls := hown
  have N := Fr.nil n0
  have zO := O.le
  refine goCast (ef_dfInit m a el f) ?_
  have lt_a := lt_nat E.lt
  show Goes _ _ _ _ _ _ _ _ (T.setTop (mkF m 0 #[.val (.ref a), .val .null, .val (.ref el), .val (.ref f), .val (.ref el), .val (.long (0 : Int64)), .second] []))
  refine Goes.via (fun _ k => XS.aloadN X.here hx rfl (hb hby d_prog_17_method_1_code_0) rfl rfl k) ?_
  show Goes _ _ _ _ _ _ _ _ (T.setTop (mkF m 1 #[.val (.ref a), .val .null, .val (.ref el), .val (.ref f), .val (.ref el), .val (.long (0 : Int64)), .second] [(.ref a)]))
  obtain ⟨vq1, Tq1, Lq1, Xq1, qq1, nq1, stq1⟩ := callSp X hx hZ hown (recInit l Z aw hw a O) rfl (W_78 hw) (W_79 hw) (W_81 hw) (W_82 hw) (by decide) e0 (by decide) (W := 0) (by decide) (by decide) (by decide) (g := (mkF m 1 #[.val (.ref a), .val .null, .val (.ref el), .val (.ref f), .val (.ref el), .val (.long (0 : Int64)), .second] [(.ref a)])) rfl (by rw [hml]; rfl) (a := a) (argsL := []) (rest := []) rfl (lenOf pd_2 rfl) rfl (by show 2 * 0 + _ ≤ _; exact Nat.le_of_eq rfl) (hb hby d_prog_17_method_1_code_1)
  obtain ⟨rfl, pq1_0⟩ := qq1
  have Nq1 := Fr.app N nq1
  refine Goes.via stq1 ?_
  show Goes _ _ _ _ _ _ _ _ (Tq1.setTop (mkF m 4 #[.val (.ref a), .val .null, .val (.ref el), .val (.ref f), .val (.ref el), .val (.long (0 : Int64)), .second] []))
  refine Goes.via (fun _ k => XS.aloadN Xq1.here hx rfl (hb hby d_prog_17_method_1_code_4) rfl rfl k) ?_
  show Goes _ _ _ _ _ _ _ _ (Tq1.setTop (mkF m 5 #[.val (.ref a), .val .null, .val (.ref el), .val (.ref f), .val (.ref el), .val (.long (0 : Int64)), .second] [(.ref a)]))
  refine Goes.via (fun _ k => XS.aloadN Xq1.here hx rfl (hb hby d_prog_17_method_1_code_5) rfl rfl k) ?_
  show Goes _ _ _ _ _ _ _ _ (Tq1.setTop (mkF m 6 #[.val (.ref a), .val .null, .val (.ref el), .val (.ref f), .val (.ref el), .val (.long (0 : Int64)), .second] [.null, (.ref a)]))
  obtain ⟨Tq2, hq2, Xq2, eq2, Wq2, stq2⟩ := putF Xq1 hx hZ hown (host := "") (Or.inl (W_84 hw)) Via.refl pq1_0 F0 E (Or.inr ⟨(W_85 hw), rfl, hnm⟩) (W_70 hw) (ty := (.object "com/example/zonetally/zonetally/DailyFile")) (by decide) rfl rfl (g := (mkF m 6 #[.val (.ref a), .val .null, .val (.ref el), .val (.ref f), .val (.ref el), .val (.long (0 : Int64)), .second] [.null, (.ref a)])) rfl rfl (hb hby d_prog_17_method_1_code_6)
  have Nq2 := Fr.snoc Xq2 Nq1 (by omega)
  have zq2 := Wq2.size
  have Oq2 := O.wr Wq2 (by omega)
  have Fq2 : Fld Z hq2 a "com/example/zonetally/zonetally/DayFaults" "file" "Lcom/example/zonetally/zonetally/DailyFile;" .null := F0.same Wq2
  refine Goes.via stq2 ?_
  show Goes _ _ _ _ _ _ _ _ (Tq2.setTop (mkF m 9 #[.val (.ref a), .val .null, .val (.ref el), .val (.ref f), .val (.ref el), .val (.long (0 : Int64)), .second] []))
  refine Goes.via (fun _ k => XS.aloadN Xq2.here hx rfl (hb hby d_prog_17_method_1_code_9) rfl rfl k) ?_
  show Goes _ _ _ _ _ _ _ _ (Tq2.setTop (mkF m 10 #[.val (.ref a), .val .null, .val (.ref el), .val (.ref f), .val (.ref el), .val (.long (0 : Int64)), .second] [(.ref a)]))
  refine Goes.via (fun _ k => XS.aloadN Xq2.here hx rfl (hb hby d_prog_17_method_1_code_10) rfl rfl k) ?_
  show Goes _ _ _ _ _ _ _ _ (Tq2.setTop (mkF m 11 #[.val (.ref a), .val .null, .val (.ref el), .val (.ref f), .val (.ref el), .val (.long (0 : Int64)), .second] [(.ref el), (.ref a)]))
  have fq4 : Fld Z hq2 a "com/example/zonetally/zonetally/DayFaults" "hours" "Ljava/util/List;" .null := (F1.other Wq2 (Or.inr (slot_ne (Or.inr (W_87 hw)) (Or.inr (W_85 hw)) (by decide) (t := (.object "java/util/List")) (t' := (.object "com/example/zonetally/zonetally/DailyFile")) (by decide) (by decide))))
  have fq5 : Exa Z hq2 a "com/example/zonetally/zonetally/DayFaults" := (E.wr Wq2)
  obtain ⟨Tq3, hq3, Xq3, eq3, Wq3, stq3⟩ := putF Xq2 hx hZ hown (host := "") (Or.inl (W_86 hw)) Via.refl eq2 fq4 fq5 (Or.inr ⟨(W_87 hw), rfl, hnm⟩) (W_70 hw) (ty := (.object "java/util/List")) (by decide) rfl rfl (g := (mkF m 11 #[.val (.ref a), .val .null, .val (.ref el), .val (.ref f), .val (.ref el), .val (.long (0 : Int64)), .second] [(.ref el), (.ref a)])) rfl rfl (hb hby d_prog_17_method_1_code_11)
  have Nq3 := Fr.snoc Xq3 Nq2 (by omega)
  have zq3 := Wq3.size
  have Oq3 := Oq2.wr Wq3 (by omega)
  have Fq3 : Fld Z hq3 a "com/example/zonetally/zonetally/DayFaults" "hours" "Ljava/util/List;" (.ref el) := fq4.same Wq3
  refine Goes.via stq3 ?_
  show Goes _ _ _ _ _ _ _ _ (Tq3.setTop (mkF m 14 #[.val (.ref a), .val .null, .val (.ref el), .val (.ref f), .val (.ref el), .val (.long (0 : Int64)), .second] []))
  refine Goes.via (fun _ k => XS.aloadN Xq3.here hx rfl (hb hby d_prog_17_method_1_code_14) rfl rfl k) ?_
  show Goes _ _ _ _ _ _ _ _ (Tq3.setTop (mkF m 15 #[.val (.ref a), .val .null, .val (.ref el), .val (.ref f), .val (.ref el), .val (.long (0 : Int64)), .second] [(.ref a)]))
  refine Goes.via (fun _ k => XS.aloadN Xq3.here hx rfl (hb hby d_prog_17_method_1_code_15) rfl rfl k) ?_
  show Goes _ _ _ _ _ _ _ _ (Tq3.setTop (mkF m 16 #[.val (.ref a), .val .null, .val (.ref el), .val (.ref f), .val (.ref el), .val (.long (0 : Int64)), .second] [(.ref f), (.ref a)]))
  have fq7 : Fld Z hq3 a "com/example/zonetally/zonetally/DayFaults" "found" "Ljava/util/List;" .null := ((F2.other Wq2 (Or.inr (slot_ne (Or.inr (W_89 hw)) (Or.inr (W_85 hw)) (by decide) (t := (.object "java/util/List")) (t' := (.object "com/example/zonetally/zonetally/DailyFile")) (by decide) (by decide)))).other Wq3 (Or.inr (slot_ne (Or.inr (W_89 hw)) (Or.inr (W_87 hw)) (by decide) (t := (.object "java/util/List")) (t' := (.object "java/util/List")) (by decide) (by decide))))
  have fq8 : Exa Z hq3 a "com/example/zonetally/zonetally/DayFaults" := (fq5.wr Wq3)
  obtain ⟨Tq6, hq6, Xq6, eq6, Wq6, stq6⟩ := putF Xq3 hx hZ hown (host := "") (Or.inl (W_88 hw)) Via.refl eq3 fq7 fq8 (Or.inr ⟨(W_89 hw), rfl, hnm⟩) (W_70 hw) (ty := (.object "java/util/List")) (by decide) rfl rfl (g := (mkF m 16 #[.val (.ref a), .val .null, .val (.ref el), .val (.ref f), .val (.ref el), .val (.long (0 : Int64)), .second] [(.ref f), (.ref a)])) rfl rfl (hb hby d_prog_17_method_1_code_16)
  have Nq6 := Fr.snoc Xq6 Nq3 (by omega)
  have zq6 := Wq6.size
  have Oq6 := Oq3.wr Wq6 (by omega)
  have Fq6 : Fld Z hq6 a "com/example/zonetally/zonetally/DayFaults" "found" "Ljava/util/List;" (.ref f) := fq7.same Wq6
  refine Goes.via stq6 ?_
  show Goes _ _ _ _ _ _ _ _ (Tq6.setTop (mkF m 19 #[.val (.ref a), .val .null, .val (.ref el), .val (.ref f), .val (.ref el), .val (.long (0 : Int64)), .second] []))
  refine Goes.via (fun _ k => XS.aloadN Xq6.here hx rfl (hb hby d_prog_17_method_1_code_19) rfl rfl k) ?_
  show Goes _ _ _ _ _ _ _ _ (Tq6.setTop (mkF m 20 #[.val (.ref a), .val .null, .val (.ref el), .val (.ref f), .val (.ref el), .val (.long (0 : Int64)), .second] [(.ref a)]))
  refine Goes.via (fun _ k => XS.aload Xq6.here hx rfl (hb hby d_prog_17_method_1_code_20) rfl rfl k) ?_
  show Goes _ _ _ _ _ _ _ _ (Tq6.setTop (mkF m 22 #[.val (.ref a), .val .null, .val (.ref el), .val (.ref f), .val (.ref el), .val (.long (0 : Int64)), .second] [(.ref el), (.ref a)]))
  have fq10 : Fld Z hq6 a "com/example/zonetally/zonetally/DayFaults" "unlisted" "Ljava/util/List;" .null := (((F3.other Wq2 (Or.inr (slot_ne (Or.inr (W_91 hw)) (Or.inr (W_85 hw)) (by decide) (t := (.object "java/util/List")) (t' := (.object "com/example/zonetally/zonetally/DailyFile")) (by decide) (by decide)))).other Wq3 (Or.inr (slot_ne (Or.inr (W_91 hw)) (Or.inr (W_87 hw)) (by decide) (t := (.object "java/util/List")) (t' := (.object "java/util/List")) (by decide) (by decide)))).other Wq6 (Or.inr (slot_ne (Or.inr (W_91 hw)) (Or.inr (W_89 hw)) (by decide) (t := (.object "java/util/List")) (t' := (.object "java/util/List")) (by decide) (by decide))))
  have fq11 : Exa Z hq6 a "com/example/zonetally/zonetally/DayFaults" := (fq8.wr Wq6)
  obtain ⟨Tq9, hq9, Xq9, eq9, Wq9, stq9⟩ := putF Xq6 hx hZ hown (host := "") (Or.inl (W_90 hw)) Via.refl eq6 fq10 fq11 (Or.inr ⟨(W_91 hw), rfl, hnm⟩) (W_70 hw) (ty := (.object "java/util/List")) (by decide) rfl rfl (g := (mkF m 22 #[.val (.ref a), .val .null, .val (.ref el), .val (.ref f), .val (.ref el), .val (.long (0 : Int64)), .second] [(.ref el), (.ref a)])) rfl rfl (hb hby d_prog_17_method_1_code_22)
  have Nq9 := Fr.snoc Xq9 Nq6 (by omega)
  have zq9 := Wq9.size
  have Oq9 := Oq6.wr Wq9 (by omega)
  have Fq9 : Fld Z hq9 a "com/example/zonetally/zonetally/DayFaults" "unlisted" "Ljava/util/List;" (.ref el) := fq10.same Wq9
  refine Goes.via stq9 ?_
  show Goes _ _ _ _ _ _ _ _ (Tq9.setTop (mkF m 25 #[.val (.ref a), .val .null, .val (.ref el), .val (.ref f), .val (.ref el), .val (.long (0 : Int64)), .second] []))
  refine Goes.via (fun _ k => XS.aloadN Xq9.here hx rfl (hb hby d_prog_17_method_1_code_25) rfl rfl k) ?_
  show Goes _ _ _ _ _ _ _ _ (Tq9.setTop (mkF m 26 #[.val (.ref a), .val .null, .val (.ref el), .val (.ref f), .val (.ref el), .val (.long (0 : Int64)), .second] [(.ref a)]))
  refine Goes.via (fun _ k => XT.lload Xq9.here hx rfl (hb hby d_prog_17_method_1_code_26) rfl k) ?_
  show Goes _ _ _ _ _ _ _ _ (Tq9.setTop (mkF m 28 #[.val (.ref a), .val .null, .val (.ref el), .val (.ref f), .val (.ref el), .val (.long (0 : Int64)), .second] [(.long (0 : Int64)), (.ref a)]))
  have fq13 : Fld Z hq9 a "com/example/zonetally/zonetally/DayFaults" "lacking" "J" (.long (0 : Int64)) := ((((F4.other Wq2 (Or.inr (slot_ne (Or.inr (W_93 hw)) (Or.inr (W_85 hw)) (by decide) (t := .long) (t' := (.object "com/example/zonetally/zonetally/DailyFile")) (by decide) (by decide)))).other Wq3 (Or.inr (slot_ne (Or.inr (W_93 hw)) (Or.inr (W_87 hw)) (by decide) (t := .long) (t' := (.object "java/util/List")) (by decide) (by decide)))).other Wq6 (Or.inr (slot_ne (Or.inr (W_93 hw)) (Or.inr (W_89 hw)) (by decide) (t := .long) (t' := (.object "java/util/List")) (by decide) (by decide)))).other Wq9 (Or.inr (slot_ne (Or.inr (W_93 hw)) (Or.inr (W_91 hw)) (by decide) (t := .long) (t' := (.object "java/util/List")) (by decide) (by decide))))
  have fq14 : Exa Z hq9 a "com/example/zonetally/zonetally/DayFaults" := (fq11.wr Wq9)
  obtain ⟨Tq12, hq12, Xq12, eq12, Wq12, stq12⟩ := putF Xq9 hx hZ hown (host := "") (Or.inl (W_92 hw)) Via.refl eq9 fq13 fq14 (Or.inr ⟨(W_93 hw), rfl, hnm⟩) (W_70 hw) (ty := .long) (by decide) rfl rfl (g := (mkF m 28 #[.val (.ref a), .val .null, .val (.ref el), .val (.ref f), .val (.ref el), .val (.long (0 : Int64)), .second] [(.long (0 : Int64)), (.ref a)])) rfl rfl (hb hby d_prog_17_method_1_code_28)
  have Nq12 := Fr.snoc Xq12 Nq9 (by omega)
  have zq12 := Wq12.size
  have Oq12 := Oq9.wr Wq12 (by omega)
  have Fq12 : Fld Z hq12 a "com/example/zonetally/zonetally/DayFaults" "lacking" "J" (.long (0 : Int64)) := fq13.same Wq12
  refine Goes.via stq12 ?_
  show Goes _ _ _ _ _ _ _ _ (Tq12.setTop (mkF m 31 #[.val (.ref a), .val .null, .val (.ref el), .val (.ref f), .val (.ref el), .val (.long (0 : Int64)), .second] []))
  refine goRetV Xq12 hx hrt hlk Nq12 (by decide) (by decide) (hb hby d_prog_17_method_1_code_31) ?_
  try rw [eq12]
  have fq15 : Exa Z hq12 a "com/example/zonetally/zonetally/DayFaults" := (fq14.wr Wq12)
  have fq16 : Fld Z hq12 a "com/example/zonetally/zonetally/DayFaults" "file" "Lcom/example/zonetally/zonetally/DailyFile;" .null := ((((Fq2.other Wq3 (Or.inr (slot_ne (Or.inr (W_85 hw)) (Or.inr (W_87 hw)) (by decide) (t := (.object "com/example/zonetally/zonetally/DailyFile")) (t' := (.object "java/util/List")) (by decide) (by decide)))).other Wq6 (Or.inr (slot_ne (Or.inr (W_85 hw)) (Or.inr (W_89 hw)) (by decide) (t := (.object "com/example/zonetally/zonetally/DailyFile")) (t' := (.object "java/util/List")) (by decide) (by decide)))).other Wq9 (Or.inr (slot_ne (Or.inr (W_85 hw)) (Or.inr (W_91 hw)) (by decide) (t := (.object "com/example/zonetally/zonetally/DailyFile")) (t' := (.object "java/util/List")) (by decide) (by decide)))).other Wq12 (Or.inr (slot_ne (Or.inr (W_85 hw)) (Or.inr (W_93 hw)) (by decide) (t := (.object "com/example/zonetally/zonetally/DailyFile")) (t' := .long) (by decide) (by decide))))
  have fq17 : Fld Z hq12 a "com/example/zonetally/zonetally/DayFaults" "hours" "Ljava/util/List;" (.ref el) := (((Fq3.other Wq6 (Or.inr (slot_ne (Or.inr (W_87 hw)) (Or.inr (W_89 hw)) (by decide) (t := (.object "java/util/List")) (t' := (.object "java/util/List")) (by decide) (by decide)))).other Wq9 (Or.inr (slot_ne (Or.inr (W_87 hw)) (Or.inr (W_91 hw)) (by decide) (t := (.object "java/util/List")) (t' := (.object "java/util/List")) (by decide) (by decide)))).other Wq12 (Or.inr (slot_ne (Or.inr (W_87 hw)) (Or.inr (W_93 hw)) (by decide) (t := (.object "java/util/List")) (t' := .long) (by decide) (by decide))))
  have fq18 : Fld Z hq12 a "com/example/zonetally/zonetally/DayFaults" "found" "Ljava/util/List;" (.ref f) := ((Fq6.other Wq9 (Or.inr (slot_ne (Or.inr (W_89 hw)) (Or.inr (W_91 hw)) (by decide) (t := (.object "java/util/List")) (t' := (.object "java/util/List")) (by decide) (by decide)))).other Wq12 (Or.inr (slot_ne (Or.inr (W_89 hw)) (Or.inr (W_93 hw)) (by decide) (t := (.object "java/util/List")) (t' := .long) (by decide) (by decide))))
  have fq19 : Fld Z hq12 a "com/example/zonetally/zonetally/DayFaults" "unlisted" "Ljava/util/List;" (.ref el) := (Fq9.other Wq12 (Or.inr (slot_ne (Or.inr (W_91 hw)) (Or.inr (W_93 hw)) (by decide) (t := (.object "java/util/List")) (t' := .long) (by decide) (by decide))))
  exact ⟨rfl, ((((((Keep.refl _ [a]).wr Wq2 (Or.inl (by simp))).wr Wq3 (Or.inl (by simp))).wr Wq6 (Or.inl (by simp))).wr Wq9 (Or.inl (by simp))).wr Wq12 (Or.inl (by simp))), fq15, fq16, fq17, fq18, fq19, Fq12⟩
theorem ef_wholeL (m : MethodId) (f : Nat) : entryFrame m #[(.ref f)] 1 = mkF m 0 #[.val (.ref f)] [] := by first | (simp [entryFrame, mkF, argsToLocals, Value.category]; done) | rfl
set_option maxRecDepth 65536 in
set_option maxHeartbeats 40000000 in
theorem wholeL (l : Launch) (Z : State) (aw : Array Value) (hw : ∀ d ∈ tables_1, d.before aw Z = true) (f : Nat) (el : Nat) {h0 : Heap} {n0 : Nat} (O : Old Z n0 h0) (SL : Sta Z Z.heap "java/util/ImmutableCollections" "EMPTY_LIST" "Ljava/util/ImmutableCollections$ListN;" (.ref el)) :
    MET l Z (⟨"com/example/zonetally/zonetally/DayFaults", "whole", "(Ljava/util/List;)Lcom/example/zonetally/zonetally/DayFaults;"⟩ : MethodName) prog_17_method_3_code 1 (some (.object "com/example/zonetally/zonetally/DayFaults")) ({ frames := 3, cells := 1, slots := 5, locals := 50 } : Room) #[(.ref f)] h0 n0 (fun vv hh => ∃ r : Nat, vv = some (.ref r) ∧ h0.size ≤ r ∧ Keep h0 hh [] ∧ Exa Z hh r "com/example/zonetally/zonetally/DayFaults" ∧ Fld Z hh r "com/example/zonetally/zonetally/DayFaults" "file" "Lcom/example/zonetally/zonetally/DailyFile;" .null ∧ Fld Z hh r "com/example/zonetally/zonetally/DayFaults" "hours" "Ljava/util/List;" (.ref el) ∧ Fld Z hh r "com/example/zonetally/zonetally/DayFaults" "found" "Ljava/util/List;" (.ref f) ∧ Fld Z hh r "com/example/zonetally/zonetally/DayFaults" "unlisted" "Ljava/util/List;" (.ref el) ∧ Fld Z hh r "com/example/zonetally/zonetally/DayFaults" "lacking" "J" (.long (0 : Int64))) := by
  refine metOf (plainFor_of_name pn_10) ?_
  intro p e s m below meth c T hx hby hml hrt hlk hnm hZ hown X e0
  replace hml : c.maxLocals = 1 := hml
  replace hnm : meth.name = "whole" := hnm
  replace hown : s.vm.findClass "com/example/zonetally/zonetally/DayFaults" = some m.cls := hown
  have N := Fr.nil n0
  have zO := O.le
  refine goCast (ef_wholeL m f) ?_
  show Goes _ _ _ _ _ _ _ _ (T.setTop (mkF m 0 #[.val (.ref f)] []))
  obtain ⟨Tq1, hq1, Xq1, eq1, Eq1, Aq1, Dq1, -, stq1⟩ := newO X hx hZ hown (W_69 hw) (W_70 hw) (W_24 hw) e0 (g := (mkF m 0 #[.val (.ref f)] [])) rfl (hb hby d_prog_17_method_3_code_0) (by decide) (by decide)
  obtain ⟨bq1, gq1⟩ : ∃ z, z = h0.size := ⟨_, rfl⟩
  rw [← gq1] at Aq1 Dq1 stq1
  have zq1 := Eq1.1
  have Oq1 := O.ext Eq1
  have lq1 := lt_nat Aq1.lt
  refine Goes.via stq1 ?_
  show Goes _ _ _ _ _ _ _ _ (Tq1.setTop (mkF m 3 #[.val (.ref f)] [(.ref bq1)]))
  refine Goes.via (fun _ k => XS.dup Xq1.here hx rfl (hb hby d_prog_17_method_3_code_3) rfl rfl k) ?_
  show Goes _ _ _ _ _ _ _ _ (Tq1.setTop (mkF m 4 #[.val (.ref f)] [(.ref bq1), (.ref bq1)]))
  refine Goes.via (fun _ k => XS.aconstNull Xq1.here hx rfl (hb hby d_prog_17_method_3_code_4) k) ?_
  show Goes _ _ _ _ _ _ _ _ (Tq1.setTop (mkF m 5 #[.val (.ref f)] [.null, (.ref bq1), (.ref bq1)]))
  obtain ⟨vq2, Tq2, Lq2, Xq2, qq2, nq2, stq2⟩ := callSt Xq1 hx hZ hown (listOf0 l Z aw hw el Oq1 SL) (W_71 hw) (W_72 hw) (W_28 hw) (W_73 hw) (by decide) eq1 (by decide) (W := 3) (by decide) (by decide) (by decide) (g := (mkF m 5 #[.val (.ref f)] [.null, (.ref bq1), (.ref bq1)])) rfl (by rw [hml]; rfl) (argsL := []) (rest := [.null, (.ref bq1), (.ref bq1)]) rfl (lenOf pd_11 rfl) rfl (by show 2 * 0 + _ ≤ _; exact Nat.le_of_eq rfl) (hb hby d_prog_17_method_3_code_5)
  obtain ⟨rfl, pq2_0⟩ := qq2
  have Nq2 := Fr.app N nq2
  refine Goes.via stq2 ?_
  show Goes _ _ _ _ _ _ _ _ (Tq2.setTop (mkF m 8 #[.val (.ref f)] [(.ref el), .null, (.ref bq1), (.ref bq1)]))
  refine Goes.via (fun _ k => XS.aloadN Xq2.here hx rfl (hb hby d_prog_17_method_3_code_8) rfl rfl k) ?_
  show Goes _ _ _ _ _ _ _ _ (Tq2.setTop (mkF m 9 #[.val (.ref f)] [(.ref f), (.ref el), .null, (.ref bq1), (.ref bq1)]))
  obtain ⟨vq3, Tq3, Lq3, Xq3, qq3, nq3, stq3⟩ := callSt Xq2 hx hZ hown (listOf0 l Z aw hw el Oq1 SL) (W_71 hw) (W_72 hw) (W_28 hw) (W_73 hw) (by decide) pq2_0 (by decide) (W := 5) (by decide) (by decide) (by decide) (g := (mkF m 9 #[.val (.ref f)] [(.ref f), (.ref el), .null, (.ref bq1), (.ref bq1)])) rfl (by rw [hml]; rfl) (argsL := []) (rest := [(.ref f), (.ref el), .null, (.ref bq1), (.ref bq1)]) rfl (lenOf pd_11 rfl) rfl (by show 2 * 0 + _ ≤ _; exact Nat.le_of_eq rfl) (hb hby d_prog_17_method_3_code_9)
  obtain ⟨rfl, pq3_0⟩ := qq3
  have Nq3 := Fr.app Nq2 nq3
  refine Goes.via stq3 ?_
  show Goes _ _ _ _ _ _ _ _ (Tq3.setTop (mkF m 12 #[.val (.ref f)] [(.ref el), (.ref f), (.ref el), .null, (.ref bq1), (.ref bq1)]))
  refine Goes.via (fun _ k => XT.lconstV Xq3.here hx rfl (0 : Int64) (hb hby d_prog_17_method_3_code_12) (by decide) k) ?_
  show Goes _ _ _ _ _ _ _ _ (Tq3.setTop (mkF m 13 #[.val (.ref f)] [(.long (0 : Int64)), (.ref el), (.ref f), (.ref el), .null, (.ref bq1), (.ref bq1)]))
  obtain ⟨vq4, Tq4, Lq4, Xq4, qq4, nq4, stq4⟩ := callSp Xq3 hx hZ hown (dfInit l Z aw hw bq1 el f Oq1 Aq1 (Dq1 (Or.inr (W_85 hw)) (ty := (.object "com/example/zonetally/zonetally/DailyFile")) (by decide)) (Dq1 (Or.inr (W_87 hw)) (ty := (.object "java/util/List")) (by decide)) (Dq1 (Or.inr (W_89 hw)) (ty := (.object "java/util/List")) (by decide)) (Dq1 (Or.inr (W_91 hw)) (ty := (.object "java/util/List")) (by decide)) (Dq1 (Or.inr (W_93 hw)) (ty := .long) (by decide)) (by omega)) rfl (W_75 hw) (W_76 hw) (W_24 hw) (W_77 hw) (by decide) pq3_0 (by decide) (W := 1) (by decide) (by decide) (by decide) (g := (mkF m 13 #[.val (.ref f)] [(.long (0 : Int64)), (.ref el), (.ref f), (.ref el), .null, (.ref bq1), (.ref bq1)])) rfl (by rw [hml]; rfl) (a := bq1) (argsL := [.null, (.ref el), (.ref f), (.ref el), (.long (0 : Int64))]) (rest := [(.ref bq1)]) rfl (lenOf pd_12 rfl) rfl (by show 2 * 0 + _ ≤ _; exact Nat.le_of_eq rfl) (hb hby d_prog_17_method_3_code_13)
  obtain ⟨rfl, pq4_0, pq4_1, pq4_2, pq4_3, pq4_4, pq4_5, pq4_6⟩ := qq4
  have Nq4 := Fr.app Nq3 nq4
  have zq4 := pq4_0.1
  have Oq4 := Oq1.keep pq4_0 (allS (by omega) all0)
  have ltpq4_1 := lt_nat pq4_1.lt
  refine Goes.via stq4 ?_
  show Goes _ _ _ _ _ _ _ _ (Tq4.setTop (mkF m 16 #[.val (.ref f)] [(.ref bq1)]))
  refine goRetA Xq4 hx hrt rfl hlk Nq4 (by decide) (by decide) rfl (hb hby d_prog_17_method_3_code_16) ?_
  exact ⟨bq1, rfl, by omega, (((Keep.refl _ []).ext Eq1).trans pq4_0 (allS (Or.inr (by omega)) all0)), pq4_1, pq4_2, pq4_3, pq4_4, pq4_5, pq4_6⟩
theorem ef_wholeS (m : MethodId) (e1 : Nat) : entryFrame m #[(.ref e1)] 1 = mkF m 0 #[.val (.ref e1)] [] := by first | (simp [entryFrame, mkF, argsToLocals, Value.category]; done) | rfl
set_option maxRecDepth 65536 in
set_option maxHeartbeats 40000000 in
theorem wholeS (l : Launch) (Z : State) (aw : Array Value) (hw : ∀ d ∈ tables_1, d.before aw Z = true) (e1 : Nat) (em : Nat) (el : Nat) {h0 : Heap} {n0 : Nat} (O : Old Z n0 h0) (SE : Sta Z Z.heap "java/util/ImmutableCollections" "EMPTY" "Ljava/lang/Object;" (.ref em)) (SL : Sta Z Z.heap "java/util/ImmutableCollections" "EMPTY_LIST" "Ljava/util/ImmutableCollections$ListN;" (.ref el)) :
    MET l Z (⟨"com/example/zonetally/zonetally/DayFaults", "whole", "(Ljava/lang/String;)Lcom/example/zonetally/zonetally/DayFaults;"⟩ : MethodName) prog_17_method_2_code 1 (some (.object "com/example/zonetally/zonetally/DayFaults")) ({ frames := 6, cells := 2, slots := 7, locals := 80 } : Room) #[(.ref e1)] h0 n0 (fun vv hh => ∃ r : Nat, ∃ f : Nat, vv = some (.ref r) ∧ Keep h0 hh [] ∧ Exa Z hh r "com/example/zonetally/zonetally/DayFaults" ∧ Fld Z hh r "com/example/zonetally/zonetally/DayFaults" "file" "Lcom/example/zonetally/zonetally/DailyFile;" .null ∧ Fld Z hh r "com/example/zonetally/zonetally/DayFaults" "hours" "Ljava/util/List;" (.ref el) ∧ Fld Z hh r "com/example/zonetally/zonetally/DayFaults" "found" "Ljava/util/List;" (.ref f) ∧ Fld Z hh r "com/example/zonetally/zonetally/DayFaults" "unlisted" "Ljava/util/List;" (.ref el) ∧ Fld Z hh r "com/example/zonetally/zonetally/DayFaults" "lacking" "J" (.long (0 : Int64)) ∧ Exa Z hh f "java/util/ImmutableCollections$List12" ∧ Fld Z hh f "java/util/ImmutableCollections$List12" "e0" "Ljava/lang/Object;" (.ref e1) ∧ Fld Z hh f "java/util/ImmutableCollections$List12" "e1" "Ljava/lang/Object;" (.ref em)) := by
  refine metOf (plainFor_of_name pn_10) ?_
  intro p e s m below meth c T hx hby hml hrt hlk hnm hZ hown X e0
  replace hml : c.maxLocals = 1 := hml
  replace hnm : meth.name = "whole" := hnm
  replace hown : s.vm.findClass "com/example/zonetally/zonetally/DayFaults" = some m.cls := hown
  have N := Fr.nil n0
  have zO := O.le
  refine goCast (ef_wholeS m e1) ?_
  show Goes _ _ _ _ _ _ _ _ (T.setTop (mkF m 0 #[.val (.ref e1)] []))
  refine Goes.via (fun _ k => XS.aloadN X.here hx rfl (hb hby d_prog_17_method_2_code_0) rfl rfl k) ?_
  show Goes _ _ _ _ _ _ _ _ (T.setTop (mkF m 1 #[.val (.ref e1)] [(.ref e1)]))
  obtain ⟨vq1, Tq1, Lq1, Xq1, qq1, nq1, stq1⟩ := callSt X hx hZ hown (listOf1 l Z aw hw e1 em O SE) (W_26 hw) (W_27 hw) (W_28 hw) (W_29 hw) (by decide) e0 (by decide) (W := 0) (by decide) (by decide) (by decide) (g := (mkF m 1 #[.val (.ref e1)] [(.ref e1)])) rfl (by rw [hml]; rfl) (argsL := [(.ref e1)]) (rest := []) rfl (lenOf pd_13 rfl) rfl (by show 2 * 0 + _ ≤ _; exact Nat.le_of_eq rfl) (hb hby d_prog_17_method_2_code_1)
  obtain ⟨xr_q1, rfl, pq1_0, pq1_1, pq1_2, pq1_3, pq1_4⟩ := qq1
  have Nq1 := Fr.app N nq1
  have zq1 := pq1_1.1
  have Oq1 := O.keep pq1_1 all0
  have ltpq1_2 := lt_nat pq1_2.lt
  refine Goes.via stq1 ?_
  show Goes _ _ _ _ _ _ _ _ (Tq1.setTop (mkF m 4 #[.val (.ref e1)] [(.ref xr_q1)]))
  obtain ⟨vq2, Tq2, Lq2, Xq2, qq2, nq2, stq2⟩ := callSt Xq1 hx hZ hown (wholeL l Z aw hw xr_q1 el Oq1 SL) (W_66 hw) (W_67 hw) (W_24 hw) (W_68 hw) (by decide) rfl (by decide) (W := 0) (by decide) (by decide) (by decide) (g := (mkF m 4 #[.val (.ref e1)] [(.ref xr_q1)])) rfl (by rw [hml]; rfl) (argsL := [(.ref xr_q1)]) (rest := []) rfl (lenOf pd_14 rfl) rfl (by show 2 * 0 + _ ≤ _; exact Nat.le_of_eq rfl) (hb hby d_prog_17_method_2_code_4)
  obtain ⟨xr_q2, rfl, pq2_0, pq2_1, pq2_2, pq2_3, pq2_4, pq2_5, pq2_6, pq2_7⟩ := qq2
  have Nq2 := Fr.app Nq1 nq2
  have zq2 := pq2_1.1
  have Oq2 := Oq1.keep pq2_1 all0
  have ltpq2_2 := lt_nat pq2_2.lt
  refine Goes.via stq2 ?_
  show Goes _ _ _ _ _ _ _ _ (Tq2.setTop (mkF m 7 #[.val (.ref e1)] [(.ref xr_q2)]))
  refine goRetA Xq2 hx hrt rfl hlk Nq2 (by decide) (by decide) rfl (hb hby d_prog_17_method_2_code_7) ?_
  have fq3 : Exa Z Tq2.heap xr_q1 "java/util/ImmutableCollections$List12" := (pq1_2.keep pq2_1)
  have fq4 : Fld Z Tq2.heap xr_q1 "java/util/ImmutableCollections$List12" "e0" "Ljava/lang/Object;" (.ref e1) := (pq1_3.keep pq2_1 nin0)
  have fq5 : Fld Z Tq2.heap xr_q1 "java/util/ImmutableCollections$List12" "e1" "Ljava/lang/Object;" (.ref em) := (pq1_4.keep pq2_1 nin0)
  exact ⟨xr_q2, xr_q1, rfl, (((Keep.refl _ []).trans pq1_1 all0).trans pq2_1 all0), pq2_2, pq2_3, pq2_4, pq2_5, pq2_6, pq2_7, fq3, fq4, fq5⟩
theorem ef_get_file (m : MethodId) (a : Nat) : entryFrame m #[(.ref a)] 1 = mkF m 0 #[.val (.ref a)] [] := by first | (simp [entryFrame, mkF, argsToLocals, Value.category]; done) | rfl
set_option maxRecDepth 65536 in
set_option maxHeartbeats 40000000 in
theorem get_file (l : Launch) (Z : State) (aw : Array Value) (hw : ∀ d ∈ tables_1, d.before aw Z = true) (a : Nat) {h0 : Heap} {n0 : Nat} (O : Old Z n0 h0) (F : Fld Z h0 a "com/example/zonetally/zonetally/DayFaults" "file" "Lcom/example/zonetally/zonetally/DailyFile;" .null) :
    MET l Z (⟨"com/example/zonetally/zonetally/DayFaults", "file", "()Lcom/example/zonetally/zonetally/DailyFile;"⟩ : MethodName) prog_17_method_9_code 1 (some (.object "com/example/zonetally/zonetally/DailyFile")) ({ frames := 0, cells := 0, slots := 0, locals := 0 } : Room) #[(.ref a)] h0 n0 (fun vv hh => vv = some .null ∧ hh = h0) := by
  refine metOf (plainFor_of_name pn_10) ?_
  intro p e s m below meth c T hx hby hml hrt hlk hnm hZ hown X e0
  replace hml : c.maxLocals = 1 := hml
  replace hnm : meth.name = "file" := hnm
  replace hown : s.vm.findClass "com/example/zonetally/zonetally/DayFaults" = some m.cls := hown
  have N := Fr.nil n0
  have zO := O.le
  refine goCast (ef_get_file m a) ?_
  have lt_a := lt_nat F.lt
  show Goes _ _ _ _ _ _ _ _ (T.setTop (mkF m 0 #[.val (.ref a)] []))
  refine Goes.via (fun _ k => XS.aloadN X.here hx rfl (hb hby d_prog_17_method_9_code_0) rfl rfl k) ?_
  show Goes _ _ _ _ _ _ _ _ (T.setTop (mkF m 1 #[.val (.ref a)] [(.ref a)]))
  obtain ⟨Tq1, Xq1, eq1, stq1⟩ := getF X hx hZ hown (host := "") (Or.inl (W_84 hw)) Via.refl e0 F (g := (mkF m 1 #[.val (.ref a)] [(.ref a)])) rfl rfl (hb hby d_prog_17_method_9_code_1)
  refine Goes.via stq1 ?_
  show Goes _ _ _ _ _ _ _ _ (Tq1.setTop (mkF m 4 #[.val (.ref a)] [.null]))
  refine goRetA Xq1 hx hrt rfl hlk N (by decide) (by decide) rfl (hb hby d_prog_17_method_9_code_4) ?_
  try rw [eq1]
  exact ⟨rfl, rfl⟩
theorem ef_get_hours (m : MethodId) (a : Nat) : entryFrame m #[(.ref a)] 1 = mkF m 0 #[.val (.ref a)] [] := by first | (simp [entryFrame, mkF, argsToLocals, Value.category]; done) | rfl
set_option maxRecDepth 65536 in
set_option maxHeartbeats 40000000 in
theorem get_hours (l : Launch) (Z : State) (aw : Array Value) (hw : ∀ d ∈ tables_1, d.before aw Z = true) (a : Nat) (v : Nat) {h0 : Heap} {n0 : Nat} (O : Old Z n0 h0) (F : Fld Z h0 a "com/example/zonetally/zonetally/DayFaults" "hours" "Ljava/util/List;" (.ref v)) :
    MET l Z (⟨"com/example/zonetally/zonetally/DayFaults", "hours", "()Ljava/util/List;"⟩ : MethodName) prog_17_method_10_code 1 (some (.object "java/util/List")) ({ frames := 0, cells := 0, slots := 0, locals := 0 } : Room) #[(.ref a)] h0 n0 (fun vv hh => vv = some (.ref v) ∧ hh = h0) := by
  refine metOf (plainFor_of_name pn_10) ?_
  intro p e s m below meth c T hx hby hml hrt hlk hnm hZ hown X e0
  replace hml : c.maxLocals = 1 := hml
  replace hnm : meth.name = "hours" := hnm
  replace hown : s.vm.findClass "com/example/zonetally/zonetally/DayFaults" = some m.cls := hown
  have N := Fr.nil n0
  have zO := O.le
  refine goCast (ef_get_hours m a) ?_
  have lt_a := lt_nat F.lt
  show Goes _ _ _ _ _ _ _ _ (T.setTop (mkF m 0 #[.val (.ref a)] []))
  refine Goes.via (fun _ k => XS.aloadN X.here hx rfl (hb hby d_prog_17_method_10_code_0) rfl rfl k) ?_
  show Goes _ _ _ _ _ _ _ _ (T.setTop (mkF m 1 #[.val (.ref a)] [(.ref a)]))
  obtain ⟨Tq1, Xq1, eq1, stq1⟩ := getF X hx hZ hown (host := "") (Or.inl (W_86 hw)) Via.refl e0 F (g := (mkF m 1 #[.val (.ref a)] [(.ref a)])) rfl rfl (hb hby d_prog_17_method_10_code_1)
  refine Goes.via stq1 ?_
  show Goes _ _ _ _ _ _ _ _ (Tq1.setTop (mkF m 4 #[.val (.ref a)] [(.ref v)]))
  refine goRetA Xq1 hx hrt rfl hlk N (by decide) (by decide) rfl (hb hby d_prog_17_method_10_code_4) ?_
  try rw [eq1]
  exact ⟨rfl, rfl⟩
theorem ef_get_found (m : MethodId) (a : Nat) : entryFrame m #[(.ref a)] 1 = mkF m 0 #[.val (.ref a)] [] := by first | (simp [entryFrame, mkF, argsToLocals, Value.category]; done) | rfl
set_option maxRecDepth 65536 in
set_option maxHeartbeats 40000000 in
theorem get_found (l : Launch) (Z : State) (aw : Array Value) (hw : ∀ d ∈ tables_1, d.before aw Z = true) (a : Nat) (v : Nat) {h0 : Heap} {n0 : Nat} (O : Old Z n0 h0) (F : Fld Z h0 a "com/example/zonetally/zonetally/DayFaults" "found" "Ljava/util/List;" (.ref v)) :
    MET l Z (⟨"com/example/zonetally/zonetally/DayFaults", "found", "()Ljava/util/List;"⟩ : MethodName) prog_17_method_11_code 1 (some (.object "java/util/List")) ({ frames := 0, cells := 0, slots := 0, locals := 0 } : Room) #[(.ref a)] h0 n0 (fun vv hh => vv = some (.ref v) ∧ hh = h0) := by
  refine metOf (plainFor_of_name pn_10) ?_
  intro p e s m below meth c T hx hby hml hrt hlk hnm hZ hown X e0
  replace hml : c.maxLocals = 1 := hml
  replace hnm : meth.name = "found" := hnm
  replace hown : s.vm.findClass "com/example/zonetally/zonetally/DayFaults" = some m.cls := hown
  have N := Fr.nil n0
  have zO := O.le
  refine goCast (ef_get_found m a) ?_
  have lt_a := lt_nat F.lt
  show Goes _ _ _ _ _ _ _ _ (T.setTop (mkF m 0 #[.val (.ref a)] []))
  refine Goes.via (fun _ k => XS.aloadN X.here hx rfl (hb hby d_prog_17_method_11_code_0) rfl rfl k) ?_
  show Goes _ _ _ _ _ _ _ _ (T.setTop (mkF m 1 #[.val (.ref a)] [(.ref a)]))
  obtain ⟨Tq1, Xq1, eq1, stq1⟩ := getF X hx hZ hown (host := "") (Or.inl (W_88 hw)) Via.refl e0 F (g := (mkF m 1 #[.val (.ref a)] [(.ref a)])) rfl rfl (hb hby d_prog_17_method_11_code_1)
  refine Goes.via stq1 ?_
  show Goes _ _ _ _ _ _ _ _ (Tq1.setTop (mkF m 4 #[.val (.ref a)] [(.ref v)]))
  refine goRetA Xq1 hx hrt rfl hlk N (by decide) (by decide) rfl (hb hby d_prog_17_method_11_code_4) ?_
  try rw [eq1]
  exact ⟨rfl, rfl⟩
theorem ef_get_unlisted (m : MethodId) (a : Nat) : entryFrame m #[(.ref a)] 1 = mkF m 0 #[.val (.ref a)] [] := by first | (simp [entryFrame, mkF, argsToLocals, Value.category]; done) | rfl
set_option maxRecDepth 65536 in
set_option maxHeartbeats 40000000 in
theorem get_unlisted (l : Launch) (Z : State) (aw : Array Value) (hw : ∀ d ∈ tables_1, d.before aw Z = true) (a : Nat) (v : Nat) {h0 : Heap} {n0 : Nat} (O : Old Z n0 h0) (F : Fld Z h0 a "com/example/zonetally/zonetally/DayFaults" "unlisted" "Ljava/util/List;" (.ref v)) :
    MET l Z (⟨"com/example/zonetally/zonetally/DayFaults", "unlisted", "()Ljava/util/List;"⟩ : MethodName) prog_17_method_12_code 1 (some (.object "java/util/List")) ({ frames := 0, cells := 0, slots := 0, locals := 0 } : Room) #[(.ref a)] h0 n0 (fun vv hh => vv = some (.ref v) ∧ hh = h0) := by
  refine metOf (plainFor_of_name pn_10) ?_
  intro p e s m below meth c T hx hby hml hrt hlk hnm hZ hown X e0
  replace hml : c.maxLocals = 1 := hml
  replace hnm : meth.name = "unlisted" := hnm
  replace hown : s.vm.findClass "com/example/zonetally/zonetally/DayFaults" = some m.cls := hown
  have N := Fr.nil n0
  have zO := O.le
  refine goCast (ef_get_unlisted m a) ?_
  have lt_a := lt_nat F.lt
  show Goes _ _ _ _ _ _ _ _ (T.setTop (mkF m 0 #[.val (.ref a)] []))
  refine Goes.via (fun _ k => XS.aloadN X.here hx rfl (hb hby d_prog_17_method_12_code_0) rfl rfl k) ?_
  show Goes _ _ _ _ _ _ _ _ (T.setTop (mkF m 1 #[.val (.ref a)] [(.ref a)]))
  obtain ⟨Tq1, Xq1, eq1, stq1⟩ := getF X hx hZ hown (host := "") (Or.inl (W_90 hw)) Via.refl e0 F (g := (mkF m 1 #[.val (.ref a)] [(.ref a)])) rfl rfl (hb hby d_prog_17_method_12_code_1)
  refine Goes.via stq1 ?_
  show Goes _ _ _ _ _ _ _ _ (Tq1.setTop (mkF m 4 #[.val (.ref a)] [(.ref v)]))
  refine goRetA Xq1 hx hrt rfl hlk N (by decide) (by decide) rfl (hb hby d_prog_17_method_12_code_4) ?_
  try rw [eq1]
  exact ⟨rfl, rfl⟩
theorem ef_get_lacking (m : MethodId) (a : Nat) : entryFrame m #[(.ref a)] 1 = mkF m 0 #[.val (.ref a)] [] := by first | (simp [entryFrame, mkF, argsToLocals, Value.category]; done) | rfl
set_option maxRecDepth 65536 in
set_option maxHeartbeats 40000000 in
theorem get_lacking (l : Launch) (Z : State) (aw : Array Value) (hw : ∀ d ∈ tables_1, d.before aw Z = true) (a : Nat) {h0 : Heap} {n0 : Nat} (O : Old Z n0 h0) (F : Fld Z h0 a "com/example/zonetally/zonetally/DayFaults" "lacking" "J" (.long (0 : Int64))) :
    MET l Z (⟨"com/example/zonetally/zonetally/DayFaults", "lacking", "()J"⟩ : MethodName) prog_17_method_13_code 1 (some .long) ({ frames := 0, cells := 0, slots := 0, locals := 0 } : Room) #[(.ref a)] h0 n0 (fun vv hh => vv = some (.long (0 : Int64)) ∧ hh = h0) := by
  refine metOf (plainFor_of_name pn_10) ?_
  intro p e s m below meth c T hx hby hml hrt hlk hnm hZ hown X e0
  replace hml : c.maxLocals = 1 := hml
  replace hnm : meth.name = "lacking" := hnm
  replace hown : s.vm.findClass "com/example/zonetally/zonetally/DayFaults" = some m.cls := hown
  have N := Fr.nil n0
  have zO := O.le
  refine goCast (ef_get_lacking m a) ?_
  have lt_a := lt_nat F.lt
  show Goes _ _ _ _ _ _ _ _ (T.setTop (mkF m 0 #[.val (.ref a)] []))
  refine Goes.via (fun _ k => XS.aloadN X.here hx rfl (hb hby d_prog_17_method_13_code_0) rfl rfl k) ?_
  show Goes _ _ _ _ _ _ _ _ (T.setTop (mkF m 1 #[.val (.ref a)] [(.ref a)]))
  obtain ⟨Tq1, Xq1, eq1, stq1⟩ := getF X hx hZ hown (host := "") (Or.inl (W_92 hw)) Via.refl e0 F (g := (mkF m 1 #[.val (.ref a)] [(.ref a)])) rfl rfl (hb hby d_prog_17_method_13_code_1)
  refine Goes.via stq1 ?_
  show Goes _ _ _ _ _ _ _ _ (Tq1.setTop (mkF m 4 #[.val (.ref a)] [(.long (0 : Int64))]))
  refine goRetJ Xq1 hx hrt hlk N (by decide) (by decide) (hb hby d_prog_17_method_13_code_4) ?_
  try rw [eq1]
  exact ⟨rfl, rfl⟩
theorem ef_named (m : MethodId) (a : Nat) (x1 : Nat) (x2 : Nat) : entryFrame m #[(.ref a), (.ref x1), (.ref x2)] 8 = mkF m 0 #[.val (.ref a), .val (.ref x1), .val (.ref x2), .unset, .unset, .unset, .unset, .unset] [] := by first | (simp [entryFrame, mkF, argsToLocals, Value.category]; done) | rfl
set_option maxRecDepth 65536 in
set_option maxHeartbeats 40000000 in
theorem named (l : Launch) (Z : State) (aw : Array Value) (hw : ∀ d ∈ tables_1, d.before aw Z = true) (a : Nat) (x1 : Nat) (x2 : Nat) (v : Nat) {h0 : Heap} {n0 : Nat} (O : Old Z n0 h0) (F : Fld Z h0 a "com/example/zonetally/zonetally/DayFaults" "lacking" "J" (.long (0 : Int64))) (G : Fld Z h0 a "com/example/zonetally/zonetally/DayFaults" "found" "Ljava/util/List;" (.ref v)) :
    MET l Z (⟨"com/example/zonetally/zonetally/DayFaults", "named", "(Ljava/util/List;[Z)Ljava/util/List;"⟩ : MethodName) prog_17_method_5_code 8 (some (.object "java/util/List")) ({ frames := 0, cells := 0, slots := 0, locals := 0 } : Room) #[(.ref a), (.ref x1), (.ref x2)] h0 n0 (fun vv hh => vv = some (.ref v) ∧ hh = h0) := by
  refine metOf (plainFor_of_name pn_10) ?_
  intro p e s m below meth c T hx hby hml hrt hlk hnm hZ hown X e0
  replace hml : c.maxLocals = 8 := hml
  replace hnm : meth.name = "named" := hnm
  replace hown : s.vm.findClass "com/example/zonetally/zonetally/DayFaults" = some m.cls := hown
  have N := Fr.nil n0
  have zO := O.le
  refine goCast (ef_named m a x1 x2) ?_
  have lt_a := lt_nat F.lt
  show Goes _ _ _ _ _ _ _ _ (T.setTop (mkF m 0 #[.val (.ref a), .val (.ref x1), .val (.ref x2), .unset, .unset, .unset, .unset, .unset] []))
  refine Goes.via (fun _ k => XS.aloadN X.here hx rfl (hb hby d_prog_17_method_5_code_0) rfl rfl k) ?_
  show Goes _ _ _ _ _ _ _ _ (T.setTop (mkF m 1 #[.val (.ref a), .val (.ref x1), .val (.ref x2), .unset, .unset, .unset, .unset, .unset] [(.ref a)]))
  obtain ⟨Tq1, Xq1, eq1, stq1⟩ := getF X hx hZ hown (host := "") (Or.inl (W_92 hw)) Via.refl e0 F (g := (mkF m 1 #[.val (.ref a), .val (.ref x1), .val (.ref x2), .unset, .unset, .unset, .unset, .unset] [(.ref a)])) rfl rfl (hb hby d_prog_17_method_5_code_1)
  refine Goes.via stq1 ?_
  show Goes _ _ _ _ _ _ _ _ (Tq1.setTop (mkF m 4 #[.val (.ref a), .val (.ref x1), .val (.ref x2), .unset, .unset, .unset, .unset, .unset] [(.long (0 : Int64))]))
  refine Goes.via (fun _ k => XT.lconstV Xq1.here hx rfl (0 : Int64) (hb hby d_prog_17_method_5_code_4) (by decide) k) ?_
  show Goes _ _ _ _ _ _ _ _ (Tq1.setTop (mkF m 5 #[.val (.ref a), .val (.ref x1), .val (.ref x2), .unset, .unset, .unset, .unset, .unset] [(.long (0 : Int64)), (.long (0 : Int64))]))
  refine Goes.via (fun _ k => XT.lcmp Xq1.here hx rfl (hb hby d_prog_17_method_5_code_5) rfl k) ?_
  show Goes _ _ _ _ _ _ _ _ (Tq1.setTop (mkF m 6 #[.val (.ref a), .val (.ref x1), .val (.ref x2), .unset, .unset, .unset, .unset, .unset] [(.int (XT.cmpL (0 : Int64) (0 : Int64)))]))
  refine Goes.via (fun _ k => XS.ifNo Xq1.here hx rfl (hb hby d_prog_17_method_5_code_6) rfl (XT.ll_ne_f (by decide)) k) ?_
  show Goes _ _ _ _ _ _ _ _ (Tq1.setTop (mkF m 9 #[.val (.ref a), .val (.ref x1), .val (.ref x2), .unset, .unset, .unset, .unset, .unset] []))
  refine Goes.via (fun _ k => XS.aloadN Xq1.here hx rfl (hb hby d_prog_17_method_5_code_9) rfl rfl k) ?_
  show Goes _ _ _ _ _ _ _ _ (Tq1.setTop (mkF m 10 #[.val (.ref a), .val (.ref x1), .val (.ref x2), .unset, .unset, .unset, .unset, .unset] [(.ref a)]))
  obtain ⟨Tq2, Xq2, eq2, stq2⟩ := getF Xq1 hx hZ hown (host := "") (Or.inl (W_88 hw)) Via.refl eq1 G (g := (mkF m 10 #[.val (.ref a), .val (.ref x1), .val (.ref x2), .unset, .unset, .unset, .unset, .unset] [(.ref a)])) rfl rfl (hb hby d_prog_17_method_5_code_10)
  refine Goes.via stq2 ?_
  show Goes _ _ _ _ _ _ _ _ (Tq2.setTop (mkF m 13 #[.val (.ref a), .val (.ref x1), .val (.ref x2), .unset, .unset, .unset, .unset, .unset] [(.ref v)]))
  refine goRetA Xq2 hx hrt rfl hlk N (by decide) (by decide) rfl (hb hby d_prog_17_method_5_code_13) ?_
  try rw [eq2]
  exact ⟨rfl, rfl⟩
theorem ef_sizeN (m : MethodId) (a : Nat) : entryFrame m #[(.ref a)] 1 = mkF m 0 #[.val (.ref a)] [] := by first | (simp [entryFrame, mkF, argsToLocals, Value.category]; done) | rfl
set_option maxRecDepth 65536 in
set_option maxHeartbeats 40000000 in
theorem sizeN (l : Launch) (Z : State) (aw : Array Value) (hw : ∀ d ∈ tables_1, d.before aw Z = true) (a : Nat) (w : Nat) (k : ClassId) (vs : List Value) {h0 : Heap} {n0 : Nat} (O : Old Z n0 h0) (F : Fld Z Z.heap a "java/util/ImmutableCollections$ListN" "elements" "[Ljava/lang/Object;" (.ref w)) (V : Arv Z Z.heap w k (.object "java/lang/Object") (0 : Int32) vs .null) :
    MET l Z (⟨"java/util/ImmutableCollections$ListN", "size", "()I"⟩ : MethodName) jdk_45_method_3_code 1 (some .int) ({ frames := 0, cells := 0, slots := 0, locals := 0 } : Room) #[(.ref a)] h0 n0 (fun vv hh => vv = some (.int (0 : Int32)) ∧ hh = h0) := by
  refine metOf (plainFor_of_name pn_15) ?_
  intro p e s m below meth c T hx hby hml hrt hlk hnm hZ hown X e0
  replace hml : c.maxLocals = 1 := hml
  replace hnm : meth.name = "size" := hnm
  replace hown : s.vm.findClass "java/util/ImmutableCollections$ListN" = some m.cls := hown
  have N := Fr.nil n0
  have zO := O.le
  refine goCast (ef_sizeN m a) ?_
  show Goes _ _ _ _ _ _ _ _ (T.setTop (mkF m 0 #[.val (.ref a)] []))
  refine Goes.via (fun _ k => XS.aloadN X.here hx rfl (hb hby d_jdk_45_method_3_code_0) rfl rfl k) ?_
  show Goes _ _ _ _ _ _ _ _ (T.setTop (mkF m 1 #[.val (.ref a)] [(.ref a)]))
  have fq2 : Fld Z h0 a "java/util/ImmutableCollections$ListN" "elements" "[Ljava/lang/Object;" (.ref w) := (F.ext O.2)
  obtain ⟨Tq1, Xq1, eq1, stq1⟩ := getF X hx hZ hown (host := "") (Or.inl (W_144 hw)) Via.refl e0 fq2 (g := (mkF m 1 #[.val (.ref a)] [(.ref a)])) rfl rfl (hb hby d_jdk_45_method_3_code_1)
  refine Goes.via stq1 ?_
  show Goes _ _ _ _ _ _ _ _ (Tq1.setTop (mkF m 4 #[.val (.ref a)] [(.ref w)]))
  have fq3 : Arv Z h0 w k (.object "java/lang/Object") (0 : Int32) vs .null := (V.ext O.2)
  obtain ⟨clq4, Arq4, -, Sq4, Nnq4, -, -⟩ := id fq3
  refine Goes.via (Xq1.arraylength hx (by rw [eq1]; exact Arq4.1) (State.isArrayOf_alike hZ.alike Arq4.2.1) (g := (mkF m 4 #[.val (.ref a)] [(.ref w)])) rfl rfl (hb hby d_jdk_45_method_3_code_4)) ?_
  rw [len_of Sq4 Nnq4]
  show Goes _ _ _ _ _ _ _ _ (Tq1.setTop (mkF m 5 #[.val (.ref a)] [(.int (0 : Int32))]))
  refine goRetI Xq1 hx hrt hlk N (by decide) (by decide) (hb hby d_jdk_45_method_3_code_5) ?_
  try rw [eq1]
  exact ⟨rfl, rfl⟩
theorem ef_size12 (m : MethodId) (a : Nat) : entryFrame m #[(.ref a)] 1 = mkF m 0 #[.val (.ref a)] [] := by first | (simp [entryFrame, mkF, argsToLocals, Value.category]; done) | rfl
set_option maxRecDepth 65536 in
set_option maxHeartbeats 40000000 in
theorem size12 (l : Launch) (Z : State) (aw : Array Value) (hw : ∀ d ∈ tables_1, d.before aw Z = true) (a : Nat) (em : Nat) {h0 : Heap} {n0 : Nat} (O : Old Z n0 h0) (SE : Sta Z Z.heap "java/util/ImmutableCollections" "EMPTY" "Ljava/lang/Object;" (.ref em)) (F : Fld Z h0 a "java/util/ImmutableCollections$List12" "e1" "Ljava/lang/Object;" (.ref em)) :
    MET l Z (⟨"java/util/ImmutableCollections$List12", "size", "()I"⟩ : MethodName) jdk_44_method_3_code 1 (some .int) ({ frames := 0, cells := 0, slots := 0, locals := 0 } : Room) #[(.ref a)] h0 n0 (fun vv hh => vv = some (.int (1 : Int32)) ∧ hh = h0) := by
  refine metOf (plainFor_of_name pn_6) ?_
  intro p e s m below meth c T hx hby hml hrt hlk hnm hZ hown X e0
  replace hml : c.maxLocals = 1 := hml
  replace hnm : meth.name = "size" := hnm
  replace hown : s.vm.findClass "java/util/ImmutableCollections$List12" = some m.cls := hown
  have N := Fr.nil n0
  have zO := O.le
  refine goCast (ef_size12 m a) ?_
  have lt_a := lt_nat F.lt
  show Goes _ _ _ _ _ _ _ _ (T.setTop (mkF m 0 #[.val (.ref a)] []))
  refine Goes.via (fun _ k => XS.aloadN X.here hx rfl (hb hby d_jdk_44_method_3_code_0) rfl rfl k) ?_
  show Goes _ _ _ _ _ _ _ _ (T.setTop (mkF m 1 #[.val (.ref a)] [(.ref a)]))
  obtain ⟨Tq1, Xq1, eq1, stq1⟩ := getF X hx hZ hown (host := "") (Or.inl (W_64 hw)) Via.refl e0 F (g := (mkF m 1 #[.val (.ref a)] [(.ref a)])) rfl rfl (hb hby d_jdk_44_method_3_code_1)
  refine Goes.via stq1 ?_
  show Goes _ _ _ _ _ _ _ _ (Tq1.setTop (mkF m 4 #[.val (.ref a)] [(.ref em)]))
  have fq3 : Sta Z h0 "java/util/ImmutableCollections" "EMPTY" "Ljava/lang/Object;" (.ref em) := (SE.ext O.2)
  obtain ⟨Tq2, Xq2, eq2, stq2⟩ := getS2 Xq1 hx hZ hown (Or.inr (W_62 hw)) Via.refl eq1 fq3 (g := (mkF m 4 #[.val (.ref a)] [(.ref em)])) rfl (hb hby d_jdk_44_method_3_code_4)
  refine Goes.via stq2 ?_
  show Goes _ _ _ _ _ _ _ _ (Tq2.setTop (mkF m 7 #[.val (.ref a)] [(.ref em), (.ref em)]))
  refine Goes.via (fun _ k => XT.acmpYes Xq2.here hx rfl (pc0 := 7) (pc' := 14) rfl (hb hby d_jdk_44_method_3_code_7) rfl rfl rfl (XT.aa_eq_t rfl) (by decide) (by decide) k) ?_
  show Goes _ _ _ _ _ _ _ _ (Tq2.setTop (mkF m 14 #[.val (.ref a)] []))
  refine Goes.via (fun _ k => XT.iconstV Xq2.here hx rfl (1 : Int32) (hb hby d_jdk_44_method_3_code_14) (by decide) k) ?_
  show Goes _ _ _ _ _ _ _ _ (Tq2.setTop (mkF m 15 #[.val (.ref a)] [(.int (1 : Int32))]))
  refine goRetI Xq2 hx hrt hlk N (by decide) (by decide) (hb hby d_jdk_44_method_3_code_15) ?_
  try rw [eq2]
  exact ⟨rfl, rfl⟩
theorem ef_get12 (m : MethodId) (a : Nat) : entryFrame m #[(.ref a), (.int (0 : Int32))] 2 = mkF m 0 #[.val (.ref a), .val (.int (0 : Int32))] [] := by first | (simp [entryFrame, mkF, argsToLocals, Value.category]; done) | rfl
set_option maxRecDepth 65536 in
set_option maxHeartbeats 40000000 in
theorem get12 (l : Launch) (Z : State) (aw : Array Value) (hw : ∀ d ∈ tables_1, d.before aw Z = true) (a : Nat) (v : Nat) {h0 : Heap} {n0 : Nat} (O : Old Z n0 h0) (F : Fld Z h0 a "java/util/ImmutableCollections$List12" "e0" "Ljava/lang/Object;" (.ref v)) :
    MET l Z (⟨"java/util/ImmutableCollections$List12", "get", "(I)Ljava/lang/Object;"⟩ : MethodName) jdk_44_method_5_code 2 (some (.object "java/lang/Object")) ({ frames := 0, cells := 0, slots := 0, locals := 0 } : Room) #[(.ref a), (.int (0 : Int32))] h0 n0 (fun vv hh => vv = some (.ref v) ∧ hh = h0) := by
  refine metOf (plainFor_of_name pn_6) ?_
  intro p e s m below meth c T hx hby hml hrt hlk hnm hZ hown X e0
  replace hml : c.maxLocals = 2 := hml
  replace hnm : meth.name = "get" := hnm
  replace hown : s.vm.findClass "java/util/ImmutableCollections$List12" = some m.cls := hown
  have N := Fr.nil n0
  have zO := O.le
  refine goCast (ef_get12 m a) ?_
  have lt_a := lt_nat F.lt
  show Goes _ _ _ _ _ _ _ _ (T.setTop (mkF m 0 #[.val (.ref a), .val (.int (0 : Int32))] []))
  refine Goes.via (fun _ k => XS.iloadN X.here hx rfl (hb hby d_jdk_44_method_5_code_0) rfl k) ?_
  show Goes _ _ _ _ _ _ _ _ (T.setTop (mkF m 1 #[.val (.ref a), .val (.int (0 : Int32))] [(.int (0 : Int32))]))
  refine Goes.via (fun _ k => XS.ifNo X.here hx rfl (hb hby d_jdk_44_method_5_code_1) rfl (XT.i0_ne_f (by decide)) k) ?_
  show Goes _ _ _ _ _ _ _ _ (T.setTop (mkF m 4 #[.val (.ref a), .val (.int (0 : Int32))] []))
  refine Goes.via (fun _ k => XS.aloadN X.here hx rfl (hb hby d_jdk_44_method_5_code_4) rfl rfl k) ?_
  show Goes _ _ _ _ _ _ _ _ (T.setTop (mkF m 5 #[.val (.ref a), .val (.int (0 : Int32))] [(.ref a)]))
  obtain ⟨Tq1, Xq1, eq1, stq1⟩ := getF X hx hZ hown (host := "") (Or.inl (W_60 hw)) Via.refl e0 F (g := (mkF m 5 #[.val (.ref a), .val (.int (0 : Int32))] [(.ref a)])) rfl rfl (hb hby d_jdk_44_method_5_code_5)
  refine Goes.via stq1 ?_
  show Goes _ _ _ _ _ _ _ _ (Tq1.setTop (mkF m 8 #[.val (.ref a), .val (.int (0 : Int32))] [(.ref v)]))
  refine goRetA Xq1 hx hrt rfl hlk N (by decide) (by decide) rfl (hb hby d_jdk_44_method_5_code_8) ?_
  try rw [eq1]
  exact ⟨rfl, rfl⟩
theorem ef_empty12 (m : MethodId) (a : Nat) : entryFrame m #[(.ref a)] 1 = mkF m 0 #[.val (.ref a)] [] := by first | (simp [entryFrame, mkF, argsToLocals, Value.category]; done) | rfl
set_option maxRecDepth 65536 in
set_option maxHeartbeats 40000000 in
theorem empty12 (l : Launch) (Z : State) (aw : Array Value) (hw : ∀ d ∈ tables_1, d.before aw Z = true) (a : Nat) {h0 : Heap} {n0 : Nat} (O : Old Z n0 h0) :
    MET l Z (⟨"java/util/ImmutableCollections$List12", "isEmpty", "()Z"⟩ : MethodName) jdk_44_method_4_code 1 (some .boolean) ({ frames := 0, cells := 0, slots := 0, locals := 0 } : Room) #[(.ref a)] h0 n0 (fun vv hh => vv = some (.int (0 : Int32)) ∧ hh = h0) := by
  refine metOf (plainFor_of_name pn_6) ?_
  intro p e s m below meth c T hx hby hml hrt hlk hnm hZ hown X e0
  replace hml : c.maxLocals = 1 := hml
  replace hnm : meth.name = "isEmpty" := hnm
  replace hown : s.vm.findClass "java/util/ImmutableCollections$List12" = some m.cls := hown
  have N := Fr.nil n0
  have zO := O.le
  refine goCast (ef_empty12 m a) ?_
  show Goes _ _ _ _ _ _ _ _ (T.setTop (mkF m 0 #[.val (.ref a)] []))
  refine Goes.via (fun _ k => XT.iconstV X.here hx rfl (0 : Int32) (hb hby d_jdk_44_method_4_code_0) (by decide) k) ?_
  show Goes _ _ _ _ _ _ _ _ (T.setTop (mkF m 1 #[.val (.ref a)] [(.int (0 : Int32))]))
  refine goRetN X hx hrt (by simp) hlk N (by decide) (by decide) (hb hby d_jdk_44_method_4_code_1) ?_
  try rw [e0]
  exact ⟨rfl, rfl⟩
theorem ef_namesNo (m : MethodId) (a : Nat) : entryFrame m #[(.ref a)] 1 = mkF m 0 #[.val (.ref a)] [] := by first | (simp [entryFrame, mkF, argsToLocals, Value.category]; done) | rfl
set_option maxRecDepth 65536 in
set_option maxHeartbeats 40000000 in
theorem namesNo (l : Launch) (Z : State) (aw : Array Value) (hw : ∀ d ∈ tables_1, d.before aw Z = true) (a : Nat) (v : Nat) {h0 : Heap} {n0 : Nat} (O : Old Z n0 h0) (F : Fld Z h0 a "com/example/zonetally/zonetally/DayFaults" "found" "Ljava/util/List;" (.ref v)) (E : Exa Z h0 v "java/util/ImmutableCollections$List12") :
    MET l Z (⟨"com/example/zonetally/zonetally/DayFaults", "namesNothing", "()Z"⟩ : MethodName) prog_17_method_4_code 1 (some .boolean) ({ frames := 1, cells := 0, slots := 0, locals := 12 } : Room) #[(.ref a)] h0 n0 (fun vv hh => vv = some (.int (0 : Int32)) ∧ hh = h0) := by
  refine metOf (plainFor_of_name pn_10) ?_
  intro p e s m below meth c T hx hby hml hrt hlk hnm hZ hown X e0
  replace hml : c.maxLocals = 1 := hml
  replace hnm : meth.name = "namesNothing" := hnm
  replace hown : s.vm.findClass "com/example/zonetally/zonetally/DayFaults" = some m.cls := hown
  have N := Fr.nil n0
  have zO := O.le
  refine goCast (ef_namesNo m a) ?_
  have lt_a := lt_nat F.lt
  have lt_v := lt_nat E.lt
  show Goes _ _ _ _ _ _ _ _ (T.setTop (mkF m 0 #[.val (.ref a)] []))
  refine Goes.via (fun _ k => XS.aloadN X.here hx rfl (hb hby d_prog_17_method_4_code_0) rfl rfl k) ?_
  show Goes _ _ _ _ _ _ _ _ (T.setTop (mkF m 1 #[.val (.ref a)] [(.ref a)]))
  obtain ⟨Tq1, Xq1, eq1, stq1⟩ := getF X hx hZ hown (host := "") (Or.inl (W_88 hw)) Via.refl e0 F (g := (mkF m 1 #[.val (.ref a)] [(.ref a)])) rfl rfl (hb hby d_prog_17_method_4_code_1)
  refine Goes.via stq1 ?_
  show Goes _ _ _ _ _ _ _ _ (Tq1.setTop (mkF m 4 #[.val (.ref a)] [(.ref v)]))
  obtain ⟨vq2, Tq2, Lq2, Xq2, qq2, nq2, stq2⟩ := callIf Xq1 hx hZ hown (empty12 l Z aw hw v O) (W_175 hw) (W_176 hw) (fun _ q => mvT q (W_177 hw)) (W_178 hw) (W_179 hw) (W_180 hw) (W_181 hw) (W_160 hw) (W_32 hw) (W_182 hw) (by decide) eq1 E (by decide) (W := 0) (by decide) (by decide) (by decide) (g := (mkF m 4 #[.val (.ref a)] [(.ref v)])) rfl (by rw [hml]; rfl) (a := v) (argsL := []) (rest := []) rfl (lenOf pd_16 rfl) rfl (by show 2 * 0 + _ ≤ _; exact Nat.le_of_eq rfl) (hb hby d_prog_17_method_4_code_4)
  obtain ⟨rfl, pq2_0⟩ := qq2
  have Nq2 := Fr.app N nq2
  refine Goes.via stq2 ?_
  show Goes _ _ _ _ _ _ _ _ (Tq2.setTop (mkF m 9 #[.val (.ref a)] [(.int (0 : Int32))]))
  refine Goes.via (fun _ k => XS.ifYes Xq2.here hx rfl (pc0 := 9) (pc' := 25) rfl (hb hby d_prog_17_method_4_code_9) rfl (XT.i0_eq_t (by decide)) (by decide) (by decide) k) ?_
  show Goes _ _ _ _ _ _ _ _ (Tq2.setTop (mkF m 25 #[.val (.ref a)] []))
  refine Goes.via (fun _ k => XT.iconstV Xq2.here hx rfl (0 : Int32) (hb hby d_prog_17_method_4_code_25) (by decide) k) ?_
  show Goes _ _ _ _ _ _ _ _ (Tq2.setTop (mkF m 26 #[.val (.ref a)] [(.int (0 : Int32))]))
  refine goRetN Xq2 hx hrt (by simp) hlk Nq2 (by decide) (by decide) (hb hby d_prog_17_method_4_code_26) ?_
  try rw [pq2_0]
  exact ⟨rfl, rfl⟩
theorem ef_absList (m : MethodId) (a : Nat) : entryFrame m #[(.ref a)] 1 = mkF m 0 #[.val (.ref a)] [] := by first | (simp [entryFrame, mkF, argsToLocals, Value.category]; done) | rfl
set_option maxRecDepth 65536 in
set_option maxHeartbeats 40000000 in
theorem absList (l : Launch) (Z : State) (aw : Array Value) (hw : ∀ d ∈ tables_1, d.before aw Z = true) (a : Nat) {h0 : Heap} {n0 : Nat} (O : Old Z n0 h0) (E : Exa Z h0 a "java/util/ArrayList") (F0 : Fld Z h0 a "java/util/AbstractList" "modCount" "I" (.int (0 : Int32))) (F1 : Fld Z h0 a "java/util/ArrayList" "elementData" "[Ljava/lang/Object;" .null) (ga : n0 ≤ a) :
    MET l Z (⟨"java/util/AbstractList", "<init>", "()V"⟩ : MethodName) jdk_39_method_1_code 1 none ({ frames := 2, cells := 0, slots := 0, locals := 24 } : Room) #[(.ref a)] h0 n0 (fun vv hh => vv = none ∧ Keep h0 hh [a] ∧ Exa Z hh a "java/util/ArrayList" ∧ Fld Z hh a "java/util/ArrayList" "elementData" "[Ljava/lang/Object;" .null) := by
  refine metOf (plainFor_of_name pn_17) ?_
  intro p e s m below meth c T hx hby hml hrt hlk hnm hZ hown X e0
  replace hml : c.maxLocals = 1 := hml
  replace hnm : meth.name = "<init>" := hnm
  replace hown : s.vm.findClass "java/util/AbstractList" = some m.cls := hown
  have N := Fr.nil n0
  have zO := O.le
  refine goCast (ef_absList m a) ?_
  have lt_a := lt_nat E.lt
  show Goes _ _ _ _ _ _ _ _ (T.setTop (mkF m 0 #[.val (.ref a)] []))
  refine Goes.via (fun _ k => XS.aloadN X.here hx rfl (hb hby d_jdk_39_method_1_code_0) rfl rfl k) ?_
  show Goes _ _ _ _ _ _ _ _ (T.setTop (mkF m 1 #[.val (.ref a)] [(.ref a)]))
  obtain ⟨vq1, Tq1, Lq1, Xq1, qq1, nq1, stq1⟩ := callSp X hx hZ hown (acInit l Z aw hw a O) rfl (W_111 hw) (W_50 hw) (W_53 hw) (W_54 hw) (by decide) e0 (by decide) (W := 0) (by decide) (by decide) (by decide) (g := (mkF m 1 #[.val (.ref a)] [(.ref a)])) rfl (by rw [hml]; rfl) (a := a) (argsL := []) (rest := []) rfl (lenOf pd_2 rfl) rfl (by show 2 * 0 + _ ≤ _; exact Nat.le_of_eq rfl) (hb hby d_jdk_39_method_1_code_1)
  obtain ⟨rfl, pq1_0⟩ := qq1
  have Nq1 := Fr.app N nq1
  refine Goes.via stq1 ?_
  show Goes _ _ _ _ _ _ _ _ (Tq1.setTop (mkF m 4 #[.val (.ref a)] []))
  refine Goes.via (fun _ k => XS.aloadN Xq1.here hx rfl (hb hby d_jdk_39_method_1_code_4) rfl rfl k) ?_
  show Goes _ _ _ _ _ _ _ _ (Tq1.setTop (mkF m 5 #[.val (.ref a)] [(.ref a)]))
  refine Goes.via (fun _ k => XT.iconstV Xq1.here hx rfl (0 : Int32) (hb hby d_jdk_39_method_1_code_5) (by decide) k) ?_
  show Goes _ _ _ _ _ _ _ _ (Tq1.setTop (mkF m 6 #[.val (.ref a)] [(.int (0 : Int32)), (.ref a)]))
  obtain ⟨Tq2, hq2, Xq2, eq2, Wq2, stq2⟩ := putF Xq1 hx hZ hown (host := "") (Or.inl (W_113 hw)) Via.refl pq1_0 F0 E (Or.inl (W_114 hw)) (W_100 hw) (ty := .int) (by decide) rfl rfl (g := (mkF m 6 #[.val (.ref a)] [(.int (0 : Int32)), (.ref a)])) rfl rfl (hb hby d_jdk_39_method_1_code_6)
  have Nq2 := Fr.snoc Xq2 Nq1 (by omega)
  have zq2 := Wq2.size
  have Oq2 := O.wr Wq2 (by omega)
  have Fq2 : Fld Z hq2 a "java/util/AbstractList" "modCount" "I" (.int (0 : Int32)) := F0.same Wq2
  refine Goes.via stq2 ?_
  show Goes _ _ _ _ _ _ _ _ (Tq2.setTop (mkF m 9 #[.val (.ref a)] []))
  refine goRetV Xq2 hx hrt hlk Nq2 (by decide) (by decide) (hb hby d_jdk_39_method_1_code_9) ?_
  try rw [eq2]
  have fq3 : Exa Z hq2 a "java/util/ArrayList" := (E.wr Wq2)
  have fq4 : Fld Z hq2 a "java/util/ArrayList" "elementData" "[Ljava/lang/Object;" .null := (F1.other Wq2 (Or.inr (slot_ne (Or.inl (W_117 hw)) (Or.inl (W_114 hw)) (by decide) (t := (.array (.object "java/lang/Object"))) (t' := .int) (by decide) (by decide))))
  exact ⟨rfl, ((Keep.refl _ [a]).wr Wq2 (Or.inl (by simp))), fq3, fq4⟩
theorem ef_arrList (m : MethodId) (a : Nat) : entryFrame m #[(.ref a)] 1 = mkF m 0 #[.val (.ref a)] [] := by first | (simp [entryFrame, mkF, argsToLocals, Value.category]; done) | rfl
set_option maxRecDepth 65536 in
set_option maxHeartbeats 40000000 in
theorem arrList (l : Launch) (Z : State) (aw : Array Value) (hw : ∀ d ∈ tables_1, d.before aw Z = true) (a : Nat) (de : Nat) {h0 : Heap} {n0 : Nat} (O : Old Z n0 h0) (SD : Sta Z Z.heap "java/util/ArrayList" "DEFAULTCAPACITY_EMPTY_ELEMENTDATA" "[Ljava/lang/Object;" (.ref de)) (E : Exa Z h0 a "java/util/ArrayList") (F0 : Fld Z h0 a "java/util/AbstractList" "modCount" "I" (.int (0 : Int32))) (F1 : Fld Z h0 a "java/util/ArrayList" "elementData" "[Ljava/lang/Object;" .null) (ga : n0 ≤ a) :
    MET l Z (⟨"java/util/ArrayList", "<init>", "()V"⟩ : MethodName) jdk_38_method_2_code 1 none ({ frames := 3, cells := 0, slots := 0, locals := 36 } : Room) #[(.ref a)] h0 n0 (fun vv hh => vv = none ∧ Keep h0 hh [a]) := by
  refine metOf (plainFor_of_name pn_18) ?_
  intro p e s m below meth c T hx hby hml hrt hlk hnm hZ hown X e0
  replace hml : c.maxLocals = 1 := hml
  replace hnm : meth.name = "<init>" := hnm
  replace hown : s.vm.findClass "java/util/ArrayList" = some m.cls := hown
  have N := Fr.nil n0
  have zO := O.le
  refine goCast (ef_arrList m a) ?_
  have lt_a := lt_nat E.lt
  show Goes _ _ _ _ _ _ _ _ (T.setTop (mkF m 0 #[.val (.ref a)] []))
  refine Goes.via (fun _ k => XS.aloadN X.here hx rfl (hb hby d_jdk_38_method_2_code_0) rfl rfl k) ?_
  show Goes _ _ _ _ _ _ _ _ (T.setTop (mkF m 1 #[.val (.ref a)] [(.ref a)]))
  obtain ⟨vq1, Tq1, Lq1, Xq1, qq1, nq1, stq1⟩ := callSp X hx hZ hown (absList l Z aw hw a O E F0 F1 (by omega)) rfl (W_105 hw) (W_106 hw) (W_109 hw) (W_110 hw) (by decide) e0 (by decide) (W := 0) (by decide) (by decide) (by decide) (g := (mkF m 1 #[.val (.ref a)] [(.ref a)])) rfl (by rw [hml]; rfl) (a := a) (argsL := []) (rest := []) rfl (lenOf pd_2 rfl) rfl (by show 2 * 0 + _ ≤ _; exact Nat.le_of_eq rfl) (hb hby d_jdk_38_method_2_code_1)
  obtain ⟨rfl, pq1_0, pq1_1, pq1_2⟩ := qq1
  have Nq1 := Fr.app N nq1
  have zq1 := pq1_0.1
  have Oq1 := O.keep pq1_0 (allS (by omega) all0)
  have ltpq1_1 := lt_nat pq1_1.lt
  refine Goes.via stq1 ?_
  show Goes _ _ _ _ _ _ _ _ (Tq1.setTop (mkF m 4 #[.val (.ref a)] []))
  refine Goes.via (fun _ k => XS.aloadN Xq1.here hx rfl (hb hby d_jdk_38_method_2_code_4) rfl rfl k) ?_
  show Goes _ _ _ _ _ _ _ _ (Tq1.setTop (mkF m 5 #[.val (.ref a)] [(.ref a)]))
  have fq3 : Sta Z Tq1.heap "java/util/ArrayList" "DEFAULTCAPACITY_EMPTY_ELEMENTDATA" "[Ljava/lang/Object;" (.ref de) := (SD.ext Oq1.2)
  obtain ⟨Tq2, Xq2, eq2, stq2⟩ := getS2 Xq1 hx hZ hown (host := "") (Or.inl (W_115 hw)) Via.refl rfl fq3 (g := (mkF m 5 #[.val (.ref a)] [(.ref a)])) rfl (hb hby d_jdk_38_method_2_code_5)
  refine Goes.via stq2 ?_
  show Goes _ _ _ _ _ _ _ _ (Tq2.setTop (mkF m 8 #[.val (.ref a)] [(.ref de), (.ref a)]))
  obtain ⟨Tq4, hq4, Xq4, eq4, Wq4, stq4⟩ := putF Xq2 hx hZ hown (host := "") (Or.inl (W_116 hw)) Via.refl eq2 pq1_2 pq1_1 (Or.inl (W_117 hw)) (W_100 hw) (ty := (.array (.object "java/lang/Object"))) (by decide) rfl rfl (g := (mkF m 8 #[.val (.ref a)] [(.ref de), (.ref a)])) rfl rfl (hb hby d_jdk_38_method_2_code_8)
  have Nq4 := Fr.snoc Xq4 Nq1 (by omega)
  have zq4 := Wq4.size
  have Oq4 := Oq1.wr Wq4 (by omega)
  have Fq4 : Fld Z hq4 a "java/util/ArrayList" "elementData" "[Ljava/lang/Object;" (.ref de) := pq1_2.same Wq4
  refine Goes.via stq4 ?_
  show Goes _ _ _ _ _ _ _ _ (Tq4.setTop (mkF m 11 #[.val (.ref a)] []))
  refine goRetV Xq4 hx hrt hlk Nq4 (by decide) (by decide) (hb hby d_jdk_38_method_2_code_11) ?_
  try rw [eq4]
  exact ⟨rfl, (((Keep.refl _ [a]).trans pq1_0 (allS (Or.inl (by simp)) all0)).wr Wq4 (Or.inl (by simp)))⟩
theorem ef_canEnc (m : MethodId) (c0 : Int32) : entryFrame m #[(.int c0)] 1 = mkF m 0 #[.val (.int c0)] [] := by first | (simp [entryFrame, mkF, argsToLocals, Value.category]; done) | rfl
set_option maxRecDepth 65536 in
set_option maxHeartbeats 40000000 in
theorem canEnc (l : Launch) (Z : State) (aw : Array Value) (hw : ∀ d ∈ tables_1, d.before aw Z = true) (c0 : Int32) {h0 : Heap} {n0 : Nat} (O : Old Z n0 h0) (hc0 : ¬ (255 : Int32) < c0) :
    MET l Z (⟨"java/lang/StringLatin1", "canEncode", "(C)Z"⟩ : MethodName) jdk_43_method_3_code 1 (some .boolean) ({ frames := 0, cells := 0, slots := 0, locals := 0 } : Room) #[(.int c0)] h0 n0 (fun vv hh => vv = some (.int (1 : Int32)) ∧ hh = h0) := by
  refine metOf (plainFor_of_name pn_19) ?_
  intro p e s m below meth c T hx hby hml hrt hlk hnm hZ hown X e0
  replace hml : c.maxLocals = 1 := hml
  replace hnm : meth.name = "canEncode" := hnm
  replace hown : s.vm.findClass "java/lang/StringLatin1" = some m.cls := hown
  have N := Fr.nil n0
  have zO := O.le
  refine goCast (ef_canEnc m c0) ?_
  show Goes _ _ _ _ _ _ _ _ (T.setTop (mkF m 0 #[.val (.int c0)] []))
  refine Goes.via (fun _ k => XS.iloadN X.here hx rfl (hb hby d_jdk_43_method_3_code_0) rfl k) ?_
  show Goes _ _ _ _ _ _ _ _ (T.setTop (mkF m 1 #[.val (.int c0)] [(.int c0)]))
  refine Goes.via (fun _ k => XT.sipushV X.here hx rfl (255 : Int32) (hb hby d_jdk_43_method_3_code_1) (by decide) k) ?_
  show Goes _ _ _ _ _ _ _ _ (T.setTop (mkF m 4 #[.val (.int c0)] [(.int (255 : Int32)), (.int c0)]))
  refine Goes.via (fun _ k => XS.icmpNo X.here hx rfl (hb hby d_jdk_43_method_3_code_4) rfl (XT.ii_gt_f hc0) k) ?_
  show Goes _ _ _ _ _ _ _ _ (T.setTop (mkF m 7 #[.val (.int c0)] []))
  refine Goes.via (fun _ k => XT.iconstV X.here hx rfl (1 : Int32) (hb hby d_jdk_43_method_3_code_7) (by decide) k) ?_
  show Goes _ _ _ _ _ _ _ _ (T.setTop (mkF m 8 #[.val (.int c0)] [(.int (1 : Int32))]))
  refine Goes.via (fun _ k => XS.goto X.here hx rfl (pc0 := 8) (pc' := 12) rfl (hb hby d_jdk_43_method_3_code_8) (by decide) (by decide) k) ?_
  show Goes _ _ _ _ _ _ _ _ (T.setTop (mkF m 12 #[.val (.int c0)] [(.int (1 : Int32))]))
  refine goRetN X hx hrt (by simp) hlk N (by decide) (by decide) (hb hby d_jdk_43_method_3_code_12) ?_
  try rw [e0]
  exact ⟨rfl, rfl⟩
theorem ef_toBytes1 (m : MethodId) (c0 : Int32) : entryFrame m #[(.int c0)] 1 = mkF m 0 #[.val (.int c0)] [] := by first | (simp [entryFrame, mkF, argsToLocals, Value.category]; done) | rfl
set_option maxRecDepth 65536 in
set_option maxHeartbeats 40000000 in
theorem toBytes1 (l : Launch) (Z : State) (aw : Array Value) (hw : ∀ d ∈ tables_1, d.before aw Z = true) (c0 : Int32) {h0 : Heap} {n0 : Nat} (O : Old Z n0 h0) :
    MET l Z (⟨"java/lang/StringLatin1", "toBytes", "(C)[B"⟩ : MethodName) jdk_43_method_46_code 1 (some (.array .byte)) ({ frames := 0, cells := 1, slots := 1, locals := 0 } : Room) #[(.int c0)] h0 n0 (fun vv hh => ∃ r : Nat, ∃ kr : ClassId, vv = some (.ref r) ∧ h0.size ≤ r ∧ Keep h0 hh [] ∧ Arv Z hh r kr .byte (1 : Int32) [(.int (nar .byte c0.toInt8.toInt32))] (.int (0 : Int32))) := by
  refine metOf (plainFor_of_name pn_19) ?_
  intro p e s m below meth c T hx hby hml hrt hlk hnm hZ hown X e0
  replace hml : c.maxLocals = 1 := hml
  replace hnm : meth.name = "toBytes" := hnm
  replace hown : s.vm.findClass "java/lang/StringLatin1" = some m.cls := hown
  have N := Fr.nil n0
  have zO := O.le
  refine goCast (ef_toBytes1 m c0) ?_
  show Goes _ _ _ _ _ _ _ _ (T.setTop (mkF m 0 #[.val (.int c0)] []))
  refine Goes.via (fun _ k => XT.iconstV X.here hx rfl (1 : Int32) (hb hby d_jdk_43_method_46_code_0) (by decide) k) ?_
  show Goes _ _ _ _ _ _ _ _ (T.setTop (mkF m 1 #[.val (.int c0)] [(.int (1 : Int32))]))
  obtain ⟨Tq1, hq1, kq1, Xq1, eq1, Eq1, Aq1, stq1⟩ := newP (aty := .byte) X hx hZ (W_15 hw) e0 (g := (mkF m 1 #[.val (.int c0)] [(.int (1 : Int32))])) rfl (hb hby d_jdk_43_method_46_code_1) rfl (by decide) (cap := 1) (by decide) (by decide) (by decide) (by decide)
  obtain ⟨bq1, gq1⟩ : ∃ z, z = h0.size := ⟨_, rfl⟩
  rw [← gq1] at Aq1 stq1
  have zq1 := Eq1.1
  have Oq1 := O.ext Eq1
  have Vq1 : Arv Z hq1 bq1 kq1 .byte (1 : Int32) [(.int (0 : Int32))] (.int (0 : Int32)) := (Arv.new Aq1 (by decide)).pad (pad_rep [] (.int (0 : Int32)) 1)
  have lq1 := lt_nat Vq1.lt
  refine Goes.via stq1 ?_
  show Goes _ _ _ _ _ _ _ _ (Tq1.setTop (mkF m 3 #[.val (.int c0)] [(.ref bq1)]))
  refine Goes.via (fun _ k => XS.dup Xq1.here hx rfl (hb hby d_jdk_43_method_46_code_3) rfl rfl k) ?_
  show Goes _ _ _ _ _ _ _ _ (Tq1.setTop (mkF m 4 #[.val (.int c0)] [(.ref bq1), (.ref bq1)]))
  refine Goes.via (fun _ k => XT.iconstV Xq1.here hx rfl (0 : Int32) (hb hby d_jdk_43_method_46_code_4) (by decide) k) ?_
  show Goes _ _ _ _ _ _ _ _ (Tq1.setTop (mkF m 5 #[.val (.int c0)] [(.int (0 : Int32)), (.ref bq1), (.ref bq1)]))
  refine Goes.via (fun _ k => XS.iloadN Xq1.here hx rfl (hb hby d_jdk_43_method_46_code_5) rfl k) ?_
  show Goes _ _ _ _ _ _ _ _ (Tq1.setTop (mkF m 6 #[.val (.int c0)] [(.int c0), (.int (0 : Int32)), (.ref bq1), (.ref bq1)]))
  refine Goes.via (fun _ k => XT.i2b Xq1.here hx rfl (hb hby d_jdk_43_method_46_code_6) rfl k) ?_
  show Goes _ _ _ _ _ _ _ _ (Tq1.setTop (mkF m 7 #[.val (.int c0)] [(.int c0.toInt8.toInt32), (.int (0 : Int32)), (.ref bq1), (.ref bq1)]))
  obtain ⟨clq2, Arq2, qq2, Sq2, Nnq2, Hq2, Gq2⟩ := id Vq1
  have hinq2 : ¬ ((0 : Int32) < 0 ∨ clq2.slots.size ≤ ((0 : Int32)).toNatClampNeg) := inb_of Sq2 ⟨by decide, by decide⟩
  obtain ⟨Tq2, hq2, Xq2, eq2, Wq2, stq2⟩ := stB Xq1 hx hZ eq1 Arq2 (j := (0 : Int32)) hinq2 (g := (mkF m 7 #[.val (.int c0)] [(.int c0.toInt8.toInt32), (.int (0 : Int32)), (.ref bq1), (.ref bq1)])) rfl rfl (hb hby d_jdk_43_method_46_code_7)
  have Nq2 := Fr.snoc Xq2 N (by omega)
  have zq2 := Wq2.size
  have Oq2 := Oq1.wr Wq2 (by omega)
  have Vq2 : Arv Z hq2 bq1 kq1 .byte (1 : Int32) [(.int (nar .byte c0.toInt8.toInt32))] (.int (0 : Int32)) := Arv.set Arq2 qq2 Sq2 Nnq2 Hq2 Gq2 (fits_nar_byte _) Wq2 0 rfl (Nat.le_of_ble_eq_true rfl)
  refine Goes.via stq2 ?_
  show Goes _ _ _ _ _ _ _ _ (Tq2.setTop (mkF m 8 #[.val (.int c0)] [(.ref bq1)]))
  refine goRetA Xq2 hx hrt rfl hlk Nq2 (by decide) (by decide) rfl (hb hby d_jdk_43_method_46_code_8) ?_
  try rw [eq2]
  exact ⟨bq1, _, rfl, by omega, (((Keep.refl _ []).ext Eq1).wr Wq2 (Or.inr (by omega))), Vq2⟩
theorem ef_strBB (m : MethodId) (a : Nat) (b : Nat) : entryFrame m #[(.ref a), (.ref b), (.int (0 : Int32))] 3 = mkF m 0 #[.val (.ref a), .val (.ref b), .val (.int (0 : Int32))] [] := by first | (simp [entryFrame, mkF, argsToLocals, Value.category]; done) | rfl
set_option maxRecDepth 65536 in
set_option maxHeartbeats 40000000 in
theorem strBB (l : Launch) (Z : State) (aw : Array Value) (hw : ∀ d ∈ tables_1, d.before aw Z = true) (a : Nat) (b : Nat) {h0 : Heap} {n0 : Nat} (O : Old Z n0 h0) (E : Exa Z h0 a "java/lang/String") (Fv : Fld Z h0 a "java/lang/String" "value" "[B" .null) (Fc : Fld Z h0 a "java/lang/String" "coder" "B" (.int (0 : Int32))) (ga : n0 ≤ a) :
    MET l Z (⟨"java/lang/String", "<init>", "([BB)V"⟩ : MethodName) jdk_42_method_151_code 3 none ({ frames := 1, cells := 0, slots := 0, locals := 12 } : Room) #[(.ref a), (.ref b), (.int (0 : Int32))] h0 n0 (fun vv hh => vv = none ∧ Keep h0 hh [a] ∧ Exa Z hh a "java/lang/String" ∧ Fld Z hh a "java/lang/String" "value" "[B" (.ref b) ∧ Fld Z hh a "java/lang/String" "coder" "B" (.int (0 : Int32))) := by
  refine metOf (plainFor_of_name pn_20) ?_
  intro p e s m below meth c T hx hby hml hrt hlk hnm hZ hown X e0
  replace hml : c.maxLocals = 3 := hml
  replace hnm : meth.name = "<init>" := hnm
  replace hown : s.vm.findClass "java/lang/String" = some m.cls := hown
  have N := Fr.nil n0
  have zO := O.le
  refine goCast (ef_strBB m a b) ?_
  have lt_a := lt_nat E.lt
  show Goes _ _ _ _ _ _ _ _ (T.setTop (mkF m 0 #[.val (.ref a), .val (.ref b), .val (.int (0 : Int32))] []))
  refine Goes.via (fun _ k => XS.aloadN X.here hx rfl (hb hby d_jdk_42_method_151_code_0) rfl rfl k) ?_
  show Goes _ _ _ _ _ _ _ _ (T.setTop (mkF m 1 #[.val (.ref a), .val (.ref b), .val (.int (0 : Int32))] [(.ref a)]))
  obtain ⟨Tq1, Xq1, eq1, stq1⟩ := initO X hx hZ hown (W_11 hw) (W_12 hw) (W_13 hw) e0 (g := (mkF m 1 #[.val (.ref a), .val (.ref b), .val (.int (0 : Int32))] [(.ref a)])) rfl (by rw [hml]; rfl) rfl (hb hby d_jdk_42_method_151_code_1) (by decide) (W := 0) (by show 2 * 0 + _ ≤ _; exact Nat.le_of_eq rfl) (by decide)
  refine Goes.via stq1 ?_
  show Goes _ _ _ _ _ _ _ _ (Tq1.setTop (mkF m 4 #[.val (.ref a), .val (.ref b), .val (.int (0 : Int32))] []))
  refine Goes.via (fun _ k => XS.aloadN Xq1.here hx rfl (hb hby d_jdk_42_method_151_code_4) rfl rfl k) ?_
  show Goes _ _ _ _ _ _ _ _ (Tq1.setTop (mkF m 5 #[.val (.ref a), .val (.ref b), .val (.int (0 : Int32))] [(.ref a)]))
  refine Goes.via (fun _ k => XS.aloadN Xq1.here hx rfl (hb hby d_jdk_42_method_151_code_5) rfl rfl k) ?_
  show Goes _ _ _ _ _ _ _ _ (Tq1.setTop (mkF m 6 #[.val (.ref a), .val (.ref b), .val (.int (0 : Int32))] [(.ref b), (.ref a)]))
  obtain ⟨Tq2, hq2, Xq2, eq2, Wq2, stq2⟩ := putF Xq1 hx hZ hown (host := "") (Or.inl (W_20 hw)) Via.refl eq1 Fv E (Or.inr ⟨(W_16 hw), rfl, hnm⟩) (W_2 hw) (ty := (.array .byte)) (by decide) rfl rfl (g := (mkF m 6 #[.val (.ref a), .val (.ref b), .val (.int (0 : Int32))] [(.ref b), (.ref a)])) rfl rfl (hb hby d_jdk_42_method_151_code_6)
  have Nq2 := Fr.snoc Xq2 N (by omega)
  have zq2 := Wq2.size
  have Oq2 := O.wr Wq2 (by omega)
  have Fq2 : Fld Z hq2 a "java/lang/String" "value" "[B" (.ref b) := Fv.same Wq2
  refine Goes.via stq2 ?_
  show Goes _ _ _ _ _ _ _ _ (Tq2.setTop (mkF m 9 #[.val (.ref a), .val (.ref b), .val (.int (0 : Int32))] []))
  refine Goes.via (fun _ k => XS.aloadN Xq2.here hx rfl (hb hby d_jdk_42_method_151_code_9) rfl rfl k) ?_
  show Goes _ _ _ _ _ _ _ _ (Tq2.setTop (mkF m 10 #[.val (.ref a), .val (.ref b), .val (.int (0 : Int32))] [(.ref a)]))
  refine Goes.via (fun _ k => XS.iloadN Xq2.here hx rfl (hb hby d_jdk_42_method_151_code_10) rfl k) ?_
  show Goes _ _ _ _ _ _ _ _ (Tq2.setTop (mkF m 11 #[.val (.ref a), .val (.ref b), .val (.int (0 : Int32))] [(.int (0 : Int32)), (.ref a)]))
  have fq4 : Fld Z hq2 a "java/lang/String" "coder" "B" (.int (0 : Int32)) := (Fc.other Wq2 (Or.inr (slot_ne (Or.inr (W_17 hw)) (Or.inr (W_16 hw)) (by decide) (t := .byte) (t' := (.array .byte)) (by decide) (by decide))))
  have fq5 : Exa Z hq2 a "java/lang/String" := (E.wr Wq2)
  obtain ⟨Tq3, hq3, Xq3, eq3, Wq3, stq3⟩ := putFN Xq2 hx hZ hown (W_21 hw) Via.refl eq2 fq4 fq5 (Or.inr ⟨(W_17 hw), rfl, hnm⟩) (W_2 hw) (ty := .byte) (v' := (.int (0 : Int32))) (by decide) (by rfl) (by decide) (g := (mkF m 11 #[.val (.ref a), .val (.ref b), .val (.int (0 : Int32))] [(.int (0 : Int32)), (.ref a)])) rfl rfl (hb hby d_jdk_42_method_151_code_11)
  have Nq3 := Fr.snoc Xq3 Nq2 (by omega)
  have zq3 := Wq3.size
  have Oq3 := Oq2.wr Wq3 (by omega)
  have Fq3 : Fld Z hq3 a "java/lang/String" "coder" "B" (.int (0 : Int32)) := fq4.same Wq3
  refine Goes.via stq3 ?_
  show Goes _ _ _ _ _ _ _ _ (Tq3.setTop (mkF m 14 #[.val (.ref a), .val (.ref b), .val (.int (0 : Int32))] []))
  refine goRetV Xq3 hx hrt hlk Nq3 (by decide) (by decide) (hb hby d_jdk_42_method_151_code_14) ?_
  try rw [eq3]
  have fq6 : Exa Z hq3 a "java/lang/String" := (fq5.wr Wq3)
  have fq7 : Fld Z hq3 a "java/lang/String" "value" "[B" (.ref b) := (Fq2.other Wq3 (Or.inr (slot_ne (Or.inr (W_16 hw)) (Or.inr (W_17 hw)) (by decide) (t := (.array .byte)) (t' := .byte) (by decide) (by decide))))
  exact ⟨rfl, (((Keep.refl _ [a]).wr Wq2 (Or.inl (by simp))).wr Wq3 (Or.inl (by simp))), fq6, fq7, Fq3⟩
theorem ef_valueOfC (m : MethodId) (c0 : Int32) : entryFrame m #[(.int c0)] 1 = mkF m 0 #[.val (.int c0)] [] := by first | (simp [entryFrame, mkF, argsToLocals, Value.category]; done) | rfl
set_option maxRecDepth 65536 in
set_option maxHeartbeats 40000000 in
theorem valueOfC (l : Launch) (Z : State) (aw : Array Value) (hw : ∀ d ∈ tables_1, d.before aw Z = true) (c0 : Int32) (cz : Int32) {h0 : Heap} {n0 : Nat} (O : Old Z n0 h0) (CS : Sta Z Z.heap "java/lang/String" "COMPACT_STRINGS" "Z" (.int cz)) (hcz : ¬ cz = (0 : Int32)) (hc0 : ¬ (255 : Int32) < c0) :
    MET l Z (⟨"java/lang/String", "valueOf", "(C)Ljava/lang/String;"⟩ : MethodName) jdk_42_method_139_code 1 (some (.object "java/lang/String")) ({ frames := 2, cells := 2, slots := 5, locals := 40 } : Room) #[(.int c0)] h0 n0 (fun vv hh => ∃ r : Nat, ∃ b : Nat, ∃ kr : ClassId, vv = some (.ref r) ∧ h0.size ≤ r ∧ Keep h0 hh [] ∧ Exa Z hh r "java/lang/String" ∧ Fld Z hh r "java/lang/String" "value" "[B" (.ref b) ∧ Fld Z hh r "java/lang/String" "coder" "B" (.int (0 : Int32)) ∧ Arv Z hh b kr .byte (1 : Int32) [(.int (nar .byte c0.toInt8.toInt32))] (.int (0 : Int32))) := by
  refine metOf (plainFor_of_name pn_20) ?_
  intro p e s m below meth c T hx hby hml hrt hlk hnm hZ hown X e0
  replace hml : c.maxLocals = 1 := hml
  replace hnm : meth.name = "valueOf" := hnm
  replace hown : s.vm.findClass "java/lang/String" = some m.cls := hown
  have N := Fr.nil n0
  have zO := O.le
  refine goCast (ef_valueOfC m c0) ?_
  show Goes _ _ _ _ _ _ _ _ (T.setTop (mkF m 0 #[.val (.int c0)] []))
  have fq2 : Sta Z h0 "java/lang/String" "COMPACT_STRINGS" "Z" (.int cz) := (CS.ext O.2)
  obtain ⟨Tq1, Xq1, eq1, stq1⟩ := getS2 X hx hZ hown (host := "") (Or.inl (W_183 hw)) Via.refl e0 fq2 (g := (mkF m 0 #[.val (.int c0)] [])) rfl (hb hby d_jdk_42_method_139_code_0)
  refine Goes.via stq1 ?_
  show Goes _ _ _ _ _ _ _ _ (Tq1.setTop (mkF m 3 #[.val (.int c0)] [(.int cz)]))
  refine Goes.via (fun _ k => XS.ifNo Xq1.here hx rfl (hb hby d_jdk_42_method_139_code_3) rfl (XT.i0_eq_f hcz) k) ?_
  show Goes _ _ _ _ _ _ _ _ (Tq1.setTop (mkF m 6 #[.val (.int c0)] []))
  refine Goes.via (fun _ k => XS.iloadN Xq1.here hx rfl (hb hby d_jdk_42_method_139_code_6) rfl k) ?_
  show Goes _ _ _ _ _ _ _ _ (Tq1.setTop (mkF m 7 #[.val (.int c0)] [(.int c0)]))
  obtain ⟨vq3, Tq3, Lq3, Xq3, qq3, nq3, stq3⟩ := callSt Xq1 hx hZ hown (canEnc l Z aw hw c0 O hc0) (W_197 hw) (W_198 hw) (W_199 hw) (W_200 hw) (by decide) eq1 (by decide) (W := 0) (by decide) (by decide) (by decide) (g := (mkF m 7 #[.val (.int c0)] [(.int c0)])) rfl (by rw [hml]; rfl) (argsL := [(.int c0)]) (rest := []) rfl (lenOf pd_21 rfl) rfl (by show 2 * 0 + _ ≤ _; exact Nat.le_of_eq rfl) (hb hby d_jdk_42_method_139_code_7)
  obtain ⟨rfl, pq3_0⟩ := qq3
  have Nq3 := Fr.app N nq3
  refine Goes.via stq3 ?_
  show Goes _ _ _ _ _ _ _ _ (Tq3.setTop (mkF m 10 #[.val (.int c0)] [(.int (1 : Int32))]))
  refine Goes.via (fun _ k => XS.ifNo Xq3.here hx rfl (hb hby d_jdk_42_method_139_code_10) rfl (XT.i0_eq_f (by decide)) k) ?_
  show Goes _ _ _ _ _ _ _ _ (Tq3.setTop (mkF m 13 #[.val (.int c0)] []))
  obtain ⟨Tq4, hq4, Xq4, eq4, Eq4, Aq4, Dq4, -, stq4⟩ := newO Xq3 hx hZ hown (W_201 hw) (W_2 hw) (W_3 hw) pq3_0 (g := (mkF m 13 #[.val (.int c0)] [])) rfl (hb hby d_jdk_42_method_139_code_13) (by decide) (by decide)
  obtain ⟨bq4, gq4⟩ : ∃ z, z = h0.size := ⟨_, rfl⟩
  rw [← gq4] at Aq4 Dq4 stq4
  have zq4 := Eq4.1
  have Oq4 := O.ext Eq4
  have lq4 := lt_nat Aq4.lt
  refine Goes.via stq4 ?_
  show Goes _ _ _ _ _ _ _ _ (Tq4.setTop (mkF m 16 #[.val (.int c0)] [(.ref bq4)]))
  refine Goes.via (fun _ k => XS.dup Xq4.here hx rfl (hb hby d_jdk_42_method_139_code_16) rfl rfl k) ?_
  show Goes _ _ _ _ _ _ _ _ (Tq4.setTop (mkF m 17 #[.val (.int c0)] [(.ref bq4), (.ref bq4)]))
  refine Goes.via (fun _ k => XS.iloadN Xq4.here hx rfl (hb hby d_jdk_42_method_139_code_17) rfl k) ?_
  show Goes _ _ _ _ _ _ _ _ (Tq4.setTop (mkF m 18 #[.val (.int c0)] [(.int c0), (.ref bq4), (.ref bq4)]))
  obtain ⟨vq5, Tq5, Lq5, Xq5, qq5, nq5, stq5⟩ := callSt Xq4 hx hZ hown (toBytes1 l Z aw hw c0 Oq4) (W_202 hw) (W_203 hw) (W_199 hw) (W_204 hw) (by decide) eq4 (by decide) (W := 2) (by decide) (by decide) (by decide) (g := (mkF m 18 #[.val (.int c0)] [(.int c0), (.ref bq4), (.ref bq4)])) rfl (by rw [hml]; rfl) (argsL := [(.int c0)]) (rest := [(.ref bq4), (.ref bq4)]) rfl (lenOf pd_22 rfl) rfl (by show 2 * 0 + _ ≤ _; exact Nat.le_of_eq rfl) (hb hby d_jdk_42_method_139_code_18)
  obtain ⟨xr_q5, xkr_q5, rfl, pq5_0, pq5_1, pq5_2⟩ := qq5
  have Nq5 := Fr.app Nq3 nq5
  have zq5 := pq5_1.1
  have Oq5 := Oq4.keep pq5_1 all0
  have ltpq5_2 := lt_nat pq5_2.lt
  refine Goes.via stq5 ?_
  show Goes _ _ _ _ _ _ _ _ (Tq5.setTop (mkF m 21 #[.val (.int c0)] [(.ref xr_q5), (.ref bq4), (.ref bq4)]))
  refine Goes.via (fun _ k => XT.iconstV Xq5.here hx rfl (0 : Int32) (hb hby d_jdk_42_method_139_code_21) (by decide) k) ?_
  show Goes _ _ _ _ _ _ _ _ (Tq5.setTop (mkF m 22 #[.val (.int c0)] [(.int (0 : Int32)), (.ref xr_q5), (.ref bq4), (.ref bq4)]))
  have fq6 : Exa Z Tq5.heap bq4 "java/lang/String" := (Aq4.keep pq5_1)
  have fq7 : Fld Z Tq5.heap bq4 "java/lang/String" "value" "[B" .null := ((Dq4 (Or.inr (W_16 hw)) (ty := (.array .byte)) (by decide)).keep pq5_1 nin0)
  have fq8 : Fld Z Tq5.heap bq4 "java/lang/String" "coder" "B" (.int (0 : Int32)) := ((Dq4 (Or.inr (W_17 hw)) (ty := .byte) (by decide)).keep pq5_1 nin0)
  obtain ⟨vq9, Tq9, Lq9, Xq9, qq9, nq9, stq9⟩ := callSp Xq5 hx hZ hown (strBB l Z aw hw bq4 xr_q5 Oq5 fq6 fq7 fq8 (by omega)) rfl (W_205 hw) (W_206 hw) (W_3 hw) (W_207 hw) (by decide) rfl (by decide) (W := 1) (by decide) (by decide) (by decide) (g := (mkF m 22 #[.val (.int c0)] [(.int (0 : Int32)), (.ref xr_q5), (.ref bq4), (.ref bq4)])) rfl (by rw [hml]; rfl) (a := bq4) (argsL := [(.ref xr_q5), (.int (0 : Int32))]) (rest := [(.ref bq4)]) rfl (lenOf pd_23 rfl) rfl (by show 2 * 0 + _ ≤ _; exact Nat.le_of_eq rfl) (hb hby d_jdk_42_method_139_code_22)
  obtain ⟨rfl, pq9_0, pq9_1, pq9_2, pq9_3⟩ := qq9
  have Nq9 := Fr.app Nq5 nq9
  have zq9 := pq9_0.1
  have Oq9 := Oq5.keep pq9_0 (allS (by omega) all0)
  have ltpq9_1 := lt_nat pq9_1.lt
  refine Goes.via stq9 ?_
  show Goes _ _ _ _ _ _ _ _ (Tq9.setTop (mkF m 25 #[.val (.int c0)] [(.ref bq4)]))
  refine goRetA Xq9 hx hrt rfl hlk Nq9 (by decide) (by decide) rfl (hb hby d_jdk_42_method_139_code_25) ?_
  have fq10 : Arv Z Tq9.heap xr_q5 xkr_q5 .byte (1 : Int32) [(.int (nar .byte c0.toInt8.toInt32))] (.int (0 : Int32)) := (pq5_2.keep pq9_0 (ninS (ne_ok (by omega)) nin0))
  exact ⟨bq4, xr_q5, _, rfl, by omega, ((((Keep.refl _ []).ext Eq4).trans pq5_1 all0).trans pq9_0 (allS (Or.inr (by omega)) all0)), pq9_1, pq9_2, pq9_3, fq10⟩
theorem ef_str4_0 (m : MethodId) (a : Nat) (q : Nat) : entryFrame m #[(.ref a), (.ref q), (.int (0 : Int32)), (.int (0 : Int32)), .null] 6 = mkF m 0 #[.val (.ref a), .val (.ref q), .val (.int (0 : Int32)), .val (.int (0 : Int32)), .val .null, .unset] [] := by first | (simp [entryFrame, mkF, argsToLocals, Value.category]; done) | rfl
set_option maxRecDepth 65536 in
set_option maxHeartbeats 40000000 in
theorem str4_0 (l : Launch) (Z : State) (aw : Array Value) (hw : ∀ d ∈ tables_1, d.before aw Z = true) (a : Nat) (q : Nat) {h0 : Heap} {n0 : Nat} (O : Old Z n0 h0) (E : Exa Z h0 a "java/lang/String") (Fv : Fld Z h0 a "java/lang/String" "value" "[B" .null) (Fc : Fld Z h0 a "java/lang/String" "coder" "B" (.int (0 : Int32))) (ga : n0 ≤ a) :
    METW l Z (⟨"java/lang/String", "<init>", "([CIILjava/lang/Void;)V"⟩ : MethodName) jdk_42_method_149_code 6 none ({ frames := 1, cells := 4, slots := 8, locals := 12 } : Room) #[(.ref a), (.ref q), (.int (0 : Int32)), (.int (0 : Int32)), .null] EL [a] h0 n0 (fun vv hh => ∃ b : Nat, ∃ kb : ClassId, vv = none ∧ Keep h0 hh [a] ∧ Exa Z hh a "java/lang/String" ∧ Fld Z hh a "java/lang/String" "value" "[B" (.ref b) ∧ Fld Z hh a "java/lang/String" "coder" "B" (.int (0 : Int32)) ∧ Arv Z hh b kb .byte (0 : Int32) [] (.int (0 : Int32))) := by
  refine metOfW (plainFor_of_name pn_20) ?_
  intro p e s m below meth c T vm0 hx hby hml hrt hlk hnm hZ hown X e0 hS C0 hSL
  replace hml : c.maxLocals = 6 := hml
  replace hnm : meth.name = "<init>" := hnm
  replace hown : vm0.findClass "java/lang/String" = some m.cls := hown
  have N := Fr.nil n0
  have zO := O.le
  refine goCastW (ef_str4_0 m a q) ?_
  have lt_a := lt_nat E.lt
  show GoesW _ _ _ _ _ _ _ _ (T.setTop (mkF m 0 #[.val (.ref a), .val (.ref q), .val (.int (0 : Int32)), .val (.int (0 : Int32)), .val .null, .unset] []))
  refine GoesW.via (fun _ k => XS.aloadN X.here hx rfl (hb hby d_jdk_42_method_149_code_0) rfl rfl k) ?_
  show GoesW _ _ _ _ _ _ _ _ (T.setTop (mkF m 1 #[.val (.ref a), .val (.ref q), .val (.int (0 : Int32)), .val (.int (0 : Int32)), .val .null, .unset] [(.ref a)]))
  obtain ⟨Tq1, Xq1, eq1, stq1⟩ := initO X hx hZ hown (W_11 hw) (W_12 hw) (W_13 hw) e0 (g := (mkF m 1 #[.val (.ref a), .val (.ref q), .val (.int (0 : Int32)), .val (.int (0 : Int32)), .val .null, .unset] [(.ref a)])) rfl (by rw [hml]; rfl) rfl (hb hby d_jdk_42_method_149_code_1) (by decide) (W := 0) (by show 2 * 0 + _ ≤ _; exact Nat.le_of_eq rfl) (by decide)
  refine GoesW.via stq1 ?_
  show GoesW _ _ _ _ _ _ _ _ (Tq1.setTop (mkF m 4 #[.val (.ref a), .val (.ref q), .val (.int (0 : Int32)), .val (.int (0 : Int32)), .val .null, .unset] []))
  refine GoesW.via (fun _ k => XS.iloadN Xq1.here hx rfl (hb hby d_jdk_42_method_149_code_4) rfl k) ?_
  show GoesW _ _ _ _ _ _ _ _ (Tq1.setTop (mkF m 5 #[.val (.ref a), .val (.ref q), .val (.int (0 : Int32)), .val (.int (0 : Int32)), .val .null, .unset] [(.int (0 : Int32))]))
  refine GoesW.via (fun _ k => XS.ifNo Xq1.here hx rfl (hb hby d_jdk_42_method_149_code_5) rfl (XT.i0_ne_f (by decide)) k) ?_
  show GoesW _ _ _ _ _ _ _ _ (Tq1.setTop (mkF m 8 #[.val (.ref a), .val (.ref q), .val (.int (0 : Int32)), .val (.int (0 : Int32)), .val .null, .unset] []))
  refine GoesW.via (fun _ k => XS.aloadN Xq1.here hx rfl (hb hby d_jdk_42_method_149_code_8) rfl rfl k) ?_
  show GoesW _ _ _ _ _ _ _ _ (Tq1.setTop (mkF m 9 #[.val (.ref a), .val (.ref q), .val (.int (0 : Int32)), .val (.int (0 : Int32)), .val .null, .unset] [(.ref a)]))
  obtain ⟨aq2, Tq2, hq2, kq2, wq2, kkq2, Xq2, eq2, Eq2, Sq2, hkq2, hZq2, hownq2, exq2, fcq2, fvq2, vaq2, laq2, lbq2, Rq2, -, sfq2, stq2⟩ := ldcCH Xq1 hx hZ hown (W_14 hw) (strAtoms hw) eq1 hS (by omega) (ew hw) (by decide) C0.1 (vs := []) (z := (0 : Int32)) ⟨by decide +kernel, by decide +kernel⟩ (by decide) (by decide) (g := (mkF m 9 #[.val (.ref a), .val (.ref q), .val (.int (0 : Int32)), .val (.int (0 : Int32)), .val .null, .unset] [(.ref a)])) rfl (hb hby d_jdk_42_method_149_code_9) (n := 0) (by decide +kernel) (by decide) (by decide) (by decide)
  replace laq2 := lt_nat laq2
  replace lbq2 := lt_nat lbq2
  have zq2 := Eq2.1
  have Oq2 := O.ext Eq2
  have Cq2 := C0.trans Rq2
  refine GoesW.via stq2 ?_
  show GoesW _ _ _ _ _ _ _ _ (Tq2.setTop (mkF m 11 #[.val (.ref a), .val (.ref q), .val (.int (0 : Int32)), .val (.int (0 : Int32)), .val .null, .unset] [(.ref aq2), (.ref a)]))
  obtain ⟨Tq3, Xq3, eq3, stq3⟩ := getF Xq2 hx hZq2 hownq2 (host := "") (Or.inl (W_20 hw)) Via.refl eq2 fvq2 (g := (mkF m 11 #[.val (.ref a), .val (.ref q), .val (.int (0 : Int32)), .val (.int (0 : Int32)), .val .null, .unset] [(.ref aq2), (.ref a)])) rfl rfl (hb hby d_jdk_42_method_149_code_11)
  refine GoesW.via stq3 ?_
  show GoesW _ _ _ _ _ _ _ _ (Tq3.setTop (mkF m 14 #[.val (.ref a), .val (.ref q), .val (.int (0 : Int32)), .val (.int (0 : Int32)), .val .null, .unset] [(.ref wq2), (.ref a)]))
  have fq4 : Safe Z EL Tq2.vm hq2 a := (CHr.safe Rq2 (lt_ok (by omega)) (hSL _ (by simp)))
  have nbq2 := ne2_nat (sfq2 _ fq4)
  have fq6 : Fld Z hq2 a "java/lang/String" "value" "[B" .null := (Fv.ext Eq2)
  have fq7 : Exa Z hq2 a "java/lang/String" := (E.ext Eq2)
  obtain ⟨Tq5, hq5, Xq5, eq5, Wq5, stq5⟩ := putF Xq3 hx hZq2 hownq2 (host := "") (Or.inl (W_20 hw)) Via.refl eq3 fq6 fq7 (Or.inr ⟨(W_16 hw), rfl, hnm⟩) (W_2 hw) (ty := (.array .byte)) (by decide) rfl rfl (g := (mkF m 14 #[.val (.ref a), .val (.ref q), .val (.int (0 : Int32)), .val (.int (0 : Int32)), .val .null, .unset] [(.ref wq2), (.ref a)])) rfl rfl (hb hby d_jdk_42_method_149_code_14)
  have Nq5 := Fr.snoc Xq5 N (by omega)
  have zq5 := Wq5.size
  have Oq5 := Oq2.wr Wq5 (by omega)
  have Cq5 := Cq2.trans (CHr.wr Wq5 fq4 Cq2.1)
  have Fq5 : Fld Z hq5 a "java/lang/String" "value" "[B" (.ref wq2) := fq6.same Wq5
  refine GoesW.via stq5 ?_
  show GoesW _ _ _ _ _ _ _ _ (Tq5.setTop (mkF m 17 #[.val (.ref a), .val (.ref q), .val (.int (0 : Int32)), .val (.int (0 : Int32)), .val .null, .unset] []))
  refine GoesW.via (fun _ k => XS.aloadN Xq5.here hx rfl (hb hby d_jdk_42_method_149_code_17) rfl rfl k) ?_
  show GoesW _ _ _ _ _ _ _ _ (Tq5.setTop (mkF m 18 #[.val (.ref a), .val (.ref q), .val (.int (0 : Int32)), .val (.int (0 : Int32)), .val .null, .unset] [(.ref a)]))
  obtain ⟨aq8, Tq8, hq8, kq8, wq8, kkq8, Xq8, eq8, Eq8, Sq8, hkq8, hZq8, hownq8, exq8, fcq8, fvq8, vaq8, laq8, lbq8, Rq8, -, sfq8, stq8⟩ := ldcCH Xq5 hx hZq2 hownq2 (W_14 hw) (strAtoms hw) eq5 Sq2 (by omega) (ew hw) (by decide) Cq5.1 (vs := []) (z := (0 : Int32)) ⟨by decide +kernel, by decide +kernel⟩ (by decide) (by decide) (g := (mkF m 18 #[.val (.ref a), .val (.ref q), .val (.int (0 : Int32)), .val (.int (0 : Int32)), .val .null, .unset] [(.ref a)])) rfl (hb hby d_jdk_42_method_149_code_18) (n := 0) (by decide +kernel) (by decide) (by decide) (by decide)
  replace laq8 := lt_nat laq8
  replace lbq8 := lt_nat lbq8
  have zq8 := Eq8.1
  have Oq8 := Oq5.ext Eq8
  have Cq8 := Cq5.trans Rq8
  refine GoesW.via stq8 ?_
  show GoesW _ _ _ _ _ _ _ _ (Tq8.setTop (mkF m 20 #[.val (.ref a), .val (.ref q), .val (.int (0 : Int32)), .val (.int (0 : Int32)), .val .null, .unset] [(.ref aq8), (.ref a)]))
  obtain ⟨Tq9, Xq9, eq9, stq9⟩ := getF Xq8 hx hZq8 hownq8 (host := "") (Or.inl (W_21 hw)) Via.refl eq8 fcq8 (g := (mkF m 20 #[.val (.ref a), .val (.ref q), .val (.int (0 : Int32)), .val (.int (0 : Int32)), .val .null, .unset] [(.ref aq8), (.ref a)])) rfl rfl (hb hby d_jdk_42_method_149_code_20)
  refine GoesW.via stq9 ?_
  show GoesW _ _ _ _ _ _ _ _ (Tq9.setTop (mkF m 23 #[.val (.ref a), .val (.ref q), .val (.int (0 : Int32)), .val (.int (0 : Int32)), .val .null, .unset] [(.int (0 : Int32)), (.ref a)]))
  have fq11 : Fld Z hq8 a "java/lang/String" "coder" "B" (.int (0 : Int32)) := (((Fc.ext Eq2).other Wq5 (Or.inr (slot_ne (Or.inr (W_17 hw)) (Or.inr (W_16 hw)) (by decide) (t := .byte) (t' := (.array .byte)) (by decide) (by decide)))).ext Eq8)
  have fq12 : Exa Z hq8 a "java/lang/String" := ((fq7.wr Wq5).ext Eq8)
  obtain ⟨Tq10, hq10, Xq10, eq10, Wq10, stq10⟩ := putFN Xq9 hx hZq8 hownq8 (W_21 hw) Via.refl eq9 fq11 fq12 (Or.inr ⟨(W_17 hw), rfl, hnm⟩) (W_2 hw) (ty := .byte) (v' := (.int (0 : Int32))) (by decide) (by rfl) (by decide) (g := (mkF m 23 #[.val (.ref a), .val (.ref q), .val (.int (0 : Int32)), .val (.int (0 : Int32)), .val .null, .unset] [(.int (0 : Int32)), (.ref a)])) rfl rfl (hb hby d_jdk_42_method_149_code_23)
  have Nq10 := Fr.snoc Xq10 Nq5 (by omega)
  have fq13 : Safe Z EL Tq8.vm hq8 a := (CHr.safe Rq8 (lt_ok (by omega)) (Safe.wr Wq5 fq4 Cq2.1 fq4))
  have zq10 := Wq10.size
  have Oq10 := Oq8.wr Wq10 (by omega)
  have Cq10 := Cq8.trans (CHr.wr Wq10 fq13 Cq8.1)
  have Fq10 : Fld Z hq10 a "java/lang/String" "coder" "B" (.int (0 : Int32)) := fq11.same Wq10
  refine GoesW.via stq10 ?_
  show GoesW _ _ _ _ _ _ _ _ (Tq10.setTop (mkF m 26 #[.val (.ref a), .val (.ref q), .val (.int (0 : Int32)), .val (.int (0 : Int32)), .val .null, .unset] []))
  refine goRetVW Xq10 hx hrt hlk Nq10 Sq8 (by rw [eq10]; omega) (by decide) (by decide) (hb hby d_jdk_42_method_149_code_26) ?_
  intro hWm
  try rw [eq10]
  refine ⟨?_, Cq10.trans (CHv.at Xq10 hZq8 (ew hw) Cq10.1)⟩
  have fq14 : Exa Z hq10 a "java/lang/String" := (fq12.wr Wq10)
  have fq15 : Fld Z hq10 a "java/lang/String" "value" "[B" (.ref wq2) := ((Fq5.ext Eq8).other Wq10 (Or.inr (slot_ne (Or.inr (W_16 hw)) (Or.inr (W_17 hw)) (by decide) (t := (.array .byte)) (t' := .byte) (by decide) (by decide))))
  have fq16 : Arv Z hq10 wq2 kkq2 .byte (0 : Int32) [] (.int (0 : Int32)) := (((vaq2.other Wq5 (ne_ok (by omega))).ext Eq8).other Wq10 (ne_ok (by omega)))
  exact ⟨wq2, _, rfl, (((((Keep.refl _ [a]).ext Eq2).wr Wq5 (Or.inl (by simp))).ext Eq8).wr Wq10 (Or.inl (by simp))), fq14, fq15, Fq10, fq16⟩
theorem ef_str_0 (m : MethodId) (a : Nat) (q : Nat) : entryFrame m #[(.ref a), (.ref q)] 2 = mkF m 0 #[.val (.ref a), .val (.ref q)] [] := by first | (simp [entryFrame, mkF, argsToLocals, Value.category]; done) | rfl
set_option maxRecDepth 65536 in
set_option maxHeartbeats 40000000 in
theorem str_0 (l : Launch) (Z : State) (aw : Array Value) (hw : ∀ d ∈ tables_1, d.before aw Z = true) (a : Nat) (q : Nat) (kq : ClassId) {h0 : Heap} {n0 : Nat} (O : Old Z n0 h0) (E : Exa Z h0 a "java/lang/String") (Fv : Fld Z h0 a "java/lang/String" "value" "[B" .null) (Fc : Fld Z h0 a "java/lang/String" "coder" "B" (.int (0 : Int32))) (Vq : Arv Z h0 q kq .char (0 : Int32) [] (.int (0 : Int32))) (ga : n0 ≤ a) :
    METW l Z (⟨"java/lang/String", "<init>", "([C)V"⟩ : MethodName) jdk_42_method_3_code 2 none ({ frames := 2, cells := 4, slots := 8, locals := 40 } : Room) #[(.ref a), (.ref q)] EL [a] h0 n0 (fun vv hh => ∃ b : Nat, ∃ kb : ClassId, vv = none ∧ Keep h0 hh [a] ∧ Exa Z hh a "java/lang/String" ∧ Fld Z hh a "java/lang/String" "value" "[B" (.ref b) ∧ Fld Z hh a "java/lang/String" "coder" "B" (.int (0 : Int32)) ∧ Arv Z hh b kb .byte (0 : Int32) [] (.int (0 : Int32))) := by
  refine metOfW (plainFor_of_name pn_20) ?_
  intro p e s m below meth c T vm0 hx hby hml hrt hlk hnm hZ hown X e0 hS C0 hSL
  replace hml : c.maxLocals = 2 := hml
  replace hnm : meth.name = "<init>" := hnm
  replace hown : vm0.findClass "java/lang/String" = some m.cls := hown
  have N := Fr.nil n0
  have zO := O.le
  refine goCastW (ef_str_0 m a q) ?_
  have lt_a := lt_nat E.lt
  have lt_q := lt_nat Vq.lt
  show GoesW _ _ _ _ _ _ _ _ (T.setTop (mkF m 0 #[.val (.ref a), .val (.ref q)] []))
  refine GoesW.via (fun _ k => XS.aloadN X.here hx rfl (hb hby d_jdk_42_method_3_code_0) rfl rfl k) ?_
  show GoesW _ _ _ _ _ _ _ _ (T.setTop (mkF m 1 #[.val (.ref a), .val (.ref q)] [(.ref a)]))
  refine GoesW.via (fun _ k => XS.aloadN X.here hx rfl (hb hby d_jdk_42_method_3_code_1) rfl rfl k) ?_
  show GoesW _ _ _ _ _ _ _ _ (T.setTop (mkF m 2 #[.val (.ref a), .val (.ref q)] [(.ref q), (.ref a)]))
  refine GoesW.via (fun _ k => XT.iconstV X.here hx rfl (0 : Int32) (hb hby d_jdk_42_method_3_code_2) (by decide) k) ?_
  show GoesW _ _ _ _ _ _ _ _ (T.setTop (mkF m 3 #[.val (.ref a), .val (.ref q)] [(.int (0 : Int32)), (.ref q), (.ref a)]))
  refine GoesW.via (fun _ k => XS.aloadN X.here hx rfl (hb hby d_jdk_42_method_3_code_3) rfl rfl k) ?_
  show GoesW _ _ _ _ _ _ _ _ (T.setTop (mkF m 4 #[.val (.ref a), .val (.ref q)] [(.ref q), (.int (0 : Int32)), (.ref q), (.ref a)]))
  obtain ⟨clq1, Arq1, -, Sq1, Nnq1, -, -⟩ := id Vq
  refine GoesW.via (X.arraylength hx (by rw [e0]; exact Arq1.1) (State.isArrayOf_alike hZ.alike Arq1.2.1) (g := (mkF m 4 #[.val (.ref a), .val (.ref q)] [(.ref q), (.int (0 : Int32)), (.ref q), (.ref a)])) rfl rfl (hb hby d_jdk_42_method_3_code_4)) ?_
  rw [len_of Sq1 Nnq1]
  show GoesW _ _ _ _ _ _ _ _ (T.setTop (mkF m 5 #[.val (.ref a), .val (.ref q)] [(.int (0 : Int32)), (.int (0 : Int32)), (.ref q), (.ref a)]))
  refine GoesW.via (fun _ k => XS.aconstNull X.here hx rfl (hb hby d_jdk_42_method_3_code_5) k) ?_
  show GoesW _ _ _ _ _ _ _ _ (T.setTop (mkF m 6 #[.val (.ref a), .val (.ref q)] [.null, (.int (0 : Int32)), (.int (0 : Int32)), (.ref q), (.ref a)]))
  obtain ⟨vq2, Tq2, Lq2, Xq2, Sq2, hZq2, hownq2, Rq2, qq2, nq2, stq2⟩ := callSpW X hx hZ hown hS (by rw [e0]; omega) (ew hw) C0.1 (allS (lt_ok (by omega)) all0) (allS (hSL _ (by simp)) all0) (str4_0 l Z aw hw a q O E Fv Fc (by omega)) rfl (W_7 hw) (W_8 hw) (W_3 hw) (W_10 hw) (by decide) e0 (by decide) (W := 0) (by decide) (by decide) (by decide) (g := (mkF m 6 #[.val (.ref a), .val (.ref q)] [.null, (.int (0 : Int32)), (.int (0 : Int32)), (.ref q), (.ref a)])) rfl (by rw [hml]; rfl) (a := a) (argsL := [(.ref q), (.int (0 : Int32)), (.int (0 : Int32)), .null]) (rest := []) rfl (lenOf pd_24 rfl) rfl (by show 2 * 0 + _ ≤ _; exact Nat.le_of_eq rfl) (hb hby d_jdk_42_method_3_code_6)
  obtain ⟨xb_q2, xkb_q2, rfl, pq2_0, pq2_1, pq2_2, pq2_3, pq2_4⟩ := qq2
  have Nq2 := Fr.app N nq2
  have zq2 := pq2_0.1
  have Oq2 := O.keep pq2_0 (allS (by omega) all0)
  have Cq2 := C0.trans Rq2
  have ltpq2_1 := lt_nat pq2_1.lt
  have ltpq2_4 := lt_nat pq2_4.lt
  refine GoesW.via stq2 ?_
  show GoesW _ _ _ _ _ _ _ _ (Tq2.setTop (mkF m 9 #[.val (.ref a), .val (.ref q)] []))
  refine goRetVW Xq2 hx hrt hlk Nq2 Sq2 (by omega) (by decide) (by decide) (hb hby d_jdk_42_method_3_code_9) ?_
  intro hWm
  refine ⟨?_, Cq2.trans (CHv.at Xq2 hZq2 (ew hw) Cq2.1)⟩
  exact ⟨xb_q2, _, rfl, ((Keep.refl _ [a]).trans pq2_0 (allS (Or.inl (by simp)) all0)), pq2_1, pq2_2, pq2_3, pq2_4⟩
theorem ef_comp5_2 (m : MethodId) (a : Nat) (b : Nat) : entryFrame m #[(.ref a), (.int (0 : Int32)), (.ref b), (.int (0 : Int32)), (.int (2 : Int32))] 7 = mkF m 0 #[.val (.ref a), .val (.int (0 : Int32)), .val (.ref b), .val (.int (0 : Int32)), .val (.int (2 : Int32)), .unset, .unset] [] := by first | (simp [entryFrame, mkF, argsToLocals, Value.category]; done) | rfl
set_option maxRecDepth 65536 in
set_option maxHeartbeats 40000000 in
theorem comp5_2 (l : Launch) (Z : State) (aw : Array Value) (hw : ∀ d ∈ tables_1, d.before aw Z = true) (a : Nat) (ka : ClassId) (b : Nat) (kb : ClassId) (c0 : Int32) (c1 : Int32) {h0 : Heap} {n0 : Nat} (O : Old Z n0 h0) (Va : Arv Z h0 a ka .char (2 : Int32) [(.int c0), (.int c1)] (.int (0 : Int32))) (Vb : Arv Z h0 b kb .byte (2 : Int32) [(.int (0 : Int32)), (.int (0 : Int32))] (.int (0 : Int32))) (gb : n0 ≤ b) (nab : a ≠ b) (hc0 : ¬ (255 : Int32) < c0) (hc1 : ¬ (255 : Int32) < c1) :
    MET l Z (⟨"java/lang/StringUTF16", "compress", "([CI[BII)I"⟩ : MethodName) jdk_52_method_21_code 7 (some .int) ({ frames := 0, cells := 0, slots := 0, locals := 0 } : Room) #[(.ref a), (.int (0 : Int32)), (.ref b), (.int (0 : Int32)), (.int (2 : Int32))] h0 n0 (fun vv hh => vv = some (.int (2 : Int32)) ∧ Keep h0 hh [b] ∧ Arv Z hh b kb .byte (2 : Int32) [(.int (nar .byte c0.toInt8.toInt32)), (.int (nar .byte c1.toInt8.toInt32))] (.int (0 : Int32))) := by
  refine metOf (plainFor_of_name pn_25) ?_
  intro p e s m below meth c T hx hby hml hrt hlk hnm hZ hown X e0
  replace hml : c.maxLocals = 7 := hml
  replace hnm : meth.name = "compress" := hnm
  replace hown : s.vm.findClass "java/lang/StringUTF16" = some m.cls := hown
  have N := Fr.nil n0
  have zO := O.le
  refine goCast (ef_comp5_2 m a b) ?_
  have lt_a := lt_nat Va.lt
  have lt_b := lt_nat Vb.lt
  show Goes _ _ _ _ _ _ _ _ (T.setTop (mkF m 0 #[.val (.ref a), .val (.int (0 : Int32)), .val (.ref b), .val (.int (0 : Int32)), .val (.int (2 : Int32)), .unset, .unset] []))
  refine Goes.via (fun _ k => XT.iconstV X.here hx rfl (0 : Int32) (hb hby d_jdk_52_method_21_code_0) (by decide) k) ?_
  show Goes _ _ _ _ _ _ _ _ (T.setTop (mkF m 1 #[.val (.ref a), .val (.int (0 : Int32)), .val (.ref b), .val (.int (0 : Int32)), .val (.int (2 : Int32)), .unset, .unset] [(.int (0 : Int32))]))
  refine Goes.via (fun _ k => XS.istore X.here hx rfl (hb hby d_jdk_52_method_21_code_1) rfl (l' := #[.val (.ref a), .val (.int (0 : Int32)), .val (.ref b), .val (.int (0 : Int32)), .val (.int (2 : Int32)), .val (.int (0 : Int32)), .unset]) rfl k) ?_
  show Goes _ _ _ _ _ _ _ _ (T.setTop (mkF m 3 #[.val (.ref a), .val (.int (0 : Int32)), .val (.ref b), .val (.int (0 : Int32)), .val (.int (2 : Int32)), .val (.int (0 : Int32)), .unset] []))
  refine Goes.via (fun _ k => XS.iload X.here hx rfl (hb hby d_jdk_52_method_21_code_3) rfl k) ?_
  show Goes _ _ _ _ _ _ _ _ (T.setTop (mkF m 5 #[.val (.ref a), .val (.int (0 : Int32)), .val (.ref b), .val (.int (0 : Int32)), .val (.int (2 : Int32)), .val (.int (0 : Int32)), .unset] [(.int (0 : Int32))]))
  refine Goes.via (fun _ k => XS.iload X.here hx rfl (hb hby d_jdk_52_method_21_code_5) rfl k) ?_
  show Goes _ _ _ _ _ _ _ _ (T.setTop (mkF m 7 #[.val (.ref a), .val (.int (0 : Int32)), .val (.ref b), .val (.int (0 : Int32)), .val (.int (2 : Int32)), .val (.int (0 : Int32)), .unset] [(.int (2 : Int32)), (.int (0 : Int32))]))
  refine Goes.via (fun _ k => XS.icmpNo X.here hx rfl (hb hby d_jdk_52_method_21_code_7) rfl (XT.ii_ge_f (by decide)) k) ?_
  show Goes _ _ _ _ _ _ _ _ (T.setTop (mkF m 10 #[.val (.ref a), .val (.int (0 : Int32)), .val (.ref b), .val (.int (0 : Int32)), .val (.int (2 : Int32)), .val (.int (0 : Int32)), .unset] []))
  refine Goes.via (fun _ k => XS.aloadN X.here hx rfl (hb hby d_jdk_52_method_21_code_10) rfl rfl k) ?_
  show Goes _ _ _ _ _ _ _ _ (T.setTop (mkF m 11 #[.val (.ref a), .val (.int (0 : Int32)), .val (.ref b), .val (.int (0 : Int32)), .val (.int (2 : Int32)), .val (.int (0 : Int32)), .unset] [(.ref a)]))
  refine Goes.via (fun _ k => XS.iloadN X.here hx rfl (hb hby d_jdk_52_method_21_code_11) rfl k) ?_
  show Goes _ _ _ _ _ _ _ _ (T.setTop (mkF m 12 #[.val (.ref a), .val (.int (0 : Int32)), .val (.ref b), .val (.int (0 : Int32)), .val (.int (2 : Int32)), .val (.int (0 : Int32)), .unset] [(.int (0 : Int32)), (.ref a)]))
  obtain ⟨clq1, Arq1, qq1, Sq1, Nnq1, Hq1, Gq1⟩ := id Va
  have hinq1 : ¬ ((0 : Int32) < 0 ∨ clq1.slots.size ≤ ((0 : Int32)).toNatClampNeg) := inb_of Sq1 ⟨by decide, by decide⟩
  refine Goes.via (X.caload hx (j := (0 : Int32)) (v := (.int c0)) (by rw [e0]; exact Arq1.1) (State.isArrayOf_alike hZ.alike Arq1.2.1) Arq1.2.2 hinq1 (Hq1.at hinq1 rfl) (g := (mkF m 12 #[.val (.ref a), .val (.int (0 : Int32)), .val (.ref b), .val (.int (0 : Int32)), .val (.int (2 : Int32)), .val (.int (0 : Int32)), .unset] [(.int (0 : Int32)), (.ref a)])) rfl rfl (hb hby d_jdk_52_method_21_code_12)) ?_
  show Goes _ _ _ _ _ _ _ _ (T.setTop (mkF m 13 #[.val (.ref a), .val (.int (0 : Int32)), .val (.ref b), .val (.int (0 : Int32)), .val (.int (2 : Int32)), .val (.int (0 : Int32)), .unset] [(.int c0)]))
  refine Goes.via (fun _ k => XS.istore X.here hx rfl (hb hby d_jdk_52_method_21_code_13) rfl (l' := #[.val (.ref a), .val (.int (0 : Int32)), .val (.ref b), .val (.int (0 : Int32)), .val (.int (2 : Int32)), .val (.int (0 : Int32)), .val (.int c0)]) rfl k) ?_
  show Goes _ _ _ _ _ _ _ _ (T.setTop (mkF m 15 #[.val (.ref a), .val (.int (0 : Int32)), .val (.ref b), .val (.int (0 : Int32)), .val (.int (2 : Int32)), .val (.int (0 : Int32)), .val (.int c0)] []))
  refine Goes.via (fun _ k => XS.iload X.here hx rfl (hb hby d_jdk_52_method_21_code_15) rfl k) ?_
  show Goes _ _ _ _ _ _ _ _ (T.setTop (mkF m 17 #[.val (.ref a), .val (.int (0 : Int32)), .val (.ref b), .val (.int (0 : Int32)), .val (.int (2 : Int32)), .val (.int (0 : Int32)), .val (.int c0)] [(.int c0)]))
  refine Goes.via (fun _ k => XT.sipushV X.here hx rfl (255 : Int32) (hb hby d_jdk_52_method_21_code_17) (by decide) k) ?_
  show Goes _ _ _ _ _ _ _ _ (T.setTop (mkF m 20 #[.val (.ref a), .val (.int (0 : Int32)), .val (.ref b), .val (.int (0 : Int32)), .val (.int (2 : Int32)), .val (.int (0 : Int32)), .val (.int c0)] [(.int (255 : Int32)), (.int c0)]))
  refine Goes.via (fun _ k => XS.icmpYes X.here hx rfl (pc0 := 20) (pc' := 26) rfl (hb hby d_jdk_52_method_21_code_20) rfl (XT.ii_le_t hc0) (by decide) (by decide) k) ?_
  show Goes _ _ _ _ _ _ _ _ (T.setTop (mkF m 26 #[.val (.ref a), .val (.int (0 : Int32)), .val (.ref b), .val (.int (0 : Int32)), .val (.int (2 : Int32)), .val (.int (0 : Int32)), .val (.int c0)] []))
  refine Goes.via (fun _ k => XS.aloadN X.here hx rfl (hb hby d_jdk_52_method_21_code_26) rfl rfl k) ?_
  show Goes _ _ _ _ _ _ _ _ (T.setTop (mkF m 27 #[.val (.ref a), .val (.int (0 : Int32)), .val (.ref b), .val (.int (0 : Int32)), .val (.int (2 : Int32)), .val (.int (0 : Int32)), .val (.int c0)] [(.ref b)]))
  refine Goes.via (fun _ k => XS.iloadN X.here hx rfl (hb hby d_jdk_52_method_21_code_27) rfl k) ?_
  show Goes _ _ _ _ _ _ _ _ (T.setTop (mkF m 28 #[.val (.ref a), .val (.int (0 : Int32)), .val (.ref b), .val (.int (0 : Int32)), .val (.int (2 : Int32)), .val (.int (0 : Int32)), .val (.int c0)] [(.int (0 : Int32)), (.ref b)]))
  refine Goes.via (fun _ k => XS.iload X.here hx rfl (hb hby d_jdk_52_method_21_code_28) rfl k) ?_
  show Goes _ _ _ _ _ _ _ _ (T.setTop (mkF m 30 #[.val (.ref a), .val (.int (0 : Int32)), .val (.ref b), .val (.int (0 : Int32)), .val (.int (2 : Int32)), .val (.int (0 : Int32)), .val (.int c0)] [(.int c0), (.int (0 : Int32)), (.ref b)]))
  refine Goes.via (fun _ k => XT.i2b X.here hx rfl (hb hby d_jdk_52_method_21_code_30) rfl k) ?_
  show Goes _ _ _ _ _ _ _ _ (T.setTop (mkF m 31 #[.val (.ref a), .val (.int (0 : Int32)), .val (.ref b), .val (.int (0 : Int32)), .val (.int (2 : Int32)), .val (.int (0 : Int32)), .val (.int c0)] [(.int c0.toInt8.toInt32), (.int (0 : Int32)), (.ref b)]))
  obtain ⟨clq2, Arq2, qq2, Sq2, Nnq2, Hq2, Gq2⟩ := id Vb
  have hinq2 : ¬ ((0 : Int32) < 0 ∨ clq2.slots.size ≤ ((0 : Int32)).toNatClampNeg) := inb_of Sq2 ⟨by decide, by decide⟩
  obtain ⟨Tq2, hq2, Xq2, eq2, Wq2, stq2⟩ := stB X hx hZ e0 Arq2 (j := (0 : Int32)) hinq2 (g := (mkF m 31 #[.val (.ref a), .val (.int (0 : Int32)), .val (.ref b), .val (.int (0 : Int32)), .val (.int (2 : Int32)), .val (.int (0 : Int32)), .val (.int c0)] [(.int c0.toInt8.toInt32), (.int (0 : Int32)), (.ref b)])) rfl rfl (hb hby d_jdk_52_method_21_code_31)
  have Nq2 := Fr.snoc Xq2 N (by omega)
  have zq2 := Wq2.size
  have Oq2 := O.wr Wq2 (by omega)
  have Vq2 : Arv Z hq2 b kb .byte (2 : Int32) [(.int (nar .byte c0.toInt8.toInt32)), (.int (0 : Int32))] (.int (0 : Int32)) := Arv.set Arq2 qq2 Sq2 Nnq2 Hq2 Gq2 (fits_nar_byte _) Wq2 0 rfl (Nat.le_of_ble_eq_true rfl)
  refine Goes.via stq2 ?_
  show Goes _ _ _ _ _ _ _ _ (Tq2.setTop (mkF m 32 #[.val (.ref a), .val (.int (0 : Int32)), .val (.ref b), .val (.int (0 : Int32)), .val (.int (2 : Int32)), .val (.int (0 : Int32)), .val (.int c0)] []))
  refine Goes.via (fun _ k => iincZ Xq2.here hx rfl (1 : Int32) (hb hby d_jdk_52_method_21_code_32) (by decide) rfl (l' := #[.val (.ref a), .val (.int (1 : Int32)), .val (.ref b), .val (.int (0 : Int32)), .val (.int (2 : Int32)), .val (.int (0 : Int32)), .val (.int c0)]) rfl k) ?_
  show Goes _ _ _ _ _ _ _ _ (Tq2.setTop (mkF m 35 #[.val (.ref a), .val (.int (1 : Int32)), .val (.ref b), .val (.int (0 : Int32)), .val (.int (2 : Int32)), .val (.int (0 : Int32)), .val (.int c0)] []))
  refine Goes.via (fun _ k => iincZ Xq2.here hx rfl (1 : Int32) (hb hby d_jdk_52_method_21_code_35) (by decide) rfl (l' := #[.val (.ref a), .val (.int (1 : Int32)), .val (.ref b), .val (.int (1 : Int32)), .val (.int (2 : Int32)), .val (.int (0 : Int32)), .val (.int c0)]) rfl k) ?_
  show Goes _ _ _ _ _ _ _ _ (Tq2.setTop (mkF m 38 #[.val (.ref a), .val (.int (1 : Int32)), .val (.ref b), .val (.int (1 : Int32)), .val (.int (2 : Int32)), .val (.int (0 : Int32)), .val (.int c0)] []))
  refine Goes.via (fun _ k => iincZ Xq2.here hx rfl (1 : Int32) (hb hby d_jdk_52_method_21_code_38) (by decide) rfl (l' := #[.val (.ref a), .val (.int (1 : Int32)), .val (.ref b), .val (.int (1 : Int32)), .val (.int (2 : Int32)), .val (.int (1 : Int32)), .val (.int c0)]) rfl k) ?_
  show Goes _ _ _ _ _ _ _ _ (Tq2.setTop (mkF m 41 #[.val (.ref a), .val (.int (1 : Int32)), .val (.ref b), .val (.int (1 : Int32)), .val (.int (2 : Int32)), .val (.int (1 : Int32)), .val (.int c0)] []))
  refine Goes.via (fun _ k => XS.goto Xq2.here hx rfl (pc0 := 41) (pc' := 3) rfl (hb hby d_jdk_52_method_21_code_41) (by decide) (by decide) k) ?_
  show Goes _ _ _ _ _ _ _ _ (Tq2.setTop (mkF m 3 #[.val (.ref a), .val (.int (1 : Int32)), .val (.ref b), .val (.int (1 : Int32)), .val (.int (2 : Int32)), .val (.int (1 : Int32)), .val (.int c0)] []))
  refine Goes.via (fun _ k => XS.iload Xq2.here hx rfl (hb hby d_jdk_52_method_21_code_3) rfl k) ?_
  show Goes _ _ _ _ _ _ _ _ (Tq2.setTop (mkF m 5 #[.val (.ref a), .val (.int (1 : Int32)), .val (.ref b), .val (.int (1 : Int32)), .val (.int (2 : Int32)), .val (.int (1 : Int32)), .val (.int c0)] [(.int (1 : Int32))]))
  refine Goes.via (fun _ k => XS.iload Xq2.here hx rfl (hb hby d_jdk_52_method_21_code_5) rfl k) ?_
  show Goes _ _ _ _ _ _ _ _ (Tq2.setTop (mkF m 7 #[.val (.ref a), .val (.int (1 : Int32)), .val (.ref b), .val (.int (1 : Int32)), .val (.int (2 : Int32)), .val (.int (1 : Int32)), .val (.int c0)] [(.int (2 : Int32)), (.int (1 : Int32))]))
  refine Goes.via (fun _ k => XS.icmpNo Xq2.here hx rfl (hb hby d_jdk_52_method_21_code_7) rfl (XT.ii_ge_f (by decide)) k) ?_
  show Goes _ _ _ _ _ _ _ _ (Tq2.setTop (mkF m 10 #[.val (.ref a), .val (.int (1 : Int32)), .val (.ref b), .val (.int (1 : Int32)), .val (.int (2 : Int32)), .val (.int (1 : Int32)), .val (.int c0)] []))
  refine Goes.via (fun _ k => XS.aloadN Xq2.here hx rfl (hb hby d_jdk_52_method_21_code_10) rfl rfl k) ?_
  show Goes _ _ _ _ _ _ _ _ (Tq2.setTop (mkF m 11 #[.val (.ref a), .val (.int (1 : Int32)), .val (.ref b), .val (.int (1 : Int32)), .val (.int (2 : Int32)), .val (.int (1 : Int32)), .val (.int c0)] [(.ref a)]))
  refine Goes.via (fun _ k => XS.iloadN Xq2.here hx rfl (hb hby d_jdk_52_method_21_code_11) rfl k) ?_
  show Goes _ _ _ _ _ _ _ _ (Tq2.setTop (mkF m 12 #[.val (.ref a), .val (.int (1 : Int32)), .val (.ref b), .val (.int (1 : Int32)), .val (.int (2 : Int32)), .val (.int (1 : Int32)), .val (.int c0)] [(.int (1 : Int32)), (.ref a)]))
  have fq4 : Arv Z hq2 a ka .char (2 : Int32) [(.int c0), (.int c1)] (.int (0 : Int32)) := (Va.other Wq2 (ne_ok (by omega)))
  obtain ⟨clq3, Arq3, qq3, Sq3, Nnq3, Hq3, Gq3⟩ := id fq4
  have hinq3 : ¬ ((1 : Int32) < 0 ∨ clq3.slots.size ≤ ((1 : Int32)).toNatClampNeg) := inb_of Sq3 ⟨by decide, by decide⟩
  refine Goes.via (Xq2.caload hx (j := (1 : Int32)) (v := (.int c1)) (by rw [eq2]; exact Arq3.1) (State.isArrayOf_alike hZ.alike Arq3.2.1) Arq3.2.2 hinq3 (Hq3.at hinq3 rfl) (g := (mkF m 12 #[.val (.ref a), .val (.int (1 : Int32)), .val (.ref b), .val (.int (1 : Int32)), .val (.int (2 : Int32)), .val (.int (1 : Int32)), .val (.int c0)] [(.int (1 : Int32)), (.ref a)])) rfl rfl (hb hby d_jdk_52_method_21_code_12)) ?_
  show Goes _ _ _ _ _ _ _ _ (Tq2.setTop (mkF m 13 #[.val (.ref a), .val (.int (1 : Int32)), .val (.ref b), .val (.int (1 : Int32)), .val (.int (2 : Int32)), .val (.int (1 : Int32)), .val (.int c0)] [(.int c1)]))
  refine Goes.via (fun _ k => XS.istore Xq2.here hx rfl (hb hby d_jdk_52_method_21_code_13) rfl (l' := #[.val (.ref a), .val (.int (1 : Int32)), .val (.ref b), .val (.int (1 : Int32)), .val (.int (2 : Int32)), .val (.int (1 : Int32)), .val (.int c1)]) rfl k) ?_
  show Goes _ _ _ _ _ _ _ _ (Tq2.setTop (mkF m 15 #[.val (.ref a), .val (.int (1 : Int32)), .val (.ref b), .val (.int (1 : Int32)), .val (.int (2 : Int32)), .val (.int (1 : Int32)), .val (.int c1)] []))
  refine Goes.via (fun _ k => XS.iload Xq2.here hx rfl (hb hby d_jdk_52_method_21_code_15) rfl k) ?_
  show Goes _ _ _ _ _ _ _ _ (Tq2.setTop (mkF m 17 #[.val (.ref a), .val (.int (1 : Int32)), .val (.ref b), .val (.int (1 : Int32)), .val (.int (2 : Int32)), .val (.int (1 : Int32)), .val (.int c1)] [(.int c1)]))
  refine Goes.via (fun _ k => XT.sipushV Xq2.here hx rfl (255 : Int32) (hb hby d_jdk_52_method_21_code_17) (by decide) k) ?_
  show Goes _ _ _ _ _ _ _ _ (Tq2.setTop (mkF m 20 #[.val (.ref a), .val (.int (1 : Int32)), .val (.ref b), .val (.int (1 : Int32)), .val (.int (2 : Int32)), .val (.int (1 : Int32)), .val (.int c1)] [(.int (255 : Int32)), (.int c1)]))
  refine Goes.via (fun _ k => XS.icmpYes Xq2.here hx rfl (pc0 := 20) (pc' := 26) rfl (hb hby d_jdk_52_method_21_code_20) rfl (XT.ii_le_t hc1) (by decide) (by decide) k) ?_
  show Goes _ _ _ _ _ _ _ _ (Tq2.setTop (mkF m 26 #[.val (.ref a), .val (.int (1 : Int32)), .val (.ref b), .val (.int (1 : Int32)), .val (.int (2 : Int32)), .val (.int (1 : Int32)), .val (.int c1)] []))
  refine Goes.via (fun _ k => XS.aloadN Xq2.here hx rfl (hb hby d_jdk_52_method_21_code_26) rfl rfl k) ?_
  show Goes _ _ _ _ _ _ _ _ (Tq2.setTop (mkF m 27 #[.val (.ref a), .val (.int (1 : Int32)), .val (.ref b), .val (.int (1 : Int32)), .val (.int (2 : Int32)), .val (.int (1 : Int32)), .val (.int c1)] [(.ref b)]))
  refine Goes.via (fun _ k => XS.iloadN Xq2.here hx rfl (hb hby d_jdk_52_method_21_code_27) rfl k) ?_
  show Goes _ _ _ _ _ _ _ _ (Tq2.setTop (mkF m 28 #[.val (.ref a), .val (.int (1 : Int32)), .val (.ref b), .val (.int (1 : Int32)), .val (.int (2 : Int32)), .val (.int (1 : Int32)), .val (.int c1)] [(.int (1 : Int32)), (.ref b)]))
  refine Goes.via (fun _ k => XS.iload Xq2.here hx rfl (hb hby d_jdk_52_method_21_code_28) rfl k) ?_
  show Goes _ _ _ _ _ _ _ _ (Tq2.setTop (mkF m 30 #[.val (.ref a), .val (.int (1 : Int32)), .val (.ref b), .val (.int (1 : Int32)), .val (.int (2 : Int32)), .val (.int (1 : Int32)), .val (.int c1)] [(.int c1), (.int (1 : Int32)), (.ref b)]))
  refine Goes.via (fun _ k => XT.i2b Xq2.here hx rfl (hb hby d_jdk_52_method_21_code_30) rfl k) ?_
  show Goes _ _ _ _ _ _ _ _ (Tq2.setTop (mkF m 31 #[.val (.ref a), .val (.int (1 : Int32)), .val (.ref b), .val (.int (1 : Int32)), .val (.int (2 : Int32)), .val (.int (1 : Int32)), .val (.int c1)] [(.int c1.toInt8.toInt32), (.int (1 : Int32)), (.ref b)]))
  obtain ⟨clq5, Arq5, qq5, Sq5, Nnq5, Hq5, Gq5⟩ := id Vq2
  have hinq5 : ¬ ((1 : Int32) < 0 ∨ clq5.slots.size ≤ ((1 : Int32)).toNatClampNeg) := inb_of Sq5 ⟨by decide, by decide⟩
  obtain ⟨Tq5, hq5, Xq5, eq5, Wq5, stq5⟩ := stB Xq2 hx hZ eq2 Arq5 (j := (1 : Int32)) hinq5 (g := (mkF m 31 #[.val (.ref a), .val (.int (1 : Int32)), .val (.ref b), .val (.int (1 : Int32)), .val (.int (2 : Int32)), .val (.int (1 : Int32)), .val (.int c1)] [(.int c1.toInt8.toInt32), (.int (1 : Int32)), (.ref b)])) rfl rfl (hb hby d_jdk_52_method_21_code_31)
  have Nq5 := Fr.snoc Xq5 Nq2 (by omega)
  have zq5 := Wq5.size
  have Oq5 := Oq2.wr Wq5 (by omega)
  have Vq5 : Arv Z hq5 b kb .byte (2 : Int32) [(.int (nar .byte c0.toInt8.toInt32)), (.int (nar .byte c1.toInt8.toInt32))] (.int (0 : Int32)) := Arv.set Arq5 qq5 Sq5 Nnq5 Hq5 Gq5 (fits_nar_byte _) Wq5 1 rfl (Nat.le_of_ble_eq_true rfl)
  refine Goes.via stq5 ?_
  show Goes _ _ _ _ _ _ _ _ (Tq5.setTop (mkF m 32 #[.val (.ref a), .val (.int (1 : Int32)), .val (.ref b), .val (.int (1 : Int32)), .val (.int (2 : Int32)), .val (.int (1 : Int32)), .val (.int c1)] []))
  refine Goes.via (fun _ k => iincZ Xq5.here hx rfl (2 : Int32) (hb hby d_jdk_52_method_21_code_32) (by decide) rfl (l' := #[.val (.ref a), .val (.int (2 : Int32)), .val (.ref b), .val (.int (1 : Int32)), .val (.int (2 : Int32)), .val (.int (1 : Int32)), .val (.int c1)]) rfl k) ?_
  show Goes _ _ _ _ _ _ _ _ (Tq5.setTop (mkF m 35 #[.val (.ref a), .val (.int (2 : Int32)), .val (.ref b), .val (.int (1 : Int32)), .val (.int (2 : Int32)), .val (.int (1 : Int32)), .val (.int c1)] []))
  refine Goes.via (fun _ k => iincZ Xq5.here hx rfl (2 : Int32) (hb hby d_jdk_52_method_21_code_35) (by decide) rfl (l' := #[.val (.ref a), .val (.int (2 : Int32)), .val (.ref b), .val (.int (2 : Int32)), .val (.int (2 : Int32)), .val (.int (1 : Int32)), .val (.int c1)]) rfl k) ?_
  show Goes _ _ _ _ _ _ _ _ (Tq5.setTop (mkF m 38 #[.val (.ref a), .val (.int (2 : Int32)), .val (.ref b), .val (.int (2 : Int32)), .val (.int (2 : Int32)), .val (.int (1 : Int32)), .val (.int c1)] []))
  refine Goes.via (fun _ k => iincZ Xq5.here hx rfl (2 : Int32) (hb hby d_jdk_52_method_21_code_38) (by decide) rfl (l' := #[.val (.ref a), .val (.int (2 : Int32)), .val (.ref b), .val (.int (2 : Int32)), .val (.int (2 : Int32)), .val (.int (2 : Int32)), .val (.int c1)]) rfl k) ?_
  show Goes _ _ _ _ _ _ _ _ (Tq5.setTop (mkF m 41 #[.val (.ref a), .val (.int (2 : Int32)), .val (.ref b), .val (.int (2 : Int32)), .val (.int (2 : Int32)), .val (.int (2 : Int32)), .val (.int c1)] []))
  refine Goes.via (fun _ k => XS.goto Xq5.here hx rfl (pc0 := 41) (pc' := 3) rfl (hb hby d_jdk_52_method_21_code_41) (by decide) (by decide) k) ?_
  show Goes _ _ _ _ _ _ _ _ (Tq5.setTop (mkF m 3 #[.val (.ref a), .val (.int (2 : Int32)), .val (.ref b), .val (.int (2 : Int32)), .val (.int (2 : Int32)), .val (.int (2 : Int32)), .val (.int c1)] []))
  refine Goes.via (fun _ k => XS.iload Xq5.here hx rfl (hb hby d_jdk_52_method_21_code_3) rfl k) ?_
  show Goes _ _ _ _ _ _ _ _ (Tq5.setTop (mkF m 5 #[.val (.ref a), .val (.int (2 : Int32)), .val (.ref b), .val (.int (2 : Int32)), .val (.int (2 : Int32)), .val (.int (2 : Int32)), .val (.int c1)] [(.int (2 : Int32))]))
  refine Goes.via (fun _ k => XS.iload Xq5.here hx rfl (hb hby d_jdk_52_method_21_code_5) rfl k) ?_
  show Goes _ _ _ _ _ _ _ _ (Tq5.setTop (mkF m 7 #[.val (.ref a), .val (.int (2 : Int32)), .val (.ref b), .val (.int (2 : Int32)), .val (.int (2 : Int32)), .val (.int (2 : Int32)), .val (.int c1)] [(.int (2 : Int32)), (.int (2 : Int32))]))
  refine Goes.via (fun _ k => XS.icmpYes Xq5.here hx rfl (pc0 := 7) (pc' := 44) rfl (hb hby d_jdk_52_method_21_code_7) rfl (XT.ii_ge_t (by decide)) (by decide) (by decide) k) ?_
  show Goes _ _ _ _ _ _ _ _ (Tq5.setTop (mkF m 44 #[.val (.ref a), .val (.int (2 : Int32)), .val (.ref b), .val (.int (2 : Int32)), .val (.int (2 : Int32)), .val (.int (2 : Int32)), .val (.int c1)] []))
  refine Goes.via (fun _ k => XS.iload Xq5.here hx rfl (hb hby d_jdk_52_method_21_code_44) rfl k) ?_
  show Goes _ _ _ _ _ _ _ _ (Tq5.setTop (mkF m 46 #[.val (.ref a), .val (.int (2 : Int32)), .val (.ref b), .val (.int (2 : Int32)), .val (.int (2 : Int32)), .val (.int (2 : Int32)), .val (.int c1)] [(.int (2 : Int32))]))
  refine goRetI Xq5 hx hrt hlk Nq5 (by decide) (by decide) (hb hby d_jdk_52_method_21_code_46) ?_
  try rw [eq5]
  exact ⟨rfl, (((Keep.refl _ [b]).wr Wq2 (Or.inl (by simp))).wr Wq5 (Or.inl (by simp))), Vq5⟩
theorem ef_comp3_2 (m : MethodId) (a : Nat) : entryFrame m #[(.ref a), (.int (0 : Int32)), (.int (2 : Int32))] 6 = mkF m 0 #[.val (.ref a), .val (.int (0 : Int32)), .val (.int (2 : Int32)), .unset, .unset, .unset] [] := by first | (simp [entryFrame, mkF, argsToLocals, Value.category]; done) | rfl
set_option maxRecDepth 65536 in
set_option maxHeartbeats 40000000 in
theorem comp3_2 (l : Launch) (Z : State) (aw : Array Value) (hw : ∀ d ∈ tables_1, d.before aw Z = true) (a : Nat) (ka : ClassId) (c0 : Int32) (c1 : Int32) {h0 : Heap} {n0 : Nat} (O : Old Z n0 h0) (Va : Arv Z h0 a ka .char (2 : Int32) [(.int c0), (.int c1)] (.int (0 : Int32))) (hc0 : ¬ (255 : Int32) < c0) (hc1 : ¬ (255 : Int32) < c1) :
    MET l Z (⟨"java/lang/StringUTF16", "compress", "([CII)[B"⟩ : MethodName) jdk_52_method_16_code 6 (some (.array .byte)) ({ frames := 1, cells := 1, slots := 2, locals := 18 } : Room) #[(.ref a), (.int (0 : Int32)), (.int (2 : Int32))] h0 n0 (fun vv hh => ∃ r : Nat, ∃ kr : ClassId, vv = some (.ref r) ∧ h0.size ≤ r ∧ Keep h0 hh [] ∧ Arv Z hh r kr .byte (2 : Int32) [(.int (nar .byte c0.toInt8.toInt32)), (.int (nar .byte c1.toInt8.toInt32))] (.int (0 : Int32))) := by
  refine metOf (plainFor_of_name pn_25) ?_
  intro p e s m below meth c T hx hby hml hrt hlk hnm hZ hown X e0
  replace hml : c.maxLocals = 6 := hml
  replace hnm : meth.name = "compress" := hnm
  replace hown : s.vm.findClass "java/lang/StringUTF16" = some m.cls := hown
  have N := Fr.nil n0
  have zO := O.le
  refine goCast (ef_comp3_2 m a) ?_
  have lt_a := lt_nat Va.lt
  show Goes _ _ _ _ _ _ _ _ (T.setTop (mkF m 0 #[.val (.ref a), .val (.int (0 : Int32)), .val (.int (2 : Int32)), .unset, .unset, .unset] []))
  refine Goes.via (fun _ k => XS.iloadN X.here hx rfl (hb hby d_jdk_52_method_16_code_0) rfl k) ?_
  show Goes _ _ _ _ _ _ _ _ (T.setTop (mkF m 1 #[.val (.ref a), .val (.int (0 : Int32)), .val (.int (2 : Int32)), .unset, .unset, .unset] [(.int (2 : Int32))]))
  obtain ⟨Tq1, hq1, kq1, Xq1, eq1, Eq1, Aq1, stq1⟩ := newP (aty := .byte) X hx hZ (W_15 hw) e0 (g := (mkF m 1 #[.val (.ref a), .val (.int (0 : Int32)), .val (.int (2 : Int32)), .unset, .unset, .unset] [(.int (2 : Int32))])) rfl (hb hby d_jdk_52_method_16_code_1) rfl (by decide) (cap := 2) (by decide) (by decide) (by decide) (by decide)
  obtain ⟨bq1, gq1⟩ : ∃ z, z = h0.size := ⟨_, rfl⟩
  rw [← gq1] at Aq1 stq1
  have zq1 := Eq1.1
  have Oq1 := O.ext Eq1
  have Vq1 : Arv Z hq1 bq1 kq1 .byte (2 : Int32) [(.int (0 : Int32)), (.int (0 : Int32))] (.int (0 : Int32)) := (Arv.new Aq1 (by decide)).pad (pad_rep [] (.int (0 : Int32)) 2)
  have lq1 := lt_nat Vq1.lt
  refine Goes.via stq1 ?_
  show Goes _ _ _ _ _ _ _ _ (Tq1.setTop (mkF m 3 #[.val (.ref a), .val (.int (0 : Int32)), .val (.int (2 : Int32)), .unset, .unset, .unset] [(.ref bq1)]))
  refine Goes.via (fun _ k => XS.astoreN Xq1.here hx rfl (hb hby d_jdk_52_method_16_code_3) rfl rfl (l' := #[.val (.ref a), .val (.int (0 : Int32)), .val (.int (2 : Int32)), .val (.ref bq1), .unset, .unset]) rfl k) ?_
  show Goes _ _ _ _ _ _ _ _ (Tq1.setTop (mkF m 4 #[.val (.ref a), .val (.int (0 : Int32)), .val (.int (2 : Int32)), .val (.ref bq1), .unset, .unset] []))
  refine Goes.via (fun _ k => XS.aloadN Xq1.here hx rfl (hb hby d_jdk_52_method_16_code_4) rfl rfl k) ?_
  show Goes _ _ _ _ _ _ _ _ (Tq1.setTop (mkF m 5 #[.val (.ref a), .val (.int (0 : Int32)), .val (.int (2 : Int32)), .val (.ref bq1), .unset, .unset] [(.ref a)]))
  refine Goes.via (fun _ k => XS.iloadN Xq1.here hx rfl (hb hby d_jdk_52_method_16_code_5) rfl k) ?_
  show Goes _ _ _ _ _ _ _ _ (Tq1.setTop (mkF m 6 #[.val (.ref a), .val (.int (0 : Int32)), .val (.int (2 : Int32)), .val (.ref bq1), .unset, .unset] [(.int (0 : Int32)), (.ref a)]))
  refine Goes.via (fun _ k => XS.aloadN Xq1.here hx rfl (hb hby d_jdk_52_method_16_code_6) rfl rfl k) ?_
  show Goes _ _ _ _ _ _ _ _ (Tq1.setTop (mkF m 7 #[.val (.ref a), .val (.int (0 : Int32)), .val (.int (2 : Int32)), .val (.ref bq1), .unset, .unset] [(.ref bq1), (.int (0 : Int32)), (.ref a)]))
  refine Goes.via (fun _ k => XT.iconstV Xq1.here hx rfl (0 : Int32) (hb hby d_jdk_52_method_16_code_7) (by decide) k) ?_
  show Goes _ _ _ _ _ _ _ _ (Tq1.setTop (mkF m 8 #[.val (.ref a), .val (.int (0 : Int32)), .val (.int (2 : Int32)), .val (.ref bq1), .unset, .unset] [(.int (0 : Int32)), (.ref bq1), (.int (0 : Int32)), (.ref a)]))
  refine Goes.via (fun _ k => XS.iloadN Xq1.here hx rfl (hb hby d_jdk_52_method_16_code_8) rfl k) ?_
  show Goes _ _ _ _ _ _ _ _ (Tq1.setTop (mkF m 9 #[.val (.ref a), .val (.int (0 : Int32)), .val (.int (2 : Int32)), .val (.ref bq1), .unset, .unset] [(.int (2 : Int32)), (.int (0 : Int32)), (.ref bq1), (.int (0 : Int32)), (.ref a)]))
  have fq2 : Arv Z hq1 a ka .char (2 : Int32) [(.int c0), (.int c1)] (.int (0 : Int32)) := (Va.ext Eq1)
  obtain ⟨vq3, Tq3, Lq3, Xq3, qq3, nq3, stq3⟩ := callSt Xq1 hx hZ hown (comp5_2 l Z aw hw a ka bq1 kq1 c0 c1 Oq1 fq2 Vq1 (by omega) (by omega) hc0 hc1) (W_188 hw) (W_189 hw) (W_186 hw) (W_190 hw) (by decide) eq1 (by decide) (W := 0) (by decide) (by decide) (by decide) (g := (mkF m 9 #[.val (.ref a), .val (.int (0 : Int32)), .val (.int (2 : Int32)), .val (.ref bq1), .unset, .unset] [(.int (2 : Int32)), (.int (0 : Int32)), (.ref bq1), (.int (0 : Int32)), (.ref a)])) rfl (by rw [hml]; rfl) (argsL := [(.ref a), (.int (0 : Int32)), (.ref bq1), (.int (0 : Int32)), (.int (2 : Int32))]) (rest := []) rfl (lenOf pd_26 rfl) rfl (by show 2 * 0 + _ ≤ _; exact Nat.le_of_eq rfl) (hb hby d_jdk_52_method_16_code_9)
  obtain ⟨rfl, pq3_0, pq3_1⟩ := qq3
  have Nq3 := Fr.app N nq3
  have zq3 := pq3_0.1
  have Oq3 := Oq1.keep pq3_0 (allS (by omega) all0)
  have ltpq3_1 := lt_nat pq3_1.lt
  refine Goes.via stq3 ?_
  show Goes _ _ _ _ _ _ _ _ (Tq3.setTop (mkF m 12 #[.val (.ref a), .val (.int (0 : Int32)), .val (.int (2 : Int32)), .val (.ref bq1), .unset, .unset] [(.int (2 : Int32))]))
  refine Goes.via (fun _ k => XS.istore Xq3.here hx rfl (hb hby d_jdk_52_method_16_code_12) rfl (l' := #[.val (.ref a), .val (.int (0 : Int32)), .val (.int (2 : Int32)), .val (.ref bq1), .val (.int (2 : Int32)), .unset]) rfl k) ?_
  show Goes _ _ _ _ _ _ _ _ (Tq3.setTop (mkF m 14 #[.val (.ref a), .val (.int (0 : Int32)), .val (.int (2 : Int32)), .val (.ref bq1), .val (.int (2 : Int32)), .unset] []))
  refine Goes.via (fun _ k => XS.iload Xq3.here hx rfl (hb hby d_jdk_52_method_16_code_14) rfl k) ?_
  show Goes _ _ _ _ _ _ _ _ (Tq3.setTop (mkF m 16 #[.val (.ref a), .val (.int (0 : Int32)), .val (.int (2 : Int32)), .val (.ref bq1), .val (.int (2 : Int32)), .unset] [(.int (2 : Int32))]))
  refine Goes.via (fun _ k => XS.iloadN Xq3.here hx rfl (hb hby d_jdk_52_method_16_code_16) rfl k) ?_
  show Goes _ _ _ _ _ _ _ _ (Tq3.setTop (mkF m 17 #[.val (.ref a), .val (.int (0 : Int32)), .val (.int (2 : Int32)), .val (.ref bq1), .val (.int (2 : Int32)), .unset] [(.int (2 : Int32)), (.int (2 : Int32))]))
  refine Goes.via (fun _ k => XS.icmpYes Xq3.here hx rfl (pc0 := 17) (pc' := 57) rfl (hb hby d_jdk_52_method_16_code_17) rfl (XT.ii_eq_t (by decide)) (by decide) (by decide) k) ?_
  show Goes _ _ _ _ _ _ _ _ (Tq3.setTop (mkF m 57 #[.val (.ref a), .val (.int (0 : Int32)), .val (.int (2 : Int32)), .val (.ref bq1), .val (.int (2 : Int32)), .unset] []))
  refine Goes.via (fun _ k => XS.aloadN Xq3.here hx rfl (hb hby d_jdk_52_method_16_code_57) rfl rfl k) ?_
  show Goes _ _ _ _ _ _ _ _ (Tq3.setTop (mkF m 58 #[.val (.ref a), .val (.int (0 : Int32)), .val (.int (2 : Int32)), .val (.ref bq1), .val (.int (2 : Int32)), .unset] [(.ref bq1)]))
  refine goRetA Xq3 hx hrt rfl hlk Nq3 (by decide) (by decide) rfl (hb hby d_jdk_52_method_16_code_58) ?_
  exact ⟨bq1, _, rfl, by omega, (((Keep.refl _ []).ext Eq1).trans pq3_0 (allS (Or.inr (by omega)) all0)), pq3_1⟩
theorem ef_coder_2 (m : MethodId) (b : Nat) : entryFrame m #[(.ref b), (.int (2 : Int32))] 2 = mkF m 0 #[.val (.ref b), .val (.int (2 : Int32))] [] := by first | (simp [entryFrame, mkF, argsToLocals, Value.category]; done) | rfl
set_option maxRecDepth 65536 in
set_option maxHeartbeats 40000000 in
theorem coder_2 (l : Launch) (Z : State) (aw : Array Value) (hw : ∀ d ∈ tables_1, d.before aw Z = true) (b : Nat) (kb : ClassId) (vs : List Value) {h0 : Heap} {n0 : Nat} (O : Old Z n0 h0) (Vb : Arv Z h0 b kb .byte (2 : Int32) vs (.int (0 : Int32))) :
    MET l Z (⟨"java/lang/StringUTF16", "coderFromArrayLen", "([BI)B"⟩ : MethodName) jdk_52_method_15_code 2 (some .byte) ({ frames := 0, cells := 0, slots := 0, locals := 0 } : Room) #[(.ref b), (.int (2 : Int32))] h0 n0 (fun vv hh => vv = some (.int (0 : Int32)) ∧ hh = h0) := by
  refine metOf (plainFor_of_name pn_25) ?_
  intro p e s m below meth c T hx hby hml hrt hlk hnm hZ hown X e0
  replace hml : c.maxLocals = 2 := hml
  replace hnm : meth.name = "coderFromArrayLen" := hnm
  replace hown : s.vm.findClass "java/lang/StringUTF16" = some m.cls := hown
  have N := Fr.nil n0
  have zO := O.le
  refine goCast (ef_coder_2 m b) ?_
  have lt_b := lt_nat Vb.lt
  show Goes _ _ _ _ _ _ _ _ (T.setTop (mkF m 0 #[.val (.ref b), .val (.int (2 : Int32))] []))
  refine Goes.via (fun _ k => XS.iloadN X.here hx rfl (hb hby d_jdk_52_method_15_code_0) rfl k) ?_
  show Goes _ _ _ _ _ _ _ _ (T.setTop (mkF m 1 #[.val (.ref b), .val (.int (2 : Int32))] [(.int (2 : Int32))]))
  refine Goes.via (fun _ k => XS.aloadN X.here hx rfl (hb hby d_jdk_52_method_15_code_1) rfl rfl k) ?_
  show Goes _ _ _ _ _ _ _ _ (T.setTop (mkF m 2 #[.val (.ref b), .val (.int (2 : Int32))] [(.ref b), (.int (2 : Int32))]))
  obtain ⟨clq1, Arq1, -, Sq1, Nnq1, -, -⟩ := id Vb
  refine Goes.via (X.arraylength hx (by rw [e0]; exact Arq1.1) (State.isArrayOf_alike hZ.alike Arq1.2.1) (g := (mkF m 2 #[.val (.ref b), .val (.int (2 : Int32))] [(.ref b), (.int (2 : Int32))])) rfl rfl (hb hby d_jdk_52_method_15_code_2)) ?_
  rw [len_of Sq1 Nnq1]
  show Goes _ _ _ _ _ _ _ _ (T.setTop (mkF m 3 #[.val (.ref b), .val (.int (2 : Int32))] [(.int (2 : Int32)), (.int (2 : Int32))]))
  refine Goes.via (fun _ k => XS.isub X.here hx rfl (hb hby d_jdk_52_method_15_code_3) rfl k) ?_
  rw [show ((2 : Int32) - (2 : Int32)) = (0 : Int32) from by decide]
  show Goes _ _ _ _ _ _ _ _ (T.setTop (mkF m 4 #[.val (.ref b), .val (.int (2 : Int32))] [(.int (0 : Int32))]))
  refine Goes.via (fun _ k => XT.bipushV X.here hx rfl (31 : Int32) (hb hby d_jdk_52_method_15_code_4) (by decide) k) ?_
  show Goes _ _ _ _ _ _ _ _ (T.setTop (mkF m 6 #[.val (.ref b), .val (.int (2 : Int32))] [(.int (31 : Int32)), (.int (0 : Int32))]))
  refine Goes.via (fun _ k => XT.iushr X.here hx rfl (hb hby d_jdk_52_method_15_code_6) rfl k) ?_
  rw [show (XT.ushr (0 : Int32) (31 : Int32)) = (0 : Int32) from by decide]
  show Goes _ _ _ _ _ _ _ _ (T.setTop (mkF m 7 #[.val (.ref b), .val (.int (2 : Int32))] [(.int (0 : Int32))]))
  refine Goes.via (fun _ k => XT.i2b X.here hx rfl (hb hby d_jdk_52_method_15_code_7) rfl k) ?_
  rw [show (0 : Int32).toInt8.toInt32 = (0 : Int32) from by decide]
  show Goes _ _ _ _ _ _ _ _ (T.setTop (mkF m 8 #[.val (.ref b), .val (.int (2 : Int32))] [(.int (0 : Int32))]))
  refine goRetN X hx hrt (by simp) hlk N (by decide) (by decide) (hb hby d_jdk_52_method_15_code_8) ?_
  try rw [e0]
  exact ⟨rfl, rfl⟩
theorem ef_str4_2 (m : MethodId) (a : Nat) (q : Nat) : entryFrame m #[(.ref a), (.ref q), (.int (0 : Int32)), (.int (2 : Int32)), .null] 6 = mkF m 0 #[.val (.ref a), .val (.ref q), .val (.int (0 : Int32)), .val (.int (2 : Int32)), .val .null, .unset] [] := by first | (simp [entryFrame, mkF, argsToLocals, Value.category]; done) | rfl
set_option maxRecDepth 65536 in
set_option maxHeartbeats 40000000 in
theorem str4_2 (l : Launch) (Z : State) (aw : Array Value) (hw : ∀ d ∈ tables_1, d.before aw Z = true) (a : Nat) (q : Nat) (kq : ClassId) (cz : Int32) (c0 : Int32) (c1 : Int32) {h0 : Heap} {n0 : Nat} (O : Old Z n0 h0) (CS : Sta Z Z.heap "java/lang/String" "COMPACT_STRINGS" "Z" (.int cz)) (E : Exa Z h0 a "java/lang/String") (Fv : Fld Z h0 a "java/lang/String" "value" "[B" .null) (Fc : Fld Z h0 a "java/lang/String" "coder" "B" (.int (0 : Int32))) (Vq : Arv Z h0 q kq .char (2 : Int32) [(.int c0), (.int c1)] (.int (0 : Int32))) (ga : n0 ≤ a) (hcz : ¬ cz = (0 : Int32)) (hc0 : ¬ (255 : Int32) < c0) (hc1 : ¬ (255 : Int32) < c1) :
    MET l Z (⟨"java/lang/String", "<init>", "([CIILjava/lang/Void;)V"⟩ : MethodName) jdk_42_method_149_code 6 none ({ frames := 2, cells := 1, slots := 2, locals := 36 } : Room) #[(.ref a), (.ref q), (.int (0 : Int32)), (.int (2 : Int32)), .null] h0 n0 (fun vv hh => ∃ b : Nat, ∃ kb : ClassId, vv = none ∧ Keep h0 hh [a] ∧ Exa Z hh a "java/lang/String" ∧ Fld Z hh a "java/lang/String" "value" "[B" (.ref b) ∧ Fld Z hh a "java/lang/String" "coder" "B" (.int (0 : Int32)) ∧ Arv Z hh b kb .byte (2 : Int32) [(.int (nar .byte c0.toInt8.toInt32)), (.int (nar .byte c1.toInt8.toInt32))] (.int (0 : Int32)) ∧ h0.size ≤ b) := by
  refine metOf (plainFor_of_name pn_20) ?_
  intro p e s m below meth c T hx hby hml hrt hlk hnm hZ hown X e0
  replace hml : c.maxLocals = 6 := hml
  replace hnm : meth.name = "<init>" := hnm
  replace hown : s.vm.findClass "java/lang/String" = some m.cls := hown
  have N := Fr.nil n0
  have zO := O.le
  refine goCast (ef_str4_2 m a q) ?_
  have lt_a := lt_nat E.lt
  have lt_q := lt_nat Vq.lt
  show Goes _ _ _ _ _ _ _ _ (T.setTop (mkF m 0 #[.val (.ref a), .val (.ref q), .val (.int (0 : Int32)), .val (.int (2 : Int32)), .val .null, .unset] []))
  refine Goes.via (fun _ k => XS.aloadN X.here hx rfl (hb hby d_jdk_42_method_149_code_0) rfl rfl k) ?_
  show Goes _ _ _ _ _ _ _ _ (T.setTop (mkF m 1 #[.val (.ref a), .val (.ref q), .val (.int (0 : Int32)), .val (.int (2 : Int32)), .val .null, .unset] [(.ref a)]))
  obtain ⟨Tq1, Xq1, eq1, stq1⟩ := initO X hx hZ hown (W_11 hw) (W_12 hw) (W_13 hw) e0 (g := (mkF m 1 #[.val (.ref a), .val (.ref q), .val (.int (0 : Int32)), .val (.int (2 : Int32)), .val .null, .unset] [(.ref a)])) rfl (by rw [hml]; rfl) rfl (hb hby d_jdk_42_method_149_code_1) (by decide) (W := 0) (by show 2 * 0 + _ ≤ _; exact Nat.le_of_eq rfl) (by decide)
  refine Goes.via stq1 ?_
  show Goes _ _ _ _ _ _ _ _ (Tq1.setTop (mkF m 4 #[.val (.ref a), .val (.ref q), .val (.int (0 : Int32)), .val (.int (2 : Int32)), .val .null, .unset] []))
  refine Goes.via (fun _ k => XS.iloadN Xq1.here hx rfl (hb hby d_jdk_42_method_149_code_4) rfl k) ?_
  show Goes _ _ _ _ _ _ _ _ (Tq1.setTop (mkF m 5 #[.val (.ref a), .val (.ref q), .val (.int (0 : Int32)), .val (.int (2 : Int32)), .val .null, .unset] [(.int (2 : Int32))]))
  refine Goes.via (fun _ k => XS.ifYes Xq1.here hx rfl (pc0 := 5) (pc' := 27) rfl (hb hby d_jdk_42_method_149_code_5) rfl (XT.i0_ne_t (by decide)) (by decide) (by decide) k) ?_
  show Goes _ _ _ _ _ _ _ _ (Tq1.setTop (mkF m 27 #[.val (.ref a), .val (.ref q), .val (.int (0 : Int32)), .val (.int (2 : Int32)), .val .null, .unset] []))
  have fq3 : Sta Z h0 "java/lang/String" "COMPACT_STRINGS" "Z" (.int cz) := (CS.ext O.2)
  obtain ⟨Tq2, Xq2, eq2, stq2⟩ := getS2 Xq1 hx hZ hown (host := "") (Or.inl (W_183 hw)) Via.refl eq1 fq3 (g := (mkF m 27 #[.val (.ref a), .val (.ref q), .val (.int (0 : Int32)), .val (.int (2 : Int32)), .val .null, .unset] [])) rfl (hb hby d_jdk_42_method_149_code_27)
  refine Goes.via stq2 ?_
  show Goes _ _ _ _ _ _ _ _ (Tq2.setTop (mkF m 30 #[.val (.ref a), .val (.ref q), .val (.int (0 : Int32)), .val (.int (2 : Int32)), .val .null, .unset] [(.int cz)]))
  refine Goes.via (fun _ k => XS.ifNo Xq2.here hx rfl (hb hby d_jdk_42_method_149_code_30) rfl (XT.i0_eq_f hcz) k) ?_
  show Goes _ _ _ _ _ _ _ _ (Tq2.setTop (mkF m 33 #[.val (.ref a), .val (.ref q), .val (.int (0 : Int32)), .val (.int (2 : Int32)), .val .null, .unset] []))
  refine Goes.via (fun _ k => XS.aloadN Xq2.here hx rfl (hb hby d_jdk_42_method_149_code_33) rfl rfl k) ?_
  show Goes _ _ _ _ _ _ _ _ (Tq2.setTop (mkF m 34 #[.val (.ref a), .val (.ref q), .val (.int (0 : Int32)), .val (.int (2 : Int32)), .val .null, .unset] [(.ref q)]))
  refine Goes.via (fun _ k => XS.iloadN Xq2.here hx rfl (hb hby d_jdk_42_method_149_code_34) rfl k) ?_
  show Goes _ _ _ _ _ _ _ _ (Tq2.setTop (mkF m 35 #[.val (.ref a), .val (.ref q), .val (.int (0 : Int32)), .val (.int (2 : Int32)), .val .null, .unset] [(.int (0 : Int32)), (.ref q)]))
  refine Goes.via (fun _ k => XS.iloadN Xq2.here hx rfl (hb hby d_jdk_42_method_149_code_35) rfl k) ?_
  show Goes _ _ _ _ _ _ _ _ (Tq2.setTop (mkF m 36 #[.val (.ref a), .val (.ref q), .val (.int (0 : Int32)), .val (.int (2 : Int32)), .val .null, .unset] [(.int (2 : Int32)), (.int (0 : Int32)), (.ref q)]))
  obtain ⟨vq4, Tq4, Lq4, Xq4, qq4, nq4, stq4⟩ := callSt Xq2 hx hZ hown (comp3_2 l Z aw hw q kq c0 c1 O Vq hc0 hc1) (W_184 hw) (W_185 hw) (W_186 hw) (W_187 hw) (by decide) eq2 (by decide) (W := 0) (by decide) (by decide) (by decide) (g := (mkF m 36 #[.val (.ref a), .val (.ref q), .val (.int (0 : Int32)), .val (.int (2 : Int32)), .val .null, .unset] [(.int (2 : Int32)), (.int (0 : Int32)), (.ref q)])) rfl (by rw [hml]; rfl) (argsL := [(.ref q), (.int (0 : Int32)), (.int (2 : Int32))]) (rest := []) rfl (lenOf pd_27 rfl) rfl (by show 2 * 0 + _ ≤ _; exact Nat.le_of_eq rfl) (hb hby d_jdk_42_method_149_code_36)
  obtain ⟨xr_q4, xkr_q4, rfl, pq4_0, pq4_1, pq4_2⟩ := qq4
  have Nq4 := Fr.app N nq4
  have zq4 := pq4_1.1
  have Oq4 := O.keep pq4_1 all0
  have ltpq4_2 := lt_nat pq4_2.lt
  refine Goes.via stq4 ?_
  show Goes _ _ _ _ _ _ _ _ (Tq4.setTop (mkF m 39 #[.val (.ref a), .val (.ref q), .val (.int (0 : Int32)), .val (.int (2 : Int32)), .val .null, .unset] [(.ref xr_q4)]))
  refine Goes.via (fun _ k => XS.astore Xq4.here hx rfl (hb hby d_jdk_42_method_149_code_39) rfl rfl (l' := #[.val (.ref a), .val (.ref q), .val (.int (0 : Int32)), .val (.int (2 : Int32)), .val .null, .val (.ref xr_q4)]) rfl k) ?_
  show Goes _ _ _ _ _ _ _ _ (Tq4.setTop (mkF m 41 #[.val (.ref a), .val (.ref q), .val (.int (0 : Int32)), .val (.int (2 : Int32)), .val .null, .val (.ref xr_q4)] []))
  refine Goes.via (fun _ k => XS.aloadN Xq4.here hx rfl (hb hby d_jdk_42_method_149_code_41) rfl rfl k) ?_
  show Goes _ _ _ _ _ _ _ _ (Tq4.setTop (mkF m 42 #[.val (.ref a), .val (.ref q), .val (.int (0 : Int32)), .val (.int (2 : Int32)), .val .null, .val (.ref xr_q4)] [(.ref a)]))
  refine Goes.via (fun _ k => XS.aload Xq4.here hx rfl (hb hby d_jdk_42_method_149_code_42) rfl rfl k) ?_
  show Goes _ _ _ _ _ _ _ _ (Tq4.setTop (mkF m 44 #[.val (.ref a), .val (.ref q), .val (.int (0 : Int32)), .val (.int (2 : Int32)), .val .null, .val (.ref xr_q4)] [(.ref xr_q4), (.ref a)]))
  refine Goes.via (fun _ k => XS.iloadN Xq4.here hx rfl (hb hby d_jdk_42_method_149_code_44) rfl k) ?_
  show Goes _ _ _ _ _ _ _ _ (Tq4.setTop (mkF m 45 #[.val (.ref a), .val (.ref q), .val (.int (0 : Int32)), .val (.int (2 : Int32)), .val .null, .val (.ref xr_q4)] [(.int (2 : Int32)), (.ref xr_q4), (.ref a)]))
  obtain ⟨vq5, Tq5, Lq5, Xq5, qq5, nq5, stq5⟩ := callSt Xq4 hx hZ hown (coder_2 l Z aw hw xr_q4 xkr_q4 ([(.int (nar .byte c0.toInt8.toInt32)), (.int (nar .byte c1.toInt8.toInt32))]) Oq4 pq4_2) (W_191 hw) (W_192 hw) (W_186 hw) (W_193 hw) (by decide) rfl (by decide) (W := 1) (by decide) (by decide) (by decide) (g := (mkF m 45 #[.val (.ref a), .val (.ref q), .val (.int (0 : Int32)), .val (.int (2 : Int32)), .val .null, .val (.ref xr_q4)] [(.int (2 : Int32)), (.ref xr_q4), (.ref a)])) rfl (by rw [hml]; rfl) (argsL := [(.ref xr_q4), (.int (2 : Int32))]) (rest := [(.ref a)]) rfl (lenOf pd_28 rfl) rfl (by show 2 * 0 + _ ≤ _; exact Nat.le_of_eq rfl) (hb hby d_jdk_42_method_149_code_45)
  obtain ⟨rfl, pq5_0⟩ := qq5
  have Nq5 := Fr.app Nq4 nq5
  refine Goes.via stq5 ?_
  show Goes _ _ _ _ _ _ _ _ (Tq5.setTop (mkF m 48 #[.val (.ref a), .val (.ref q), .val (.int (0 : Int32)), .val (.int (2 : Int32)), .val .null, .val (.ref xr_q4)] [(.int (0 : Int32)), (.ref a)]))
  have fq7 : Fld Z Tq4.heap a "java/lang/String" "coder" "B" (.int (0 : Int32)) := (Fc.keep pq4_1 nin0)
  have fq8 : Exa Z Tq4.heap a "java/lang/String" := (E.keep pq4_1)
  obtain ⟨Tq6, hq6, Xq6, eq6, Wq6, stq6⟩ := putFN Xq5 hx hZ hown (W_21 hw) Via.refl pq5_0 fq7 fq8 (Or.inr ⟨(W_17 hw), rfl, hnm⟩) (W_2 hw) (ty := .byte) (v' := (.int (0 : Int32))) (by decide) (by rfl) (by decide) (g := (mkF m 48 #[.val (.ref a), .val (.ref q), .val (.int (0 : Int32)), .val (.int (2 : Int32)), .val .null, .val (.ref xr_q4)] [(.int (0 : Int32)), (.ref a)])) rfl rfl (hb hby d_jdk_42_method_149_code_48)
  have Nq6 := Fr.snoc Xq6 Nq5 (by omega)
  have zq6 := Wq6.size
  have Oq6 := Oq4.wr Wq6 (by omega)
  have Fq6 : Fld Z hq6 a "java/lang/String" "coder" "B" (.int (0 : Int32)) := fq7.same Wq6
  refine Goes.via stq6 ?_
  show Goes _ _ _ _ _ _ _ _ (Tq6.setTop (mkF m 51 #[.val (.ref a), .val (.ref q), .val (.int (0 : Int32)), .val (.int (2 : Int32)), .val .null, .val (.ref xr_q4)] []))
  refine Goes.via (fun _ k => XS.aloadN Xq6.here hx rfl (hb hby d_jdk_42_method_149_code_51) rfl rfl k) ?_
  show Goes _ _ _ _ _ _ _ _ (Tq6.setTop (mkF m 52 #[.val (.ref a), .val (.ref q), .val (.int (0 : Int32)), .val (.int (2 : Int32)), .val .null, .val (.ref xr_q4)] [(.ref a)]))
  refine Goes.via (fun _ k => XS.aload Xq6.here hx rfl (hb hby d_jdk_42_method_149_code_52) rfl rfl k) ?_
  show Goes _ _ _ _ _ _ _ _ (Tq6.setTop (mkF m 54 #[.val (.ref a), .val (.ref q), .val (.int (0 : Int32)), .val (.int (2 : Int32)), .val .null, .val (.ref xr_q4)] [(.ref xr_q4), (.ref a)]))
  have fq10 : Fld Z hq6 a "java/lang/String" "value" "[B" .null := ((Fv.keep pq4_1 nin0).other Wq6 (Or.inr (slot_ne (Or.inr (W_16 hw)) (Or.inr (W_17 hw)) (by decide) (t := (.array .byte)) (t' := .byte) (by decide) (by decide))))
  have fq11 : Exa Z hq6 a "java/lang/String" := (fq8.wr Wq6)
  obtain ⟨Tq9, hq9, Xq9, eq9, Wq9, stq9⟩ := putF Xq6 hx hZ hown (host := "") (Or.inl (W_20 hw)) Via.refl eq6 fq10 fq11 (Or.inr ⟨(W_16 hw), rfl, hnm⟩) (W_2 hw) (ty := (.array .byte)) (by decide) rfl rfl (g := (mkF m 54 #[.val (.ref a), .val (.ref q), .val (.int (0 : Int32)), .val (.int (2 : Int32)), .val .null, .val (.ref xr_q4)] [(.ref xr_q4), (.ref a)])) rfl rfl (hb hby d_jdk_42_method_149_code_54)
  have Nq9 := Fr.snoc Xq9 Nq6 (by omega)
  have zq9 := Wq9.size
  have Oq9 := Oq6.wr Wq9 (by omega)
  have Fq9 : Fld Z hq9 a "java/lang/String" "value" "[B" (.ref xr_q4) := fq10.same Wq9
  refine Goes.via stq9 ?_
  show Goes _ _ _ _ _ _ _ _ (Tq9.setTop (mkF m 57 #[.val (.ref a), .val (.ref q), .val (.int (0 : Int32)), .val (.int (2 : Int32)), .val .null, .val (.ref xr_q4)] []))
  refine goRetV Xq9 hx hrt hlk Nq9 (by decide) (by decide) (hb hby d_jdk_42_method_149_code_57) ?_
  try rw [eq9]
  have fq12 : Exa Z hq9 a "java/lang/String" := (fq11.wr Wq9)
  have fq13 : Fld Z hq9 a "java/lang/String" "coder" "B" (.int (0 : Int32)) := (Fq6.other Wq9 (Or.inr (slot_ne (Or.inr (W_17 hw)) (Or.inr (W_16 hw)) (by decide) (t := .byte) (t' := (.array .byte)) (by decide) (by decide))))
  have fq14 : Arv Z hq9 xr_q4 xkr_q4 .byte (2 : Int32) [(.int (nar .byte c0.toInt8.toInt32)), (.int (nar .byte c1.toInt8.toInt32))] (.int (0 : Int32)) := ((pq4_2.other Wq6 (ne_ok (by omega))).other Wq9 (ne_ok (by omega)))
  exact ⟨xr_q4, _, rfl, ((((Keep.refl _ [a]).trans pq4_1 all0).wr Wq6 (Or.inl (by simp))).wr Wq9 (Or.inl (by simp))), fq12, Fq9, fq13, fq14, by omega⟩
theorem ef_str_2 (m : MethodId) (a : Nat) (q : Nat) : entryFrame m #[(.ref a), (.ref q)] 2 = mkF m 0 #[.val (.ref a), .val (.ref q)] [] := by first | (simp [entryFrame, mkF, argsToLocals, Value.category]; done) | rfl
set_option maxRecDepth 65536 in
set_option maxHeartbeats 40000000 in
theorem str_2 (l : Launch) (Z : State) (aw : Array Value) (hw : ∀ d ∈ tables_1, d.before aw Z = true) (a : Nat) (q : Nat) (kq : ClassId) (cz : Int32) (c0 : Int32) (c1 : Int32) {h0 : Heap} {n0 : Nat} (O : Old Z n0 h0) (CS : Sta Z Z.heap "java/lang/String" "COMPACT_STRINGS" "Z" (.int cz)) (E : Exa Z h0 a "java/lang/String") (Fv : Fld Z h0 a "java/lang/String" "value" "[B" .null) (Fc : Fld Z h0 a "java/lang/String" "coder" "B" (.int (0 : Int32))) (Vq : Arv Z h0 q kq .char (2 : Int32) [(.int c0), (.int c1)] (.int (0 : Int32))) (ga : n0 ≤ a) (hcz : ¬ cz = (0 : Int32)) (hc0 : ¬ (255 : Int32) < c0) (hc1 : ¬ (255 : Int32) < c1) :
    MET l Z (⟨"java/lang/String", "<init>", "([C)V"⟩ : MethodName) jdk_42_method_3_code 2 none ({ frames := 3, cells := 1, slots := 2, locals := 60 } : Room) #[(.ref a), (.ref q)] h0 n0 (fun vv hh => ∃ b : Nat, ∃ kb : ClassId, vv = none ∧ Keep h0 hh [a] ∧ Exa Z hh a "java/lang/String" ∧ Fld Z hh a "java/lang/String" "value" "[B" (.ref b) ∧ Fld Z hh a "java/lang/String" "coder" "B" (.int (0 : Int32)) ∧ Arv Z hh b kb .byte (2 : Int32) [(.int (nar .byte c0.toInt8.toInt32)), (.int (nar .byte c1.toInt8.toInt32))] (.int (0 : Int32)) ∧ h0.size ≤ b) := by
  refine metOf (plainFor_of_name pn_20) ?_
  intro p e s m below meth c T hx hby hml hrt hlk hnm hZ hown X e0
  replace hml : c.maxLocals = 2 := hml
  replace hnm : meth.name = "<init>" := hnm
  replace hown : s.vm.findClass "java/lang/String" = some m.cls := hown
  have N := Fr.nil n0
  have zO := O.le
  refine goCast (ef_str_2 m a q) ?_
  have lt_a := lt_nat E.lt
  have lt_q := lt_nat Vq.lt
  show Goes _ _ _ _ _ _ _ _ (T.setTop (mkF m 0 #[.val (.ref a), .val (.ref q)] []))
  refine Goes.via (fun _ k => XS.aloadN X.here hx rfl (hb hby d_jdk_42_method_3_code_0) rfl rfl k) ?_
  show Goes _ _ _ _ _ _ _ _ (T.setTop (mkF m 1 #[.val (.ref a), .val (.ref q)] [(.ref a)]))
  refine Goes.via (fun _ k => XS.aloadN X.here hx rfl (hb hby d_jdk_42_method_3_code_1) rfl rfl k) ?_
  show Goes _ _ _ _ _ _ _ _ (T.setTop (mkF m 2 #[.val (.ref a), .val (.ref q)] [(.ref q), (.ref a)]))
  refine Goes.via (fun _ k => XT.iconstV X.here hx rfl (0 : Int32) (hb hby d_jdk_42_method_3_code_2) (by decide) k) ?_
  show Goes _ _ _ _ _ _ _ _ (T.setTop (mkF m 3 #[.val (.ref a), .val (.ref q)] [(.int (0 : Int32)), (.ref q), (.ref a)]))
  refine Goes.via (fun _ k => XS.aloadN X.here hx rfl (hb hby d_jdk_42_method_3_code_3) rfl rfl k) ?_
  show Goes _ _ _ _ _ _ _ _ (T.setTop (mkF m 4 #[.val (.ref a), .val (.ref q)] [(.ref q), (.int (0 : Int32)), (.ref q), (.ref a)]))
  obtain ⟨clq1, Arq1, -, Sq1, Nnq1, -, -⟩ := id Vq
  refine Goes.via (X.arraylength hx (by rw [e0]; exact Arq1.1) (State.isArrayOf_alike hZ.alike Arq1.2.1) (g := (mkF m 4 #[.val (.ref a), .val (.ref q)] [(.ref q), (.int (0 : Int32)), (.ref q), (.ref a)])) rfl rfl (hb hby d_jdk_42_method_3_code_4)) ?_
  rw [len_of Sq1 Nnq1]
  show Goes _ _ _ _ _ _ _ _ (T.setTop (mkF m 5 #[.val (.ref a), .val (.ref q)] [(.int (2 : Int32)), (.int (0 : Int32)), (.ref q), (.ref a)]))
  refine Goes.via (fun _ k => XS.aconstNull X.here hx rfl (hb hby d_jdk_42_method_3_code_5) k) ?_
  show Goes _ _ _ _ _ _ _ _ (T.setTop (mkF m 6 #[.val (.ref a), .val (.ref q)] [.null, (.int (2 : Int32)), (.int (0 : Int32)), (.ref q), (.ref a)]))
  obtain ⟨vq2, Tq2, Lq2, Xq2, qq2, nq2, stq2⟩ := callSp X hx hZ hown (str4_2 l Z aw hw a q kq cz c0 c1 O CS E Fv Fc Vq (by omega) (by assumption) hc0 hc1) rfl (W_7 hw) (W_8 hw) (W_3 hw) (W_10 hw) (by decide) e0 (by decide) (W := 0) (by decide) (by decide) (by decide) (g := (mkF m 6 #[.val (.ref a), .val (.ref q)] [.null, (.int (2 : Int32)), (.int (0 : Int32)), (.ref q), (.ref a)])) rfl (by rw [hml]; rfl) (a := a) (argsL := [(.ref q), (.int (0 : Int32)), (.int (2 : Int32)), .null]) (rest := []) rfl (lenOf pd_24 rfl) rfl (by show 2 * 0 + _ ≤ _; exact Nat.le_of_eq rfl) (hb hby d_jdk_42_method_3_code_6)
  obtain ⟨xb_q2, xkb_q2, rfl, pq2_0, pq2_1, pq2_2, pq2_3, pq2_4, pq2_5⟩ := qq2
  have Nq2 := Fr.app N nq2
  have zq2 := pq2_0.1
  have Oq2 := O.keep pq2_0 (allS (by omega) all0)
  have ltpq2_1 := lt_nat pq2_1.lt
  have ltpq2_4 := lt_nat pq2_4.lt
  refine Goes.via stq2 ?_
  show Goes _ _ _ _ _ _ _ _ (Tq2.setTop (mkF m 9 #[.val (.ref a), .val (.ref q)] []))
  refine goRetV Xq2 hx hrt hlk Nq2 (by decide) (by decide) (hb hby d_jdk_42_method_3_code_9) ?_
  exact ⟨xb_q2, _, rfl, ((Keep.refl _ [a]).trans pq2_0 (allS (Or.inl (by simp)) all0)), pq2_1, pq2_2, pq2_3, pq2_4, by omega⟩
theorem ef_comp5_3 (m : MethodId) (a : Nat) (b : Nat) : entryFrame m #[(.ref a), (.int (0 : Int32)), (.ref b), (.int (0 : Int32)), (.int (3 : Int32))] 7 = mkF m 0 #[.val (.ref a), .val (.int (0 : Int32)), .val (.ref b), .val (.int (0 : Int32)), .val (.int (3 : Int32)), .unset, .unset] [] := by first | (simp [entryFrame, mkF, argsToLocals, Value.category]; done) | rfl
set_option maxRecDepth 65536 in
set_option maxHeartbeats 40000000 in
theorem comp5_3 (l : Launch) (Z : State) (aw : Array Value) (hw : ∀ d ∈ tables_1, d.before aw Z = true) (a : Nat) (ka : ClassId) (b : Nat) (kb : ClassId) (c0 : Int32) (c1 : Int32) (c2 : Int32) {h0 : Heap} {n0 : Nat} (O : Old Z n0 h0) (Va : Arv Z h0 a ka .char (3 : Int32) [(.int c0), (.int c1), (.int c2)] (.int (0 : Int32))) (Vb : Arv Z h0 b kb .byte (3 : Int32) [(.int (0 : Int32)), (.int (0 : Int32)), (.int (0 : Int32))] (.int (0 : Int32))) (gb : n0 ≤ b) (nab : a ≠ b) (hc0 : ¬ (255 : Int32) < c0) (hc1 : ¬ (255 : Int32) < c1) (hc2 : ¬ (255 : Int32) < c2) :
    MET l Z (⟨"java/lang/StringUTF16", "compress", "([CI[BII)I"⟩ : MethodName) jdk_52_method_21_code 7 (some .int) ({ frames := 0, cells := 0, slots := 0, locals := 0 } : Room) #[(.ref a), (.int (0 : Int32)), (.ref b), (.int (0 : Int32)), (.int (3 : Int32))] h0 n0 (fun vv hh => vv = some (.int (3 : Int32)) ∧ Keep h0 hh [b] ∧ Arv Z hh b kb .byte (3 : Int32) [(.int (nar .byte c0.toInt8.toInt32)), (.int (nar .byte c1.toInt8.toInt32)), (.int (nar .byte c2.toInt8.toInt32))] (.int (0 : Int32))) := by
  refine metOf (plainFor_of_name pn_25) ?_
  intro p e s m below meth c T hx hby hml hrt hlk hnm hZ hown X e0
  replace hml : c.maxLocals = 7 := hml
  replace hnm : meth.name = "compress" := hnm
  replace hown : s.vm.findClass "java/lang/StringUTF16" = some m.cls := hown
  have N := Fr.nil n0
  have zO := O.le
  refine goCast (ef_comp5_3 m a b) ?_
  have lt_a := lt_nat Va.lt
  have lt_b := lt_nat Vb.lt
  show Goes _ _ _ _ _ _ _ _ (T.setTop (mkF m 0 #[.val (.ref a), .val (.int (0 : Int32)), .val (.ref b), .val (.int (0 : Int32)), .val (.int (3 : Int32)), .unset, .unset] []))
  refine Goes.via (fun _ k => XT.iconstV X.here hx rfl (0 : Int32) (hb hby d_jdk_52_method_21_code_0) (by decide) k) ?_
  show Goes _ _ _ _ _ _ _ _ (T.setTop (mkF m 1 #[.val (.ref a), .val (.int (0 : Int32)), .val (.ref b), .val (.int (0 : Int32)), .val (.int (3 : Int32)), .unset, .unset] [(.int (0 : Int32))]))
  refine Goes.via (fun _ k => XS.istore X.here hx rfl (hb hby d_jdk_52_method_21_code_1) rfl (l' := #[.val (.ref a), .val (.int (0 : Int32)), .val (.ref b), .val (.int (0 : Int32)), .val (.int (3 : Int32)), .val (.int (0 : Int32)), .unset]) rfl k) ?_
  show Goes _ _ _ _ _ _ _ _ (T.setTop (mkF m 3 #[.val (.ref a), .val (.int (0 : Int32)), .val (.ref b), .val (.int (0 : Int32)), .val (.int (3 : Int32)), .val (.int (0 : Int32)), .unset] []))
  refine Goes.via (fun _ k => XS.iload X.here hx rfl (hb hby d_jdk_52_method_21_code_3) rfl k) ?_
  show Goes _ _ _ _ _ _ _ _ (T.setTop (mkF m 5 #[.val (.ref a), .val (.int (0 : Int32)), .val (.ref b), .val (.int (0 : Int32)), .val (.int (3 : Int32)), .val (.int (0 : Int32)), .unset] [(.int (0 : Int32))]))
  refine Goes.via (fun _ k => XS.iload X.here hx rfl (hb hby d_jdk_52_method_21_code_5) rfl k) ?_
  show Goes _ _ _ _ _ _ _ _ (T.setTop (mkF m 7 #[.val (.ref a), .val (.int (0 : Int32)), .val (.ref b), .val (.int (0 : Int32)), .val (.int (3 : Int32)), .val (.int (0 : Int32)), .unset] [(.int (3 : Int32)), (.int (0 : Int32))]))
  refine Goes.via (fun _ k => XS.icmpNo X.here hx rfl (hb hby d_jdk_52_method_21_code_7) rfl (XT.ii_ge_f (by decide)) k) ?_
  show Goes _ _ _ _ _ _ _ _ (T.setTop (mkF m 10 #[.val (.ref a), .val (.int (0 : Int32)), .val (.ref b), .val (.int (0 : Int32)), .val (.int (3 : Int32)), .val (.int (0 : Int32)), .unset] []))
  refine Goes.via (fun _ k => XS.aloadN X.here hx rfl (hb hby d_jdk_52_method_21_code_10) rfl rfl k) ?_
  show Goes _ _ _ _ _ _ _ _ (T.setTop (mkF m 11 #[.val (.ref a), .val (.int (0 : Int32)), .val (.ref b), .val (.int (0 : Int32)), .val (.int (3 : Int32)), .val (.int (0 : Int32)), .unset] [(.ref a)]))
  refine Goes.via (fun _ k => XS.iloadN X.here hx rfl (hb hby d_jdk_52_method_21_code_11) rfl k) ?_
  show Goes _ _ _ _ _ _ _ _ (T.setTop (mkF m 12 #[.val (.ref a), .val (.int (0 : Int32)), .val (.ref b), .val (.int (0 : Int32)), .val (.int (3 : Int32)), .val (.int (0 : Int32)), .unset] [(.int (0 : Int32)), (.ref a)]))
  obtain ⟨clq1, Arq1, qq1, Sq1, Nnq1, Hq1, Gq1⟩ := id Va
  have hinq1 : ¬ ((0 : Int32) < 0 ∨ clq1.slots.size ≤ ((0 : Int32)).toNatClampNeg) := inb_of Sq1 ⟨by decide, by decide⟩
  refine Goes.via (X.caload hx (j := (0 : Int32)) (v := (.int c0)) (by rw [e0]; exact Arq1.1) (State.isArrayOf_alike hZ.alike Arq1.2.1) Arq1.2.2 hinq1 (Hq1.at hinq1 rfl) (g := (mkF m 12 #[.val (.ref a), .val (.int (0 : Int32)), .val (.ref b), .val (.int (0 : Int32)), .val (.int (3 : Int32)), .val (.int (0 : Int32)), .unset] [(.int (0 : Int32)), (.ref a)])) rfl rfl (hb hby d_jdk_52_method_21_code_12)) ?_
  show Goes _ _ _ _ _ _ _ _ (T.setTop (mkF m 13 #[.val (.ref a), .val (.int (0 : Int32)), .val (.ref b), .val (.int (0 : Int32)), .val (.int (3 : Int32)), .val (.int (0 : Int32)), .unset] [(.int c0)]))
  refine Goes.via (fun _ k => XS.istore X.here hx rfl (hb hby d_jdk_52_method_21_code_13) rfl (l' := #[.val (.ref a), .val (.int (0 : Int32)), .val (.ref b), .val (.int (0 : Int32)), .val (.int (3 : Int32)), .val (.int (0 : Int32)), .val (.int c0)]) rfl k) ?_
  show Goes _ _ _ _ _ _ _ _ (T.setTop (mkF m 15 #[.val (.ref a), .val (.int (0 : Int32)), .val (.ref b), .val (.int (0 : Int32)), .val (.int (3 : Int32)), .val (.int (0 : Int32)), .val (.int c0)] []))
  refine Goes.via (fun _ k => XS.iload X.here hx rfl (hb hby d_jdk_52_method_21_code_15) rfl k) ?_
  show Goes _ _ _ _ _ _ _ _ (T.setTop (mkF m 17 #[.val (.ref a), .val (.int (0 : Int32)), .val (.ref b), .val (.int (0 : Int32)), .val (.int (3 : Int32)), .val (.int (0 : Int32)), .val (.int c0)] [(.int c0)]))
  refine Goes.via (fun _ k => XT.sipushV X.here hx rfl (255 : Int32) (hb hby d_jdk_52_method_21_code_17) (by decide) k) ?_
  show Goes _ _ _ _ _ _ _ _ (T.setTop (mkF m 20 #[.val (.ref a), .val (.int (0 : Int32)), .val (.ref b), .val (.int (0 : Int32)), .val (.int (3 : Int32)), .val (.int (0 : Int32)), .val (.int c0)] [(.int (255 : Int32)), (.int c0)]))
  refine Goes.via (fun _ k => XS.icmpYes X.here hx rfl (pc0 := 20) (pc' := 26) rfl (hb hby d_jdk_52_method_21_code_20) rfl (XT.ii_le_t hc0) (by decide) (by decide) k) ?_
  show Goes _ _ _ _ _ _ _ _ (T.setTop (mkF m 26 #[.val (.ref a), .val (.int (0 : Int32)), .val (.ref b), .val (.int (0 : Int32)), .val (.int (3 : Int32)), .val (.int (0 : Int32)), .val (.int c0)] []))
  refine Goes.via (fun _ k => XS.aloadN X.here hx rfl (hb hby d_jdk_52_method_21_code_26) rfl rfl k) ?_
  show Goes _ _ _ _ _ _ _ _ (T.setTop (mkF m 27 #[.val (.ref a), .val (.int (0 : Int32)), .val (.ref b), .val (.int (0 : Int32)), .val (.int (3 : Int32)), .val (.int (0 : Int32)), .val (.int c0)] [(.ref b)]))
  refine Goes.via (fun _ k => XS.iloadN X.here hx rfl (hb hby d_jdk_52_method_21_code_27) rfl k) ?_
  show Goes _ _ _ _ _ _ _ _ (T.setTop (mkF m 28 #[.val (.ref a), .val (.int (0 : Int32)), .val (.ref b), .val (.int (0 : Int32)), .val (.int (3 : Int32)), .val (.int (0 : Int32)), .val (.int c0)] [(.int (0 : Int32)), (.ref b)]))
  refine Goes.via (fun _ k => XS.iload X.here hx rfl (hb hby d_jdk_52_method_21_code_28) rfl k) ?_
  show Goes _ _ _ _ _ _ _ _ (T.setTop (mkF m 30 #[.val (.ref a), .val (.int (0 : Int32)), .val (.ref b), .val (.int (0 : Int32)), .val (.int (3 : Int32)), .val (.int (0 : Int32)), .val (.int c0)] [(.int c0), (.int (0 : Int32)), (.ref b)]))
  refine Goes.via (fun _ k => XT.i2b X.here hx rfl (hb hby d_jdk_52_method_21_code_30) rfl k) ?_
  show Goes _ _ _ _ _ _ _ _ (T.setTop (mkF m 31 #[.val (.ref a), .val (.int (0 : Int32)), .val (.ref b), .val (.int (0 : Int32)), .val (.int (3 : Int32)), .val (.int (0 : Int32)), .val (.int c0)] [(.int c0.toInt8.toInt32), (.int (0 : Int32)), (.ref b)]))
  obtain ⟨clq2, Arq2, qq2, Sq2, Nnq2, Hq2, Gq2⟩ := id Vb
  have hinq2 : ¬ ((0 : Int32) < 0 ∨ clq2.slots.size ≤ ((0 : Int32)).toNatClampNeg) := inb_of Sq2 ⟨by decide, by decide⟩
  obtain ⟨Tq2, hq2, Xq2, eq2, Wq2, stq2⟩ := stB X hx hZ e0 Arq2 (j := (0 : Int32)) hinq2 (g := (mkF m 31 #[.val (.ref a), .val (.int (0 : Int32)), .val (.ref b), .val (.int (0 : Int32)), .val (.int (3 : Int32)), .val (.int (0 : Int32)), .val (.int c0)] [(.int c0.toInt8.toInt32), (.int (0 : Int32)), (.ref b)])) rfl rfl (hb hby d_jdk_52_method_21_code_31)
  have Nq2 := Fr.snoc Xq2 N (by omega)
  have zq2 := Wq2.size
  have Oq2 := O.wr Wq2 (by omega)
  have Vq2 : Arv Z hq2 b kb .byte (3 : Int32) [(.int (nar .byte c0.toInt8.toInt32)), (.int (0 : Int32)), (.int (0 : Int32))] (.int (0 : Int32)) := Arv.set Arq2 qq2 Sq2 Nnq2 Hq2 Gq2 (fits_nar_byte _) Wq2 0 rfl (Nat.le_of_ble_eq_true rfl)
  refine Goes.via stq2 ?_
  show Goes _ _ _ _ _ _ _ _ (Tq2.setTop (mkF m 32 #[.val (.ref a), .val (.int (0 : Int32)), .val (.ref b), .val (.int (0 : Int32)), .val (.int (3 : Int32)), .val (.int (0 : Int32)), .val (.int c0)] []))
  refine Goes.via (fun _ k => iincZ Xq2.here hx rfl (1 : Int32) (hb hby d_jdk_52_method_21_code_32) (by decide) rfl (l' := #[.val (.ref a), .val (.int (1 : Int32)), .val (.ref b), .val (.int (0 : Int32)), .val (.int (3 : Int32)), .val (.int (0 : Int32)), .val (.int c0)]) rfl k) ?_
  show Goes _ _ _ _ _ _ _ _ (Tq2.setTop (mkF m 35 #[.val (.ref a), .val (.int (1 : Int32)), .val (.ref b), .val (.int (0 : Int32)), .val (.int (3 : Int32)), .val (.int (0 : Int32)), .val (.int c0)] []))
  refine Goes.via (fun _ k => iincZ Xq2.here hx rfl (1 : Int32) (hb hby d_jdk_52_method_21_code_35) (by decide) rfl (l' := #[.val (.ref a), .val (.int (1 : Int32)), .val (.ref b), .val (.int (1 : Int32)), .val (.int (3 : Int32)), .val (.int (0 : Int32)), .val (.int c0)]) rfl k) ?_
  show Goes _ _ _ _ _ _ _ _ (Tq2.setTop (mkF m 38 #[.val (.ref a), .val (.int (1 : Int32)), .val (.ref b), .val (.int (1 : Int32)), .val (.int (3 : Int32)), .val (.int (0 : Int32)), .val (.int c0)] []))
  refine Goes.via (fun _ k => iincZ Xq2.here hx rfl (1 : Int32) (hb hby d_jdk_52_method_21_code_38) (by decide) rfl (l' := #[.val (.ref a), .val (.int (1 : Int32)), .val (.ref b), .val (.int (1 : Int32)), .val (.int (3 : Int32)), .val (.int (1 : Int32)), .val (.int c0)]) rfl k) ?_
  show Goes _ _ _ _ _ _ _ _ (Tq2.setTop (mkF m 41 #[.val (.ref a), .val (.int (1 : Int32)), .val (.ref b), .val (.int (1 : Int32)), .val (.int (3 : Int32)), .val (.int (1 : Int32)), .val (.int c0)] []))
  refine Goes.via (fun _ k => XS.goto Xq2.here hx rfl (pc0 := 41) (pc' := 3) rfl (hb hby d_jdk_52_method_21_code_41) (by decide) (by decide) k) ?_
  show Goes _ _ _ _ _ _ _ _ (Tq2.setTop (mkF m 3 #[.val (.ref a), .val (.int (1 : Int32)), .val (.ref b), .val (.int (1 : Int32)), .val (.int (3 : Int32)), .val (.int (1 : Int32)), .val (.int c0)] []))
  refine Goes.via (fun _ k => XS.iload Xq2.here hx rfl (hb hby d_jdk_52_method_21_code_3) rfl k) ?_
  show Goes _ _ _ _ _ _ _ _ (Tq2.setTop (mkF m 5 #[.val (.ref a), .val (.int (1 : Int32)), .val (.ref b), .val (.int (1 : Int32)), .val (.int (3 : Int32)), .val (.int (1 : Int32)), .val (.int c0)] [(.int (1 : Int32))]))
  refine Goes.via (fun _ k => XS.iload Xq2.here hx rfl (hb hby d_jdk_52_method_21_code_5) rfl k) ?_
  show Goes _ _ _ _ _ _ _ _ (Tq2.setTop (mkF m 7 #[.val (.ref a), .val (.int (1 : Int32)), .val (.ref b), .val (.int (1 : Int32)), .val (.int (3 : Int32)), .val (.int (1 : Int32)), .val (.int c0)] [(.int (3 : Int32)), (.int (1 : Int32))]))
  refine Goes.via (fun _ k => XS.icmpNo Xq2.here hx rfl (hb hby d_jdk_52_method_21_code_7) rfl (XT.ii_ge_f (by decide)) k) ?_
  show Goes _ _ _ _ _ _ _ _ (Tq2.setTop (mkF m 10 #[.val (.ref a), .val (.int (1 : Int32)), .val (.ref b), .val (.int (1 : Int32)), .val (.int (3 : Int32)), .val (.int (1 : Int32)), .val (.int c0)] []))
  refine Goes.via (fun _ k => XS.aloadN Xq2.here hx rfl (hb hby d_jdk_52_method_21_code_10) rfl rfl k) ?_
  show Goes _ _ _ _ _ _ _ _ (Tq2.setTop (mkF m 11 #[.val (.ref a), .val (.int (1 : Int32)), .val (.ref b), .val (.int (1 : Int32)), .val (.int (3 : Int32)), .val (.int (1 : Int32)), .val (.int c0)] [(.ref a)]))
  refine Goes.via (fun _ k => XS.iloadN Xq2.here hx rfl (hb hby d_jdk_52_method_21_code_11) rfl k) ?_
  show Goes _ _ _ _ _ _ _ _ (Tq2.setTop (mkF m 12 #[.val (.ref a), .val (.int (1 : Int32)), .val (.ref b), .val (.int (1 : Int32)), .val (.int (3 : Int32)), .val (.int (1 : Int32)), .val (.int c0)] [(.int (1 : Int32)), (.ref a)]))
  have fq4 : Arv Z hq2 a ka .char (3 : Int32) [(.int c0), (.int c1), (.int c2)] (.int (0 : Int32)) := (Va.other Wq2 (ne_ok (by omega)))
  obtain ⟨clq3, Arq3, qq3, Sq3, Nnq3, Hq3, Gq3⟩ := id fq4
  have hinq3 : ¬ ((1 : Int32) < 0 ∨ clq3.slots.size ≤ ((1 : Int32)).toNatClampNeg) := inb_of Sq3 ⟨by decide, by decide⟩
  refine Goes.via (Xq2.caload hx (j := (1 : Int32)) (v := (.int c1)) (by rw [eq2]; exact Arq3.1) (State.isArrayOf_alike hZ.alike Arq3.2.1) Arq3.2.2 hinq3 (Hq3.at hinq3 rfl) (g := (mkF m 12 #[.val (.ref a), .val (.int (1 : Int32)), .val (.ref b), .val (.int (1 : Int32)), .val (.int (3 : Int32)), .val (.int (1 : Int32)), .val (.int c0)] [(.int (1 : Int32)), (.ref a)])) rfl rfl (hb hby d_jdk_52_method_21_code_12)) ?_
  show Goes _ _ _ _ _ _ _ _ (Tq2.setTop (mkF m 13 #[.val (.ref a), .val (.int (1 : Int32)), .val (.ref b), .val (.int (1 : Int32)), .val (.int (3 : Int32)), .val (.int (1 : Int32)), .val (.int c0)] [(.int c1)]))
  refine Goes.via (fun _ k => XS.istore Xq2.here hx rfl (hb hby d_jdk_52_method_21_code_13) rfl (l' := #[.val (.ref a), .val (.int (1 : Int32)), .val (.ref b), .val (.int (1 : Int32)), .val (.int (3 : Int32)), .val (.int (1 : Int32)), .val (.int c1)]) rfl k) ?_
  show Goes _ _ _ _ _ _ _ _ (Tq2.setTop (mkF m 15 #[.val (.ref a), .val (.int (1 : Int32)), .val (.ref b), .val (.int (1 : Int32)), .val (.int (3 : Int32)), .val (.int (1 : Int32)), .val (.int c1)] []))
  refine Goes.via (fun _ k => XS.iload Xq2.here hx rfl (hb hby d_jdk_52_method_21_code_15) rfl k) ?_
  show Goes _ _ _ _ _ _ _ _ (Tq2.setTop (mkF m 17 #[.val (.ref a), .val (.int (1 : Int32)), .val (.ref b), .val (.int (1 : Int32)), .val (.int (3 : Int32)), .val (.int (1 : Int32)), .val (.int c1)] [(.int c1)]))
  refine Goes.via (fun _ k => XT.sipushV Xq2.here hx rfl (255 : Int32) (hb hby d_jdk_52_method_21_code_17) (by decide) k) ?_
  show Goes _ _ _ _ _ _ _ _ (Tq2.setTop (mkF m 20 #[.val (.ref a), .val (.int (1 : Int32)), .val (.ref b), .val (.int (1 : Int32)), .val (.int (3 : Int32)), .val (.int (1 : Int32)), .val (.int c1)] [(.int (255 : Int32)), (.int c1)]))
  refine Goes.via (fun _ k => XS.icmpYes Xq2.here hx rfl (pc0 := 20) (pc' := 26) rfl (hb hby d_jdk_52_method_21_code_20) rfl (XT.ii_le_t hc1) (by decide) (by decide) k) ?_
  show Goes _ _ _ _ _ _ _ _ (Tq2.setTop (mkF m 26 #[.val (.ref a), .val (.int (1 : Int32)), .val (.ref b), .val (.int (1 : Int32)), .val (.int (3 : Int32)), .val (.int (1 : Int32)), .val (.int c1)] []))
  refine Goes.via (fun _ k => XS.aloadN Xq2.here hx rfl (hb hby d_jdk_52_method_21_code_26) rfl rfl k) ?_
  show Goes _ _ _ _ _ _ _ _ (Tq2.setTop (mkF m 27 #[.val (.ref a), .val (.int (1 : Int32)), .val (.ref b), .val (.int (1 : Int32)), .val (.int (3 : Int32)), .val (.int (1 : Int32)), .val (.int c1)] [(.ref b)]))
  refine Goes.via (fun _ k => XS.iloadN Xq2.here hx rfl (hb hby d_jdk_52_method_21_code_27) rfl k) ?_
  show Goes _ _ _ _ _ _ _ _ (Tq2.setTop (mkF m 28 #[.val (.ref a), .val (.int (1 : Int32)), .val (.ref b), .val (.int (1 : Int32)), .val (.int (3 : Int32)), .val (.int (1 : Int32)), .val (.int c1)] [(.int (1 : Int32)), (.ref b)]))
  refine Goes.via (fun _ k => XS.iload Xq2.here hx rfl (hb hby d_jdk_52_method_21_code_28) rfl k) ?_
  show Goes _ _ _ _ _ _ _ _ (Tq2.setTop (mkF m 30 #[.val (.ref a), .val (.int (1 : Int32)), .val (.ref b), .val (.int (1 : Int32)), .val (.int (3 : Int32)), .val (.int (1 : Int32)), .val (.int c1)] [(.int c1), (.int (1 : Int32)), (.ref b)]))
  refine Goes.via (fun _ k => XT.i2b Xq2.here hx rfl (hb hby d_jdk_52_method_21_code_30) rfl k) ?_
  show Goes _ _ _ _ _ _ _ _ (Tq2.setTop (mkF m 31 #[.val (.ref a), .val (.int (1 : Int32)), .val (.ref b), .val (.int (1 : Int32)), .val (.int (3 : Int32)), .val (.int (1 : Int32)), .val (.int c1)] [(.int c1.toInt8.toInt32), (.int (1 : Int32)), (.ref b)]))
  obtain ⟨clq5, Arq5, qq5, Sq5, Nnq5, Hq5, Gq5⟩ := id Vq2
  have hinq5 : ¬ ((1 : Int32) < 0 ∨ clq5.slots.size ≤ ((1 : Int32)).toNatClampNeg) := inb_of Sq5 ⟨by decide, by decide⟩
  obtain ⟨Tq5, hq5, Xq5, eq5, Wq5, stq5⟩ := stB Xq2 hx hZ eq2 Arq5 (j := (1 : Int32)) hinq5 (g := (mkF m 31 #[.val (.ref a), .val (.int (1 : Int32)), .val (.ref b), .val (.int (1 : Int32)), .val (.int (3 : Int32)), .val (.int (1 : Int32)), .val (.int c1)] [(.int c1.toInt8.toInt32), (.int (1 : Int32)), (.ref b)])) rfl rfl (hb hby d_jdk_52_method_21_code_31)
  have Nq5 := Fr.snoc Xq5 Nq2 (by omega)
  have zq5 := Wq5.size
  have Oq5 := Oq2.wr Wq5 (by omega)
  have Vq5 : Arv Z hq5 b kb .byte (3 : Int32) [(.int (nar .byte c0.toInt8.toInt32)), (.int (nar .byte c1.toInt8.toInt32)), (.int (0 : Int32))] (.int (0 : Int32)) := Arv.set Arq5 qq5 Sq5 Nnq5 Hq5 Gq5 (fits_nar_byte _) Wq5 1 rfl (Nat.le_of_ble_eq_true rfl)
  refine Goes.via stq5 ?_
  show Goes _ _ _ _ _ _ _ _ (Tq5.setTop (mkF m 32 #[.val (.ref a), .val (.int (1 : Int32)), .val (.ref b), .val (.int (1 : Int32)), .val (.int (3 : Int32)), .val (.int (1 : Int32)), .val (.int c1)] []))
  refine Goes.via (fun _ k => iincZ Xq5.here hx rfl (2 : Int32) (hb hby d_jdk_52_method_21_code_32) (by decide) rfl (l' := #[.val (.ref a), .val (.int (2 : Int32)), .val (.ref b), .val (.int (1 : Int32)), .val (.int (3 : Int32)), .val (.int (1 : Int32)), .val (.int c1)]) rfl k) ?_
  show Goes _ _ _ _ _ _ _ _ (Tq5.setTop (mkF m 35 #[.val (.ref a), .val (.int (2 : Int32)), .val (.ref b), .val (.int (1 : Int32)), .val (.int (3 : Int32)), .val (.int (1 : Int32)), .val (.int c1)] []))
  refine Goes.via (fun _ k => iincZ Xq5.here hx rfl (2 : Int32) (hb hby d_jdk_52_method_21_code_35) (by decide) rfl (l' := #[.val (.ref a), .val (.int (2 : Int32)), .val (.ref b), .val (.int (2 : Int32)), .val (.int (3 : Int32)), .val (.int (1 : Int32)), .val (.int c1)]) rfl k) ?_
  show Goes _ _ _ _ _ _ _ _ (Tq5.setTop (mkF m 38 #[.val (.ref a), .val (.int (2 : Int32)), .val (.ref b), .val (.int (2 : Int32)), .val (.int (3 : Int32)), .val (.int (1 : Int32)), .val (.int c1)] []))
  refine Goes.via (fun _ k => iincZ Xq5.here hx rfl (2 : Int32) (hb hby d_jdk_52_method_21_code_38) (by decide) rfl (l' := #[.val (.ref a), .val (.int (2 : Int32)), .val (.ref b), .val (.int (2 : Int32)), .val (.int (3 : Int32)), .val (.int (2 : Int32)), .val (.int c1)]) rfl k) ?_
  show Goes _ _ _ _ _ _ _ _ (Tq5.setTop (mkF m 41 #[.val (.ref a), .val (.int (2 : Int32)), .val (.ref b), .val (.int (2 : Int32)), .val (.int (3 : Int32)), .val (.int (2 : Int32)), .val (.int c1)] []))
  refine Goes.via (fun _ k => XS.goto Xq5.here hx rfl (pc0 := 41) (pc' := 3) rfl (hb hby d_jdk_52_method_21_code_41) (by decide) (by decide) k) ?_
  show Goes _ _ _ _ _ _ _ _ (Tq5.setTop (mkF m 3 #[.val (.ref a), .val (.int (2 : Int32)), .val (.ref b), .val (.int (2 : Int32)), .val (.int (3 : Int32)), .val (.int (2 : Int32)), .val (.int c1)] []))
  refine Goes.via (fun _ k => XS.iload Xq5.here hx rfl (hb hby d_jdk_52_method_21_code_3) rfl k) ?_
  show Goes _ _ _ _ _ _ _ _ (Tq5.setTop (mkF m 5 #[.val (.ref a), .val (.int (2 : Int32)), .val (.ref b), .val (.int (2 : Int32)), .val (.int (3 : Int32)), .val (.int (2 : Int32)), .val (.int c1)] [(.int (2 : Int32))]))
  refine Goes.via (fun _ k => XS.iload Xq5.here hx rfl (hb hby d_jdk_52_method_21_code_5) rfl k) ?_
  show Goes _ _ _ _ _ _ _ _ (Tq5.setTop (mkF m 7 #[.val (.ref a), .val (.int (2 : Int32)), .val (.ref b), .val (.int (2 : Int32)), .val (.int (3 : Int32)), .val (.int (2 : Int32)), .val (.int c1)] [(.int (3 : Int32)), (.int (2 : Int32))]))
  refine Goes.via (fun _ k => XS.icmpNo Xq5.here hx rfl (hb hby d_jdk_52_method_21_code_7) rfl (XT.ii_ge_f (by decide)) k) ?_
  show Goes _ _ _ _ _ _ _ _ (Tq5.setTop (mkF m 10 #[.val (.ref a), .val (.int (2 : Int32)), .val (.ref b), .val (.int (2 : Int32)), .val (.int (3 : Int32)), .val (.int (2 : Int32)), .val (.int c1)] []))
  refine Goes.via (fun _ k => XS.aloadN Xq5.here hx rfl (hb hby d_jdk_52_method_21_code_10) rfl rfl k) ?_
  show Goes _ _ _ _ _ _ _ _ (Tq5.setTop (mkF m 11 #[.val (.ref a), .val (.int (2 : Int32)), .val (.ref b), .val (.int (2 : Int32)), .val (.int (3 : Int32)), .val (.int (2 : Int32)), .val (.int c1)] [(.ref a)]))
  refine Goes.via (fun _ k => XS.iloadN Xq5.here hx rfl (hb hby d_jdk_52_method_21_code_11) rfl k) ?_
  show Goes _ _ _ _ _ _ _ _ (Tq5.setTop (mkF m 12 #[.val (.ref a), .val (.int (2 : Int32)), .val (.ref b), .val (.int (2 : Int32)), .val (.int (3 : Int32)), .val (.int (2 : Int32)), .val (.int c1)] [(.int (2 : Int32)), (.ref a)]))
  have fq7 : Arv Z hq5 a ka .char (3 : Int32) [(.int c0), (.int c1), (.int c2)] (.int (0 : Int32)) := (fq4.other Wq5 (ne_ok (by omega)))
  obtain ⟨clq6, Arq6, qq6, Sq6, Nnq6, Hq6, Gq6⟩ := id fq7
  have hinq6 : ¬ ((2 : Int32) < 0 ∨ clq6.slots.size ≤ ((2 : Int32)).toNatClampNeg) := inb_of Sq6 ⟨by decide, by decide⟩
  refine Goes.via (Xq5.caload hx (j := (2 : Int32)) (v := (.int c2)) (by rw [eq5]; exact Arq6.1) (State.isArrayOf_alike hZ.alike Arq6.2.1) Arq6.2.2 hinq6 (Hq6.at hinq6 rfl) (g := (mkF m 12 #[.val (.ref a), .val (.int (2 : Int32)), .val (.ref b), .val (.int (2 : Int32)), .val (.int (3 : Int32)), .val (.int (2 : Int32)), .val (.int c1)] [(.int (2 : Int32)), (.ref a)])) rfl rfl (hb hby d_jdk_52_method_21_code_12)) ?_
  show Goes _ _ _ _ _ _ _ _ (Tq5.setTop (mkF m 13 #[.val (.ref a), .val (.int (2 : Int32)), .val (.ref b), .val (.int (2 : Int32)), .val (.int (3 : Int32)), .val (.int (2 : Int32)), .val (.int c1)] [(.int c2)]))
  refine Goes.via (fun _ k => XS.istore Xq5.here hx rfl (hb hby d_jdk_52_method_21_code_13) rfl (l' := #[.val (.ref a), .val (.int (2 : Int32)), .val (.ref b), .val (.int (2 : Int32)), .val (.int (3 : Int32)), .val (.int (2 : Int32)), .val (.int c2)]) rfl k) ?_
  show Goes _ _ _ _ _ _ _ _ (Tq5.setTop (mkF m 15 #[.val (.ref a), .val (.int (2 : Int32)), .val (.ref b), .val (.int (2 : Int32)), .val (.int (3 : Int32)), .val (.int (2 : Int32)), .val (.int c2)] []))
  refine Goes.via (fun _ k => XS.iload Xq5.here hx rfl (hb hby d_jdk_52_method_21_code_15) rfl k) ?_
  show Goes _ _ _ _ _ _ _ _ (Tq5.setTop (mkF m 17 #[.val (.ref a), .val (.int (2 : Int32)), .val (.ref b), .val (.int (2 : Int32)), .val (.int (3 : Int32)), .val (.int (2 : Int32)), .val (.int c2)] [(.int c2)]))
  refine Goes.via (fun _ k => XT.sipushV Xq5.here hx rfl (255 : Int32) (hb hby d_jdk_52_method_21_code_17) (by decide) k) ?_
  show Goes _ _ _ _ _ _ _ _ (Tq5.setTop (mkF m 20 #[.val (.ref a), .val (.int (2 : Int32)), .val (.ref b), .val (.int (2 : Int32)), .val (.int (3 : Int32)), .val (.int (2 : Int32)), .val (.int c2)] [(.int (255 : Int32)), (.int c2)]))
  refine Goes.via (fun _ k => XS.icmpYes Xq5.here hx rfl (pc0 := 20) (pc' := 26) rfl (hb hby d_jdk_52_method_21_code_20) rfl (XT.ii_le_t hc2) (by decide) (by decide) k) ?_
  show Goes _ _ _ _ _ _ _ _ (Tq5.setTop (mkF m 26 #[.val (.ref a), .val (.int (2 : Int32)), .val (.ref b), .val (.int (2 : Int32)), .val (.int (3 : Int32)), .val (.int (2 : Int32)), .val (.int c2)] []))
  refine Goes.via (fun _ k => XS.aloadN Xq5.here hx rfl (hb hby d_jdk_52_method_21_code_26) rfl rfl k) ?_
  show Goes _ _ _ _ _ _ _ _ (Tq5.setTop (mkF m 27 #[.val (.ref a), .val (.int (2 : Int32)), .val (.ref b), .val (.int (2 : Int32)), .val (.int (3 : Int32)), .val (.int (2 : Int32)), .val (.int c2)] [(.ref b)]))
  refine Goes.via (fun _ k => XS.iloadN Xq5.here hx rfl (hb hby d_jdk_52_method_21_code_27) rfl k) ?_
  show Goes _ _ _ _ _ _ _ _ (Tq5.setTop (mkF m 28 #[.val (.ref a), .val (.int (2 : Int32)), .val (.ref b), .val (.int (2 : Int32)), .val (.int (3 : Int32)), .val (.int (2 : Int32)), .val (.int c2)] [(.int (2 : Int32)), (.ref b)]))
  refine Goes.via (fun _ k => XS.iload Xq5.here hx rfl (hb hby d_jdk_52_method_21_code_28) rfl k) ?_
  show Goes _ _ _ _ _ _ _ _ (Tq5.setTop (mkF m 30 #[.val (.ref a), .val (.int (2 : Int32)), .val (.ref b), .val (.int (2 : Int32)), .val (.int (3 : Int32)), .val (.int (2 : Int32)), .val (.int c2)] [(.int c2), (.int (2 : Int32)), (.ref b)]))
  refine Goes.via (fun _ k => XT.i2b Xq5.here hx rfl (hb hby d_jdk_52_method_21_code_30) rfl k) ?_
  show Goes _ _ _ _ _ _ _ _ (Tq5.setTop (mkF m 31 #[.val (.ref a), .val (.int (2 : Int32)), .val (.ref b), .val (.int (2 : Int32)), .val (.int (3 : Int32)), .val (.int (2 : Int32)), .val (.int c2)] [(.int c2.toInt8.toInt32), (.int (2 : Int32)), (.ref b)]))
  obtain ⟨clq8, Arq8, qq8, Sq8, Nnq8, Hq8, Gq8⟩ := id Vq5
  have hinq8 : ¬ ((2 : Int32) < 0 ∨ clq8.slots.size ≤ ((2 : Int32)).toNatClampNeg) := inb_of Sq8 ⟨by decide, by decide⟩
  obtain ⟨Tq8, hq8, Xq8, eq8, Wq8, stq8⟩ := stB Xq5 hx hZ eq5 Arq8 (j := (2 : Int32)) hinq8 (g := (mkF m 31 #[.val (.ref a), .val (.int (2 : Int32)), .val (.ref b), .val (.int (2 : Int32)), .val (.int (3 : Int32)), .val (.int (2 : Int32)), .val (.int c2)] [(.int c2.toInt8.toInt32), (.int (2 : Int32)), (.ref b)])) rfl rfl (hb hby d_jdk_52_method_21_code_31)
  have Nq8 := Fr.snoc Xq8 Nq5 (by omega)
  have zq8 := Wq8.size
  have Oq8 := Oq5.wr Wq8 (by omega)
  have Vq8 : Arv Z hq8 b kb .byte (3 : Int32) [(.int (nar .byte c0.toInt8.toInt32)), (.int (nar .byte c1.toInt8.toInt32)), (.int (nar .byte c2.toInt8.toInt32))] (.int (0 : Int32)) := Arv.set Arq8 qq8 Sq8 Nnq8 Hq8 Gq8 (fits_nar_byte _) Wq8 2 rfl (Nat.le_of_ble_eq_true rfl)
  refine Goes.via stq8 ?_
  show Goes _ _ _ _ _ _ _ _ (Tq8.setTop (mkF m 32 #[.val (.ref a), .val (.int (2 : Int32)), .val (.ref b), .val (.int (2 : Int32)), .val (.int (3 : Int32)), .val (.int (2 : Int32)), .val (.int c2)] []))
  refine Goes.via (fun _ k => iincZ Xq8.here hx rfl (3 : Int32) (hb hby d_jdk_52_method_21_code_32) (by decide) rfl (l' := #[.val (.ref a), .val (.int (3 : Int32)), .val (.ref b), .val (.int (2 : Int32)), .val (.int (3 : Int32)), .val (.int (2 : Int32)), .val (.int c2)]) rfl k) ?_
  show Goes _ _ _ _ _ _ _ _ (Tq8.setTop (mkF m 35 #[.val (.ref a), .val (.int (3 : Int32)), .val (.ref b), .val (.int (2 : Int32)), .val (.int (3 : Int32)), .val (.int (2 : Int32)), .val (.int c2)] []))
  refine Goes.via (fun _ k => iincZ Xq8.here hx rfl (3 : Int32) (hb hby d_jdk_52_method_21_code_35) (by decide) rfl (l' := #[.val (.ref a), .val (.int (3 : Int32)), .val (.ref b), .val (.int (3 : Int32)), .val (.int (3 : Int32)), .val (.int (2 : Int32)), .val (.int c2)]) rfl k) ?_
  show Goes _ _ _ _ _ _ _ _ (Tq8.setTop (mkF m 38 #[.val (.ref a), .val (.int (3 : Int32)), .val (.ref b), .val (.int (3 : Int32)), .val (.int (3 : Int32)), .val (.int (2 : Int32)), .val (.int c2)] []))
  refine Goes.via (fun _ k => iincZ Xq8.here hx rfl (3 : Int32) (hb hby d_jdk_52_method_21_code_38) (by decide) rfl (l' := #[.val (.ref a), .val (.int (3 : Int32)), .val (.ref b), .val (.int (3 : Int32)), .val (.int (3 : Int32)), .val (.int (3 : Int32)), .val (.int c2)]) rfl k) ?_
  show Goes _ _ _ _ _ _ _ _ (Tq8.setTop (mkF m 41 #[.val (.ref a), .val (.int (3 : Int32)), .val (.ref b), .val (.int (3 : Int32)), .val (.int (3 : Int32)), .val (.int (3 : Int32)), .val (.int c2)] []))
  refine Goes.via (fun _ k => XS.goto Xq8.here hx rfl (pc0 := 41) (pc' := 3) rfl (hb hby d_jdk_52_method_21_code_41) (by decide) (by decide) k) ?_
  show Goes _ _ _ _ _ _ _ _ (Tq8.setTop (mkF m 3 #[.val (.ref a), .val (.int (3 : Int32)), .val (.ref b), .val (.int (3 : Int32)), .val (.int (3 : Int32)), .val (.int (3 : Int32)), .val (.int c2)] []))
  refine Goes.via (fun _ k => XS.iload Xq8.here hx rfl (hb hby d_jdk_52_method_21_code_3) rfl k) ?_
  show Goes _ _ _ _ _ _ _ _ (Tq8.setTop (mkF m 5 #[.val (.ref a), .val (.int (3 : Int32)), .val (.ref b), .val (.int (3 : Int32)), .val (.int (3 : Int32)), .val (.int (3 : Int32)), .val (.int c2)] [(.int (3 : Int32))]))
  refine Goes.via (fun _ k => XS.iload Xq8.here hx rfl (hb hby d_jdk_52_method_21_code_5) rfl k) ?_
  show Goes _ _ _ _ _ _ _ _ (Tq8.setTop (mkF m 7 #[.val (.ref a), .val (.int (3 : Int32)), .val (.ref b), .val (.int (3 : Int32)), .val (.int (3 : Int32)), .val (.int (3 : Int32)), .val (.int c2)] [(.int (3 : Int32)), (.int (3 : Int32))]))
  refine Goes.via (fun _ k => XS.icmpYes Xq8.here hx rfl (pc0 := 7) (pc' := 44) rfl (hb hby d_jdk_52_method_21_code_7) rfl (XT.ii_ge_t (by decide)) (by decide) (by decide) k) ?_
  show Goes _ _ _ _ _ _ _ _ (Tq8.setTop (mkF m 44 #[.val (.ref a), .val (.int (3 : Int32)), .val (.ref b), .val (.int (3 : Int32)), .val (.int (3 : Int32)), .val (.int (3 : Int32)), .val (.int c2)] []))
  refine Goes.via (fun _ k => XS.iload Xq8.here hx rfl (hb hby d_jdk_52_method_21_code_44) rfl k) ?_
  show Goes _ _ _ _ _ _ _ _ (Tq8.setTop (mkF m 46 #[.val (.ref a), .val (.int (3 : Int32)), .val (.ref b), .val (.int (3 : Int32)), .val (.int (3 : Int32)), .val (.int (3 : Int32)), .val (.int c2)] [(.int (3 : Int32))]))
  refine goRetI Xq8 hx hrt hlk Nq8 (by decide) (by decide) (hb hby d_jdk_52_method_21_code_46) ?_
  try rw [eq8]
  exact ⟨rfl, ((((Keep.refl _ [b]).wr Wq2 (Or.inl (by simp))).wr Wq5 (Or.inl (by simp))).wr Wq8 (Or.inl (by simp))), Vq8⟩
theorem ef_comp3_3 (m : MethodId) (a : Nat) : entryFrame m #[(.ref a), (.int (0 : Int32)), (.int (3 : Int32))] 6 = mkF m 0 #[.val (.ref a), .val (.int (0 : Int32)), .val (.int (3 : Int32)), .unset, .unset, .unset] [] := by first | (simp [entryFrame, mkF, argsToLocals, Value.category]; done) | rfl
set_option maxRecDepth 65536 in
set_option maxHeartbeats 40000000 in
theorem comp3_3 (l : Launch) (Z : State) (aw : Array Value) (hw : ∀ d ∈ tables_1, d.before aw Z = true) (a : Nat) (ka : ClassId) (c0 : Int32) (c1 : Int32) (c2 : Int32) {h0 : Heap} {n0 : Nat} (O : Old Z n0 h0) (Va : Arv Z h0 a ka .char (3 : Int32) [(.int c0), (.int c1), (.int c2)] (.int (0 : Int32))) (hc0 : ¬ (255 : Int32) < c0) (hc1 : ¬ (255 : Int32) < c1) (hc2 : ¬ (255 : Int32) < c2) :
    MET l Z (⟨"java/lang/StringUTF16", "compress", "([CII)[B"⟩ : MethodName) jdk_52_method_16_code 6 (some (.array .byte)) ({ frames := 1, cells := 1, slots := 3, locals := 18 } : Room) #[(.ref a), (.int (0 : Int32)), (.int (3 : Int32))] h0 n0 (fun vv hh => ∃ r : Nat, ∃ kr : ClassId, vv = some (.ref r) ∧ h0.size ≤ r ∧ Keep h0 hh [] ∧ Arv Z hh r kr .byte (3 : Int32) [(.int (nar .byte c0.toInt8.toInt32)), (.int (nar .byte c1.toInt8.toInt32)), (.int (nar .byte c2.toInt8.toInt32))] (.int (0 : Int32))) := by
  refine metOf (plainFor_of_name pn_25) ?_
  intro p e s m below meth c T hx hby hml hrt hlk hnm hZ hown X e0
  replace hml : c.maxLocals = 6 := hml
  replace hnm : meth.name = "compress" := hnm
  replace hown : s.vm.findClass "java/lang/StringUTF16" = some m.cls := hown
  have N := Fr.nil n0
  have zO := O.le
  refine goCast (ef_comp3_3 m a) ?_
  have lt_a := lt_nat Va.lt
  show Goes _ _ _ _ _ _ _ _ (T.setTop (mkF m 0 #[.val (.ref a), .val (.int (0 : Int32)), .val (.int (3 : Int32)), .unset, .unset, .unset] []))
  refine Goes.via (fun _ k => XS.iloadN X.here hx rfl (hb hby d_jdk_52_method_16_code_0) rfl k) ?_
  show Goes _ _ _ _ _ _ _ _ (T.setTop (mkF m 1 #[.val (.ref a), .val (.int (0 : Int32)), .val (.int (3 : Int32)), .unset, .unset, .unset] [(.int (3 : Int32))]))
  obtain ⟨Tq1, hq1, kq1, Xq1, eq1, Eq1, Aq1, stq1⟩ := newP (aty := .byte) X hx hZ (W_15 hw) e0 (g := (mkF m 1 #[.val (.ref a), .val (.int (0 : Int32)), .val (.int (3 : Int32)), .unset, .unset, .unset] [(.int (3 : Int32))])) rfl (hb hby d_jdk_52_method_16_code_1) rfl (by decide) (cap := 3) (by decide) (by decide) (by decide) (by decide)
  obtain ⟨bq1, gq1⟩ : ∃ z, z = h0.size := ⟨_, rfl⟩
  rw [← gq1] at Aq1 stq1
  have zq1 := Eq1.1
  have Oq1 := O.ext Eq1
  have Vq1 : Arv Z hq1 bq1 kq1 .byte (3 : Int32) [(.int (0 : Int32)), (.int (0 : Int32)), (.int (0 : Int32))] (.int (0 : Int32)) := (Arv.new Aq1 (by decide)).pad (pad_rep [] (.int (0 : Int32)) 3)
  have lq1 := lt_nat Vq1.lt
  refine Goes.via stq1 ?_
  show Goes _ _ _ _ _ _ _ _ (Tq1.setTop (mkF m 3 #[.val (.ref a), .val (.int (0 : Int32)), .val (.int (3 : Int32)), .unset, .unset, .unset] [(.ref bq1)]))
  refine Goes.via (fun _ k => XS.astoreN Xq1.here hx rfl (hb hby d_jdk_52_method_16_code_3) rfl rfl (l' := #[.val (.ref a), .val (.int (0 : Int32)), .val (.int (3 : Int32)), .val (.ref bq1), .unset, .unset]) rfl k) ?_
  show Goes _ _ _ _ _ _ _ _ (Tq1.setTop (mkF m 4 #[.val (.ref a), .val (.int (0 : Int32)), .val (.int (3 : Int32)), .val (.ref bq1), .unset, .unset] []))
  refine Goes.via (fun _ k => XS.aloadN Xq1.here hx rfl (hb hby d_jdk_52_method_16_code_4) rfl rfl k) ?_
  show Goes _ _ _ _ _ _ _ _ (Tq1.setTop (mkF m 5 #[.val (.ref a), .val (.int (0 : Int32)), .val (.int (3 : Int32)), .val (.ref bq1), .unset, .unset] [(.ref a)]))
  refine Goes.via (fun _ k => XS.iloadN Xq1.here hx rfl (hb hby d_jdk_52_method_16_code_5) rfl k) ?_
  show Goes _ _ _ _ _ _ _ _ (Tq1.setTop (mkF m 6 #[.val (.ref a), .val (.int (0 : Int32)), .val (.int (3 : Int32)), .val (.ref bq1), .unset, .unset] [(.int (0 : Int32)), (.ref a)]))
  refine Goes.via (fun _ k => XS.aloadN Xq1.here hx rfl (hb hby d_jdk_52_method_16_code_6) rfl rfl k) ?_
  show Goes _ _ _ _ _ _ _ _ (Tq1.setTop (mkF m 7 #[.val (.ref a), .val (.int (0 : Int32)), .val (.int (3 : Int32)), .val (.ref bq1), .unset, .unset] [(.ref bq1), (.int (0 : Int32)), (.ref a)]))
  refine Goes.via (fun _ k => XT.iconstV Xq1.here hx rfl (0 : Int32) (hb hby d_jdk_52_method_16_code_7) (by decide) k) ?_
  show Goes _ _ _ _ _ _ _ _ (Tq1.setTop (mkF m 8 #[.val (.ref a), .val (.int (0 : Int32)), .val (.int (3 : Int32)), .val (.ref bq1), .unset, .unset] [(.int (0 : Int32)), (.ref bq1), (.int (0 : Int32)), (.ref a)]))
  refine Goes.via (fun _ k => XS.iloadN Xq1.here hx rfl (hb hby d_jdk_52_method_16_code_8) rfl k) ?_
  show Goes _ _ _ _ _ _ _ _ (Tq1.setTop (mkF m 9 #[.val (.ref a), .val (.int (0 : Int32)), .val (.int (3 : Int32)), .val (.ref bq1), .unset, .unset] [(.int (3 : Int32)), (.int (0 : Int32)), (.ref bq1), (.int (0 : Int32)), (.ref a)]))
  have fq2 : Arv Z hq1 a ka .char (3 : Int32) [(.int c0), (.int c1), (.int c2)] (.int (0 : Int32)) := (Va.ext Eq1)
  obtain ⟨vq3, Tq3, Lq3, Xq3, qq3, nq3, stq3⟩ := callSt Xq1 hx hZ hown (comp5_3 l Z aw hw a ka bq1 kq1 c0 c1 c2 Oq1 fq2 Vq1 (by omega) (by omega) hc0 hc1 hc2) (W_188 hw) (W_189 hw) (W_186 hw) (W_190 hw) (by decide) eq1 (by decide) (W := 0) (by decide) (by decide) (by decide) (g := (mkF m 9 #[.val (.ref a), .val (.int (0 : Int32)), .val (.int (3 : Int32)), .val (.ref bq1), .unset, .unset] [(.int (3 : Int32)), (.int (0 : Int32)), (.ref bq1), (.int (0 : Int32)), (.ref a)])) rfl (by rw [hml]; rfl) (argsL := [(.ref a), (.int (0 : Int32)), (.ref bq1), (.int (0 : Int32)), (.int (3 : Int32))]) (rest := []) rfl (lenOf pd_26 rfl) rfl (by show 2 * 0 + _ ≤ _; exact Nat.le_of_eq rfl) (hb hby d_jdk_52_method_16_code_9)
  obtain ⟨rfl, pq3_0, pq3_1⟩ := qq3
  have Nq3 := Fr.app N nq3
  have zq3 := pq3_0.1
  have Oq3 := Oq1.keep pq3_0 (allS (by omega) all0)
  have ltpq3_1 := lt_nat pq3_1.lt
  refine Goes.via stq3 ?_
  show Goes _ _ _ _ _ _ _ _ (Tq3.setTop (mkF m 12 #[.val (.ref a), .val (.int (0 : Int32)), .val (.int (3 : Int32)), .val (.ref bq1), .unset, .unset] [(.int (3 : Int32))]))
  refine Goes.via (fun _ k => XS.istore Xq3.here hx rfl (hb hby d_jdk_52_method_16_code_12) rfl (l' := #[.val (.ref a), .val (.int (0 : Int32)), .val (.int (3 : Int32)), .val (.ref bq1), .val (.int (3 : Int32)), .unset]) rfl k) ?_
  show Goes _ _ _ _ _ _ _ _ (Tq3.setTop (mkF m 14 #[.val (.ref a), .val (.int (0 : Int32)), .val (.int (3 : Int32)), .val (.ref bq1), .val (.int (3 : Int32)), .unset] []))
  refine Goes.via (fun _ k => XS.iload Xq3.here hx rfl (hb hby d_jdk_52_method_16_code_14) rfl k) ?_
  show Goes _ _ _ _ _ _ _ _ (Tq3.setTop (mkF m 16 #[.val (.ref a), .val (.int (0 : Int32)), .val (.int (3 : Int32)), .val (.ref bq1), .val (.int (3 : Int32)), .unset] [(.int (3 : Int32))]))
  refine Goes.via (fun _ k => XS.iloadN Xq3.here hx rfl (hb hby d_jdk_52_method_16_code_16) rfl k) ?_
  show Goes _ _ _ _ _ _ _ _ (Tq3.setTop (mkF m 17 #[.val (.ref a), .val (.int (0 : Int32)), .val (.int (3 : Int32)), .val (.ref bq1), .val (.int (3 : Int32)), .unset] [(.int (3 : Int32)), (.int (3 : Int32))]))
  refine Goes.via (fun _ k => XS.icmpYes Xq3.here hx rfl (pc0 := 17) (pc' := 57) rfl (hb hby d_jdk_52_method_16_code_17) rfl (XT.ii_eq_t (by decide)) (by decide) (by decide) k) ?_
  show Goes _ _ _ _ _ _ _ _ (Tq3.setTop (mkF m 57 #[.val (.ref a), .val (.int (0 : Int32)), .val (.int (3 : Int32)), .val (.ref bq1), .val (.int (3 : Int32)), .unset] []))
  refine Goes.via (fun _ k => XS.aloadN Xq3.here hx rfl (hb hby d_jdk_52_method_16_code_57) rfl rfl k) ?_
  show Goes _ _ _ _ _ _ _ _ (Tq3.setTop (mkF m 58 #[.val (.ref a), .val (.int (0 : Int32)), .val (.int (3 : Int32)), .val (.ref bq1), .val (.int (3 : Int32)), .unset] [(.ref bq1)]))
  refine goRetA Xq3 hx hrt rfl hlk Nq3 (by decide) (by decide) rfl (hb hby d_jdk_52_method_16_code_58) ?_
  exact ⟨bq1, _, rfl, by omega, (((Keep.refl _ []).ext Eq1).trans pq3_0 (allS (Or.inr (by omega)) all0)), pq3_1⟩
theorem ef_coder_3 (m : MethodId) (b : Nat) : entryFrame m #[(.ref b), (.int (3 : Int32))] 2 = mkF m 0 #[.val (.ref b), .val (.int (3 : Int32))] [] := by first | (simp [entryFrame, mkF, argsToLocals, Value.category]; done) | rfl
set_option maxRecDepth 65536 in
set_option maxHeartbeats 40000000 in
theorem coder_3 (l : Launch) (Z : State) (aw : Array Value) (hw : ∀ d ∈ tables_1, d.before aw Z = true) (b : Nat) (kb : ClassId) (vs : List Value) {h0 : Heap} {n0 : Nat} (O : Old Z n0 h0) (Vb : Arv Z h0 b kb .byte (3 : Int32) vs (.int (0 : Int32))) :
    MET l Z (⟨"java/lang/StringUTF16", "coderFromArrayLen", "([BI)B"⟩ : MethodName) jdk_52_method_15_code 2 (some .byte) ({ frames := 0, cells := 0, slots := 0, locals := 0 } : Room) #[(.ref b), (.int (3 : Int32))] h0 n0 (fun vv hh => vv = some (.int (0 : Int32)) ∧ hh = h0) := by
  refine metOf (plainFor_of_name pn_25) ?_
  intro p e s m below meth c T hx hby hml hrt hlk hnm hZ hown X e0
  replace hml : c.maxLocals = 2 := hml
  replace hnm : meth.name = "coderFromArrayLen" := hnm
  replace hown : s.vm.findClass "java/lang/StringUTF16" = some m.cls := hown
  have N := Fr.nil n0
  have zO := O.le
  refine goCast (ef_coder_3 m b) ?_
  have lt_b := lt_nat Vb.lt
  show Goes _ _ _ _ _ _ _ _ (T.setTop (mkF m 0 #[.val (.ref b), .val (.int (3 : Int32))] []))
  refine Goes.via (fun _ k => XS.iloadN X.here hx rfl (hb hby d_jdk_52_method_15_code_0) rfl k) ?_
  show Goes _ _ _ _ _ _ _ _ (T.setTop (mkF m 1 #[.val (.ref b), .val (.int (3 : Int32))] [(.int (3 : Int32))]))
  refine Goes.via (fun _ k => XS.aloadN X.here hx rfl (hb hby d_jdk_52_method_15_code_1) rfl rfl k) ?_
  show Goes _ _ _ _ _ _ _ _ (T.setTop (mkF m 2 #[.val (.ref b), .val (.int (3 : Int32))] [(.ref b), (.int (3 : Int32))]))
  obtain ⟨clq1, Arq1, -, Sq1, Nnq1, -, -⟩ := id Vb
  refine Goes.via (X.arraylength hx (by rw [e0]; exact Arq1.1) (State.isArrayOf_alike hZ.alike Arq1.2.1) (g := (mkF m 2 #[.val (.ref b), .val (.int (3 : Int32))] [(.ref b), (.int (3 : Int32))])) rfl rfl (hb hby d_jdk_52_method_15_code_2)) ?_
  rw [len_of Sq1 Nnq1]
  show Goes _ _ _ _ _ _ _ _ (T.setTop (mkF m 3 #[.val (.ref b), .val (.int (3 : Int32))] [(.int (3 : Int32)), (.int (3 : Int32))]))
  refine Goes.via (fun _ k => XS.isub X.here hx rfl (hb hby d_jdk_52_method_15_code_3) rfl k) ?_
  rw [show ((3 : Int32) - (3 : Int32)) = (0 : Int32) from by decide]
  show Goes _ _ _ _ _ _ _ _ (T.setTop (mkF m 4 #[.val (.ref b), .val (.int (3 : Int32))] [(.int (0 : Int32))]))
  refine Goes.via (fun _ k => XT.bipushV X.here hx rfl (31 : Int32) (hb hby d_jdk_52_method_15_code_4) (by decide) k) ?_
  show Goes _ _ _ _ _ _ _ _ (T.setTop (mkF m 6 #[.val (.ref b), .val (.int (3 : Int32))] [(.int (31 : Int32)), (.int (0 : Int32))]))
  refine Goes.via (fun _ k => XT.iushr X.here hx rfl (hb hby d_jdk_52_method_15_code_6) rfl k) ?_
  rw [show (XT.ushr (0 : Int32) (31 : Int32)) = (0 : Int32) from by decide]
  show Goes _ _ _ _ _ _ _ _ (T.setTop (mkF m 7 #[.val (.ref b), .val (.int (3 : Int32))] [(.int (0 : Int32))]))
  refine Goes.via (fun _ k => XT.i2b X.here hx rfl (hb hby d_jdk_52_method_15_code_7) rfl k) ?_
  rw [show (0 : Int32).toInt8.toInt32 = (0 : Int32) from by decide]
  show Goes _ _ _ _ _ _ _ _ (T.setTop (mkF m 8 #[.val (.ref b), .val (.int (3 : Int32))] [(.int (0 : Int32))]))
  refine goRetN X hx hrt (by simp) hlk N (by decide) (by decide) (hb hby d_jdk_52_method_15_code_8) ?_
  try rw [e0]
  exact ⟨rfl, rfl⟩
theorem ef_str4_3 (m : MethodId) (a : Nat) (q : Nat) : entryFrame m #[(.ref a), (.ref q), (.int (0 : Int32)), (.int (3 : Int32)), .null] 6 = mkF m 0 #[.val (.ref a), .val (.ref q), .val (.int (0 : Int32)), .val (.int (3 : Int32)), .val .null, .unset] [] := by first | (simp [entryFrame, mkF, argsToLocals, Value.category]; done) | rfl
set_option maxRecDepth 65536 in
set_option maxHeartbeats 40000000 in
theorem str4_3 (l : Launch) (Z : State) (aw : Array Value) (hw : ∀ d ∈ tables_1, d.before aw Z = true) (a : Nat) (q : Nat) (kq : ClassId) (cz : Int32) (c0 : Int32) (c1 : Int32) (c2 : Int32) {h0 : Heap} {n0 : Nat} (O : Old Z n0 h0) (CS : Sta Z Z.heap "java/lang/String" "COMPACT_STRINGS" "Z" (.int cz)) (E : Exa Z h0 a "java/lang/String") (Fv : Fld Z h0 a "java/lang/String" "value" "[B" .null) (Fc : Fld Z h0 a "java/lang/String" "coder" "B" (.int (0 : Int32))) (Vq : Arv Z h0 q kq .char (3 : Int32) [(.int c0), (.int c1), (.int c2)] (.int (0 : Int32))) (ga : n0 ≤ a) (hcz : ¬ cz = (0 : Int32)) (hc0 : ¬ (255 : Int32) < c0) (hc1 : ¬ (255 : Int32) < c1) (hc2 : ¬ (255 : Int32) < c2) :
    MET l Z (⟨"java/lang/String", "<init>", "([CIILjava/lang/Void;)V"⟩ : MethodName) jdk_42_method_149_code 6 none ({ frames := 2, cells := 1, slots := 3, locals := 36 } : Room) #[(.ref a), (.ref q), (.int (0 : Int32)), (.int (3 : Int32)), .null] h0 n0 (fun vv hh => ∃ b : Nat, ∃ kb : ClassId, vv = none ∧ Keep h0 hh [a] ∧ Exa Z hh a "java/lang/String" ∧ Fld Z hh a "java/lang/String" "value" "[B" (.ref b) ∧ Fld Z hh a "java/lang/String" "coder" "B" (.int (0 : Int32)) ∧ Arv Z hh b kb .byte (3 : Int32) [(.int (nar .byte c0.toInt8.toInt32)), (.int (nar .byte c1.toInt8.toInt32)), (.int (nar .byte c2.toInt8.toInt32))] (.int (0 : Int32)) ∧ h0.size ≤ b) := by
  refine metOf (plainFor_of_name pn_20) ?_
  intro p e s m below meth c T hx hby hml hrt hlk hnm hZ hown X e0
  replace hml : c.maxLocals = 6 := hml
  replace hnm : meth.name = "<init>" := hnm
  replace hown : s.vm.findClass "java/lang/String" = some m.cls := hown
  have N := Fr.nil n0
  have zO := O.le
  refine goCast (ef_str4_3 m a q) ?_
  have lt_a := lt_nat E.lt
  have lt_q := lt_nat Vq.lt
  show Goes _ _ _ _ _ _ _ _ (T.setTop (mkF m 0 #[.val (.ref a), .val (.ref q), .val (.int (0 : Int32)), .val (.int (3 : Int32)), .val .null, .unset] []))
  refine Goes.via (fun _ k => XS.aloadN X.here hx rfl (hb hby d_jdk_42_method_149_code_0) rfl rfl k) ?_
  show Goes _ _ _ _ _ _ _ _ (T.setTop (mkF m 1 #[.val (.ref a), .val (.ref q), .val (.int (0 : Int32)), .val (.int (3 : Int32)), .val .null, .unset] [(.ref a)]))
  obtain ⟨Tq1, Xq1, eq1, stq1⟩ := initO X hx hZ hown (W_11 hw) (W_12 hw) (W_13 hw) e0 (g := (mkF m 1 #[.val (.ref a), .val (.ref q), .val (.int (0 : Int32)), .val (.int (3 : Int32)), .val .null, .unset] [(.ref a)])) rfl (by rw [hml]; rfl) rfl (hb hby d_jdk_42_method_149_code_1) (by decide) (W := 0) (by show 2 * 0 + _ ≤ _; exact Nat.le_of_eq rfl) (by decide)
  refine Goes.via stq1 ?_
  show Goes _ _ _ _ _ _ _ _ (Tq1.setTop (mkF m 4 #[.val (.ref a), .val (.ref q), .val (.int (0 : Int32)), .val (.int (3 : Int32)), .val .null, .unset] []))
  refine Goes.via (fun _ k => XS.iloadN Xq1.here hx rfl (hb hby d_jdk_42_method_149_code_4) rfl k) ?_
  show Goes _ _ _ _ _ _ _ _ (Tq1.setTop (mkF m 5 #[.val (.ref a), .val (.ref q), .val (.int (0 : Int32)), .val (.int (3 : Int32)), .val .null, .unset] [(.int (3 : Int32))]))
  refine Goes.via (fun _ k => XS.ifYes Xq1.here hx rfl (pc0 := 5) (pc' := 27) rfl (hb hby d_jdk_42_method_149_code_5) rfl (XT.i0_ne_t (by decide)) (by decide) (by decide) k) ?_
  show Goes _ _ _ _ _ _ _ _ (Tq1.setTop (mkF m 27 #[.val (.ref a), .val (.ref q), .val (.int (0 : Int32)), .val (.int (3 : Int32)), .val .null, .unset] []))
  have fq3 : Sta Z h0 "java/lang/String" "COMPACT_STRINGS" "Z" (.int cz) := (CS.ext O.2)
  obtain ⟨Tq2, Xq2, eq2, stq2⟩ := getS2 Xq1 hx hZ hown (host := "") (Or.inl (W_183 hw)) Via.refl eq1 fq3 (g := (mkF m 27 #[.val (.ref a), .val (.ref q), .val (.int (0 : Int32)), .val (.int (3 : Int32)), .val .null, .unset] [])) rfl (hb hby d_jdk_42_method_149_code_27)
  refine Goes.via stq2 ?_
  show Goes _ _ _ _ _ _ _ _ (Tq2.setTop (mkF m 30 #[.val (.ref a), .val (.ref q), .val (.int (0 : Int32)), .val (.int (3 : Int32)), .val .null, .unset] [(.int cz)]))
  refine Goes.via (fun _ k => XS.ifNo Xq2.here hx rfl (hb hby d_jdk_42_method_149_code_30) rfl (XT.i0_eq_f hcz) k) ?_
  show Goes _ _ _ _ _ _ _ _ (Tq2.setTop (mkF m 33 #[.val (.ref a), .val (.ref q), .val (.int (0 : Int32)), .val (.int (3 : Int32)), .val .null, .unset] []))
  refine Goes.via (fun _ k => XS.aloadN Xq2.here hx rfl (hb hby d_jdk_42_method_149_code_33) rfl rfl k) ?_
  show Goes _ _ _ _ _ _ _ _ (Tq2.setTop (mkF m 34 #[.val (.ref a), .val (.ref q), .val (.int (0 : Int32)), .val (.int (3 : Int32)), .val .null, .unset] [(.ref q)]))
  refine Goes.via (fun _ k => XS.iloadN Xq2.here hx rfl (hb hby d_jdk_42_method_149_code_34) rfl k) ?_
  show Goes _ _ _ _ _ _ _ _ (Tq2.setTop (mkF m 35 #[.val (.ref a), .val (.ref q), .val (.int (0 : Int32)), .val (.int (3 : Int32)), .val .null, .unset] [(.int (0 : Int32)), (.ref q)]))
  refine Goes.via (fun _ k => XS.iloadN Xq2.here hx rfl (hb hby d_jdk_42_method_149_code_35) rfl k) ?_
  show Goes _ _ _ _ _ _ _ _ (Tq2.setTop (mkF m 36 #[.val (.ref a), .val (.ref q), .val (.int (0 : Int32)), .val (.int (3 : Int32)), .val .null, .unset] [(.int (3 : Int32)), (.int (0 : Int32)), (.ref q)]))
  obtain ⟨vq4, Tq4, Lq4, Xq4, qq4, nq4, stq4⟩ := callSt Xq2 hx hZ hown (comp3_3 l Z aw hw q kq c0 c1 c2 O Vq hc0 hc1 hc2) (W_184 hw) (W_185 hw) (W_186 hw) (W_187 hw) (by decide) eq2 (by decide) (W := 0) (by decide) (by decide) (by decide) (g := (mkF m 36 #[.val (.ref a), .val (.ref q), .val (.int (0 : Int32)), .val (.int (3 : Int32)), .val .null, .unset] [(.int (3 : Int32)), (.int (0 : Int32)), (.ref q)])) rfl (by rw [hml]; rfl) (argsL := [(.ref q), (.int (0 : Int32)), (.int (3 : Int32))]) (rest := []) rfl (lenOf pd_27 rfl) rfl (by show 2 * 0 + _ ≤ _; exact Nat.le_of_eq rfl) (hb hby d_jdk_42_method_149_code_36)
  obtain ⟨xr_q4, xkr_q4, rfl, pq4_0, pq4_1, pq4_2⟩ := qq4
  have Nq4 := Fr.app N nq4
  have zq4 := pq4_1.1
  have Oq4 := O.keep pq4_1 all0
  have ltpq4_2 := lt_nat pq4_2.lt
  refine Goes.via stq4 ?_
  show Goes _ _ _ _ _ _ _ _ (Tq4.setTop (mkF m 39 #[.val (.ref a), .val (.ref q), .val (.int (0 : Int32)), .val (.int (3 : Int32)), .val .null, .unset] [(.ref xr_q4)]))
  refine Goes.via (fun _ k => XS.astore Xq4.here hx rfl (hb hby d_jdk_42_method_149_code_39) rfl rfl (l' := #[.val (.ref a), .val (.ref q), .val (.int (0 : Int32)), .val (.int (3 : Int32)), .val .null, .val (.ref xr_q4)]) rfl k) ?_
  show Goes _ _ _ _ _ _ _ _ (Tq4.setTop (mkF m 41 #[.val (.ref a), .val (.ref q), .val (.int (0 : Int32)), .val (.int (3 : Int32)), .val .null, .val (.ref xr_q4)] []))
  refine Goes.via (fun _ k => XS.aloadN Xq4.here hx rfl (hb hby d_jdk_42_method_149_code_41) rfl rfl k) ?_
  show Goes _ _ _ _ _ _ _ _ (Tq4.setTop (mkF m 42 #[.val (.ref a), .val (.ref q), .val (.int (0 : Int32)), .val (.int (3 : Int32)), .val .null, .val (.ref xr_q4)] [(.ref a)]))
  refine Goes.via (fun _ k => XS.aload Xq4.here hx rfl (hb hby d_jdk_42_method_149_code_42) rfl rfl k) ?_
  show Goes _ _ _ _ _ _ _ _ (Tq4.setTop (mkF m 44 #[.val (.ref a), .val (.ref q), .val (.int (0 : Int32)), .val (.int (3 : Int32)), .val .null, .val (.ref xr_q4)] [(.ref xr_q4), (.ref a)]))
  refine Goes.via (fun _ k => XS.iloadN Xq4.here hx rfl (hb hby d_jdk_42_method_149_code_44) rfl k) ?_
  show Goes _ _ _ _ _ _ _ _ (Tq4.setTop (mkF m 45 #[.val (.ref a), .val (.ref q), .val (.int (0 : Int32)), .val (.int (3 : Int32)), .val .null, .val (.ref xr_q4)] [(.int (3 : Int32)), (.ref xr_q4), (.ref a)]))
  obtain ⟨vq5, Tq5, Lq5, Xq5, qq5, nq5, stq5⟩ := callSt Xq4 hx hZ hown (coder_3 l Z aw hw xr_q4 xkr_q4 ([(.int (nar .byte c0.toInt8.toInt32)), (.int (nar .byte c1.toInt8.toInt32)), (.int (nar .byte c2.toInt8.toInt32))]) Oq4 pq4_2) (W_191 hw) (W_192 hw) (W_186 hw) (W_193 hw) (by decide) rfl (by decide) (W := 1) (by decide) (by decide) (by decide) (g := (mkF m 45 #[.val (.ref a), .val (.ref q), .val (.int (0 : Int32)), .val (.int (3 : Int32)), .val .null, .val (.ref xr_q4)] [(.int (3 : Int32)), (.ref xr_q4), (.ref a)])) rfl (by rw [hml]; rfl) (argsL := [(.ref xr_q4), (.int (3 : Int32))]) (rest := [(.ref a)]) rfl (lenOf pd_28 rfl) rfl (by show 2 * 0 + _ ≤ _; exact Nat.le_of_eq rfl) (hb hby d_jdk_42_method_149_code_45)
  obtain ⟨rfl, pq5_0⟩ := qq5
  have Nq5 := Fr.app Nq4 nq5
  refine Goes.via stq5 ?_
  show Goes _ _ _ _ _ _ _ _ (Tq5.setTop (mkF m 48 #[.val (.ref a), .val (.ref q), .val (.int (0 : Int32)), .val (.int (3 : Int32)), .val .null, .val (.ref xr_q4)] [(.int (0 : Int32)), (.ref a)]))
  have fq7 : Fld Z Tq4.heap a "java/lang/String" "coder" "B" (.int (0 : Int32)) := (Fc.keep pq4_1 nin0)
  have fq8 : Exa Z Tq4.heap a "java/lang/String" := (E.keep pq4_1)
  obtain ⟨Tq6, hq6, Xq6, eq6, Wq6, stq6⟩ := putFN Xq5 hx hZ hown (W_21 hw) Via.refl pq5_0 fq7 fq8 (Or.inr ⟨(W_17 hw), rfl, hnm⟩) (W_2 hw) (ty := .byte) (v' := (.int (0 : Int32))) (by decide) (by rfl) (by decide) (g := (mkF m 48 #[.val (.ref a), .val (.ref q), .val (.int (0 : Int32)), .val (.int (3 : Int32)), .val .null, .val (.ref xr_q4)] [(.int (0 : Int32)), (.ref a)])) rfl rfl (hb hby d_jdk_42_method_149_code_48)
  have Nq6 := Fr.snoc Xq6 Nq5 (by omega)
  have zq6 := Wq6.size
  have Oq6 := Oq4.wr Wq6 (by omega)
  have Fq6 : Fld Z hq6 a "java/lang/String" "coder" "B" (.int (0 : Int32)) := fq7.same Wq6
  refine Goes.via stq6 ?_
  show Goes _ _ _ _ _ _ _ _ (Tq6.setTop (mkF m 51 #[.val (.ref a), .val (.ref q), .val (.int (0 : Int32)), .val (.int (3 : Int32)), .val .null, .val (.ref xr_q4)] []))
  refine Goes.via (fun _ k => XS.aloadN Xq6.here hx rfl (hb hby d_jdk_42_method_149_code_51) rfl rfl k) ?_
  show Goes _ _ _ _ _ _ _ _ (Tq6.setTop (mkF m 52 #[.val (.ref a), .val (.ref q), .val (.int (0 : Int32)), .val (.int (3 : Int32)), .val .null, .val (.ref xr_q4)] [(.ref a)]))
  refine Goes.via (fun _ k => XS.aload Xq6.here hx rfl (hb hby d_jdk_42_method_149_code_52) rfl rfl k) ?_
  show Goes _ _ _ _ _ _ _ _ (Tq6.setTop (mkF m 54 #[.val (.ref a), .val (.ref q), .val (.int (0 : Int32)), .val (.int (3 : Int32)), .val .null, .val (.ref xr_q4)] [(.ref xr_q4), (.ref a)]))
  have fq10 : Fld Z hq6 a "java/lang/String" "value" "[B" .null := ((Fv.keep pq4_1 nin0).other Wq6 (Or.inr (slot_ne (Or.inr (W_16 hw)) (Or.inr (W_17 hw)) (by decide) (t := (.array .byte)) (t' := .byte) (by decide) (by decide))))
  have fq11 : Exa Z hq6 a "java/lang/String" := (fq8.wr Wq6)
  obtain ⟨Tq9, hq9, Xq9, eq9, Wq9, stq9⟩ := putF Xq6 hx hZ hown (host := "") (Or.inl (W_20 hw)) Via.refl eq6 fq10 fq11 (Or.inr ⟨(W_16 hw), rfl, hnm⟩) (W_2 hw) (ty := (.array .byte)) (by decide) rfl rfl (g := (mkF m 54 #[.val (.ref a), .val (.ref q), .val (.int (0 : Int32)), .val (.int (3 : Int32)), .val .null, .val (.ref xr_q4)] [(.ref xr_q4), (.ref a)])) rfl rfl (hb hby d_jdk_42_method_149_code_54)
  have Nq9 := Fr.snoc Xq9 Nq6 (by omega)
  have zq9 := Wq9.size
  have Oq9 := Oq6.wr Wq9 (by omega)
  have Fq9 : Fld Z hq9 a "java/lang/String" "value" "[B" (.ref xr_q4) := fq10.same Wq9
  refine Goes.via stq9 ?_
  show Goes _ _ _ _ _ _ _ _ (Tq9.setTop (mkF m 57 #[.val (.ref a), .val (.ref q), .val (.int (0 : Int32)), .val (.int (3 : Int32)), .val .null, .val (.ref xr_q4)] []))
  refine goRetV Xq9 hx hrt hlk Nq9 (by decide) (by decide) (hb hby d_jdk_42_method_149_code_57) ?_
  try rw [eq9]
  have fq12 : Exa Z hq9 a "java/lang/String" := (fq11.wr Wq9)
  have fq13 : Fld Z hq9 a "java/lang/String" "coder" "B" (.int (0 : Int32)) := (Fq6.other Wq9 (Or.inr (slot_ne (Or.inr (W_17 hw)) (Or.inr (W_16 hw)) (by decide) (t := .byte) (t' := (.array .byte)) (by decide) (by decide))))
  have fq14 : Arv Z hq9 xr_q4 xkr_q4 .byte (3 : Int32) [(.int (nar .byte c0.toInt8.toInt32)), (.int (nar .byte c1.toInt8.toInt32)), (.int (nar .byte c2.toInt8.toInt32))] (.int (0 : Int32)) := ((pq4_2.other Wq6 (ne_ok (by omega))).other Wq9 (ne_ok (by omega)))
  exact ⟨xr_q4, _, rfl, ((((Keep.refl _ [a]).trans pq4_1 all0).wr Wq6 (Or.inl (by simp))).wr Wq9 (Or.inl (by simp))), fq12, Fq9, fq13, fq14, by omega⟩
theorem ef_str_3 (m : MethodId) (a : Nat) (q : Nat) : entryFrame m #[(.ref a), (.ref q)] 2 = mkF m 0 #[.val (.ref a), .val (.ref q)] [] := by first | (simp [entryFrame, mkF, argsToLocals, Value.category]; done) | rfl
set_option maxRecDepth 65536 in
set_option maxHeartbeats 40000000 in
theorem str_3 (l : Launch) (Z : State) (aw : Array Value) (hw : ∀ d ∈ tables_1, d.before aw Z = true) (a : Nat) (q : Nat) (kq : ClassId) (cz : Int32) (c0 : Int32) (c1 : Int32) (c2 : Int32) {h0 : Heap} {n0 : Nat} (O : Old Z n0 h0) (CS : Sta Z Z.heap "java/lang/String" "COMPACT_STRINGS" "Z" (.int cz)) (E : Exa Z h0 a "java/lang/String") (Fv : Fld Z h0 a "java/lang/String" "value" "[B" .null) (Fc : Fld Z h0 a "java/lang/String" "coder" "B" (.int (0 : Int32))) (Vq : Arv Z h0 q kq .char (3 : Int32) [(.int c0), (.int c1), (.int c2)] (.int (0 : Int32))) (ga : n0 ≤ a) (hcz : ¬ cz = (0 : Int32)) (hc0 : ¬ (255 : Int32) < c0) (hc1 : ¬ (255 : Int32) < c1) (hc2 : ¬ (255 : Int32) < c2) :
    MET l Z (⟨"java/lang/String", "<init>", "([C)V"⟩ : MethodName) jdk_42_method_3_code 2 none ({ frames := 3, cells := 1, slots := 3, locals := 60 } : Room) #[(.ref a), (.ref q)] h0 n0 (fun vv hh => ∃ b : Nat, ∃ kb : ClassId, vv = none ∧ Keep h0 hh [a] ∧ Exa Z hh a "java/lang/String" ∧ Fld Z hh a "java/lang/String" "value" "[B" (.ref b) ∧ Fld Z hh a "java/lang/String" "coder" "B" (.int (0 : Int32)) ∧ Arv Z hh b kb .byte (3 : Int32) [(.int (nar .byte c0.toInt8.toInt32)), (.int (nar .byte c1.toInt8.toInt32)), (.int (nar .byte c2.toInt8.toInt32))] (.int (0 : Int32)) ∧ h0.size ≤ b) := by
  refine metOf (plainFor_of_name pn_20) ?_
  intro p e s m below meth c T hx hby hml hrt hlk hnm hZ hown X e0
  replace hml : c.maxLocals = 2 := hml
  replace hnm : meth.name = "<init>" := hnm
  replace hown : s.vm.findClass "java/lang/String" = some m.cls := hown
  have N := Fr.nil n0
  have zO := O.le
  refine goCast (ef_str_3 m a q) ?_
  have lt_a := lt_nat E.lt
  have lt_q := lt_nat Vq.lt
  show Goes _ _ _ _ _ _ _ _ (T.setTop (mkF m 0 #[.val (.ref a), .val (.ref q)] []))
  refine Goes.via (fun _ k => XS.aloadN X.here hx rfl (hb hby d_jdk_42_method_3_code_0) rfl rfl k) ?_
  show Goes _ _ _ _ _ _ _ _ (T.setTop (mkF m 1 #[.val (.ref a), .val (.ref q)] [(.ref a)]))
  refine Goes.via (fun _ k => XS.aloadN X.here hx rfl (hb hby d_jdk_42_method_3_code_1) rfl rfl k) ?_
  show Goes _ _ _ _ _ _ _ _ (T.setTop (mkF m 2 #[.val (.ref a), .val (.ref q)] [(.ref q), (.ref a)]))
  refine Goes.via (fun _ k => XT.iconstV X.here hx rfl (0 : Int32) (hb hby d_jdk_42_method_3_code_2) (by decide) k) ?_
  show Goes _ _ _ _ _ _ _ _ (T.setTop (mkF m 3 #[.val (.ref a), .val (.ref q)] [(.int (0 : Int32)), (.ref q), (.ref a)]))
  refine Goes.via (fun _ k => XS.aloadN X.here hx rfl (hb hby d_jdk_42_method_3_code_3) rfl rfl k) ?_
  show Goes _ _ _ _ _ _ _ _ (T.setTop (mkF m 4 #[.val (.ref a), .val (.ref q)] [(.ref q), (.int (0 : Int32)), (.ref q), (.ref a)]))
  obtain ⟨clq1, Arq1, -, Sq1, Nnq1, -, -⟩ := id Vq
  refine Goes.via (X.arraylength hx (by rw [e0]; exact Arq1.1) (State.isArrayOf_alike hZ.alike Arq1.2.1) (g := (mkF m 4 #[.val (.ref a), .val (.ref q)] [(.ref q), (.int (0 : Int32)), (.ref q), (.ref a)])) rfl rfl (hb hby d_jdk_42_method_3_code_4)) ?_
  rw [len_of Sq1 Nnq1]
  show Goes _ _ _ _ _ _ _ _ (T.setTop (mkF m 5 #[.val (.ref a), .val (.ref q)] [(.int (3 : Int32)), (.int (0 : Int32)), (.ref q), (.ref a)]))
  refine Goes.via (fun _ k => XS.aconstNull X.here hx rfl (hb hby d_jdk_42_method_3_code_5) k) ?_
  show Goes _ _ _ _ _ _ _ _ (T.setTop (mkF m 6 #[.val (.ref a), .val (.ref q)] [.null, (.int (3 : Int32)), (.int (0 : Int32)), (.ref q), (.ref a)]))
  obtain ⟨vq2, Tq2, Lq2, Xq2, qq2, nq2, stq2⟩ := callSp X hx hZ hown (str4_3 l Z aw hw a q kq cz c0 c1 c2 O CS E Fv Fc Vq (by omega) (by assumption) hc0 hc1 hc2) rfl (W_7 hw) (W_8 hw) (W_3 hw) (W_10 hw) (by decide) e0 (by decide) (W := 0) (by decide) (by decide) (by decide) (g := (mkF m 6 #[.val (.ref a), .val (.ref q)] [.null, (.int (3 : Int32)), (.int (0 : Int32)), (.ref q), (.ref a)])) rfl (by rw [hml]; rfl) (a := a) (argsL := [(.ref q), (.int (0 : Int32)), (.int (3 : Int32)), .null]) (rest := []) rfl (lenOf pd_24 rfl) rfl (by show 2 * 0 + _ ≤ _; exact Nat.le_of_eq rfl) (hb hby d_jdk_42_method_3_code_6)
  obtain ⟨xb_q2, xkb_q2, rfl, pq2_0, pq2_1, pq2_2, pq2_3, pq2_4, pq2_5⟩ := qq2
  have Nq2 := Fr.app N nq2
  have zq2 := pq2_0.1
  have Oq2 := O.keep pq2_0 (allS (by omega) all0)
  have ltpq2_1 := lt_nat pq2_1.lt
  have ltpq2_4 := lt_nat pq2_4.lt
  refine Goes.via stq2 ?_
  show Goes _ _ _ _ _ _ _ _ (Tq2.setTop (mkF m 9 #[.val (.ref a), .val (.ref q)] []))
  refine goRetV Xq2 hx hrt hlk Nq2 (by decide) (by decide) (hb hby d_jdk_42_method_3_code_9) ?_
  exact ⟨xb_q2, _, rfl, ((Keep.refl _ [a]).trans pq2_0 (allS (Or.inl (by simp)) all0)), pq2_1, pq2_2, pq2_3, pq2_4, by omega⟩
theorem m255 (x : Int32) : 0 ≤ (x &&& (255 : Int32)).toInt ∧ (x &&& (255 : Int32)).toInt ≤ 255 := by
  have h := c_mask x 255 8 (by decide) (by decide)
  rw [h]; omega
theorem i2c_id {y : Int32} (h0 : 0 ≤ y.toInt) (h1 : y.toInt ≤ 255) : y.toUInt32.toUInt16.toUInt32.toInt32 = y := by
  have h := c_i2c y
  apply Int32.toInt_inj.mp; omega
theorem ch2 (x : Int32) : nar .char (x &&& (255 : Int32)) = x &&& (255 : Int32) := i2c_id (m255 x).1 (m255 x).2
theorem ch1 (x : Int32) : nar .char (x &&& (255 : Int32)).toUInt32.toUInt16.toUInt32.toInt32 = x &&& (255 : Int32) := by rw [i2c_id (m255 x).1 (m255 x).2]; exact ch2 x
theorem le255 (x : Int32) : ¬ (255 : Int32) < x &&& (255 : Int32) := by
  have h := m255 x
  have e : (255 : Int32).toInt = 255 := by decide
  rw [Int32.lt_iff_toInt_lt]; omega
set_option maxRecDepth 65536 in
set_option maxHeartbeats 40000000 in
theorem law_c1 (l : Launch) (Z : State) (aw : Array Value) (hw : ∀ d ∈ tables_1, d.before aw Z = true) (n : Int32) (x1 : Int32) (x2 : Int32) (x3 : Int32) (ca : Nat) (ln : Int32) (sr : Nat) (em : Nat) (el : Nat) (wl : Nat) (kl : ClassId) (vl : List Value) (de : Nat) (xr_q1 : Nat) (xf_q1 : Nat) {p : Program} {e : Env} {s : State} {m : MethodId} {args : Array Value} {below : List Frame} {meth : Method} {c : Code} {T : State} {locs : List Loc} {cells slots n0 : Nat} {h0 h1 : Heap} (hx : p.tables.exec = Jvm.exec) (hby : c.code = code) (hml : c.maxLocals = 10) (hrt : meth.sig.returnType = some .boolean) (hlk : meth.locks = false) (hnm : meth.name = "law") {vm0 vmE : Vm} {k0 : Nat} (hZ : Z.Warmed39 vm0) (hown : vm0.findClass "com/example/zonetally/zonetally/DayFaultsWholePinLaw" = some m.cls) (X : Stand p l e room_1 (s.setVm vm0) m args below meth c T locs cells slots) (e0 : T.heap = h1) (N : Fr n0 locs) (hcells : cells ≤ 12) (hslots : slots ≤ 50) (O : Old Z n0 h1) (hS : s.Since vm0 k0) (hk0 : k0 ≤ h1.size) (C0 : CHr Z EL vmE h0 vm0 h1) (SE : Sta Z Z.heap "java/util/ImmutableCollections" "EMPTY" "Ljava/lang/Object;" (.ref em)) (SL : Sta Z Z.heap "java/util/ImmutableCollections" "EMPTY_LIST" "Ljava/util/ImmutableCollections$ListN;" (.ref el)) (EN : Exa Z Z.heap el "java/util/ImmutableCollections$ListN") (FN : Fld Z Z.heap el "java/util/ImmutableCollections$ListN" "elements" "[Ljava/lang/Object;" (.ref wl)) (VN : Arv Z Z.heap wl kl (.object "java/lang/Object") (0 : Int32) vl .null) (SD : Sta Z Z.heap "java/util/ArrayList" "DEFAULTCAPACITY_EMPTY_ELEMENTDATA" "[Ljava/lang/Object;" (.ref de)) (pf0 : Exa Z h1 xr_q1 "com/example/zonetally/zonetally/DayFaults") (pf1 : Fld Z h1 xr_q1 "com/example/zonetally/zonetally/DayFaults" "file" "Lcom/example/zonetally/zonetally/DailyFile;" .null) (pf2 : Fld Z h1 xr_q1 "com/example/zonetally/zonetally/DayFaults" "hours" "Ljava/util/List;" (.ref el)) (pf3 : Fld Z h1 xr_q1 "com/example/zonetally/zonetally/DayFaults" "found" "Ljava/util/List;" (.ref xf_q1)) (pf4 : Fld Z h1 xr_q1 "com/example/zonetally/zonetally/DayFaults" "unlisted" "Ljava/util/List;" (.ref el)) (pf5 : Fld Z h1 xr_q1 "com/example/zonetally/zonetally/DayFaults" "lacking" "J" (.long (0 : Int64))) (pf6 : Exa Z h1 xf_q1 "java/util/ImmutableCollections$List12") (pf7 : Fld Z h1 xf_q1 "java/util/ImmutableCollections$List12" "e0" "Ljava/lang/Object;" (.ref sr)) (pf8 : Fld Z h1 xf_q1 "java/util/ImmutableCollections$List12" "e1" "Ljava/lang/Object;" (.ref em)) :
    GoesW p e below s room_1.cells room_1.slots n0 (fun v vm h => (fun vv hh => vv = some (.int (1 : Int32))) v h ∧ CHr Z EL vmE h0 vm h) (T.setTop (mkF m 249 #[.val (.int n), .val (.int x1), .val (.int x2), .val (.int x3), .val (.ref ca), .val (.int ln), .val (.ref sr), .val (.ref xr_q1), .val (.ref xf_q1), .val (.ref xf_q1)] [(.ref sr), (.ref sr)])) := by
  have zO := O.le
  have lt_xr_q1 := lt_nat pf0.lt
  have lt_xf_q1 := lt_nat pf6.lt
  show GoesW _ _ _ _ _ _ _ _ (T.setTop (mkF m 249 #[.val (.int n), .val (.int x1), .val (.int x2), .val (.int x3), .val (.ref ca), .val (.int ln), .val (.ref sr), .val (.ref xr_q1), .val (.ref xf_q1), .val (.ref xf_q1)] [(.ref sr), (.ref sr)]))
  refine GoesW.via (fun _ k => XT.acmpNo X.here hx rfl (hb hby at_249) rfl rfl rfl (XT.aa_ne_f rfl) k) ?_
  show GoesW _ _ _ _ _ _ _ _ (T.setTop (mkF m 252 #[.val (.int n), .val (.int x1), .val (.int x2), .val (.int x3), .val (.ref ca), .val (.int ln), .val (.ref sr), .val (.ref xr_q1), .val (.ref xf_q1), .val (.ref xf_q1)] []))
  refine GoesW.via (fun _ k => XT.iconstV X.here hx rfl (1 : Int32) (hb hby at_252) (by decide) k) ?_
  show GoesW _ _ _ _ _ _ _ _ (T.setTop (mkF m 253 #[.val (.int n), .val (.int x1), .val (.int x2), .val (.int x3), .val (.ref ca), .val (.int ln), .val (.ref sr), .val (.ref xr_q1), .val (.ref xf_q1), .val (.ref xf_q1)] [(.int (1 : Int32))]))
  refine GoesW.via (fun _ k => XS.goto X.here hx rfl (pc0 := 253) (pc' := 257) rfl (hb hby at_253) (by decide) (by decide) k) ?_
  show GoesW _ _ _ _ _ _ _ _ (T.setTop (mkF m 257 #[.val (.int n), .val (.int x1), .val (.int x2), .val (.int x3), .val (.ref ca), .val (.int ln), .val (.ref sr), .val (.ref xr_q1), .val (.ref xf_q1), .val (.ref xf_q1)] [(.int (1 : Int32))]))
  refine goRetNW X hx hrt (by simp) hlk N hS (by rw [e0]; omega) (by show _ ≤ 32; omega) (by show _ ≤ 1152; omega) (hb hby at_257) ?_
  intro hWm
  try rw [e0]
  refine ⟨?_, C0.trans (CHv.at X hZ (ew hw) C0.1)⟩
  exact rfl
set_option maxRecDepth 65536 in
set_option maxHeartbeats 40000000 in
theorem seg121 (l : Launch) (Z : State) (aw : Array Value) (hw : ∀ d ∈ tables_1, d.before aw Z = true) (n : Int32) (x1 : Int32) (x2 : Int32) (x3 : Int32) (ca : Nat) (ln : Int32) (sr : Nat) (em : Nat) (el : Nat) (wl : Nat) (kl : ClassId) (vl : List Value) (de : Nat) {p : Program} {e : Env} {s : State} {m : MethodId} {args : Array Value} {below : List Frame} {meth : Method} {c : Code} {T : State} {locs : List Loc} {cells slots n0 : Nat} {h0 h1 : Heap} (hx : p.tables.exec = Jvm.exec) (hby : c.code = code) (hml : c.maxLocals = 10) (hrt : meth.sig.returnType = some .boolean) (hlk : meth.locks = false) (hnm : meth.name = "law") {vm0 vmE : Vm} {k0 : Nat} (hZ : Z.Warmed39 vm0) (hown : vm0.findClass "com/example/zonetally/zonetally/DayFaultsWholePinLaw" = some m.cls) (X : Stand p l e room_1 (s.setVm vm0) m args below meth c T locs cells slots) (e0 : T.heap = h1) (N : Fr n0 locs) (hcells : cells ≤ 8) (hslots : slots ≤ 40) (O : Old Z n0 h1) (hS : s.Since vm0 k0) (hk0 : k0 ≤ h1.size) (C0 : CHr Z EL vmE h0 vm0 h1) (SE : Sta Z Z.heap "java/util/ImmutableCollections" "EMPTY" "Ljava/lang/Object;" (.ref em)) (SL : Sta Z Z.heap "java/util/ImmutableCollections" "EMPTY_LIST" "Ljava/util/ImmutableCollections$ListN;" (.ref el)) (EN : Exa Z Z.heap el "java/util/ImmutableCollections$ListN") (FN : Fld Z Z.heap el "java/util/ImmutableCollections$ListN" "elements" "[Ljava/lang/Object;" (.ref wl)) (VN : Arv Z Z.heap wl kl (.object "java/lang/Object") (0 : Int32) vl .null) (SD : Sta Z Z.heap "java/util/ArrayList" "DEFAULTCAPACITY_EMPTY_ELEMENTDATA" "[Ljava/lang/Object;" (.ref de)) :
    GoesW p e below s room_1.cells room_1.slots n0 (fun v vm h => (fun vv hh => vv = some (.int (1 : Int32))) v h ∧ CHr Z EL vmE h0 vm h) (T.setTop (mkF m 121 #[.val (.int n), .val (.int x1), .val (.int x2), .val (.int x3), .val (.ref ca), .val (.int ln), .val (.ref sr), .unset, .unset, .unset] [])) := by
  have zO := O.le
  show GoesW _ _ _ _ _ _ _ _ (T.setTop (mkF m 121 #[.val (.int n), .val (.int x1), .val (.int x2), .val (.int x3), .val (.ref ca), .val (.int ln), .val (.ref sr), .unset, .unset, .unset] []))
  refine GoesW.via (fun _ k => XS.aload X.here hx rfl (hb hby at_121) rfl rfl k) ?_
  show GoesW _ _ _ _ _ _ _ _ (T.setTop (mkF m 123 #[.val (.int n), .val (.int x1), .val (.int x2), .val (.int x3), .val (.ref ca), .val (.int ln), .val (.ref sr), .unset, .unset, .unset] [(.ref sr)]))
  obtain ⟨vq1, Tq1, Lq1, Xq1, qq1, nq1, stq1⟩ := callSt X hx hZ hown (wholeS l Z aw hw sr em el O SE SL) (W_22 hw) (W_23 hw) (W_24 hw) (W_25 hw) (by decide) e0 (by decide) (W := 0) (by decide) (by show _ + 2 ≤ 32; omega) (by show _ + 7 ≤ 1152; omega) (g := (mkF m 123 #[.val (.int n), .val (.int x1), .val (.int x2), .val (.int x3), .val (.ref ca), .val (.int ln), .val (.ref sr), .unset, .unset, .unset] [(.ref sr)])) rfl (by rw [hml]; rfl) (argsL := [(.ref sr)]) (rest := []) rfl (lenOf pd_29 rfl) rfl (by show 2 * 0 + _ ≤ _; exact Nat.le_of_eq rfl) (hb hby at_123)
  dsimp only at Xq1
  obtain ⟨xr_q1, xf_q1, rfl, pq1_0, pq1_1, pq1_2, pq1_3, pq1_4, pq1_5, pq1_6, pq1_7, pq1_8, pq1_9⟩ := qq1
  have Nq1 := Fr.app N nq1
  have zq1 := pq1_0.1
  have Oq1 := O.keep pq1_0 all0
  have Cq1 := C0.trans (CHr.keep pq1_0 all0 C0.1)
  have ltpq1_1 := lt_nat pq1_1.lt
  have ltpq1_7 := lt_nat pq1_7.lt
  refine GoesW.via stq1 ?_
  show GoesW _ _ _ _ _ _ _ _ (Tq1.setTop (mkF m 126 #[.val (.int n), .val (.int x1), .val (.int x2), .val (.int x3), .val (.ref ca), .val (.int ln), .val (.ref sr), .unset, .unset, .unset] [(.ref xr_q1)]))
  refine GoesW.via (fun _ k => XS.astore Xq1.here hx rfl (hb hby at_126) rfl rfl (l' := #[.val (.int n), .val (.int x1), .val (.int x2), .val (.int x3), .val (.ref ca), .val (.int ln), .val (.ref sr), .val (.ref xr_q1), .unset, .unset]) rfl k) ?_
  show GoesW _ _ _ _ _ _ _ _ (Tq1.setTop (mkF m 128 #[.val (.int n), .val (.int x1), .val (.int x2), .val (.int x3), .val (.ref ca), .val (.int ln), .val (.ref sr), .val (.ref xr_q1), .unset, .unset] []))
  refine GoesW.via (fun _ k => XS.aload Xq1.here hx rfl (hb hby at_128) rfl rfl k) ?_
  show GoesW _ _ _ _ _ _ _ _ (Tq1.setTop (mkF m 130 #[.val (.int n), .val (.int x1), .val (.int x2), .val (.int x3), .val (.ref ca), .val (.int ln), .val (.ref sr), .val (.ref xr_q1), .unset, .unset] [(.ref xr_q1)]))
  obtain ⟨vq2, Tq2, Lq2, Xq2, qq2, nq2, stq2⟩ := callVi Xq1 hx hZ hown (get_found l Z aw hw xr_q1 xf_q1 Oq1 pq1_4) (W_94 hw) (W_95 hw) (notFace_of_selects (args := #[]) (mvT hZ (W_97 hw))) (W_97 hw) (W_96 hw) (W_24 hw) (W_98 hw) (by decide) rfl pq1_1 (by decide) (W := 0) (by decide) (by show _ + 0 ≤ 32; omega) (by show _ + 0 ≤ 1152; omega) (g := (mkF m 130 #[.val (.int n), .val (.int x1), .val (.int x2), .val (.int x3), .val (.ref ca), .val (.int ln), .val (.ref sr), .val (.ref xr_q1), .unset, .unset] [(.ref xr_q1)])) rfl (by rw [hml]; rfl) (a := xr_q1) (argsL := []) (rest := []) rfl (lenOf pd_11 rfl) rfl (by show 2 * 0 + _ ≤ _; exact Nat.le_of_eq rfl) (hb hby at_130)
  dsimp only at Xq2
  obtain ⟨rfl, pq2_0⟩ := qq2
  have Nq2 := Fr.app Nq1 nq2
  refine GoesW.via stq2 ?_
  show GoesW _ _ _ _ _ _ _ _ (Tq2.setTop (mkF m 133 #[.val (.int n), .val (.int x1), .val (.int x2), .val (.int x3), .val (.ref ca), .val (.int ln), .val (.ref sr), .val (.ref xr_q1), .unset, .unset] [(.ref xf_q1)]))
  refine GoesW.via (fun _ k => XS.astore Xq2.here hx rfl (hb hby at_133) rfl rfl (l' := #[.val (.int n), .val (.int x1), .val (.int x2), .val (.int x3), .val (.ref ca), .val (.int ln), .val (.ref sr), .val (.ref xr_q1), .val (.ref xf_q1), .unset]) rfl k) ?_
  show GoesW _ _ _ _ _ _ _ _ (Tq2.setTop (mkF m 135 #[.val (.int n), .val (.int x1), .val (.int x2), .val (.int x3), .val (.ref ca), .val (.int ln), .val (.ref sr), .val (.ref xr_q1), .val (.ref xf_q1), .unset] []))
  refine GoesW.via (fun _ k => XS.aload Xq2.here hx rfl (hb hby at_135) rfl rfl k) ?_
  show GoesW _ _ _ _ _ _ _ _ (Tq2.setTop (mkF m 137 #[.val (.int n), .val (.int x1), .val (.int x2), .val (.int x3), .val (.ref ca), .val (.int ln), .val (.ref sr), .val (.ref xr_q1), .val (.ref xf_q1), .unset] [(.ref xr_q1)]))
  obtain ⟨Tq3, hq3, Xq3, eq3, Eq3, Aq3, Dq3, -, stq3⟩ := newO Xq2 hx hZ hown (W_99 hw) (W_100 hw) (W_101 hw) pq2_0 (g := (mkF m 137 #[.val (.int n), .val (.int x1), .val (.int x2), .val (.int x3), .val (.ref ca), .val (.int ln), .val (.ref sr), .val (.ref xr_q1), .val (.ref xf_q1), .unset] [(.ref xr_q1)])) rfl (hb hby at_137) (by show _ + 1 ≤ 32; omega) (by show _ + 3 ≤ 1152; omega)
  obtain ⟨bq3, gq3⟩ : ∃ z, z = Tq1.heap.size := ⟨_, rfl⟩
  rw [← gq3] at Aq3 Dq3 stq3
  have zq3 := Eq3.1
  have Oq3 := Oq1.ext Eq3
  have Cq3 := Cq1.trans (CHr.ext Eq3 Cq1.1)
  have lq3 := lt_nat Aq3.lt
  refine GoesW.via stq3 ?_
  show GoesW _ _ _ _ _ _ _ _ (Tq3.setTop (mkF m 140 #[.val (.int n), .val (.int x1), .val (.int x2), .val (.int x3), .val (.ref ca), .val (.int ln), .val (.ref sr), .val (.ref xr_q1), .val (.ref xf_q1), .unset] [(.ref bq3), (.ref xr_q1)]))
  refine GoesW.via (fun _ k => XS.dup Xq3.here hx rfl (hb hby at_140) rfl rfl k) ?_
  show GoesW _ _ _ _ _ _ _ _ (Tq3.setTop (mkF m 141 #[.val (.int n), .val (.int x1), .val (.int x2), .val (.int x3), .val (.ref ca), .val (.int ln), .val (.ref sr), .val (.ref xr_q1), .val (.ref xf_q1), .unset] [(.ref bq3), (.ref bq3), (.ref xr_q1)]))
  obtain ⟨vq4, Tq4, Lq4, Xq4, qq4, nq4, stq4⟩ := callSp Xq3 hx hZ hown (arrList l Z aw hw bq3 de Oq3 SD Aq3 (Dq3 (Or.inl (W_114 hw)) (ty := .int) (by decide)) (Dq3 (Or.inl (W_117 hw)) (ty := (.array (.object "java/lang/Object"))) (by decide)) (by omega)) rfl (W_102 hw) (W_103 hw) (W_101 hw) (W_104 hw) (by decide) eq3 (by decide) (W := 2) (by decide) (by show _ + 0 ≤ 32; omega) (by show _ + 0 ≤ 1152; omega) (g := (mkF m 141 #[.val (.int n), .val (.int x1), .val (.int x2), .val (.int x3), .val (.ref ca), .val (.int ln), .val (.ref sr), .val (.ref xr_q1), .val (.ref xf_q1), .unset] [(.ref bq3), (.ref bq3), (.ref xr_q1)])) rfl (by rw [hml]; rfl) (a := bq3) (argsL := []) (rest := [(.ref bq3), (.ref xr_q1)]) rfl (lenOf pd_2 rfl) rfl (by show 2 * 0 + _ ≤ _; exact Nat.le_of_eq rfl) (hb hby at_141)
  dsimp only at Xq4
  obtain ⟨rfl, pq4_0⟩ := qq4
  have Nq4 := Fr.app Nq2 nq4
  have zq4 := pq4_0.1
  have Oq4 := Oq3.keep pq4_0 (allS (by omega) all0)
  have Cq4 := Cq3.trans (CHr.keep pq4_0 (allS (Safe.exa hZ.alike Aq3 (by decide) (by decide)) all0) Cq3.1)
  refine GoesW.via stq4 ?_
  show GoesW _ _ _ _ _ _ _ _ (Tq4.setTop (mkF m 144 #[.val (.int n), .val (.int x1), .val (.int x2), .val (.int x3), .val (.ref ca), .val (.int ln), .val (.ref sr), .val (.ref xr_q1), .val (.ref xf_q1), .unset] [(.ref bq3), (.ref xr_q1)]))
  refine GoesW.via (fun _ k => XT.iconstV Xq4.here hx rfl (0 : Int32) (hb hby at_144) (by decide) k) ?_
  show GoesW _ _ _ _ _ _ _ _ (Tq4.setTop (mkF m 145 #[.val (.int n), .val (.int x1), .val (.int x2), .val (.int x3), .val (.ref ca), .val (.int ln), .val (.ref sr), .val (.ref xr_q1), .val (.ref xf_q1), .unset] [(.int (0 : Int32)), (.ref bq3), (.ref xr_q1)]))
  obtain ⟨Tq5, hq5, kq5, Xq5, eq5, Eq5, Aq5, stq5⟩ := newP (aty := .boolean) Xq4 hx hZ (W_118 hw) rfl (g := (mkF m 145 #[.val (.int n), .val (.int x1), .val (.int x2), .val (.int x3), .val (.ref ca), .val (.int ln), .val (.ref sr), .val (.ref xr_q1), .val (.ref xf_q1), .unset] [(.int (0 : Int32)), (.ref bq3), (.ref xr_q1)])) rfl (hb hby at_145) rfl (by decide) (cap := 0) (by decide) (by decide) (by show _ + 1 ≤ 32; omega) (by show _ + 0 ≤ 1152; omega)
  obtain ⟨bq5, gq5⟩ : ∃ z, z = Tq4.heap.size := ⟨_, rfl⟩
  rw [← gq5] at Aq5 stq5
  have zq5 := Eq5.1
  have Oq5 := Oq4.ext Eq5
  have Cq5 := Cq4.trans (CHr.ext Eq5 Cq4.1)
  have Vq5 : Arv Z hq5 bq5 kq5 .boolean (0 : Int32) [] (.int (0 : Int32)) := (Arv.new Aq5 (by decide)).pad (pad_rep [] (.int (0 : Int32)) 0)
  have lq5 := lt_nat Vq5.lt
  refine GoesW.via stq5 ?_
  show GoesW _ _ _ _ _ _ _ _ (Tq5.setTop (mkF m 147 #[.val (.int n), .val (.int x1), .val (.int x2), .val (.int x3), .val (.ref ca), .val (.int ln), .val (.ref sr), .val (.ref xr_q1), .val (.ref xf_q1), .unset] [(.ref bq5), (.ref bq3), (.ref xr_q1)]))
  have fq6 : Fld Z hq5 xr_q1 "com/example/zonetally/zonetally/DayFaults" "lacking" "J" (.long (0 : Int64)) := (((pq1_6.ext Eq3).keep pq4_0 (ninS (ne_ok (by omega)) nin0)).ext Eq5)
  have fq7 : Fld Z hq5 xr_q1 "com/example/zonetally/zonetally/DayFaults" "found" "Ljava/util/List;" (.ref xf_q1) := (((pq1_4.ext Eq3).keep pq4_0 (ninS (ne_ok (by omega)) nin0)).ext Eq5)
  have fq9 : Exa Z hq5 xr_q1 "com/example/zonetally/zonetally/DayFaults" := (((pq1_1.ext Eq3).keep pq4_0).ext Eq5)
  obtain ⟨vq8, Tq8, Lq8, Xq8, qq8, nq8, stq8⟩ := callVi Xq5 hx hZ hown (named l Z aw hw xr_q1 bq3 bq5 xf_q1 Oq5 fq6 fq7) (W_119 hw) (W_120 hw) (notFace_of_selects (args := #[]) (mvT hZ (W_122 hw))) (W_122 hw) (W_121 hw) (W_24 hw) (W_123 hw) (by decide) eq5 fq9 (by decide) (W := 0) (by decide) (by show _ + 0 ≤ 32; omega) (by show _ + 0 ≤ 1152; omega) (g := (mkF m 147 #[.val (.int n), .val (.int x1), .val (.int x2), .val (.int x3), .val (.ref ca), .val (.int ln), .val (.ref sr), .val (.ref xr_q1), .val (.ref xf_q1), .unset] [(.ref bq5), (.ref bq3), (.ref xr_q1)])) rfl (by rw [hml]; rfl) (a := xr_q1) (argsL := [(.ref bq3), (.ref bq5)]) (rest := []) rfl (lenOf pd_30 rfl) rfl (by show 2 * 0 + _ ≤ _; exact Nat.le_of_eq rfl) (hb hby at_147)
  dsimp only at Xq8
  obtain ⟨rfl, pq8_0⟩ := qq8
  have Nq8 := Fr.app Nq4 nq8
  refine GoesW.via stq8 ?_
  show GoesW _ _ _ _ _ _ _ _ (Tq8.setTop (mkF m 150 #[.val (.int n), .val (.int x1), .val (.int x2), .val (.int x3), .val (.ref ca), .val (.int ln), .val (.ref sr), .val (.ref xr_q1), .val (.ref xf_q1), .unset] [(.ref xf_q1)]))
  refine GoesW.via (fun _ k => XS.astore Xq8.here hx rfl (hb hby at_150) rfl rfl (l' := #[.val (.int n), .val (.int x1), .val (.int x2), .val (.int x3), .val (.ref ca), .val (.int ln), .val (.ref sr), .val (.ref xr_q1), .val (.ref xf_q1), .val (.ref xf_q1)]) rfl k) ?_
  show GoesW _ _ _ _ _ _ _ _ (Tq8.setTop (mkF m 152 #[.val (.int n), .val (.int x1), .val (.int x2), .val (.int x3), .val (.ref ca), .val (.int ln), .val (.ref sr), .val (.ref xr_q1), .val (.ref xf_q1), .val (.ref xf_q1)] []))
  refine GoesW.via (fun _ k => XS.aload Xq8.here hx rfl (hb hby at_152) rfl rfl k) ?_
  show GoesW _ _ _ _ _ _ _ _ (Tq8.setTop (mkF m 154 #[.val (.int n), .val (.int x1), .val (.int x2), .val (.int x3), .val (.ref ca), .val (.int ln), .val (.ref sr), .val (.ref xr_q1), .val (.ref xf_q1), .val (.ref xf_q1)] [(.ref xr_q1)]))
  have fq10 : Fld Z hq5 xr_q1 "com/example/zonetally/zonetally/DayFaults" "file" "Lcom/example/zonetally/zonetally/DailyFile;" .null := (((pq1_2.ext Eq3).keep pq4_0 (ninS (ne_ok (by omega)) nin0)).ext Eq5)
  obtain ⟨vq11, Tq11, Lq11, Xq11, qq11, nq11, stq11⟩ := callVi Xq8 hx hZ hown (get_file l Z aw hw xr_q1 Oq5 fq10) (W_124 hw) (W_125 hw) (notFace_of_selects (args := #[]) (mvT hZ (W_127 hw))) (W_127 hw) (W_126 hw) (W_24 hw) (W_128 hw) (by decide) pq8_0 fq9 (by decide) (W := 0) (by decide) (by show _ + 0 ≤ 32; omega) (by show _ + 0 ≤ 1152; omega) (g := (mkF m 154 #[.val (.int n), .val (.int x1), .val (.int x2), .val (.int x3), .val (.ref ca), .val (.int ln), .val (.ref sr), .val (.ref xr_q1), .val (.ref xf_q1), .val (.ref xf_q1)] [(.ref xr_q1)])) rfl (by rw [hml]; rfl) (a := xr_q1) (argsL := []) (rest := []) rfl (lenOf pd_31 rfl) rfl (by show 2 * 0 + _ ≤ _; exact Nat.le_of_eq rfl) (hb hby at_154)
  dsimp only at Xq11
  obtain ⟨rfl, pq11_0⟩ := qq11
  have Nq11 := Fr.app Nq8 nq11
  refine GoesW.via stq11 ?_
  show GoesW _ _ _ _ _ _ _ _ (Tq11.setTop (mkF m 157 #[.val (.int n), .val (.int x1), .val (.int x2), .val (.int x3), .val (.ref ca), .val (.int ln), .val (.ref sr), .val (.ref xr_q1), .val (.ref xf_q1), .val (.ref xf_q1)] [.null]))
  refine GoesW.via (fun _ k => XT.ifnonnullNo Xq11.here hx rfl (hb hby at_157) rfl k) ?_
  show GoesW _ _ _ _ _ _ _ _ (Tq11.setTop (mkF m 160 #[.val (.int n), .val (.int x1), .val (.int x2), .val (.int x3), .val (.ref ca), .val (.int ln), .val (.ref sr), .val (.ref xr_q1), .val (.ref xf_q1), .val (.ref xf_q1)] []))
  refine GoesW.via (fun _ k => XS.aload Xq11.here hx rfl (hb hby at_160) rfl rfl k) ?_
  show GoesW _ _ _ _ _ _ _ _ (Tq11.setTop (mkF m 162 #[.val (.int n), .val (.int x1), .val (.int x2), .val (.int x3), .val (.ref ca), .val (.int ln), .val (.ref sr), .val (.ref xr_q1), .val (.ref xf_q1), .val (.ref xf_q1)] [(.ref xr_q1)]))
  have fq12 : Fld Z hq5 xr_q1 "com/example/zonetally/zonetally/DayFaults" "hours" "Ljava/util/List;" (.ref el) := (((pq1_3.ext Eq3).keep pq4_0 (ninS (ne_ok (by omega)) nin0)).ext Eq5)
  obtain ⟨vq13, Tq13, Lq13, Xq13, qq13, nq13, stq13⟩ := callVi Xq11 hx hZ hown (get_hours l Z aw hw xr_q1 el Oq5 fq12) (W_129 hw) (W_130 hw) (notFace_of_selects (args := #[]) (mvT hZ (W_132 hw))) (W_132 hw) (W_131 hw) (W_24 hw) (W_133 hw) (by decide) pq11_0 fq9 (by decide) (W := 0) (by decide) (by show _ + 0 ≤ 32; omega) (by show _ + 0 ≤ 1152; omega) (g := (mkF m 162 #[.val (.int n), .val (.int x1), .val (.int x2), .val (.int x3), .val (.ref ca), .val (.int ln), .val (.ref sr), .val (.ref xr_q1), .val (.ref xf_q1), .val (.ref xf_q1)] [(.ref xr_q1)])) rfl (by rw [hml]; rfl) (a := xr_q1) (argsL := []) (rest := []) rfl (lenOf pd_11 rfl) rfl (by show 2 * 0 + _ ≤ _; exact Nat.le_of_eq rfl) (hb hby at_162)
  dsimp only at Xq13
  obtain ⟨rfl, pq13_0⟩ := qq13
  have Nq13 := Fr.app Nq11 nq13
  refine GoesW.via stq13 ?_
  show GoesW _ _ _ _ _ _ _ _ (Tq13.setTop (mkF m 165 #[.val (.int n), .val (.int x1), .val (.int x2), .val (.int x3), .val (.ref ca), .val (.int ln), .val (.ref sr), .val (.ref xr_q1), .val (.ref xf_q1), .val (.ref xf_q1)] [(.ref el)]))
  have fq15 : Exa Z hq5 el "java/util/ImmutableCollections$ListN" := (EN.ext Oq5.2)
  obtain ⟨vq14, Tq14, Lq14, Xq14, qq14, nq14, stq14⟩ := callIf Xq13 hx hZ hown (sizeN l Z aw hw el wl kl vl Oq5 FN VN) (W_134 hw) (W_135 hw) (fun _ q => mvT q (W_136 hw)) (W_137 hw) (W_138 hw) (W_139 hw) (W_140 hw) (W_141 hw) (W_142 hw) (W_143 hw) (by decide) pq13_0 fq15 (by decide) (W := 0) (by decide) (by show _ + 0 ≤ 32; omega) (by show _ + 0 ≤ 1152; omega) (g := (mkF m 165 #[.val (.int n), .val (.int x1), .val (.int x2), .val (.int x3), .val (.ref ca), .val (.int ln), .val (.ref sr), .val (.ref xr_q1), .val (.ref xf_q1), .val (.ref xf_q1)] [(.ref el)])) rfl (by rw [hml]; rfl) (a := el) (argsL := []) (rest := []) rfl (lenOf pd_32 rfl) rfl (by show 2 * 0 + _ ≤ _; exact Nat.le_of_eq rfl) (hb hby at_165)
  dsimp only at Xq14
  obtain ⟨rfl, pq14_0⟩ := qq14
  have Nq14 := Fr.app Nq13 nq14
  refine GoesW.via stq14 ?_
  show GoesW _ _ _ _ _ _ _ _ (Tq14.setTop (mkF m 170 #[.val (.int n), .val (.int x1), .val (.int x2), .val (.int x3), .val (.ref ca), .val (.int ln), .val (.ref sr), .val (.ref xr_q1), .val (.ref xf_q1), .val (.ref xf_q1)] [(.int (0 : Int32))]))
  refine GoesW.via (fun _ k => XS.ifNo Xq14.here hx rfl (hb hby at_170) rfl (XT.i0_ne_f (by decide)) k) ?_
  show GoesW _ _ _ _ _ _ _ _ (Tq14.setTop (mkF m 173 #[.val (.int n), .val (.int x1), .val (.int x2), .val (.int x3), .val (.ref ca), .val (.int ln), .val (.ref sr), .val (.ref xr_q1), .val (.ref xf_q1), .val (.ref xf_q1)] []))
  refine GoesW.via (fun _ k => XS.aload Xq14.here hx rfl (hb hby at_173) rfl rfl k) ?_
  show GoesW _ _ _ _ _ _ _ _ (Tq14.setTop (mkF m 175 #[.val (.int n), .val (.int x1), .val (.int x2), .val (.int x3), .val (.ref ca), .val (.int ln), .val (.ref sr), .val (.ref xr_q1), .val (.ref xf_q1), .val (.ref xf_q1)] [(.ref xr_q1)]))
  have fq16 : Fld Z hq5 xr_q1 "com/example/zonetally/zonetally/DayFaults" "unlisted" "Ljava/util/List;" (.ref el) := (((pq1_5.ext Eq3).keep pq4_0 (ninS (ne_ok (by omega)) nin0)).ext Eq5)
  obtain ⟨vq17, Tq17, Lq17, Xq17, qq17, nq17, stq17⟩ := callVi Xq14 hx hZ hown (get_unlisted l Z aw hw xr_q1 el Oq5 fq16) (W_146 hw) (W_147 hw) (notFace_of_selects (args := #[]) (mvT hZ (W_149 hw))) (W_149 hw) (W_148 hw) (W_24 hw) (W_150 hw) (by decide) pq14_0 fq9 (by decide) (W := 0) (by decide) (by show _ + 0 ≤ 32; omega) (by show _ + 0 ≤ 1152; omega) (g := (mkF m 175 #[.val (.int n), .val (.int x1), .val (.int x2), .val (.int x3), .val (.ref ca), .val (.int ln), .val (.ref sr), .val (.ref xr_q1), .val (.ref xf_q1), .val (.ref xf_q1)] [(.ref xr_q1)])) rfl (by rw [hml]; rfl) (a := xr_q1) (argsL := []) (rest := []) rfl (lenOf pd_11 rfl) rfl (by show 2 * 0 + _ ≤ _; exact Nat.le_of_eq rfl) (hb hby at_175)
  dsimp only at Xq17
  obtain ⟨rfl, pq17_0⟩ := qq17
  have Nq17 := Fr.app Nq14 nq17
  refine GoesW.via stq17 ?_
  show GoesW _ _ _ _ _ _ _ _ (Tq17.setTop (mkF m 178 #[.val (.int n), .val (.int x1), .val (.int x2), .val (.int x3), .val (.ref ca), .val (.int ln), .val (.ref sr), .val (.ref xr_q1), .val (.ref xf_q1), .val (.ref xf_q1)] [(.ref el)]))
  obtain ⟨vq18, Tq18, Lq18, Xq18, qq18, nq18, stq18⟩ := callIf Xq17 hx hZ hown (sizeN l Z aw hw el wl kl vl Oq5 FN VN) (W_134 hw) (W_135 hw) (fun _ q => mvT q (W_136 hw)) (W_137 hw) (W_138 hw) (W_139 hw) (W_140 hw) (W_141 hw) (W_142 hw) (W_143 hw) (by decide) pq17_0 fq15 (by decide) (W := 0) (by decide) (by show _ + 0 ≤ 32; omega) (by show _ + 0 ≤ 1152; omega) (g := (mkF m 178 #[.val (.int n), .val (.int x1), .val (.int x2), .val (.int x3), .val (.ref ca), .val (.int ln), .val (.ref sr), .val (.ref xr_q1), .val (.ref xf_q1), .val (.ref xf_q1)] [(.ref el)])) rfl (by rw [hml]; rfl) (a := el) (argsL := []) (rest := []) rfl (lenOf pd_32 rfl) rfl (by show 2 * 0 + _ ≤ _; exact Nat.le_of_eq rfl) (hb hby at_178)
  dsimp only at Xq18
  obtain ⟨rfl, pq18_0⟩ := qq18
  have Nq18 := Fr.app Nq17 nq18
  refine GoesW.via stq18 ?_
  show GoesW _ _ _ _ _ _ _ _ (Tq18.setTop (mkF m 183 #[.val (.int n), .val (.int x1), .val (.int x2), .val (.int x3), .val (.ref ca), .val (.int ln), .val (.ref sr), .val (.ref xr_q1), .val (.ref xf_q1), .val (.ref xf_q1)] [(.int (0 : Int32))]))
  refine GoesW.via (fun _ k => XS.ifNo Xq18.here hx rfl (hb hby at_183) rfl (XT.i0_ne_f (by decide)) k) ?_
  show GoesW _ _ _ _ _ _ _ _ (Tq18.setTop (mkF m 186 #[.val (.int n), .val (.int x1), .val (.int x2), .val (.int x3), .val (.ref ca), .val (.int ln), .val (.ref sr), .val (.ref xr_q1), .val (.ref xf_q1), .val (.ref xf_q1)] []))
  refine GoesW.via (fun _ k => XS.aload Xq18.here hx rfl (hb hby at_186) rfl rfl k) ?_
  show GoesW _ _ _ _ _ _ _ _ (Tq18.setTop (mkF m 188 #[.val (.int n), .val (.int x1), .val (.int x2), .val (.int x3), .val (.ref ca), .val (.int ln), .val (.ref sr), .val (.ref xr_q1), .val (.ref xf_q1), .val (.ref xf_q1)] [(.ref xr_q1)]))
  obtain ⟨vq19, Tq19, Lq19, Xq19, qq19, nq19, stq19⟩ := callVi Xq18 hx hZ hown (get_lacking l Z aw hw xr_q1 Oq5 fq6) (W_151 hw) (W_152 hw) (notFace_of_selects (args := #[]) (mvT hZ (W_154 hw))) (W_154 hw) (W_153 hw) (W_24 hw) (W_155 hw) (by decide) pq18_0 fq9 (by decide) (W := 0) (by decide) (by show _ + 0 ≤ 32; omega) (by show _ + 0 ≤ 1152; omega) (g := (mkF m 188 #[.val (.int n), .val (.int x1), .val (.int x2), .val (.int x3), .val (.ref ca), .val (.int ln), .val (.ref sr), .val (.ref xr_q1), .val (.ref xf_q1), .val (.ref xf_q1)] [(.ref xr_q1)])) rfl (by rw [hml]; rfl) (a := xr_q1) (argsL := []) (rest := []) rfl (lenOf pd_33 rfl) rfl (by show 2 * 0 + _ ≤ _; exact Nat.le_of_eq rfl) (hb hby at_188)
  dsimp only at Xq19
  obtain ⟨rfl, pq19_0⟩ := qq19
  have Nq19 := Fr.app Nq18 nq19
  refine GoesW.via stq19 ?_
  show GoesW _ _ _ _ _ _ _ _ (Tq19.setTop (mkF m 191 #[.val (.int n), .val (.int x1), .val (.int x2), .val (.int x3), .val (.ref ca), .val (.int ln), .val (.ref sr), .val (.ref xr_q1), .val (.ref xf_q1), .val (.ref xf_q1)] [(.long (0 : Int64))]))
  refine GoesW.via (fun _ k => XT.lconstV Xq19.here hx rfl (0 : Int64) (hb hby at_191) (by decide) k) ?_
  show GoesW _ _ _ _ _ _ _ _ (Tq19.setTop (mkF m 192 #[.val (.int n), .val (.int x1), .val (.int x2), .val (.int x3), .val (.ref ca), .val (.int ln), .val (.ref sr), .val (.ref xr_q1), .val (.ref xf_q1), .val (.ref xf_q1)] [(.long (0 : Int64)), (.long (0 : Int64))]))
  refine GoesW.via (fun _ k => XT.lcmp Xq19.here hx rfl (hb hby at_192) rfl k) ?_
  show GoesW _ _ _ _ _ _ _ _ (Tq19.setTop (mkF m 193 #[.val (.int n), .val (.int x1), .val (.int x2), .val (.int x3), .val (.ref ca), .val (.int ln), .val (.ref sr), .val (.ref xr_q1), .val (.ref xf_q1), .val (.ref xf_q1)] [(.int (XT.cmpL (0 : Int64) (0 : Int64)))]))
  refine GoesW.via (fun _ k => XS.ifNo Xq19.here hx rfl (hb hby at_193) rfl (XT.ll_ne_f (by decide)) k) ?_
  show GoesW _ _ _ _ _ _ _ _ (Tq19.setTop (mkF m 196 #[.val (.int n), .val (.int x1), .val (.int x2), .val (.int x3), .val (.ref ca), .val (.int ln), .val (.ref sr), .val (.ref xr_q1), .val (.ref xf_q1), .val (.ref xf_q1)] []))
  refine GoesW.via (fun _ k => XS.aload Xq19.here hx rfl (hb hby at_196) rfl rfl k) ?_
  show GoesW _ _ _ _ _ _ _ _ (Tq19.setTop (mkF m 198 #[.val (.int n), .val (.int x1), .val (.int x2), .val (.int x3), .val (.ref ca), .val (.int ln), .val (.ref sr), .val (.ref xr_q1), .val (.ref xf_q1), .val (.ref xf_q1)] [(.ref xf_q1)]))
  have fq20 : Fld Z hq5 xf_q1 "java/util/ImmutableCollections$List12" "e1" "Ljava/lang/Object;" (.ref em) := (((pq1_9.ext Eq3).keep pq4_0 (ninS (ne_ok (by omega)) nin0)).ext Eq5)
  have fq22 : Exa Z hq5 xf_q1 "java/util/ImmutableCollections$List12" := (((pq1_7.ext Eq3).keep pq4_0).ext Eq5)
  obtain ⟨vq21, Tq21, Lq21, Xq21, qq21, nq21, stq21⟩ := callIf Xq19 hx hZ hown (size12 l Z aw hw xf_q1 em Oq5 SE fq20) (W_134 hw) (W_135 hw) (fun _ q => mvT q (W_136 hw)) (W_156 hw) (W_157 hw) (W_158 hw) (W_159 hw) (W_160 hw) (W_32 hw) (W_161 hw) (by decide) pq19_0 fq22 (by decide) (W := 0) (by decide) (by show _ + 0 ≤ 32; omega) (by show _ + 0 ≤ 1152; omega) (g := (mkF m 198 #[.val (.int n), .val (.int x1), .val (.int x2), .val (.int x3), .val (.ref ca), .val (.int ln), .val (.ref sr), .val (.ref xr_q1), .val (.ref xf_q1), .val (.ref xf_q1)] [(.ref xf_q1)])) rfl (by rw [hml]; rfl) (a := xf_q1) (argsL := []) (rest := []) rfl (lenOf pd_32 rfl) rfl (by show 2 * 0 + _ ≤ _; exact Nat.le_of_eq rfl) (hb hby at_198)
  dsimp only at Xq21
  obtain ⟨rfl, pq21_0⟩ := qq21
  have Nq21 := Fr.app Nq19 nq21
  refine GoesW.via stq21 ?_
  show GoesW _ _ _ _ _ _ _ _ (Tq21.setTop (mkF m 203 #[.val (.int n), .val (.int x1), .val (.int x2), .val (.int x3), .val (.ref ca), .val (.int ln), .val (.ref sr), .val (.ref xr_q1), .val (.ref xf_q1), .val (.ref xf_q1)] [(.int (1 : Int32))]))
  refine GoesW.via (fun _ k => XT.iconstV Xq21.here hx rfl (1 : Int32) (hb hby at_203) (by decide) k) ?_
  show GoesW _ _ _ _ _ _ _ _ (Tq21.setTop (mkF m 204 #[.val (.int n), .val (.int x1), .val (.int x2), .val (.int x3), .val (.ref ca), .val (.int ln), .val (.ref sr), .val (.ref xr_q1), .val (.ref xf_q1), .val (.ref xf_q1)] [(.int (1 : Int32)), (.int (1 : Int32))]))
  refine GoesW.via (fun _ k => XS.icmpNo Xq21.here hx rfl (hb hby at_204) rfl (XT.ii_ne_f (by decide)) k) ?_
  show GoesW _ _ _ _ _ _ _ _ (Tq21.setTop (mkF m 207 #[.val (.int n), .val (.int x1), .val (.int x2), .val (.int x3), .val (.ref ca), .val (.int ln), .val (.ref sr), .val (.ref xr_q1), .val (.ref xf_q1), .val (.ref xf_q1)] []))
  refine GoesW.via (fun _ k => XS.aload Xq21.here hx rfl (hb hby at_207) rfl rfl k) ?_
  show GoesW _ _ _ _ _ _ _ _ (Tq21.setTop (mkF m 209 #[.val (.int n), .val (.int x1), .val (.int x2), .val (.int x3), .val (.ref ca), .val (.int ln), .val (.ref sr), .val (.ref xr_q1), .val (.ref xf_q1), .val (.ref xf_q1)] [(.ref xf_q1)]))
  refine GoesW.via (fun _ k => XT.iconstV Xq21.here hx rfl (0 : Int32) (hb hby at_209) (by decide) k) ?_
  show GoesW _ _ _ _ _ _ _ _ (Tq21.setTop (mkF m 210 #[.val (.int n), .val (.int x1), .val (.int x2), .val (.int x3), .val (.ref ca), .val (.int ln), .val (.ref sr), .val (.ref xr_q1), .val (.ref xf_q1), .val (.ref xf_q1)] [(.int (0 : Int32)), (.ref xf_q1)]))
  have fq23 : Fld Z hq5 xf_q1 "java/util/ImmutableCollections$List12" "e0" "Ljava/lang/Object;" (.ref sr) := (((pq1_8.ext Eq3).keep pq4_0 (ninS (ne_ok (by omega)) nin0)).ext Eq5)
  obtain ⟨vq24, Tq24, Lq24, Xq24, qq24, nq24, stq24⟩ := callIf Xq21 hx hZ hown (get12 l Z aw hw xf_q1 sr Oq5 fq23) (W_162 hw) (W_163 hw) (fun _ q => mvT q (W_164 hw)) (W_165 hw) (W_166 hw) (W_167 hw) (W_168 hw) (W_160 hw) (W_32 hw) (W_169 hw) (by decide) pq21_0 fq22 (by decide) (W := 0) (by decide) (by show _ + 0 ≤ 32; omega) (by show _ + 0 ≤ 1152; omega) (g := (mkF m 210 #[.val (.int n), .val (.int x1), .val (.int x2), .val (.int x3), .val (.ref ca), .val (.int ln), .val (.ref sr), .val (.ref xr_q1), .val (.ref xf_q1), .val (.ref xf_q1)] [(.int (0 : Int32)), (.ref xf_q1)])) rfl (by rw [hml]; rfl) (a := xf_q1) (argsL := [(.int (0 : Int32))]) (rest := []) rfl (lenOf pd_34 rfl) rfl (by show 2 * 0 + _ ≤ _; exact Nat.le_of_eq rfl) (hb hby at_210)
  dsimp only at Xq24
  obtain ⟨rfl, pq24_0⟩ := qq24
  have Nq24 := Fr.app Nq21 nq24
  refine GoesW.via stq24 ?_
  show GoesW _ _ _ _ _ _ _ _ (Tq24.setTop (mkF m 215 #[.val (.int n), .val (.int x1), .val (.int x2), .val (.int x3), .val (.ref ca), .val (.int ln), .val (.ref sr), .val (.ref xr_q1), .val (.ref xf_q1), .val (.ref xf_q1)] [(.ref sr)]))
  refine GoesW.via (fun _ k => XS.aload Xq24.here hx rfl (hb hby at_215) rfl rfl k) ?_
  show GoesW _ _ _ _ _ _ _ _ (Tq24.setTop (mkF m 217 #[.val (.int n), .val (.int x1), .val (.int x2), .val (.int x3), .val (.ref ca), .val (.int ln), .val (.ref sr), .val (.ref xr_q1), .val (.ref xf_q1), .val (.ref xf_q1)] [(.ref sr), (.ref sr)]))
  refine GoesW.via (fun _ k => XT.acmpNo Xq24.here hx rfl (hb hby at_217) rfl rfl rfl (XT.aa_ne_f rfl) k) ?_
  show GoesW _ _ _ _ _ _ _ _ (Tq24.setTop (mkF m 220 #[.val (.int n), .val (.int x1), .val (.int x2), .val (.int x3), .val (.ref ca), .val (.int ln), .val (.ref sr), .val (.ref xr_q1), .val (.ref xf_q1), .val (.ref xf_q1)] []))
  refine GoesW.via (fun _ k => XS.aload Xq24.here hx rfl (hb hby at_220) rfl rfl k) ?_
  show GoesW _ _ _ _ _ _ _ _ (Tq24.setTop (mkF m 222 #[.val (.int n), .val (.int x1), .val (.int x2), .val (.int x3), .val (.ref ca), .val (.int ln), .val (.ref sr), .val (.ref xr_q1), .val (.ref xf_q1), .val (.ref xf_q1)] [(.ref xr_q1)]))
  obtain ⟨vq25, Tq25, Lq25, Xq25, qq25, nq25, stq25⟩ := callVi Xq24 hx hZ hown (namesNo l Z aw hw xr_q1 xf_q1 Oq5 fq7 fq22) (W_170 hw) (W_171 hw) (notFace_of_selects (args := #[]) (mvT hZ (W_173 hw))) (W_173 hw) (W_172 hw) (W_24 hw) (W_174 hw) (by decide) pq24_0 fq9 (by decide) (W := 0) (by decide) (by show _ + 0 ≤ 32; omega) (by show _ + 0 ≤ 1152; omega) (g := (mkF m 222 #[.val (.int n), .val (.int x1), .val (.int x2), .val (.int x3), .val (.ref ca), .val (.int ln), .val (.ref sr), .val (.ref xr_q1), .val (.ref xf_q1), .val (.ref xf_q1)] [(.ref xr_q1)])) rfl (by rw [hml]; rfl) (a := xr_q1) (argsL := []) (rest := []) rfl (lenOf pd_16 rfl) rfl (by show 2 * 0 + _ ≤ _; exact Nat.le_of_eq rfl) (hb hby at_222)
  dsimp only at Xq25
  obtain ⟨rfl, pq25_0⟩ := qq25
  have Nq25 := Fr.app Nq24 nq25
  refine GoesW.via stq25 ?_
  show GoesW _ _ _ _ _ _ _ _ (Tq25.setTop (mkF m 225 #[.val (.int n), .val (.int x1), .val (.int x2), .val (.int x3), .val (.ref ca), .val (.int ln), .val (.ref sr), .val (.ref xr_q1), .val (.ref xf_q1), .val (.ref xf_q1)] [(.int (0 : Int32))]))
  refine GoesW.via (fun _ k => XS.ifNo Xq25.here hx rfl (hb hby at_225) rfl (XT.i0_ne_f (by decide)) k) ?_
  show GoesW _ _ _ _ _ _ _ _ (Tq25.setTop (mkF m 228 #[.val (.int n), .val (.int x1), .val (.int x2), .val (.int x3), .val (.ref ca), .val (.int ln), .val (.ref sr), .val (.ref xr_q1), .val (.ref xf_q1), .val (.ref xf_q1)] []))
  refine GoesW.via (fun _ k => XS.aload Xq25.here hx rfl (hb hby at_228) rfl rfl k) ?_
  show GoesW _ _ _ _ _ _ _ _ (Tq25.setTop (mkF m 230 #[.val (.int n), .val (.int x1), .val (.int x2), .val (.int x3), .val (.ref ca), .val (.int ln), .val (.ref sr), .val (.ref xr_q1), .val (.ref xf_q1), .val (.ref xf_q1)] [(.ref xf_q1)]))
  obtain ⟨vq26, Tq26, Lq26, Xq26, qq26, nq26, stq26⟩ := callIf Xq25 hx hZ hown (size12 l Z aw hw xf_q1 em Oq5 SE fq20) (W_134 hw) (W_135 hw) (fun _ q => mvT q (W_136 hw)) (W_156 hw) (W_157 hw) (W_158 hw) (W_159 hw) (W_160 hw) (W_32 hw) (W_161 hw) (by decide) pq25_0 fq22 (by decide) (W := 0) (by decide) (by show _ + 0 ≤ 32; omega) (by show _ + 0 ≤ 1152; omega) (g := (mkF m 230 #[.val (.int n), .val (.int x1), .val (.int x2), .val (.int x3), .val (.ref ca), .val (.int ln), .val (.ref sr), .val (.ref xr_q1), .val (.ref xf_q1), .val (.ref xf_q1)] [(.ref xf_q1)])) rfl (by rw [hml]; rfl) (a := xf_q1) (argsL := []) (rest := []) rfl (lenOf pd_32 rfl) rfl (by show 2 * 0 + _ ≤ _; exact Nat.le_of_eq rfl) (hb hby at_230)
  dsimp only at Xq26
  obtain ⟨rfl, pq26_0⟩ := qq26
  have Nq26 := Fr.app Nq25 nq26
  refine GoesW.via stq26 ?_
  show GoesW _ _ _ _ _ _ _ _ (Tq26.setTop (mkF m 235 #[.val (.int n), .val (.int x1), .val (.int x2), .val (.int x3), .val (.ref ca), .val (.int ln), .val (.ref sr), .val (.ref xr_q1), .val (.ref xf_q1), .val (.ref xf_q1)] [(.int (1 : Int32))]))
  refine GoesW.via (fun _ k => XT.iconstV Xq26.here hx rfl (1 : Int32) (hb hby at_235) (by decide) k) ?_
  show GoesW _ _ _ _ _ _ _ _ (Tq26.setTop (mkF m 236 #[.val (.int n), .val (.int x1), .val (.int x2), .val (.int x3), .val (.ref ca), .val (.int ln), .val (.ref sr), .val (.ref xr_q1), .val (.ref xf_q1), .val (.ref xf_q1)] [(.int (1 : Int32)), (.int (1 : Int32))]))
  refine GoesW.via (fun _ k => XS.icmpNo Xq26.here hx rfl (hb hby at_236) rfl (XT.ii_ne_f (by decide)) k) ?_
  show GoesW _ _ _ _ _ _ _ _ (Tq26.setTop (mkF m 239 #[.val (.int n), .val (.int x1), .val (.int x2), .val (.int x3), .val (.ref ca), .val (.int ln), .val (.ref sr), .val (.ref xr_q1), .val (.ref xf_q1), .val (.ref xf_q1)] []))
  refine GoesW.via (fun _ k => XS.aload Xq26.here hx rfl (hb hby at_239) rfl rfl k) ?_
  show GoesW _ _ _ _ _ _ _ _ (Tq26.setTop (mkF m 241 #[.val (.int n), .val (.int x1), .val (.int x2), .val (.int x3), .val (.ref ca), .val (.int ln), .val (.ref sr), .val (.ref xr_q1), .val (.ref xf_q1), .val (.ref xf_q1)] [(.ref xf_q1)]))
  refine GoesW.via (fun _ k => XT.iconstV Xq26.here hx rfl (0 : Int32) (hb hby at_241) (by decide) k) ?_
  show GoesW _ _ _ _ _ _ _ _ (Tq26.setTop (mkF m 242 #[.val (.int n), .val (.int x1), .val (.int x2), .val (.int x3), .val (.ref ca), .val (.int ln), .val (.ref sr), .val (.ref xr_q1), .val (.ref xf_q1), .val (.ref xf_q1)] [(.int (0 : Int32)), (.ref xf_q1)]))
  obtain ⟨vq27, Tq27, Lq27, Xq27, qq27, nq27, stq27⟩ := callIf Xq26 hx hZ hown (get12 l Z aw hw xf_q1 sr Oq5 fq23) (W_162 hw) (W_163 hw) (fun _ q => mvT q (W_164 hw)) (W_165 hw) (W_166 hw) (W_167 hw) (W_168 hw) (W_160 hw) (W_32 hw) (W_169 hw) (by decide) pq26_0 fq22 (by decide) (W := 0) (by decide) (by show _ + 0 ≤ 32; omega) (by show _ + 0 ≤ 1152; omega) (g := (mkF m 242 #[.val (.int n), .val (.int x1), .val (.int x2), .val (.int x3), .val (.ref ca), .val (.int ln), .val (.ref sr), .val (.ref xr_q1), .val (.ref xf_q1), .val (.ref xf_q1)] [(.int (0 : Int32)), (.ref xf_q1)])) rfl (by rw [hml]; rfl) (a := xf_q1) (argsL := [(.int (0 : Int32))]) (rest := []) rfl (lenOf pd_34 rfl) rfl (by show 2 * 0 + _ ≤ _; exact Nat.le_of_eq rfl) (hb hby at_242)
  dsimp only at Xq27
  obtain ⟨rfl, pq27_0⟩ := qq27
  have Nq27 := Fr.app Nq26 nq27
  refine GoesW.via stq27 ?_
  show GoesW _ _ _ _ _ _ _ _ (Tq27.setTop (mkF m 247 #[.val (.int n), .val (.int x1), .val (.int x2), .val (.int x3), .val (.ref ca), .val (.int ln), .val (.ref sr), .val (.ref xr_q1), .val (.ref xf_q1), .val (.ref xf_q1)] [(.ref sr)]))
  refine GoesW.via (fun _ k => XS.aload Xq27.here hx rfl (hb hby at_247) rfl rfl k) ?_
  show GoesW _ _ _ _ _ _ _ _ (Tq27.setTop (mkF m 249 #[.val (.int n), .val (.int x1), .val (.int x2), .val (.int x3), .val (.ref ca), .val (.int ln), .val (.ref sr), .val (.ref xr_q1), .val (.ref xf_q1), .val (.ref xf_q1)] [(.ref sr), (.ref sr)]))
  exact law_c1 l Z aw hw n x1 x2 x3 ca ln sr em el wl kl vl de xr_q1 xf_q1 hx hby hml hrt hlk hnm hZ hown Xq27 pq27_0 Nq27 (by omega) (by omega) Oq5 hS (by omega) Cq5 SE SL EN FN VN SD fq9 fq10 fq12 fq7 fq16 fq6 fq22 fq23 fq20
theorem ef_law (m : MethodId) (n : Int32) (x1 : Int32) (x2 : Int32) (x3 : Int32) : entryFrame m #[(.int n), (.int x1), (.int x2), (.int x3)] maxLocals = mkF m 0 #[.val (.int n), .val (.int x1), .val (.int x2), .val (.int x3), .unset, .unset, .unset, .unset, .unset, .unset] [] := by first | (simp [entryFrame, mkF, argsToLocals, Value.category, maxLocals]; done) | rfl
set_option maxRecDepth 65536 in
set_option maxHeartbeats 40000000 in
theorem law_c2 (l : Launch) (Z : State) (aw : Array Value) (hw : ∀ d ∈ tables_1, d.before aw Z = true) (n : Int32) (x1 : Int32) (x2 : Int32) (x3 : Int32) (cz : Int32) (em : Nat) (el : Nat) (wl : Nat) (kl : ClassId) (vl : List Value) (de : Nat) (bq1 : Nat) (kq1 : ClassId) (bq6 : Nat) (bq7 : Nat) (kq7 : ClassId) {p : Program} {e : Env} {s : State} {m : MethodId} {args : Array Value} {below : List Frame} {meth : Method} {c : Code} {T : State} {locs : List Loc} {cells slots n0 : Nat} {h0 h1 : Heap} (hx : p.tables.exec = Jvm.exec) (hby : c.code = code) (hml : c.maxLocals = 10) (hrt : meth.sig.returnType = some .boolean) (hlk : meth.locks = false) (hnm : meth.name = "law") {vm0 vmE : Vm} {k0 : Nat} (hZ : Z.Warmed39 vm0) (hown : vm0.findClass "com/example/zonetally/zonetally/DayFaultsWholePinLaw" = some m.cls) (X : Stand p l e room_1 (s.setVm vm0) m args below meth c T locs cells slots) (e0 : T.heap = h1) (N : Fr n0 locs) (hcells : cells ≤ 3) (hslots : slots ≤ 7) (O : Old Z n0 h1) (hS : s.Since vm0 k0) (hk0 : k0 ≤ h1.size) (C0 : CHr Z EL vmE h0 vm0 h1) (CS : Sta Z Z.heap "java/lang/String" "COMPACT_STRINGS" "Z" (.int cz)) (SE : Sta Z Z.heap "java/util/ImmutableCollections" "EMPTY" "Ljava/lang/Object;" (.ref em)) (SL : Sta Z Z.heap "java/util/ImmutableCollections" "EMPTY_LIST" "Ljava/util/ImmutableCollections$ListN;" (.ref el)) (EN : Exa Z Z.heap el "java/util/ImmutableCollections$ListN") (FN : Fld Z Z.heap el "java/util/ImmutableCollections$ListN" "elements" "[Ljava/lang/Object;" (.ref wl)) (VN : Arv Z Z.heap wl kl (.object "java/lang/Object") (0 : Int32) vl .null) (SD : Sta Z Z.heap "java/util/ArrayList" "DEFAULTCAPACITY_EMPTY_ELEMENTDATA" "[Ljava/lang/Object;" (.ref de)) (pf0 : Arv Z h1 bq1 kq1 .char (3 : Int32) [(.int (x1 &&& (255 : Int32))), (.int (x2 &&& (255 : Int32))), (.int (x3 &&& (255 : Int32)))] (.int (0 : Int32))) (pf1 : Exa Z h1 bq6 "java/lang/String") (pf2 : Safe Z EL vm0 h1 bq6) (pf3 : Fld Z h1 bq6 "java/lang/String" "value" "[B" .null) (pf4 : Fld Z h1 bq6 "java/lang/String" "coder" "B" (.int (0 : Int32))) (pf5 : Arv Z h1 bq7 kq7 .char (0 : Int32) [] (.int (0 : Int32))) (hcz : ¬ cz = (0 : Int32)) (cq5 : (n &&& (3 : Int32)) = (0 : Int32)) (cn1 : n0 ≤ bq1) (cn2 : bq1 < bq6) (cn3 : bq6 < bq7) :
    GoesW p e below s room_1.cells room_1.slots n0 (fun v vm h => (fun vv hh => vv = some (.int (1 : Int32))) v h ∧ CHr Z EL vmE h0 vm h) (T.setTop (mkF m 49 #[.val (.int n), .val (.int x1), .val (.int x2), .val (.int x3), .val (.ref bq1), .val (.int (n &&& (3 : Int32))), .unset, .unset, .unset, .unset] [(.ref bq7), (.ref bq6), (.ref bq6)])) := by
  have zO := O.le
  have lt_bq1 := lt_nat pf0.lt
  have lt_bq6 := lt_nat pf1.lt
  have lt_bq7 := lt_nat pf5.lt
  show GoesW _ _ _ _ _ _ _ _ (T.setTop (mkF m 49 #[.val (.int n), .val (.int x1), .val (.int x2), .val (.int x3), .val (.ref bq1), .val (.int (n &&& (3 : Int32))), .unset, .unset, .unset, .unset] [(.ref bq7), (.ref bq6), (.ref bq6)]))
  obtain ⟨vq13, Tq13, Lq13, Xq13, Sq13, hZq13, hownq13, Rq13, qq13, nq13, stq13⟩ := callSpW X hx hZ hown hS (by rw [e0]; omega) (ew hw) C0.1 (allS (lt_ok (by omega)) all0) (allS pf2 all0) (str_0 l Z aw hw bq6 bq7 kq7 O pf1 pf3 pf4 pf5 (by omega)) rfl (W_4 hw) (W_5 hw) (W_3 hw) (W_6 hw) (by decide) e0 (by decide) (W := 1) (by decide) (by show _ + 4 ≤ 32; omega) (by show _ + 8 ≤ 1152; omega) (g := (mkF m 49 #[.val (.int n), .val (.int x1), .val (.int x2), .val (.int x3), .val (.ref bq1), .val (.int (n &&& (3 : Int32))), .unset, .unset, .unset, .unset] [(.ref bq7), (.ref bq6), (.ref bq6)])) rfl (by rw [hml]; rfl) (a := bq6) (argsL := [(.ref bq7)]) (rest := [(.ref bq6)]) rfl (lenOf pd_36 rfl) rfl (by show 2 * 0 + _ ≤ _; exact Nat.le_of_eq rfl) (hb hby at_49)
  dsimp only at Xq13
  obtain ⟨xb_q13, xkb_q13, rfl, pq13_0, pq13_1, pq13_2, pq13_3, pq13_4⟩ := qq13
  have Nq13 := Fr.app N nq13
  have zq13 := pq13_0.1
  have Oq13 := O.keep pq13_0 (allS (by omega) all0)
  have Cq13 := C0.trans Rq13
  have ltpq13_1 := lt_nat pq13_1.lt
  have ltpq13_4 := lt_nat pq13_4.lt
  refine GoesW.via stq13 ?_
  show GoesW _ _ _ _ _ _ _ _ (Tq13.setTop (mkF m 52 #[.val (.int n), .val (.int x1), .val (.int x2), .val (.int x3), .val (.ref bq1), .val (.int (n &&& (3 : Int32))), .unset, .unset, .unset, .unset] [(.ref bq6)]))
  refine GoesW.via (fun _ k => XS.astore Xq13.here hx rfl (hb hby at_52) rfl rfl (l' := #[.val (.int n), .val (.int x1), .val (.int x2), .val (.int x3), .val (.ref bq1), .val (.int (n &&& (3 : Int32))), .val (.ref bq6), .unset, .unset, .unset]) rfl k) ?_
  show GoesW _ _ _ _ _ _ _ _ (Tq13.setTop (mkF m 54 #[.val (.int n), .val (.int x1), .val (.int x2), .val (.int x3), .val (.ref bq1), .val (.int (n &&& (3 : Int32))), .val (.ref bq6), .unset, .unset, .unset] []))
  refine GoesW.via (fun _ k => XS.goto Xq13.here hx rfl (pc0 := 54) (pc' := 121) rfl (hb hby at_54) (by decide) (by decide) k) ?_
  show GoesW _ _ _ _ _ _ _ _ (Tq13.setTop (mkF m 121 #[.val (.int n), .val (.int x1), .val (.int x2), .val (.int x3), .val (.ref bq1), .val (.int (n &&& (3 : Int32))), .val (.ref bq6), .unset, .unset, .unset] []))
  exact seg121 l Z aw hw n x1 x2 x3 bq1 (n &&& (3 : Int32)) bq6 em el wl kl vl de hx hby hml hrt hlk hnm hZq13 hownq13 Xq13 rfl Nq13 (by omega) (by omega) Oq13 Sq13 (by omega) Cq13 SE SL EN FN VN SD
set_option maxRecDepth 65536 in
set_option maxHeartbeats 40000000 in
theorem law_c3 (l : Launch) (Z : State) (aw : Array Value) (hw : ∀ d ∈ tables_1, d.before aw Z = true) (n : Int32) (x1 : Int32) (x2 : Int32) (x3 : Int32) (cz : Int32) (em : Nat) (el : Nat) (wl : Nat) (kl : ClassId) (vl : List Value) (de : Nat) (bq1 : Nat) (kq1 : ClassId) {p : Program} {e : Env} {s : State} {m : MethodId} {args : Array Value} {below : List Frame} {meth : Method} {c : Code} {T : State} {locs : List Loc} {cells slots n0 : Nat} {h0 h1 : Heap} (hx : p.tables.exec = Jvm.exec) (hby : c.code = code) (hml : c.maxLocals = 10) (hrt : meth.sig.returnType = some .boolean) (hlk : meth.locks = false) (hnm : meth.name = "law") {vm0 vmE : Vm} {k0 : Nat} (hZ : Z.Warmed39 vm0) (hown : vm0.findClass "com/example/zonetally/zonetally/DayFaultsWholePinLaw" = some m.cls) (X : Stand p l e room_1 (s.setVm vm0) m args below meth c T locs cells slots) (e0 : T.heap = h1) (N : Fr n0 locs) (hcells : cells ≤ 1) (hslots : slots ≤ 3) (O : Old Z n0 h1) (hS : s.Since vm0 k0) (hk0 : k0 ≤ h1.size) (C0 : CHr Z EL vmE h0 vm0 h1) (CS : Sta Z Z.heap "java/lang/String" "COMPACT_STRINGS" "Z" (.int cz)) (SE : Sta Z Z.heap "java/util/ImmutableCollections" "EMPTY" "Ljava/lang/Object;" (.ref em)) (SL : Sta Z Z.heap "java/util/ImmutableCollections" "EMPTY_LIST" "Ljava/util/ImmutableCollections$ListN;" (.ref el)) (EN : Exa Z Z.heap el "java/util/ImmutableCollections$ListN") (FN : Fld Z Z.heap el "java/util/ImmutableCollections$ListN" "elements" "[Ljava/lang/Object;" (.ref wl)) (VN : Arv Z Z.heap wl kl (.object "java/lang/Object") (0 : Int32) vl .null) (SD : Sta Z Z.heap "java/util/ArrayList" "DEFAULTCAPACITY_EMPTY_ELEMENTDATA" "[Ljava/lang/Object;" (.ref de)) (pf0 : Arv Z h1 bq1 kq1 .char (3 : Int32) [(.int (x1 &&& (255 : Int32))), (.int (x2 &&& (255 : Int32))), (.int (x3 &&& (255 : Int32)))] (.int (0 : Int32))) (hcz : ¬ cz = (0 : Int32)) (cq5 : ¬ ((n &&& (3 : Int32)) = (0 : Int32))) (cq13 : (n &&& (3 : Int32)) = (1 : Int32)) (cn1 : n0 ≤ bq1) :
    GoesW p e below s room_1.cells room_1.slots n0 (fun v vm h => (fun vv hh => vv = some (.int (1 : Int32))) v h ∧ CHr Z EL vmE h0 vm h) (T.setTop (mkF m 65 #[.val (.int n), .val (.int x1), .val (.int x2), .val (.int x3), .val (.ref bq1), .val (.int (n &&& (3 : Int32))), .unset, .unset, .unset, .unset] [(.ref bq1)])) := by
  have zO := O.le
  have lt_bq1 := lt_nat pf0.lt
  show GoesW _ _ _ _ _ _ _ _ (T.setTop (mkF m 65 #[.val (.int n), .val (.int x1), .val (.int x2), .val (.int x3), .val (.ref bq1), .val (.int (n &&& (3 : Int32))), .unset, .unset, .unset, .unset] [(.ref bq1)]))
  refine GoesW.via (fun _ k => XT.iconstV X.here hx rfl (0 : Int32) (hb hby at_65) (by decide) k) ?_
  show GoesW _ _ _ _ _ _ _ _ (T.setTop (mkF m 66 #[.val (.int n), .val (.int x1), .val (.int x2), .val (.int x3), .val (.ref bq1), .val (.int (n &&& (3 : Int32))), .unset, .unset, .unset, .unset] [(.int (0 : Int32)), (.ref bq1)]))
  obtain ⟨clq14, Arq14, qq14, Sq14, Nnq14, Hq14, Gq14⟩ := id pf0
  have hinq14 : ¬ ((0 : Int32) < 0 ∨ clq14.slots.size ≤ ((0 : Int32)).toNatClampNeg) := inb_of Sq14 ⟨by decide, by decide⟩
  refine GoesW.via (X.caload hx (j := (0 : Int32)) (v := (.int (x1 &&& (255 : Int32)))) (by rw [e0]; exact Arq14.1) (State.isArrayOf_alike hZ.alike Arq14.2.1) Arq14.2.2 hinq14 (Hq14.at hinq14 rfl) (g := (mkF m 66 #[.val (.int n), .val (.int x1), .val (.int x2), .val (.int x3), .val (.ref bq1), .val (.int (n &&& (3 : Int32))), .unset, .unset, .unset, .unset] [(.int (0 : Int32)), (.ref bq1)])) rfl rfl (hb hby at_66)) ?_
  show GoesW _ _ _ _ _ _ _ _ (T.setTop (mkF m 67 #[.val (.int n), .val (.int x1), .val (.int x2), .val (.int x3), .val (.ref bq1), .val (.int (n &&& (3 : Int32))), .unset, .unset, .unset, .unset] [(.int (x1 &&& (255 : Int32)))]))
  obtain ⟨vq15, Tq15, Lq15, Xq15, qq15, nq15, stq15⟩ := callSt X hx hZ hown (valueOfC l Z aw hw (x1 &&& (255 : Int32)) cz O CS hcz (le255 _)) (W_194 hw) (W_195 hw) (W_3 hw) (W_196 hw) (by decide) e0 (by decide) (W := 0) (by decide) (by show _ + 2 ≤ 32; omega) (by show _ + 5 ≤ 1152; omega) (g := (mkF m 67 #[.val (.int n), .val (.int x1), .val (.int x2), .val (.int x3), .val (.ref bq1), .val (.int (n &&& (3 : Int32))), .unset, .unset, .unset, .unset] [(.int (x1 &&& (255 : Int32)))])) rfl (by rw [hml]; rfl) (argsL := [(.int (x1 &&& (255 : Int32)))]) (rest := []) rfl (lenOf pd_37 rfl) rfl (by show 2 * 0 + _ ≤ _; exact Nat.le_of_eq rfl) (hb hby at_67)
  dsimp only at Xq15
  obtain ⟨xr_q15, xb_q15, xkr_q15, rfl, pq15_0, pq15_1, pq15_2, pq15_3, pq15_4, pq15_5⟩ := qq15
  have Nq15 := Fr.app N nq15
  have zq15 := pq15_1.1
  have Oq15 := O.keep pq15_1 all0
  have Cq15 := C0.trans (CHr.keep pq15_1 all0 C0.1)
  have ltpq15_2 := lt_nat pq15_2.lt
  have ltpq15_5 := lt_nat pq15_5.lt
  refine GoesW.via stq15 ?_
  show GoesW _ _ _ _ _ _ _ _ (Tq15.setTop (mkF m 70 #[.val (.int n), .val (.int x1), .val (.int x2), .val (.int x3), .val (.ref bq1), .val (.int (n &&& (3 : Int32))), .unset, .unset, .unset, .unset] [(.ref xr_q15)]))
  refine GoesW.via (fun _ k => XS.astore Xq15.here hx rfl (hb hby at_70) rfl rfl (l' := #[.val (.int n), .val (.int x1), .val (.int x2), .val (.int x3), .val (.ref bq1), .val (.int (n &&& (3 : Int32))), .val (.ref xr_q15), .unset, .unset, .unset]) rfl k) ?_
  show GoesW _ _ _ _ _ _ _ _ (Tq15.setTop (mkF m 72 #[.val (.int n), .val (.int x1), .val (.int x2), .val (.int x3), .val (.ref bq1), .val (.int (n &&& (3 : Int32))), .val (.ref xr_q15), .unset, .unset, .unset] []))
  refine GoesW.via (fun _ k => XS.goto Xq15.here hx rfl (pc0 := 72) (pc' := 121) rfl (hb hby at_72) (by decide) (by decide) k) ?_
  show GoesW _ _ _ _ _ _ _ _ (Tq15.setTop (mkF m 121 #[.val (.int n), .val (.int x1), .val (.int x2), .val (.int x3), .val (.ref bq1), .val (.int (n &&& (3 : Int32))), .val (.ref xr_q15), .unset, .unset, .unset] []))
  exact seg121 l Z aw hw n x1 x2 x3 bq1 (n &&& (3 : Int32)) xr_q15 em el wl kl vl de hx hby hml hrt hlk hnm hZ hown Xq15 rfl Nq15 (by omega) (by omega) Oq15 hS (by omega) Cq15 SE SL EN FN VN SD
set_option maxRecDepth 65536 in
set_option maxHeartbeats 40000000 in
theorem law_c5 (l : Launch) (Z : State) (aw : Array Value) (hw : ∀ d ∈ tables_1, d.before aw Z = true) (n : Int32) (x1 : Int32) (x2 : Int32) (x3 : Int32) (cz : Int32) (em : Nat) (el : Nat) (wl : Nat) (kl : ClassId) (vl : List Value) (de : Nat) (bq1 : Nat) (kq1 : ClassId) (bq15 : Nat) (bq16 : Nat) (kq16 : ClassId) {p : Program} {e : Env} {s : State} {m : MethodId} {args : Array Value} {below : List Frame} {meth : Method} {c : Code} {T : State} {locs : List Loc} {cells slots n0 : Nat} {h0 h1 : Heap} (hx : p.tables.exec = Jvm.exec) (hby : c.code = code) (hml : c.maxLocals = 10) (hrt : meth.sig.returnType = some .boolean) (hlk : meth.locks = false) (hnm : meth.name = "law") {vm0 vmE : Vm} {k0 : Nat} (hZ : Z.Warmed39 vm0) (hown : vm0.findClass "com/example/zonetally/zonetally/DayFaultsWholePinLaw" = some m.cls) (X : Stand p l e room_1 (s.setVm vm0) m args below meth c T locs cells slots) (e0 : T.heap = h1) (N : Fr n0 locs) (hcells : cells ≤ 3) (hslots : slots ≤ 9) (O : Old Z n0 h1) (hS : s.Since vm0 k0) (hk0 : k0 ≤ h1.size) (C0 : CHr Z EL vmE h0 vm0 h1) (CS : Sta Z Z.heap "java/lang/String" "COMPACT_STRINGS" "Z" (.int cz)) (SE : Sta Z Z.heap "java/util/ImmutableCollections" "EMPTY" "Ljava/lang/Object;" (.ref em)) (SL : Sta Z Z.heap "java/util/ImmutableCollections" "EMPTY_LIST" "Ljava/util/ImmutableCollections$ListN;" (.ref el)) (EN : Exa Z Z.heap el "java/util/ImmutableCollections$ListN") (FN : Fld Z Z.heap el "java/util/ImmutableCollections$ListN" "elements" "[Ljava/lang/Object;" (.ref wl)) (VN : Arv Z Z.heap wl kl (.object "java/lang/Object") (0 : Int32) vl .null) (SD : Sta Z Z.heap "java/util/ArrayList" "DEFAULTCAPACITY_EMPTY_ELEMENTDATA" "[Ljava/lang/Object;" (.ref de)) (pf0 : Arv Z h1 bq1 kq1 .char (3 : Int32) [(.int (x1 &&& (255 : Int32))), (.int (x2 &&& (255 : Int32))), (.int (x3 &&& (255 : Int32)))] (.int (0 : Int32))) (pf1 : Exa Z h1 bq15 "java/lang/String") (pf2 : Safe Z EL vm0 h1 bq15) (pf3 : Fld Z h1 bq15 "java/lang/String" "value" "[B" .null) (pf4 : Fld Z h1 bq15 "java/lang/String" "coder" "B" (.int (0 : Int32))) (pf5 : Arv Z h1 bq16 kq16 .char (2 : Int32) [(.int (0 : Int32)), (.int (0 : Int32))] (.int (0 : Int32))) (hcz : ¬ cz = (0 : Int32)) (cq5 : ¬ ((n &&& (3 : Int32)) = (0 : Int32))) (cq13 : ¬ ((n &&& (3 : Int32)) = (1 : Int32))) (cq14 : (n &&& (3 : Int32)) = (2 : Int32)) (cn1 : n0 ≤ bq1) (cn2 : bq1 < bq15) (cn3 : bq15 < bq16) :
    GoesW p e below s room_1.cells room_1.slots n0 (fun v vm h => (fun vv hh => vv = some (.int (1 : Int32))) v h ∧ CHr Z EL vmE h0 vm h) (T.setTop (mkF m 88 #[.val (.int n), .val (.int x1), .val (.int x2), .val (.int x3), .val (.ref bq1), .val (.int (n &&& (3 : Int32))), .unset, .unset, .unset, .unset] [(.ref bq16), (.ref bq15), (.ref bq15)])) := by
  have zO := O.le
  have lt_bq1 := lt_nat pf0.lt
  have lt_bq15 := lt_nat pf1.lt
  have lt_bq16 := lt_nat pf5.lt
  show GoesW _ _ _ _ _ _ _ _ (T.setTop (mkF m 88 #[.val (.int n), .val (.int x1), .val (.int x2), .val (.int x3), .val (.ref bq1), .val (.int (n &&& (3 : Int32))), .unset, .unset, .unset, .unset] [(.ref bq16), (.ref bq15), (.ref bq15)]))
  refine GoesW.via (fun _ k => XS.dup X.here hx rfl (hb hby at_88) rfl rfl k) ?_
  show GoesW _ _ _ _ _ _ _ _ (T.setTop (mkF m 89 #[.val (.int n), .val (.int x1), .val (.int x2), .val (.int x3), .val (.ref bq1), .val (.int (n &&& (3 : Int32))), .unset, .unset, .unset, .unset] [(.ref bq16), (.ref bq16), (.ref bq15), (.ref bq15)]))
  refine GoesW.via (fun _ k => XT.iconstV X.here hx rfl (0 : Int32) (hb hby at_89) (by decide) k) ?_
  show GoesW _ _ _ _ _ _ _ _ (T.setTop (mkF m 90 #[.val (.int n), .val (.int x1), .val (.int x2), .val (.int x3), .val (.ref bq1), .val (.int (n &&& (3 : Int32))), .unset, .unset, .unset, .unset] [(.int (0 : Int32)), (.ref bq16), (.ref bq16), (.ref bq15), (.ref bq15)]))
  refine GoesW.via (fun _ k => XS.aload X.here hx rfl (hb hby at_90) rfl rfl k) ?_
  show GoesW _ _ _ _ _ _ _ _ (T.setTop (mkF m 92 #[.val (.int n), .val (.int x1), .val (.int x2), .val (.int x3), .val (.ref bq1), .val (.int (n &&& (3 : Int32))), .unset, .unset, .unset, .unset] [(.ref bq1), (.int (0 : Int32)), (.ref bq16), (.ref bq16), (.ref bq15), (.ref bq15)]))
  refine GoesW.via (fun _ k => XT.iconstV X.here hx rfl (0 : Int32) (hb hby at_92) (by decide) k) ?_
  show GoesW _ _ _ _ _ _ _ _ (T.setTop (mkF m 93 #[.val (.int n), .val (.int x1), .val (.int x2), .val (.int x3), .val (.ref bq1), .val (.int (n &&& (3 : Int32))), .unset, .unset, .unset, .unset] [(.int (0 : Int32)), (.ref bq1), (.int (0 : Int32)), (.ref bq16), (.ref bq16), (.ref bq15), (.ref bq15)]))
  obtain ⟨clq22, Arq22, qq22, Sq22, Nnq22, Hq22, Gq22⟩ := id pf0
  have hinq22 : ¬ ((0 : Int32) < 0 ∨ clq22.slots.size ≤ ((0 : Int32)).toNatClampNeg) := inb_of Sq22 ⟨by decide, by decide⟩
  refine GoesW.via (X.caload hx (j := (0 : Int32)) (v := (.int (x1 &&& (255 : Int32)))) (by rw [e0]; exact Arq22.1) (State.isArrayOf_alike hZ.alike Arq22.2.1) Arq22.2.2 hinq22 (Hq22.at hinq22 rfl) (g := (mkF m 93 #[.val (.int n), .val (.int x1), .val (.int x2), .val (.int x3), .val (.ref bq1), .val (.int (n &&& (3 : Int32))), .unset, .unset, .unset, .unset] [(.int (0 : Int32)), (.ref bq1), (.int (0 : Int32)), (.ref bq16), (.ref bq16), (.ref bq15), (.ref bq15)])) rfl rfl (hb hby at_93)) ?_
  show GoesW _ _ _ _ _ _ _ _ (T.setTop (mkF m 94 #[.val (.int n), .val (.int x1), .val (.int x2), .val (.int x3), .val (.ref bq1), .val (.int (n &&& (3 : Int32))), .unset, .unset, .unset, .unset] [(.int (x1 &&& (255 : Int32))), (.int (0 : Int32)), (.ref bq16), (.ref bq16), (.ref bq15), (.ref bq15)]))
  obtain ⟨clq23, Arq23, qq23, Sq23, Nnq23, Hq23, Gq23⟩ := id pf5
  have hinq23 : ¬ ((0 : Int32) < 0 ∨ clq23.slots.size ≤ ((0 : Int32)).toNatClampNeg) := inb_of Sq23 ⟨by decide, by decide⟩
  obtain ⟨Tq23, hq23, Xq23, eq23, Wq23, stq23⟩ := stC X hx hZ e0 Arq23 (j := (0 : Int32)) hinq23 (g := (mkF m 94 #[.val (.int n), .val (.int x1), .val (.int x2), .val (.int x3), .val (.ref bq1), .val (.int (n &&& (3 : Int32))), .unset, .unset, .unset, .unset] [(.int (x1 &&& (255 : Int32))), (.int (0 : Int32)), (.ref bq16), (.ref bq16), (.ref bq15), (.ref bq15)])) rfl rfl (hb hby at_94)
  have Nq23 := Fr.snoc Xq23 N (by omega)
  have zq23 := Wq23.size
  have Oq23 := O.wr Wq23 (by omega)
  have Cq23 := C0.trans (CHr.wr Wq23 (Safe.arvO hZ.alike pf5 (by decide)) C0.1)
  have Vq23 : Arv Z hq23 bq16 kq16 .char (2 : Int32) [(.int (nar .char (x1 &&& (255 : Int32)))), (.int (0 : Int32))] (.int (0 : Int32)) := Arv.set Arq23 qq23 Sq23 Nnq23 Hq23 Gq23 (fits_nar_char _) Wq23 0 rfl (Nat.le_of_ble_eq_true rfl)
  refine GoesW.via stq23 ?_
  show GoesW _ _ _ _ _ _ _ _ (Tq23.setTop (mkF m 95 #[.val (.int n), .val (.int x1), .val (.int x2), .val (.int x3), .val (.ref bq1), .val (.int (n &&& (3 : Int32))), .unset, .unset, .unset, .unset] [(.ref bq16), (.ref bq15), (.ref bq15)]))
  refine GoesW.via (fun _ k => XS.dup Xq23.here hx rfl (hb hby at_95) rfl rfl k) ?_
  show GoesW _ _ _ _ _ _ _ _ (Tq23.setTop (mkF m 96 #[.val (.int n), .val (.int x1), .val (.int x2), .val (.int x3), .val (.ref bq1), .val (.int (n &&& (3 : Int32))), .unset, .unset, .unset, .unset] [(.ref bq16), (.ref bq16), (.ref bq15), (.ref bq15)]))
  refine GoesW.via (fun _ k => XT.iconstV Xq23.here hx rfl (1 : Int32) (hb hby at_96) (by decide) k) ?_
  show GoesW _ _ _ _ _ _ _ _ (Tq23.setTop (mkF m 97 #[.val (.int n), .val (.int x1), .val (.int x2), .val (.int x3), .val (.ref bq1), .val (.int (n &&& (3 : Int32))), .unset, .unset, .unset, .unset] [(.int (1 : Int32)), (.ref bq16), (.ref bq16), (.ref bq15), (.ref bq15)]))
  refine GoesW.via (fun _ k => XS.aload Xq23.here hx rfl (hb hby at_97) rfl rfl k) ?_
  show GoesW _ _ _ _ _ _ _ _ (Tq23.setTop (mkF m 99 #[.val (.int n), .val (.int x1), .val (.int x2), .val (.int x3), .val (.ref bq1), .val (.int (n &&& (3 : Int32))), .unset, .unset, .unset, .unset] [(.ref bq1), (.int (1 : Int32)), (.ref bq16), (.ref bq16), (.ref bq15), (.ref bq15)]))
  refine GoesW.via (fun _ k => XT.iconstV Xq23.here hx rfl (1 : Int32) (hb hby at_99) (by decide) k) ?_
  show GoesW _ _ _ _ _ _ _ _ (Tq23.setTop (mkF m 100 #[.val (.int n), .val (.int x1), .val (.int x2), .val (.int x3), .val (.ref bq1), .val (.int (n &&& (3 : Int32))), .unset, .unset, .unset, .unset] [(.int (1 : Int32)), (.ref bq1), (.int (1 : Int32)), (.ref bq16), (.ref bq16), (.ref bq15), (.ref bq15)]))
  have fq25 : Arv Z hq23 bq1 kq1 .char (3 : Int32) [(.int (x1 &&& (255 : Int32))), (.int (x2 &&& (255 : Int32))), (.int (x3 &&& (255 : Int32)))] (.int (0 : Int32)) := (pf0.other Wq23 (ne_ok (by omega)))
  obtain ⟨clq24, Arq24, qq24, Sq24, Nnq24, Hq24, Gq24⟩ := id fq25
  have hinq24 : ¬ ((1 : Int32) < 0 ∨ clq24.slots.size ≤ ((1 : Int32)).toNatClampNeg) := inb_of Sq24 ⟨by decide, by decide⟩
  refine GoesW.via (Xq23.caload hx (j := (1 : Int32)) (v := (.int (x2 &&& (255 : Int32)))) (by rw [eq23]; exact Arq24.1) (State.isArrayOf_alike hZ.alike Arq24.2.1) Arq24.2.2 hinq24 (Hq24.at hinq24 rfl) (g := (mkF m 100 #[.val (.int n), .val (.int x1), .val (.int x2), .val (.int x3), .val (.ref bq1), .val (.int (n &&& (3 : Int32))), .unset, .unset, .unset, .unset] [(.int (1 : Int32)), (.ref bq1), (.int (1 : Int32)), (.ref bq16), (.ref bq16), (.ref bq15), (.ref bq15)])) rfl rfl (hb hby at_100)) ?_
  show GoesW _ _ _ _ _ _ _ _ (Tq23.setTop (mkF m 101 #[.val (.int n), .val (.int x1), .val (.int x2), .val (.int x3), .val (.ref bq1), .val (.int (n &&& (3 : Int32))), .unset, .unset, .unset, .unset] [(.int (x2 &&& (255 : Int32))), (.int (1 : Int32)), (.ref bq16), (.ref bq16), (.ref bq15), (.ref bq15)]))
  obtain ⟨clq26, Arq26, qq26, Sq26, Nnq26, Hq26, Gq26⟩ := id Vq23
  have hinq26 : ¬ ((1 : Int32) < 0 ∨ clq26.slots.size ≤ ((1 : Int32)).toNatClampNeg) := inb_of Sq26 ⟨by decide, by decide⟩
  obtain ⟨Tq26, hq26, Xq26, eq26, Wq26, stq26⟩ := stC Xq23 hx hZ eq23 Arq26 (j := (1 : Int32)) hinq26 (g := (mkF m 101 #[.val (.int n), .val (.int x1), .val (.int x2), .val (.int x3), .val (.ref bq1), .val (.int (n &&& (3 : Int32))), .unset, .unset, .unset, .unset] [(.int (x2 &&& (255 : Int32))), (.int (1 : Int32)), (.ref bq16), (.ref bq16), (.ref bq15), (.ref bq15)])) rfl rfl (hb hby at_101)
  have Nq26 := Fr.snoc Xq26 Nq23 (by omega)
  have zq26 := Wq26.size
  have Oq26 := Oq23.wr Wq26 (by omega)
  have Cq26 := Cq23.trans (CHr.wr Wq26 (Safe.arvO hZ.alike Vq23 (by decide)) Cq23.1)
  have Vq26 : Arv Z hq26 bq16 kq16 .char (2 : Int32) [(.int (nar .char (x1 &&& (255 : Int32)))), (.int (nar .char (x2 &&& (255 : Int32))))] (.int (0 : Int32)) := Arv.set Arq26 qq26 Sq26 Nnq26 Hq26 Gq26 (fits_nar_char _) Wq26 1 rfl (Nat.le_of_ble_eq_true rfl)
  refine GoesW.via stq26 ?_
  show GoesW _ _ _ _ _ _ _ _ (Tq26.setTop (mkF m 102 #[.val (.int n), .val (.int x1), .val (.int x2), .val (.int x3), .val (.ref bq1), .val (.int (n &&& (3 : Int32))), .unset, .unset, .unset, .unset] [(.ref bq16), (.ref bq15), (.ref bq15)]))
  have VD : Arv Z hq26 bq16 kq16 .char (2 : Int32) [(.int (x1 &&& (255 : Int32))), (.int (x2 &&& (255 : Int32)))] (.int (0 : Int32)) := by
    have q := Vq26
    rw [ch2, ch2] at q
    exact q
  have fq27 : Exa Z hq26 bq15 "java/lang/String" := ((pf1.wr Wq23).wr Wq26)
  have fq28 : Fld Z hq26 bq15 "java/lang/String" "value" "[B" .null := ((pf3.other Wq23 (Or.inl (ne_ok (by omega)))).other Wq26 (Or.inl (ne_ok (by omega))))
  have fq29 : Fld Z hq26 bq15 "java/lang/String" "coder" "B" (.int (0 : Int32)) := ((pf4.other Wq23 (Or.inl (ne_ok (by omega)))).other Wq26 (Or.inl (ne_ok (by omega))))
  obtain ⟨vq30, Tq30, Lq30, Xq30, qq30, nq30, stq30⟩ := callSp Xq26 hx hZ hown (str_2 l Z aw hw bq15 bq16 kq16 cz (x1 &&& (255 : Int32)) (x2 &&& (255 : Int32)) Oq26 CS fq27 fq28 fq29 VD (by omega) hcz (le255 _) (le255 _)) rfl (W_4 hw) (W_5 hw) (W_3 hw) (W_6 hw) (by decide) eq26 (by decide) (W := 1) (by decide) (by show _ + 1 ≤ 32; omega) (by show _ + 2 ≤ 1152; omega) (g := (mkF m 102 #[.val (.int n), .val (.int x1), .val (.int x2), .val (.int x3), .val (.ref bq1), .val (.int (n &&& (3 : Int32))), .unset, .unset, .unset, .unset] [(.ref bq16), (.ref bq15), (.ref bq15)])) rfl (by rw [hml]; rfl) (a := bq15) (argsL := [(.ref bq16)]) (rest := [(.ref bq15)]) rfl (lenOf pd_36 rfl) rfl (by show 2 * 0 + _ ≤ _; exact Nat.le_of_eq rfl) (hb hby at_102)
  dsimp only at Xq30
  obtain ⟨xb_q30, xkb_q30, rfl, pq30_0, pq30_1, pq30_2, pq30_3, pq30_4, pq30_5⟩ := qq30
  have Nq30 := Fr.app Nq26 nq30
  have fq31 : Safe Z EL vm0 hq26 bq15 := (Safe.wr Wq26 (Safe.arvO hZ.alike Vq23 (by decide)) Cq23.1 (Safe.wr Wq23 (Safe.arvO hZ.alike pf5 (by decide)) C0.1 pf2))
  have zq30 := pq30_0.1
  have Oq30 := Oq26.keep pq30_0 (allS (by omega) all0)
  have Cq30 := Cq26.trans (CHr.keep pq30_0 (allS fq31 all0) Cq26.1)
  have ltpq30_1 := lt_nat pq30_1.lt
  have ltpq30_4 := lt_nat pq30_4.lt
  refine GoesW.via stq30 ?_
  show GoesW _ _ _ _ _ _ _ _ (Tq30.setTop (mkF m 105 #[.val (.int n), .val (.int x1), .val (.int x2), .val (.int x3), .val (.ref bq1), .val (.int (n &&& (3 : Int32))), .unset, .unset, .unset, .unset] [(.ref bq15)]))
  refine GoesW.via (fun _ k => XS.astore Xq30.here hx rfl (hb hby at_105) rfl rfl (l' := #[.val (.int n), .val (.int x1), .val (.int x2), .val (.int x3), .val (.ref bq1), .val (.int (n &&& (3 : Int32))), .val (.ref bq15), .unset, .unset, .unset]) rfl k) ?_
  show GoesW _ _ _ _ _ _ _ _ (Tq30.setTop (mkF m 107 #[.val (.int n), .val (.int x1), .val (.int x2), .val (.int x3), .val (.ref bq1), .val (.int (n &&& (3 : Int32))), .val (.ref bq15), .unset, .unset, .unset] []))
  refine GoesW.via (fun _ k => XS.goto Xq30.here hx rfl (pc0 := 107) (pc' := 121) rfl (hb hby at_107) (by decide) (by decide) k) ?_
  show GoesW _ _ _ _ _ _ _ _ (Tq30.setTop (mkF m 121 #[.val (.int n), .val (.int x1), .val (.int x2), .val (.int x3), .val (.ref bq1), .val (.int (n &&& (3 : Int32))), .val (.ref bq15), .unset, .unset, .unset] []))
  exact seg121 l Z aw hw n x1 x2 x3 bq1 (n &&& (3 : Int32)) bq15 em el wl kl vl de hx hby hml hrt hlk hnm hZ hown Xq30 rfl Nq30 (by omega) (by omega) Oq30 hS (by omega) Cq30 SE SL EN FN VN SD
set_option maxRecDepth 65536 in
set_option maxHeartbeats 40000000 in
theorem law_c6 (l : Launch) (Z : State) (aw : Array Value) (hw : ∀ d ∈ tables_1, d.before aw Z = true) (n : Int32) (x1 : Int32) (x2 : Int32) (x3 : Int32) (cz : Int32) (em : Nat) (el : Nat) (wl : Nat) (kl : ClassId) (vl : List Value) (de : Nat) (bq1 : Nat) (kq1 : ClassId) (bq22 : Nat) (xb_q24 : Nat) (xkb_q24 : ClassId) {p : Program} {e : Env} {s : State} {m : MethodId} {args : Array Value} {below : List Frame} {meth : Method} {c : Code} {T : State} {locs : List Loc} {cells slots n0 : Nat} {h0 h1 : Heap} (hx : p.tables.exec = Jvm.exec) (hby : c.code = code) (hml : c.maxLocals = 10) (hrt : meth.sig.returnType = some .boolean) (hlk : meth.locks = false) (hnm : meth.name = "law") {vm0 vmE : Vm} {k0 : Nat} (hZ : Z.Warmed39 vm0) (hown : vm0.findClass "com/example/zonetally/zonetally/DayFaultsWholePinLaw" = some m.cls) (X : Stand p l e room_1 (s.setVm vm0) m args below meth c T locs cells slots) (e0 : T.heap = h1) (N : Fr n0 locs) (hcells : cells ≤ 3) (hslots : slots ≤ 10) (O : Old Z n0 h1) (hS : s.Since vm0 k0) (hk0 : k0 ≤ h1.size) (C0 : CHr Z EL vmE h0 vm0 h1) (CS : Sta Z Z.heap "java/lang/String" "COMPACT_STRINGS" "Z" (.int cz)) (SE : Sta Z Z.heap "java/util/ImmutableCollections" "EMPTY" "Ljava/lang/Object;" (.ref em)) (SL : Sta Z Z.heap "java/util/ImmutableCollections" "EMPTY_LIST" "Ljava/util/ImmutableCollections$ListN;" (.ref el)) (EN : Exa Z Z.heap el "java/util/ImmutableCollections$ListN") (FN : Fld Z Z.heap el "java/util/ImmutableCollections$ListN" "elements" "[Ljava/lang/Object;" (.ref wl)) (VN : Arv Z Z.heap wl kl (.object "java/lang/Object") (0 : Int32) vl .null) (SD : Sta Z Z.heap "java/util/ArrayList" "DEFAULTCAPACITY_EMPTY_ELEMENTDATA" "[Ljava/lang/Object;" (.ref de)) (pf0 : Arv Z h1 bq1 kq1 .char (3 : Int32) [(.int (x1 &&& (255 : Int32))), (.int (x2 &&& (255 : Int32))), (.int (x3 &&& (255 : Int32)))] (.int (0 : Int32))) (pf1 : Exa Z h1 bq22 "java/lang/String") (pf2 : Safe Z EL vm0 h1 bq22) (pf3 : Fld Z h1 bq22 "java/lang/String" "value" "[B" (.ref xb_q24)) (pf4 : Fld Z h1 bq22 "java/lang/String" "coder" "B" (.int (0 : Int32))) (pf5 : Arv Z h1 xb_q24 xkb_q24 .byte (3 : Int32) [(.int (nar .byte (x1 &&& (255 : Int32)).toInt8.toInt32)), (.int (nar .byte (x2 &&& (255 : Int32)).toInt8.toInt32)), (.int (nar .byte (x3 &&& (255 : Int32)).toInt8.toInt32))] (.int (0 : Int32))) (hcz : ¬ cz = (0 : Int32)) (cq5 : ¬ ((n &&& (3 : Int32)) = (0 : Int32))) (cq13 : ¬ ((n &&& (3 : Int32)) = (1 : Int32))) (cq14 : ¬ ((n &&& (3 : Int32)) = (2 : Int32))) (cn1 : n0 ≤ bq1) (cn2 : bq1 < bq22) (cn3 : bq22 < xb_q24) :
    GoesW p e below s room_1.cells room_1.slots n0 (fun v vm h => (fun vv hh => vv = some (.int (1 : Int32))) v h ∧ CHr Z EL vmE h0 vm h) (T.setTop (mkF m 119 #[.val (.int n), .val (.int x1), .val (.int x2), .val (.int x3), .val (.ref bq1), .val (.int (n &&& (3 : Int32))), .unset, .unset, .unset, .unset] [(.ref bq22)])) := by
  have zO := O.le
  have lt_bq1 := lt_nat pf0.lt
  have lt_bq22 := lt_nat pf1.lt
  have lt_xb_q24 := lt_nat pf5.lt
  show GoesW _ _ _ _ _ _ _ _ (T.setTop (mkF m 119 #[.val (.int n), .val (.int x1), .val (.int x2), .val (.int x3), .val (.ref bq1), .val (.int (n &&& (3 : Int32))), .unset, .unset, .unset, .unset] [(.ref bq22)]))
  refine GoesW.via (fun _ k => XS.astore X.here hx rfl (hb hby at_119) rfl rfl (l' := #[.val (.int n), .val (.int x1), .val (.int x2), .val (.int x3), .val (.ref bq1), .val (.int (n &&& (3 : Int32))), .val (.ref bq22), .unset, .unset, .unset]) rfl k) ?_
  show GoesW _ _ _ _ _ _ _ _ (T.setTop (mkF m 121 #[.val (.int n), .val (.int x1), .val (.int x2), .val (.int x3), .val (.ref bq1), .val (.int (n &&& (3 : Int32))), .val (.ref bq22), .unset, .unset, .unset] []))
  exact seg121 l Z aw hw n x1 x2 x3 bq1 (n &&& (3 : Int32)) bq22 em el wl kl vl de hx hby hml hrt hlk hnm hZ hown X e0 N (by omega) (by omega) O hS (by omega) C0 SE SL EN FN VN SD
set_option maxRecDepth 65536 in
set_option maxHeartbeats 40000000 in
theorem law_c4 (l : Launch) (Z : State) (aw : Array Value) (hw : ∀ d ∈ tables_1, d.before aw Z = true) (n : Int32) (x1 : Int32) (x2 : Int32) (x3 : Int32) (cz : Int32) (em : Nat) (el : Nat) (wl : Nat) (kl : ClassId) (vl : List Value) (de : Nat) (bq1 : Nat) (kq1 : ClassId) {p : Program} {e : Env} {s : State} {m : MethodId} {args : Array Value} {below : List Frame} {meth : Method} {c : Code} {T : State} {locs : List Loc} {cells slots n0 : Nat} {h0 h1 : Heap} (hx : p.tables.exec = Jvm.exec) (hby : c.code = code) (hml : c.maxLocals = 10) (hrt : meth.sig.returnType = some .boolean) (hlk : meth.locks = false) (hnm : meth.name = "law") {vm0 vmE : Vm} {k0 : Nat} (hZ : Z.Warmed39 vm0) (hown : vm0.findClass "com/example/zonetally/zonetally/DayFaultsWholePinLaw" = some m.cls) (X : Stand p l e room_1 (s.setVm vm0) m args below meth c T locs cells slots) (e0 : T.heap = h1) (N : Fr n0 locs) (hcells : cells ≤ 1) (hslots : slots ≤ 3) (O : Old Z n0 h1) (hS : s.Since vm0 k0) (hk0 : k0 ≤ h1.size) (C0 : CHr Z EL vmE h0 vm0 h1) (CS : Sta Z Z.heap "java/lang/String" "COMPACT_STRINGS" "Z" (.int cz)) (SE : Sta Z Z.heap "java/util/ImmutableCollections" "EMPTY" "Ljava/lang/Object;" (.ref em)) (SL : Sta Z Z.heap "java/util/ImmutableCollections" "EMPTY_LIST" "Ljava/util/ImmutableCollections$ListN;" (.ref el)) (EN : Exa Z Z.heap el "java/util/ImmutableCollections$ListN") (FN : Fld Z Z.heap el "java/util/ImmutableCollections$ListN" "elements" "[Ljava/lang/Object;" (.ref wl)) (VN : Arv Z Z.heap wl kl (.object "java/lang/Object") (0 : Int32) vl .null) (SD : Sta Z Z.heap "java/util/ArrayList" "DEFAULTCAPACITY_EMPTY_ELEMENTDATA" "[Ljava/lang/Object;" (.ref de)) (pf0 : Arv Z h1 bq1 kq1 .char (3 : Int32) [(.int (x1 &&& (255 : Int32))), (.int (x2 &&& (255 : Int32))), (.int (x3 &&& (255 : Int32)))] (.int (0 : Int32))) (hcz : ¬ cz = (0 : Int32)) (cq5 : ¬ ((n &&& (3 : Int32)) = (0 : Int32))) (cq13 : ¬ ((n &&& (3 : Int32)) = (1 : Int32))) (cn1 : n0 ≤ bq1) :
    GoesW p e below s room_1.cells room_1.slots n0 (fun v vm h => (fun vv hh => vv = some (.int (1 : Int32))) v h ∧ CHr Z EL vmE h0 vm h) (T.setTop (mkF m 77 #[.val (.int n), .val (.int x1), .val (.int x2), .val (.int x3), .val (.ref bq1), .val (.int (n &&& (3 : Int32))), .unset, .unset, .unset, .unset] [(.int (n &&& (3 : Int32)))])) := by
  have zO := O.le
  have lt_bq1 := lt_nat pf0.lt
  show GoesW _ _ _ _ _ _ _ _ (T.setTop (mkF m 77 #[.val (.int n), .val (.int x1), .val (.int x2), .val (.int x3), .val (.ref bq1), .val (.int (n &&& (3 : Int32))), .unset, .unset, .unset, .unset] [(.int (n &&& (3 : Int32)))]))
  refine GoesW.via (fun _ k => XT.iconstV X.here hx rfl (2 : Int32) (hb hby at_77) (by decide) k) ?_
  show GoesW _ _ _ _ _ _ _ _ (T.setTop (mkF m 78 #[.val (.int n), .val (.int x1), .val (.int x2), .val (.int x3), .val (.ref bq1), .val (.int (n &&& (3 : Int32))), .unset, .unset, .unset, .unset] [(.int (2 : Int32)), (.int (n &&& (3 : Int32)))]))
  by_cases cq14 : (n &&& (3 : Int32)) = (2 : Int32)
  · skip
    refine GoesW.via (fun _ k => XS.icmpNo X.here hx rfl (hb hby at_78) rfl (XT.ii_ne_f cq14) k) ?_
    show GoesW _ _ _ _ _ _ _ _ (T.setTop (mkF m 81 #[.val (.int n), .val (.int x1), .val (.int x2), .val (.int x3), .val (.ref bq1), .val (.int (n &&& (3 : Int32))), .unset, .unset, .unset, .unset] []))
    obtain ⟨Tq15, hq15, Xq15, eq15, Eq15, Aq15, Dq15, -, stq15⟩ := newO X hx hZ hown (W_1 hw) (W_2 hw) (W_3 hw) e0 (g := (mkF m 81 #[.val (.int n), .val (.int x1), .val (.int x2), .val (.int x3), .val (.ref bq1), .val (.int (n &&& (3 : Int32))), .unset, .unset, .unset, .unset] [])) rfl (hb hby at_81) (by show _ + 1 ≤ 32; omega) (by show _ + 4 ≤ 1152; omega)
    obtain ⟨bq15, gq15⟩ : ∃ z, z = h1.size := ⟨_, rfl⟩
    rw [← gq15] at Aq15 Dq15 stq15
    have zq15 := Eq15.1
    have Oq15 := O.ext Eq15
    have Cq15 := C0.trans (CHr.ext Eq15 C0.1)
    have lq15 := lt_nat Aq15.lt
    refine GoesW.via stq15 ?_
    show GoesW _ _ _ _ _ _ _ _ (Tq15.setTop (mkF m 84 #[.val (.int n), .val (.int x1), .val (.int x2), .val (.int x3), .val (.ref bq1), .val (.int (n &&& (3 : Int32))), .unset, .unset, .unset, .unset] [(.ref bq15)]))
    refine GoesW.via (fun _ k => XS.dup Xq15.here hx rfl (hb hby at_84) rfl rfl k) ?_
    show GoesW _ _ _ _ _ _ _ _ (Tq15.setTop (mkF m 85 #[.val (.int n), .val (.int x1), .val (.int x2), .val (.int x3), .val (.ref bq1), .val (.int (n &&& (3 : Int32))), .unset, .unset, .unset, .unset] [(.ref bq15), (.ref bq15)]))
    refine GoesW.via (fun _ k => XT.iconstV Xq15.here hx rfl (2 : Int32) (hb hby at_85) (by decide) k) ?_
    show GoesW _ _ _ _ _ _ _ _ (Tq15.setTop (mkF m 86 #[.val (.int n), .val (.int x1), .val (.int x2), .val (.int x3), .val (.ref bq1), .val (.int (n &&& (3 : Int32))), .unset, .unset, .unset, .unset] [(.int (2 : Int32)), (.ref bq15), (.ref bq15)]))
    obtain ⟨Tq16, hq16, kq16, Xq16, eq16, Eq16, Aq16, stq16⟩ := newP (aty := .char) Xq15 hx hZ (W_0 hw) eq15 (g := (mkF m 86 #[.val (.int n), .val (.int x1), .val (.int x2), .val (.int x3), .val (.ref bq1), .val (.int (n &&& (3 : Int32))), .unset, .unset, .unset, .unset] [(.int (2 : Int32)), (.ref bq15), (.ref bq15)])) rfl (hb hby at_86) rfl (by decide) (cap := 2) (by decide) (by decide) (by show _ + 1 ≤ 32; omega) (by show _ + 2 ≤ 1152; omega)
    obtain ⟨bq16, gq16⟩ : ∃ z, z = hq15.size := ⟨_, rfl⟩
    rw [← gq16] at Aq16 stq16
    have zq16 := Eq16.1
    have Oq16 := Oq15.ext Eq16
    have Cq16 := Cq15.trans (CHr.ext Eq16 Cq15.1)
    have Vq16 : Arv Z hq16 bq16 kq16 .char (2 : Int32) [(.int (0 : Int32)), (.int (0 : Int32))] (.int (0 : Int32)) := (Arv.new Aq16 (by decide)).pad (pad_rep [] (.int (0 : Int32)) 2)
    have lq16 := lt_nat Vq16.lt
    refine GoesW.via stq16 ?_
    show GoesW _ _ _ _ _ _ _ _ (Tq16.setTop (mkF m 88 #[.val (.int n), .val (.int x1), .val (.int x2), .val (.int x3), .val (.ref bq1), .val (.int (n &&& (3 : Int32))), .unset, .unset, .unset, .unset] [(.ref bq16), (.ref bq15), (.ref bq15)]))
    have fq17 : Arv Z hq16 bq1 kq1 .char (3 : Int32) [(.int (x1 &&& (255 : Int32))), (.int (x2 &&& (255 : Int32))), (.int (x3 &&& (255 : Int32)))] (.int (0 : Int32)) := ((pf0.ext Eq15).ext Eq16)
    have fq18 : Exa Z hq16 bq15 "java/lang/String" := (Aq15.ext Eq16)
    have fq19 : Safe Z EL vm0 hq16 bq15 := (Safe.ext Eq16 Cq15.1 (Safe.ext Eq15 C0.1 (Safe.new (Nat.le_of_eq gq15.symm))))
    have fq20 : Fld Z hq16 bq15 "java/lang/String" "value" "[B" .null := ((Dq15 (Or.inr (W_16 hw)) (ty := (.array .byte)) (by decide)).ext Eq16)
    have fq21 : Fld Z hq16 bq15 "java/lang/String" "coder" "B" (.int (0 : Int32)) := ((Dq15 (Or.inr (W_17 hw)) (ty := .byte) (by decide)).ext Eq16)
    exact law_c5 l Z aw hw n x1 x2 x3 cz em el wl kl vl de bq1 kq1 bq15 bq16 kq16 hx hby hml hrt hlk hnm hZ hown Xq16 eq16 N (by omega) (by omega) Oq16 hS (by omega) Cq16 CS SE SL EN FN VN SD fq17 fq18 fq19 fq20 fq21 Vq16 hcz cq5 cq13 cq14 (by omega) (by omega) (by omega)
  · skip
    refine GoesW.via (fun _ k => XS.icmpYes X.here hx rfl (pc0 := 78) (pc' := 110) rfl (hb hby at_78) rfl (XT.ii_ne_t cq14) (by decide) (by decide) k) ?_
    show GoesW _ _ _ _ _ _ _ _ (T.setTop (mkF m 110 #[.val (.int n), .val (.int x1), .val (.int x2), .val (.int x3), .val (.ref bq1), .val (.int (n &&& (3 : Int32))), .unset, .unset, .unset, .unset] []))
    obtain ⟨Tq22, hq22, Xq22, eq22, Eq22, Aq22, Dq22, -, stq22⟩ := newO X hx hZ hown (W_1 hw) (W_2 hw) (W_3 hw) e0 (g := (mkF m 110 #[.val (.int n), .val (.int x1), .val (.int x2), .val (.int x3), .val (.ref bq1), .val (.int (n &&& (3 : Int32))), .unset, .unset, .unset, .unset] [])) rfl (hb hby at_110) (by show _ + 1 ≤ 32; omega) (by show _ + 4 ≤ 1152; omega)
    obtain ⟨bq22, gq22⟩ : ∃ z, z = h1.size := ⟨_, rfl⟩
    rw [← gq22] at Aq22 Dq22 stq22
    have zq22 := Eq22.1
    have Oq22 := O.ext Eq22
    have Cq22 := C0.trans (CHr.ext Eq22 C0.1)
    have lq22 := lt_nat Aq22.lt
    refine GoesW.via stq22 ?_
    show GoesW _ _ _ _ _ _ _ _ (Tq22.setTop (mkF m 113 #[.val (.int n), .val (.int x1), .val (.int x2), .val (.int x3), .val (.ref bq1), .val (.int (n &&& (3 : Int32))), .unset, .unset, .unset, .unset] [(.ref bq22)]))
    refine GoesW.via (fun _ k => XS.dup Xq22.here hx rfl (hb hby at_113) rfl rfl k) ?_
    show GoesW _ _ _ _ _ _ _ _ (Tq22.setTop (mkF m 114 #[.val (.int n), .val (.int x1), .val (.int x2), .val (.int x3), .val (.ref bq1), .val (.int (n &&& (3 : Int32))), .unset, .unset, .unset, .unset] [(.ref bq22), (.ref bq22)]))
    refine GoesW.via (fun _ k => XS.aload Xq22.here hx rfl (hb hby at_114) rfl rfl k) ?_
    show GoesW _ _ _ _ _ _ _ _ (Tq22.setTop (mkF m 116 #[.val (.int n), .val (.int x1), .val (.int x2), .val (.int x3), .val (.ref bq1), .val (.int (n &&& (3 : Int32))), .unset, .unset, .unset, .unset] [(.ref bq1), (.ref bq22), (.ref bq22)]))
    have fq23 : Arv Z hq22 bq1 kq1 .char (3 : Int32) [(.int (x1 &&& (255 : Int32))), (.int (x2 &&& (255 : Int32))), (.int (x3 &&& (255 : Int32)))] (.int (0 : Int32)) := (pf0.ext Eq22)
    obtain ⟨vq24, Tq24, Lq24, Xq24, qq24, nq24, stq24⟩ := callSp Xq22 hx hZ hown (str_3 l Z aw hw bq22 bq1 kq1 cz (x1 &&& (255 : Int32)) (x2 &&& (255 : Int32)) (x3 &&& (255 : Int32)) Oq22 CS Aq22 (Dq22 (Or.inr (W_16 hw)) (ty := (.array .byte)) (by decide)) (Dq22 (Or.inr (W_17 hw)) (ty := .byte) (by decide)) fq23 (by omega) hcz (le255 _) (le255 _) (le255 _)) rfl (W_4 hw) (W_5 hw) (W_3 hw) (W_6 hw) (by decide) eq22 (by decide) (W := 1) (by decide) (by show _ + 1 ≤ 32; omega) (by show _ + 3 ≤ 1152; omega) (g := (mkF m 116 #[.val (.int n), .val (.int x1), .val (.int x2), .val (.int x3), .val (.ref bq1), .val (.int (n &&& (3 : Int32))), .unset, .unset, .unset, .unset] [(.ref bq1), (.ref bq22), (.ref bq22)])) rfl (by rw [hml]; rfl) (a := bq22) (argsL := [(.ref bq1)]) (rest := [(.ref bq22)]) rfl (lenOf pd_36 rfl) rfl (by show 2 * 0 + _ ≤ _; exact Nat.le_of_eq rfl) (hb hby at_116)
    dsimp only at Xq24
    obtain ⟨xb_q24, xkb_q24, rfl, pq24_0, pq24_1, pq24_2, pq24_3, pq24_4, pq24_5⟩ := qq24
    have Nq24 := Fr.app N nq24
    have fq25 : Safe Z EL vm0 hq22 bq22 := (Safe.ext Eq22 C0.1 (Safe.new (Nat.le_of_eq gq22.symm)))
    have zq24 := pq24_0.1
    have Oq24 := Oq22.keep pq24_0 (allS (by omega) all0)
    have Cq24 := Cq22.trans (CHr.keep pq24_0 (allS fq25 all0) Cq22.1)
    have ltpq24_1 := lt_nat pq24_1.lt
    have ltpq24_4 := lt_nat pq24_4.lt
    refine GoesW.via stq24 ?_
    show GoesW _ _ _ _ _ _ _ _ (Tq24.setTop (mkF m 119 #[.val (.int n), .val (.int x1), .val (.int x2), .val (.int x3), .val (.ref bq1), .val (.int (n &&& (3 : Int32))), .unset, .unset, .unset, .unset] [(.ref bq22)]))
    have fq26 : Arv Z Tq24.heap bq1 kq1 .char (3 : Int32) [(.int (x1 &&& (255 : Int32))), (.int (x2 &&& (255 : Int32))), (.int (x3 &&& (255 : Int32)))] (.int (0 : Int32)) := (fq23.keep pq24_0 (ninS (ne_ok (by omega)) nin0))
    have fq27 : Safe Z EL vm0 Tq24.heap bq22 := (Safe.keep pq24_0 (allS fq25 all0) Cq22.1 fq25)
    exact law_c6 l Z aw hw n x1 x2 x3 cz em el wl kl vl de bq1 kq1 bq22 xb_q24 xkb_q24 hx hby hml hrt hlk hnm hZ hown Xq24 rfl Nq24 (by omega) (by omega) Oq24 hS (by omega) Cq24 CS SE SL EN FN VN SD fq26 pq24_1 fq27 pq24_2 pq24_3 pq24_4 hcz cq5 cq13 cq14 (by omega) (by omega) (by omega)
set_option maxRecDepth 65536 in
set_option maxHeartbeats 40000000 in
theorem law (l : Launch) (Z : State) (aw : Array Value) (hw : ∀ d ∈ tables_1, d.before aw Z = true) (n : Int32) (x1 : Int32) (x2 : Int32) (x3 : Int32) (cz : Int32) (em : Nat) (el : Nat) (wl : Nat) (kl : ClassId) (vl : List Value) (de : Nat) {h0 : Heap} {n0 : Nat} (O : Old Z n0 h0) (CS : Sta Z Z.heap "java/lang/String" "COMPACT_STRINGS" "Z" (.int cz)) (SE : Sta Z Z.heap "java/util/ImmutableCollections" "EMPTY" "Ljava/lang/Object;" (.ref em)) (SL : Sta Z Z.heap "java/util/ImmutableCollections" "EMPTY_LIST" "Ljava/util/ImmutableCollections$ListN;" (.ref el)) (EN : Exa Z Z.heap el "java/util/ImmutableCollections$ListN") (FN : Fld Z Z.heap el "java/util/ImmutableCollections$ListN" "elements" "[Ljava/lang/Object;" (.ref wl)) (VN : Arv Z Z.heap wl kl (.object "java/lang/Object") (0 : Int32) vl .null) (SD : Sta Z Z.heap "java/util/ArrayList" "DEFAULTCAPACITY_EMPTY_ELEMENTDATA" "[Ljava/lang/Object;" (.ref de)) (hcz : ¬ cz = (0 : Int32)) :
    METW l Z x code maxLocals ret room_1 #[(.int n), (.int x1), (.int x2), (.int x3)] EL [] h0 n0 (fun vv hh => vv = some (.int (1 : Int32))) := by
  refine metOfW (plainFor_of_name pn_35) ?_
  intro p e s m below meth c T vm0 hx hby hml hrt hlk hnm hZ hown X e0 hS C0 hSL
  replace hml : c.maxLocals = 10 := hml
  replace hnm : meth.name = "law" := hnm
  replace hown : vm0.findClass "com/example/zonetally/zonetally/DayFaultsWholePinLaw" = some m.cls := hown
  have N := Fr.nil n0
  have zO := O.le
  refine goCastW (ef_law m n x1 x2 x3) ?_
  show GoesW _ _ _ _ _ _ _ _ (T.setTop (mkF m 0 #[.val (.int n), .val (.int x1), .val (.int x2), .val (.int x3), .unset, .unset, .unset, .unset, .unset, .unset] []))
  refine GoesW.via (fun _ k => XT.iconstV X.here hx rfl (3 : Int32) (hb hby at_0) (by decide) k) ?_
  show GoesW _ _ _ _ _ _ _ _ (T.setTop (mkF m 1 #[.val (.int n), .val (.int x1), .val (.int x2), .val (.int x3), .unset, .unset, .unset, .unset, .unset, .unset] [(.int (3 : Int32))]))
  obtain ⟨Tq1, hq1, kq1, Xq1, eq1, Eq1, Aq1, stq1⟩ := newP (aty := .char) X hx hZ (W_0 hw) e0 (g := (mkF m 1 #[.val (.int n), .val (.int x1), .val (.int x2), .val (.int x3), .unset, .unset, .unset, .unset, .unset, .unset] [(.int (3 : Int32))])) rfl (hb hby at_1) rfl (by decide) (cap := 3) (by decide) (by decide) (by decide) (by decide)
  obtain ⟨bq1, gq1⟩ : ∃ z, z = h0.size := ⟨_, rfl⟩
  rw [← gq1] at Aq1 stq1
  have zq1 := Eq1.1
  have Oq1 := O.ext Eq1
  have Cq1 := C0.trans (CHr.ext Eq1 C0.1)
  have Vq1 : Arv Z hq1 bq1 kq1 .char (3 : Int32) [(.int (0 : Int32)), (.int (0 : Int32)), (.int (0 : Int32))] (.int (0 : Int32)) := (Arv.new Aq1 (by decide)).pad (pad_rep [] (.int (0 : Int32)) 3)
  have lq1 := lt_nat Vq1.lt
  refine GoesW.via stq1 ?_
  show GoesW _ _ _ _ _ _ _ _ (Tq1.setTop (mkF m 3 #[.val (.int n), .val (.int x1), .val (.int x2), .val (.int x3), .unset, .unset, .unset, .unset, .unset, .unset] [(.ref bq1)]))
  refine GoesW.via (fun _ k => XS.dup Xq1.here hx rfl (hb hby at_3) rfl rfl k) ?_
  show GoesW _ _ _ _ _ _ _ _ (Tq1.setTop (mkF m 4 #[.val (.int n), .val (.int x1), .val (.int x2), .val (.int x3), .unset, .unset, .unset, .unset, .unset, .unset] [(.ref bq1), (.ref bq1)]))
  refine GoesW.via (fun _ k => XT.iconstV Xq1.here hx rfl (0 : Int32) (hb hby at_4) (by decide) k) ?_
  show GoesW _ _ _ _ _ _ _ _ (Tq1.setTop (mkF m 5 #[.val (.int n), .val (.int x1), .val (.int x2), .val (.int x3), .unset, .unset, .unset, .unset, .unset, .unset] [(.int (0 : Int32)), (.ref bq1), (.ref bq1)]))
  refine GoesW.via (fun _ k => XS.iloadN Xq1.here hx rfl (hb hby at_5) rfl k) ?_
  show GoesW _ _ _ _ _ _ _ _ (Tq1.setTop (mkF m 6 #[.val (.int n), .val (.int x1), .val (.int x2), .val (.int x3), .unset, .unset, .unset, .unset, .unset, .unset] [(.int x1), (.int (0 : Int32)), (.ref bq1), (.ref bq1)]))
  refine GoesW.via (fun _ k => XT.sipushV Xq1.here hx rfl (255 : Int32) (hb hby at_6) (by decide) k) ?_
  show GoesW _ _ _ _ _ _ _ _ (Tq1.setTop (mkF m 9 #[.val (.int n), .val (.int x1), .val (.int x2), .val (.int x3), .unset, .unset, .unset, .unset, .unset, .unset] [(.int (255 : Int32)), (.int x1), (.int (0 : Int32)), (.ref bq1), (.ref bq1)]))
  refine GoesW.via (fun _ k => XS.iand Xq1.here hx rfl (hb hby at_9) rfl k) ?_
  show GoesW _ _ _ _ _ _ _ _ (Tq1.setTop (mkF m 10 #[.val (.int n), .val (.int x1), .val (.int x2), .val (.int x3), .unset, .unset, .unset, .unset, .unset, .unset] [(.int (x1 &&& (255 : Int32))), (.int (0 : Int32)), (.ref bq1), (.ref bq1)]))
  refine GoesW.via (fun _ k => XT.i2c Xq1.here hx rfl (hb hby at_10) rfl k) ?_
  show GoesW _ _ _ _ _ _ _ _ (Tq1.setTop (mkF m 11 #[.val (.int n), .val (.int x1), .val (.int x2), .val (.int x3), .unset, .unset, .unset, .unset, .unset, .unset] [(.int (x1 &&& (255 : Int32)).toUInt32.toUInt16.toUInt32.toInt32), (.int (0 : Int32)), (.ref bq1), (.ref bq1)]))
  obtain ⟨clq2, Arq2, qq2, Sq2, Nnq2, Hq2, Gq2⟩ := id Vq1
  have hinq2 : ¬ ((0 : Int32) < 0 ∨ clq2.slots.size ≤ ((0 : Int32)).toNatClampNeg) := inb_of Sq2 ⟨by decide, by decide⟩
  obtain ⟨Tq2, hq2, Xq2, eq2, Wq2, stq2⟩ := stC Xq1 hx hZ eq1 Arq2 (j := (0 : Int32)) hinq2 (g := (mkF m 11 #[.val (.int n), .val (.int x1), .val (.int x2), .val (.int x3), .unset, .unset, .unset, .unset, .unset, .unset] [(.int (x1 &&& (255 : Int32)).toUInt32.toUInt16.toUInt32.toInt32), (.int (0 : Int32)), (.ref bq1), (.ref bq1)])) rfl rfl (hb hby at_11)
  have Nq2 := Fr.snoc Xq2 N (by omega)
  have zq2 := Wq2.size
  have Oq2 := Oq1.wr Wq2 (by omega)
  have Cq2 := Cq1.trans (CHr.wr Wq2 (Safe.arvO hZ.alike Vq1 (by decide)) Cq1.1)
  have Vq2 : Arv Z hq2 bq1 kq1 .char (3 : Int32) [(.int (nar .char (x1 &&& (255 : Int32)).toUInt32.toUInt16.toUInt32.toInt32)), (.int (0 : Int32)), (.int (0 : Int32))] (.int (0 : Int32)) := Arv.set Arq2 qq2 Sq2 Nnq2 Hq2 Gq2 (fits_nar_char _) Wq2 0 rfl (Nat.le_of_ble_eq_true rfl)
  refine GoesW.via stq2 ?_
  show GoesW _ _ _ _ _ _ _ _ (Tq2.setTop (mkF m 12 #[.val (.int n), .val (.int x1), .val (.int x2), .val (.int x3), .unset, .unset, .unset, .unset, .unset, .unset] [(.ref bq1)]))
  refine GoesW.via (fun _ k => XS.dup Xq2.here hx rfl (hb hby at_12) rfl rfl k) ?_
  show GoesW _ _ _ _ _ _ _ _ (Tq2.setTop (mkF m 13 #[.val (.int n), .val (.int x1), .val (.int x2), .val (.int x3), .unset, .unset, .unset, .unset, .unset, .unset] [(.ref bq1), (.ref bq1)]))
  refine GoesW.via (fun _ k => XT.iconstV Xq2.here hx rfl (1 : Int32) (hb hby at_13) (by decide) k) ?_
  show GoesW _ _ _ _ _ _ _ _ (Tq2.setTop (mkF m 14 #[.val (.int n), .val (.int x1), .val (.int x2), .val (.int x3), .unset, .unset, .unset, .unset, .unset, .unset] [(.int (1 : Int32)), (.ref bq1), (.ref bq1)]))
  refine GoesW.via (fun _ k => XS.iloadN Xq2.here hx rfl (hb hby at_14) rfl k) ?_
  show GoesW _ _ _ _ _ _ _ _ (Tq2.setTop (mkF m 15 #[.val (.int n), .val (.int x1), .val (.int x2), .val (.int x3), .unset, .unset, .unset, .unset, .unset, .unset] [(.int x2), (.int (1 : Int32)), (.ref bq1), (.ref bq1)]))
  refine GoesW.via (fun _ k => XT.sipushV Xq2.here hx rfl (255 : Int32) (hb hby at_15) (by decide) k) ?_
  show GoesW _ _ _ _ _ _ _ _ (Tq2.setTop (mkF m 18 #[.val (.int n), .val (.int x1), .val (.int x2), .val (.int x3), .unset, .unset, .unset, .unset, .unset, .unset] [(.int (255 : Int32)), (.int x2), (.int (1 : Int32)), (.ref bq1), (.ref bq1)]))
  refine GoesW.via (fun _ k => XS.iand Xq2.here hx rfl (hb hby at_18) rfl k) ?_
  show GoesW _ _ _ _ _ _ _ _ (Tq2.setTop (mkF m 19 #[.val (.int n), .val (.int x1), .val (.int x2), .val (.int x3), .unset, .unset, .unset, .unset, .unset, .unset] [(.int (x2 &&& (255 : Int32))), (.int (1 : Int32)), (.ref bq1), (.ref bq1)]))
  refine GoesW.via (fun _ k => XT.i2c Xq2.here hx rfl (hb hby at_19) rfl k) ?_
  show GoesW _ _ _ _ _ _ _ _ (Tq2.setTop (mkF m 20 #[.val (.int n), .val (.int x1), .val (.int x2), .val (.int x3), .unset, .unset, .unset, .unset, .unset, .unset] [(.int (x2 &&& (255 : Int32)).toUInt32.toUInt16.toUInt32.toInt32), (.int (1 : Int32)), (.ref bq1), (.ref bq1)]))
  obtain ⟨clq3, Arq3, qq3, Sq3, Nnq3, Hq3, Gq3⟩ := id Vq2
  have hinq3 : ¬ ((1 : Int32) < 0 ∨ clq3.slots.size ≤ ((1 : Int32)).toNatClampNeg) := inb_of Sq3 ⟨by decide, by decide⟩
  obtain ⟨Tq3, hq3, Xq3, eq3, Wq3, stq3⟩ := stC Xq2 hx hZ eq2 Arq3 (j := (1 : Int32)) hinq3 (g := (mkF m 20 #[.val (.int n), .val (.int x1), .val (.int x2), .val (.int x3), .unset, .unset, .unset, .unset, .unset, .unset] [(.int (x2 &&& (255 : Int32)).toUInt32.toUInt16.toUInt32.toInt32), (.int (1 : Int32)), (.ref bq1), (.ref bq1)])) rfl rfl (hb hby at_20)
  have Nq3 := Fr.snoc Xq3 Nq2 (by omega)
  have zq3 := Wq3.size
  have Oq3 := Oq2.wr Wq3 (by omega)
  have Cq3 := Cq2.trans (CHr.wr Wq3 (Safe.arvO hZ.alike Vq2 (by decide)) Cq2.1)
  have Vq3 : Arv Z hq3 bq1 kq1 .char (3 : Int32) [(.int (nar .char (x1 &&& (255 : Int32)).toUInt32.toUInt16.toUInt32.toInt32)), (.int (nar .char (x2 &&& (255 : Int32)).toUInt32.toUInt16.toUInt32.toInt32)), (.int (0 : Int32))] (.int (0 : Int32)) := Arv.set Arq3 qq3 Sq3 Nnq3 Hq3 Gq3 (fits_nar_char _) Wq3 1 rfl (Nat.le_of_ble_eq_true rfl)
  refine GoesW.via stq3 ?_
  show GoesW _ _ _ _ _ _ _ _ (Tq3.setTop (mkF m 21 #[.val (.int n), .val (.int x1), .val (.int x2), .val (.int x3), .unset, .unset, .unset, .unset, .unset, .unset] [(.ref bq1)]))
  refine GoesW.via (fun _ k => XS.dup Xq3.here hx rfl (hb hby at_21) rfl rfl k) ?_
  show GoesW _ _ _ _ _ _ _ _ (Tq3.setTop (mkF m 22 #[.val (.int n), .val (.int x1), .val (.int x2), .val (.int x3), .unset, .unset, .unset, .unset, .unset, .unset] [(.ref bq1), (.ref bq1)]))
  refine GoesW.via (fun _ k => XT.iconstV Xq3.here hx rfl (2 : Int32) (hb hby at_22) (by decide) k) ?_
  show GoesW _ _ _ _ _ _ _ _ (Tq3.setTop (mkF m 23 #[.val (.int n), .val (.int x1), .val (.int x2), .val (.int x3), .unset, .unset, .unset, .unset, .unset, .unset] [(.int (2 : Int32)), (.ref bq1), (.ref bq1)]))
  refine GoesW.via (fun _ k => XS.iloadN Xq3.here hx rfl (hb hby at_23) rfl k) ?_
  show GoesW _ _ _ _ _ _ _ _ (Tq3.setTop (mkF m 24 #[.val (.int n), .val (.int x1), .val (.int x2), .val (.int x3), .unset, .unset, .unset, .unset, .unset, .unset] [(.int x3), (.int (2 : Int32)), (.ref bq1), (.ref bq1)]))
  refine GoesW.via (fun _ k => XT.sipushV Xq3.here hx rfl (255 : Int32) (hb hby at_24) (by decide) k) ?_
  show GoesW _ _ _ _ _ _ _ _ (Tq3.setTop (mkF m 27 #[.val (.int n), .val (.int x1), .val (.int x2), .val (.int x3), .unset, .unset, .unset, .unset, .unset, .unset] [(.int (255 : Int32)), (.int x3), (.int (2 : Int32)), (.ref bq1), (.ref bq1)]))
  refine GoesW.via (fun _ k => XS.iand Xq3.here hx rfl (hb hby at_27) rfl k) ?_
  show GoesW _ _ _ _ _ _ _ _ (Tq3.setTop (mkF m 28 #[.val (.int n), .val (.int x1), .val (.int x2), .val (.int x3), .unset, .unset, .unset, .unset, .unset, .unset] [(.int (x3 &&& (255 : Int32))), (.int (2 : Int32)), (.ref bq1), (.ref bq1)]))
  refine GoesW.via (fun _ k => XT.i2c Xq3.here hx rfl (hb hby at_28) rfl k) ?_
  show GoesW _ _ _ _ _ _ _ _ (Tq3.setTop (mkF m 29 #[.val (.int n), .val (.int x1), .val (.int x2), .val (.int x3), .unset, .unset, .unset, .unset, .unset, .unset] [(.int (x3 &&& (255 : Int32)).toUInt32.toUInt16.toUInt32.toInt32), (.int (2 : Int32)), (.ref bq1), (.ref bq1)]))
  obtain ⟨clq4, Arq4, qq4, Sq4, Nnq4, Hq4, Gq4⟩ := id Vq3
  have hinq4 : ¬ ((2 : Int32) < 0 ∨ clq4.slots.size ≤ ((2 : Int32)).toNatClampNeg) := inb_of Sq4 ⟨by decide, by decide⟩
  obtain ⟨Tq4, hq4, Xq4, eq4, Wq4, stq4⟩ := stC Xq3 hx hZ eq3 Arq4 (j := (2 : Int32)) hinq4 (g := (mkF m 29 #[.val (.int n), .val (.int x1), .val (.int x2), .val (.int x3), .unset, .unset, .unset, .unset, .unset, .unset] [(.int (x3 &&& (255 : Int32)).toUInt32.toUInt16.toUInt32.toInt32), (.int (2 : Int32)), (.ref bq1), (.ref bq1)])) rfl rfl (hb hby at_29)
  have Nq4 := Fr.snoc Xq4 Nq3 (by omega)
  have zq4 := Wq4.size
  have Oq4 := Oq3.wr Wq4 (by omega)
  have Cq4 := Cq3.trans (CHr.wr Wq4 (Safe.arvO hZ.alike Vq3 (by decide)) Cq3.1)
  have Vq4 : Arv Z hq4 bq1 kq1 .char (3 : Int32) [(.int (nar .char (x1 &&& (255 : Int32)).toUInt32.toUInt16.toUInt32.toInt32)), (.int (nar .char (x2 &&& (255 : Int32)).toUInt32.toUInt16.toUInt32.toInt32)), (.int (nar .char (x3 &&& (255 : Int32)).toUInt32.toUInt16.toUInt32.toInt32))] (.int (0 : Int32)) := Arv.set Arq4 qq4 Sq4 Nnq4 Hq4 Gq4 (fits_nar_char _) Wq4 2 rfl (Nat.le_of_ble_eq_true rfl)
  refine GoesW.via stq4 ?_
  show GoesW _ _ _ _ _ _ _ _ (Tq4.setTop (mkF m 30 #[.val (.int n), .val (.int x1), .val (.int x2), .val (.int x3), .unset, .unset, .unset, .unset, .unset, .unset] [(.ref bq1)]))
  have VC : Arv Z hq4 bq1 kq1 .char (3 : Int32) [(.int (x1 &&& (255 : Int32))), (.int (x2 &&& (255 : Int32))), (.int (x3 &&& (255 : Int32)))] (.int (0 : Int32)) := by
    have q := Vq4
    rw [ch1, ch1, ch1] at q
    exact q
  refine GoesW.via (fun _ k => XS.astore Xq4.here hx rfl (hb hby at_30) rfl rfl (l' := #[.val (.int n), .val (.int x1), .val (.int x2), .val (.int x3), .val (.ref bq1), .unset, .unset, .unset, .unset, .unset]) rfl k) ?_
  show GoesW _ _ _ _ _ _ _ _ (Tq4.setTop (mkF m 32 #[.val (.int n), .val (.int x1), .val (.int x2), .val (.int x3), .val (.ref bq1), .unset, .unset, .unset, .unset, .unset] []))
  refine GoesW.via (fun _ k => XS.iloadN Xq4.here hx rfl (hb hby at_32) rfl k) ?_
  show GoesW _ _ _ _ _ _ _ _ (Tq4.setTop (mkF m 33 #[.val (.int n), .val (.int x1), .val (.int x2), .val (.int x3), .val (.ref bq1), .unset, .unset, .unset, .unset, .unset] [(.int n)]))
  refine GoesW.via (fun _ k => XT.iconstV Xq4.here hx rfl (3 : Int32) (hb hby at_33) (by decide) k) ?_
  show GoesW _ _ _ _ _ _ _ _ (Tq4.setTop (mkF m 34 #[.val (.int n), .val (.int x1), .val (.int x2), .val (.int x3), .val (.ref bq1), .unset, .unset, .unset, .unset, .unset] [(.int (3 : Int32)), (.int n)]))
  refine GoesW.via (fun _ k => XS.iand Xq4.here hx rfl (hb hby at_34) rfl k) ?_
  show GoesW _ _ _ _ _ _ _ _ (Tq4.setTop (mkF m 35 #[.val (.int n), .val (.int x1), .val (.int x2), .val (.int x3), .val (.ref bq1), .unset, .unset, .unset, .unset, .unset] [(.int (n &&& (3 : Int32)))]))
  refine GoesW.via (fun _ k => XS.istore Xq4.here hx rfl (hb hby at_35) rfl (l' := #[.val (.int n), .val (.int x1), .val (.int x2), .val (.int x3), .val (.ref bq1), .val (.int (n &&& (3 : Int32))), .unset, .unset, .unset, .unset]) rfl k) ?_
  show GoesW _ _ _ _ _ _ _ _ (Tq4.setTop (mkF m 37 #[.val (.int n), .val (.int x1), .val (.int x2), .val (.int x3), .val (.ref bq1), .val (.int (n &&& (3 : Int32))), .unset, .unset, .unset, .unset] []))
  refine GoesW.via (fun _ k => XS.iload Xq4.here hx rfl (hb hby at_37) rfl k) ?_
  show GoesW _ _ _ _ _ _ _ _ (Tq4.setTop (mkF m 39 #[.val (.int n), .val (.int x1), .val (.int x2), .val (.int x3), .val (.ref bq1), .val (.int (n &&& (3 : Int32))), .unset, .unset, .unset, .unset] [(.int (n &&& (3 : Int32)))]))
  by_cases cq5 : (n &&& (3 : Int32)) = (0 : Int32)
  · skip
    refine GoesW.via (fun _ k => XS.ifNo Xq4.here hx rfl (hb hby at_39) rfl (XT.i0_ne_f cq5) k) ?_
    show GoesW _ _ _ _ _ _ _ _ (Tq4.setTop (mkF m 42 #[.val (.int n), .val (.int x1), .val (.int x2), .val (.int x3), .val (.ref bq1), .val (.int (n &&& (3 : Int32))), .unset, .unset, .unset, .unset] []))
    obtain ⟨Tq6, hq6, Xq6, eq6, Eq6, Aq6, Dq6, -, stq6⟩ := newO Xq4 hx hZ hown (W_1 hw) (W_2 hw) (W_3 hw) eq4 (g := (mkF m 42 #[.val (.int n), .val (.int x1), .val (.int x2), .val (.int x3), .val (.ref bq1), .val (.int (n &&& (3 : Int32))), .unset, .unset, .unset, .unset] [])) rfl (hb hby at_42) (by decide) (by decide)
    obtain ⟨bq6, gq6⟩ : ∃ z, z = hq4.size := ⟨_, rfl⟩
    rw [← gq6] at Aq6 Dq6 stq6
    have zq6 := Eq6.1
    have Oq6 := Oq4.ext Eq6
    have Cq6 := Cq4.trans (CHr.ext Eq6 Cq4.1)
    have lq6 := lt_nat Aq6.lt
    refine GoesW.via stq6 ?_
    show GoesW _ _ _ _ _ _ _ _ (Tq6.setTop (mkF m 45 #[.val (.int n), .val (.int x1), .val (.int x2), .val (.int x3), .val (.ref bq1), .val (.int (n &&& (3 : Int32))), .unset, .unset, .unset, .unset] [(.ref bq6)]))
    refine GoesW.via (fun _ k => XS.dup Xq6.here hx rfl (hb hby at_45) rfl rfl k) ?_
    show GoesW _ _ _ _ _ _ _ _ (Tq6.setTop (mkF m 46 #[.val (.int n), .val (.int x1), .val (.int x2), .val (.int x3), .val (.ref bq1), .val (.int (n &&& (3 : Int32))), .unset, .unset, .unset, .unset] [(.ref bq6), (.ref bq6)]))
    refine GoesW.via (fun _ k => XT.iconstV Xq6.here hx rfl (0 : Int32) (hb hby at_46) (by decide) k) ?_
    show GoesW _ _ _ _ _ _ _ _ (Tq6.setTop (mkF m 47 #[.val (.int n), .val (.int x1), .val (.int x2), .val (.int x3), .val (.ref bq1), .val (.int (n &&& (3 : Int32))), .unset, .unset, .unset, .unset] [(.int (0 : Int32)), (.ref bq6), (.ref bq6)]))
    obtain ⟨Tq7, hq7, kq7, Xq7, eq7, Eq7, Aq7, stq7⟩ := newP (aty := .char) Xq6 hx hZ (W_0 hw) eq6 (g := (mkF m 47 #[.val (.int n), .val (.int x1), .val (.int x2), .val (.int x3), .val (.ref bq1), .val (.int (n &&& (3 : Int32))), .unset, .unset, .unset, .unset] [(.int (0 : Int32)), (.ref bq6), (.ref bq6)])) rfl (hb hby at_47) rfl (by decide) (cap := 0) (by decide) (by decide) (by decide) (by decide)
    obtain ⟨bq7, gq7⟩ : ∃ z, z = hq6.size := ⟨_, rfl⟩
    rw [← gq7] at Aq7 stq7
    have zq7 := Eq7.1
    have Oq7 := Oq6.ext Eq7
    have Cq7 := Cq6.trans (CHr.ext Eq7 Cq6.1)
    have Vq7 : Arv Z hq7 bq7 kq7 .char (0 : Int32) [] (.int (0 : Int32)) := (Arv.new Aq7 (by decide)).pad (pad_rep [] (.int (0 : Int32)) 0)
    have lq7 := lt_nat Vq7.lt
    refine GoesW.via stq7 ?_
    show GoesW _ _ _ _ _ _ _ _ (Tq7.setTop (mkF m 49 #[.val (.int n), .val (.int x1), .val (.int x2), .val (.int x3), .val (.ref bq1), .val (.int (n &&& (3 : Int32))), .unset, .unset, .unset, .unset] [(.ref bq7), (.ref bq6), (.ref bq6)]))
    have fq8 : Arv Z hq7 bq1 kq1 .char (3 : Int32) [(.int (x1 &&& (255 : Int32))), (.int (x2 &&& (255 : Int32))), (.int (x3 &&& (255 : Int32)))] (.int (0 : Int32)) := ((VC.ext Eq6).ext Eq7)
    have fq9 : Exa Z hq7 bq6 "java/lang/String" := (Aq6.ext Eq7)
    have fq10 : Safe Z EL vm0 hq7 bq6 := (Safe.ext Eq7 Cq6.1 (Safe.ext Eq6 Cq4.1 (Safe.new (Nat.le_of_eq gq6.symm))))
    have fq11 : Fld Z hq7 bq6 "java/lang/String" "value" "[B" .null := ((Dq6 (Or.inr (W_16 hw)) (ty := (.array .byte)) (by decide)).ext Eq7)
    have fq12 : Fld Z hq7 bq6 "java/lang/String" "coder" "B" (.int (0 : Int32)) := ((Dq6 (Or.inr (W_17 hw)) (ty := .byte) (by decide)).ext Eq7)
    exact law_c2 l Z aw hw n x1 x2 x3 cz em el wl kl vl de bq1 kq1 bq6 bq7 kq7 hx hby hml hrt hlk hnm hZ hown Xq7 eq7 Nq4 (by decide) (by decide) Oq7 hS (by omega) Cq7 CS SE SL EN FN VN SD fq8 fq9 fq10 fq11 fq12 Vq7 hcz cq5 (by omega) (by omega) (by omega)
  · skip
    refine GoesW.via (fun _ k => XS.ifYes Xq4.here hx rfl (pc0 := 39) (pc' := 57) rfl (hb hby at_39) rfl (XT.i0_ne_t cq5) (by decide) (by decide) k) ?_
    show GoesW _ _ _ _ _ _ _ _ (Tq4.setTop (mkF m 57 #[.val (.int n), .val (.int x1), .val (.int x2), .val (.int x3), .val (.ref bq1), .val (.int (n &&& (3 : Int32))), .unset, .unset, .unset, .unset] []))
    refine GoesW.via (fun _ k => XS.iload Xq4.here hx rfl (hb hby at_57) rfl k) ?_
    show GoesW _ _ _ _ _ _ _ _ (Tq4.setTop (mkF m 59 #[.val (.int n), .val (.int x1), .val (.int x2), .val (.int x3), .val (.ref bq1), .val (.int (n &&& (3 : Int32))), .unset, .unset, .unset, .unset] [(.int (n &&& (3 : Int32)))]))
    refine GoesW.via (fun _ k => XT.iconstV Xq4.here hx rfl (1 : Int32) (hb hby at_59) (by decide) k) ?_
    show GoesW _ _ _ _ _ _ _ _ (Tq4.setTop (mkF m 60 #[.val (.int n), .val (.int x1), .val (.int x2), .val (.int x3), .val (.ref bq1), .val (.int (n &&& (3 : Int32))), .unset, .unset, .unset, .unset] [(.int (1 : Int32)), (.int (n &&& (3 : Int32)))]))
    by_cases cq13 : (n &&& (3 : Int32)) = (1 : Int32)
    · skip
      refine GoesW.via (fun _ k => XS.icmpNo Xq4.here hx rfl (hb hby at_60) rfl (XT.ii_ne_f cq13) k) ?_
      show GoesW _ _ _ _ _ _ _ _ (Tq4.setTop (mkF m 63 #[.val (.int n), .val (.int x1), .val (.int x2), .val (.int x3), .val (.ref bq1), .val (.int (n &&& (3 : Int32))), .unset, .unset, .unset, .unset] []))
      refine GoesW.via (fun _ k => XS.aload Xq4.here hx rfl (hb hby at_63) rfl rfl k) ?_
      show GoesW _ _ _ _ _ _ _ _ (Tq4.setTop (mkF m 65 #[.val (.int n), .val (.int x1), .val (.int x2), .val (.int x3), .val (.ref bq1), .val (.int (n &&& (3 : Int32))), .unset, .unset, .unset, .unset] [(.ref bq1)]))
      exact law_c3 l Z aw hw n x1 x2 x3 cz em el wl kl vl de bq1 kq1 hx hby hml hrt hlk hnm hZ hown Xq4 eq4 Nq4 (by decide) (by decide) Oq4 hS (by omega) Cq4 CS SE SL EN FN VN SD VC hcz cq5 cq13 (by omega)
    · skip
      refine GoesW.via (fun _ k => XS.icmpYes Xq4.here hx rfl (pc0 := 60) (pc' := 75) rfl (hb hby at_60) rfl (XT.ii_ne_t cq13) (by decide) (by decide) k) ?_
      show GoesW _ _ _ _ _ _ _ _ (Tq4.setTop (mkF m 75 #[.val (.int n), .val (.int x1), .val (.int x2), .val (.int x3), .val (.ref bq1), .val (.int (n &&& (3 : Int32))), .unset, .unset, .unset, .unset] []))
      refine GoesW.via (fun _ k => XS.iload Xq4.here hx rfl (hb hby at_75) rfl k) ?_
      show GoesW _ _ _ _ _ _ _ _ (Tq4.setTop (mkF m 77 #[.val (.int n), .val (.int x1), .val (.int x2), .val (.int x3), .val (.ref bq1), .val (.int (n &&& (3 : Int32))), .unset, .unset, .unset, .unset] [(.int (n &&& (3 : Int32)))]))
      exact law_c4 l Z aw hw n x1 x2 x3 cz em el wl kl vl de bq1 kq1 hx hby hml hrt hlk hnm hZ hown Xq4 eq4 Nq4 (by decide) (by decide) Oq4 hS (by omega) Cq4 CS SE SL EN FN VN SD VC hcz cq5 cq13 (by omega)
set_option maxRecDepth 65536 in
set_option maxHeartbeats 40000000 in
theorem comes_1 {Post : Tables → Env → Array Value → State → Outcome → State → Prop} (hpost : ∀ tb e args s v u, (limb_1_1.after args s (.returned v) u = true ∧ limb_1_2.after args s (.returned v) u = true ∧ True) → ReturnedEndW s (.returned v) u (Jvm.fieldLocs frame_1_writes args s ++ Jvm.arrayLocs frame_1_arrays args s ++ Jvm.staticLocs frame_1_statics s) 32 1152 → Post tb e args s (.returned v) u) :
    ArmFor flags0 classFile x code maxLocals ret World_1 tables_1 room_1 Calls_1 rest_1 Pre_1 Post := by
  intro l hfl _ _ p e ha hc hk s m args below hf hA hF happ hP
  obtain ⟨hcalls, hrest, hpre⟩ := hP
  obtain ⟨-, -, -, hnamed, -, -, -, hat⟩ := (Spec.applies_iff hf).mp happ
  obtain ⟨hg, hn⟩ := and_e (Cond.before_iff.mp (show (Jvm.Cond.and given_1 narrow_1).before args s = true from hpre))
  obtain ⟨hcnt, ha0⟩ := and_e hg
  obtain ⟨hk0, ha1⟩ := and_e ha0
  obtain ⟨hk1, ha2⟩ := and_e ha1
  obtain ⟨hk2, ha3⟩ := and_e ha2
  have hk3 := ha3
  obtain ⟨w0, w1, w2, w3, rfl⟩ : ∃ w0 w1 w2 w3 : Value, args = #[w0, w1, w2, w3] := by
    have hs : args.size = 4 := by simpa [Cond.value, given_1] using hcnt
    obtain ⟨L⟩ := args
    match L, hs with
    | [w0, w1, w2, w3], _ => exact ⟨w0, w1, w2, w3, rfl⟩
  have hw := fun d (hd : d ∈ tables_1) => atoms_spec (ws := Jvm.Cond.code x code maxLocals ret :: tables_1) hat d (List.mem_cons_of_mem _ hd)
  obtain ⟨hsets, hown0⟩ := atoms_of _ (rest_1_c_eq ▸ (show rest_1_c.before _ s = true from hrest))
  have hfit : Fit s := fun {y c} hc i hi => by
    obtain ⟨ha, rfl⟩ := Array.getElem?_eq_some_iff.mp hc
    have q := List.all_eq_true.mp ((Array.all_eq_true_iff_forall_mem.mp hF) _ (Array.getElem_mem ha)) i (List.mem_range.mpr hi)
    simpa [Array.getElem?_eq_getElem hi] using q
  obtain ⟨i0, ei0⟩ := is_v hk0
  obtain rfl : w0 = (.int i0) := Option.some.inj ei0
  obtain ⟨i1, ei1⟩ := is_v hk1
  obtain rfl : w1 = (.int i1) := Option.some.inj ei1
  obtain ⟨i2, ei2⟩ := is_v hk2
  obtain rfl : w2 = (.int i2) := Option.some.inj ei2
  obtain ⟨i3, ei3⟩ := is_v hk3
  obtain rfl : w3 = (.int i3) := Option.some.inj ei3
  obtain ⟨cz, ecz⟩ := is_v (Cond.before_iff.mp (hsets _ (List.mem_of_getElem? (i := 26) rfl)))
  have CS := Sta.start ecz (Or.inl (hsets _ (List.mem_of_getElem? (i := 25) rfl)))
  have hcz : ¬ cz = (0 : Int32) := gotF (Cond.eq_ints ecz (Term.int_eval (0))) (not_v (Cond.before_iff.mp (hsets _ (List.mem_of_getElem? (i := 27) rfl))))
  obtain ⟨em, eem⟩ := exa_v (Cond.before_iff.mp (hsets _ (List.mem_of_getElem? (i := 2) rfl)))
  have SE := Sta.start eem (Or.inl (hsets _ (List.mem_of_getElem? (i := 1) rfl)))
  obtain ⟨el, eel⟩ := exa_v (Cond.before_iff.mp (hsets _ (List.mem_of_getElem? (i := 8) rfl)))
  have SL := Sta.start eel (Or.inl (hsets _ (List.mem_of_getElem? (i := 7) rfl)))
  have EN := Exa.start eel (Cond.before_iff.mp (hsets _ (List.mem_of_getElem? (i := 8) rfl)))
  obtain ⟨wl, ewl⟩ := arr_v (Cond.before_iff.mp (hsets _ (List.mem_of_getElem? (i := 12) rfl)))
  have FN := Fld.start ((fld_at eel).symm.trans ewl)
  obtain ⟨cl0, AN⟩ := Arr.start ewl (Cond.before_iff.mp (hsets _ (List.mem_of_getElem? (i := 12) rfl)))
  have VN := arv_start (dv := .null) hfit ewl AN (Cond.before_iff.mp (hsets _ (List.mem_of_getElem? (i := 14) rfl)))
  obtain ⟨de, ede⟩ := arr_v (Cond.before_iff.mp (hsets _ (List.mem_of_getElem? (i := 22) rfl)))
  have SD := Sta.start ede (Or.inr ⟨(W_101 hw), (hsets _ (List.mem_of_getElem? (i := 18) rfl))⟩)
  have hch : CHv s EL s.vm s.heap := CHv.start (ew hw) hcalls.1 (hsets _ (List.mem_of_getElem? (i := 27) rfl)) (W_15 hw) (W_2 hw)
  obtain ⟨n, o, h1, h2, h3, _, L, rfl, ⟨⟨rfl, -⟩, N⟩, hq⟩ := law l s _ hw i0 i1 i2 i3 cz em el wl cl0.cls cl0.slots.toList de (Old.start s) CS SE SL EN FN VN SD hcz tables_1 p e ha hc hk s m _ below hf ((Spec.applies_iff_loose hf).mp happ).1 ⟨rfl, State.Warmed39.refl s, rfl, hch, fun _ q => nomatch q⟩ trivial
  refine ⟨n, _, h1, h2, h3, hpost _ _ _ _ _ _ ⟨Cond.after_iff.mpr rfl, Cond.after_iff.mpr (eq_i res_at (Term.int_eval (1)) rfl), trivial⟩ ⟨hq.1, hq.2.1, hq.2.2.1, (hq.2.2.2.sift fun y hy => Or.inr (N y hy)).mono (by decide) (by decide)⟩⟩
theorem main_1_1 : Claimed_1_1 := comes_1 fun _ _ _ _ _ _ h hF => ⟨h.1, hF⟩
theorem main_1_2 : Claimed_1_2 := comes_1 fun _ _ _ _ _ _ h hF => ⟨h.2.1, hF⟩

end Jvm.Pilot.@@N@@
namespace Jvm.Pilot.@@N@@
open Jvm Jvm.ClassFile Sem Op Lib Jvm.Free Jvm.Stand Jvm.Pilot.@@N@@.Jvm.D
/-! MADE BY PROGRAM (witnessworld.py) out of the Statement's table words and the real class files: 38 classes; the members and pool entries that the words name. The judged class is class 1, her method 1. -/
namespace start1
open Jvm.ClassFile
def u (s : String) : CpInfo := .utf8 (stringToUtf16 s)
/-- a pool by its gaps: so many unusable entries, then the entry; so many at the end -/
def gap : Nat → List CpInfo → List CpInfo
  | 0, r => r
  | n + 1, r => .unusable :: gap n r
def poolList (es : List (Nat × CpInfo)) (last : Nat) : List CpInfo := es.foldr (fun e r => gap e.1 (e.2 :: r)) (gap last [])
def pool (es : List (Nat × CpInfo)) (last : Nat) : Array CpInfo := ⟨poolList es last⟩
def fileOf (pool : Array CpInfo) (this : Nat) (attrs : Array Attribute := #[]) (ms : Array MethodInfo := #[]) (fl : Nat := 33) (sup : Nat := 0) (ifs : Array Nat := #[]) (fds : Array FieldInfo := #[]) : ClassFile where
  minorVersion := 0
  majorVersion := 65
  constantPool := pool
  accessFlags := fl
  thisClass := this
  superClass := sup
  interfaces := ifs
  fields := fds
  methods := ms
  attributes := attrs
def plain (name : String) (sup : Option ClassId) : Class where
  name := name
  kind := .ordinary
  loader := none
  accessFlags := 33
  super := sup
  interfaces := #[]
  cf := none
  fields := #[]
  methods := #[]
  instanceTypes := #[]
  staticTypes := #[]
  resolved := #[]
  callSites := []
  init := .initialized
  statics := none
  mirror := none

def pool0 : Array CpInfo := pool [(5, u "<init>"), (0, u "()V"), (1, .class_ 10), (1, u "java/lang/Object")] 113

def k0c0 : Code := { maxStack := 0, maxLocals := 1, code := object_method_1_code, exceptionTable := #[], attributes := #[] }
def k0m0 : Method := { name := "<init>", desc := "()V", sig := { parameters := [], returnType := none }, accessFlags := 1, code := some k0c0 }
/-- java/lang/Object -/
def k0 : Class := { plain "java/lang/Object" none with
  accessFlags := 33
  interfaces := #[]
  cf := some (fileOf pool0 8 #[] #[{ accessFlags := 1, nameIndex := 5, descriptorIndex := 6, attributes := #[] }] 33 0 #[] #[])
  fields := #[]
  methods := #[k0m0]
  instanceTypes := #[]
  staticTypes := #[]
  resolved := Array.replicate 124 none
  statics := none }

def pool1 : Array CpInfo := pool [(2, .class_ 4), (0, .nameAndType 5 6), (0, u "java/lang/Object"), (0, u "<init>"), (0, u "()V"), (0, .class_ 8), (0, u "java/lang/String"), (0, .methodref 7 10), (0, .nameAndType 5 11), (0, u "([C)V"), (0, .methodref 7 13), (0, .nameAndType 14 15), (0, u "valueOf"), (0, u "(C)Ljava/lang/String;"), (0, .methodref 17 18), (0, .class_ 19), (0, .nameAndType 20 21), (0, u "com/example/zonetally/zonetally/DayFaults"), (0, u "whole"), (0, u "(Ljava/lang/String;)Lcom/example/zonetally/zonetally/DayFaults;"), (0, .methodref 17 23), (0, .nameAndType 24 25), (0, u "found"), (0, u "()Ljava/util/List;"), (0, .class_ 27), (0, u "java/util/ArrayList"), (0, .methodref 26 3), (0, .methodref 17 30), (0, .nameAndType 31 32), (0, u "named"), (0, u "(Ljava/util/List;[Z)Ljava/util/List;"), (0, .methodref 17 34), (0, .nameAndType 35 36), (0, u "file"), (0, u "()Lcom/example/zonetally/zonetally/DailyFile;"), (0, .methodref 17 38), (0, .nameAndType 39 25), (0, u "hours"), (0, .interfaceMethodref 41 42), (0, .class_ 43), (0, .nameAndType 44 45), (0, u "java/util/List"), (0, u "size"), (0, u "()I"), (0, .methodref 17 47), (0, .nameAndType 48 25), (0, u "unlisted"), (0, .methodref 17 50), (0, .nameAndType 51 52), (0, u "lacking"), (0, u "()J"), (0, .interfaceMethodref 41 54), (0, .nameAndType 55 56), (0, u "get"), (0, u "(I)Ljava/lang/Object;"), (0, .methodref 17 58), (0, .nameAndType 59 60), (0, u "namesNothing"), (0, u "()Z"), (0, .class_ 62), (0, u "com/example/zonetally/zonetally/DayFaultsWholePinLaw"), (2, u "law"), (0, u "(IIII)Z")] 5

def k1m0 : Method := { name := "<init>", desc := "()V", sig := { parameters := [], returnType := none }, accessFlags := 1, code := none }
def k1c1 : Code := { maxStack := 7, maxLocals := 10, code := code, exceptionTable := #[], attributes := #[] }
def k1m1 : Method := { name := "law", desc := "(IIII)Z", sig := { parameters := [.int, .int, .int, .int], returnType := some .boolean }, accessFlags := 9, code := some k1c1 }
/-- com/example/zonetally/zonetally/DayFaultsWholePinLaw -/
def k1 : Class := { plain "com/example/zonetally/zonetally/DayFaultsWholePinLaw" (some 0) with
  accessFlags := 49
  interfaces := #[]
  cf := some (fileOf pool1 61 #[] #[{ accessFlags := 1, nameIndex := 5, descriptorIndex := 6, attributes := #[] }, { accessFlags := 9, nameIndex := 65, descriptorIndex := 66, attributes := #[] }] 49 2 #[] #[])
  fields := #[]
  methods := #[k1m0, k1m1]
  instanceTypes := #[]
  staticTypes := #[]
  resolved := Array.replicate 72 none
  statics := none }

def pool2 : Array CpInfo := pool [(1, .class_ 2), (0, u "java/io/Serializable"), (0, .class_ 4), (0, u "java/lang/Object")] 2

/-- java/io/Serializable -/
def k2 : Class := { plain "java/io/Serializable" (some 0) with
  accessFlags := 1537
  interfaces := #[]
  cf := some (fileOf pool2 1 #[] #[] 1537 3 #[] #[])
  fields := #[]
  methods := #[]
  instanceTypes := #[]
  staticTypes := #[]
  resolved := Array.replicate 7 none
  statics := none }

def pool3 : Array CpInfo := pool [(1, .class_ 2), (0, u "java/lang/Comparable"), (0, .class_ 4), (0, u "java/lang/Object")] 7

/-- java/lang/Comparable -/
def k3 : Class := { plain "java/lang/Comparable" (some 0) with
  accessFlags := 1537
  interfaces := #[]
  cf := some (fileOf pool3 1 #[] #[] 1537 3 #[] #[])
  fields := #[]
  methods := #[]
  instanceTypes := #[]
  staticTypes := #[]
  resolved := Array.replicate 12 none
  statics := none }

def pool4 : Array CpInfo := pool [(2, .class_ 4), (1, u "java/lang/CharSequence"), (42, .class_ 48), (0, u "java/lang/CharSequence$1CodePointIterator"), (10, .class_ 60), (0, u "java/lang/CharSequence$1CharIterator"), (5, .class_ 67), (0, u "java/lang/Object")] 63

/-- java/lang/CharSequence -/
def k4 : Class := { plain "java/lang/CharSequence" (some 0) with
  accessFlags := 1537
  interfaces := #[]
  cf := some (fileOf pool4 2 #[.nestMembers #[47, 59]] #[] 1537 66 #[] #[])
  fields := #[]
  methods := #[]
  instanceTypes := #[]
  staticTypes := #[]
  resolved := Array.replicate 131 none
  statics := none }

def pool5 : Array CpInfo := pool [(1, .class_ 2), (0, u "java/lang/constant/Constable"), (0, .class_ 4), (0, u "java/lang/Object")] 6

/-- java/lang/constant/Constable -/
def k5 : Class := { plain "java/lang/constant/Constable" (some 0) with
  accessFlags := 1537
  interfaces := #[]
  cf := some (fileOf pool5 1 #[] #[] 1537 3 #[] #[])
  fields := #[]
  methods := #[]
  instanceTypes := #[]
  staticTypes := #[]
  resolved := Array.replicate 11 none
  statics := none }

def pool6 : Array CpInfo := pool [(1, .class_ 2), (0, u "java/lang/constant/ConstantDesc"), (0, .class_ 4), (0, u "java/lang/Object")] 32

/-- java/lang/constant/ConstantDesc -/
def k6 : Class := { plain "java/lang/constant/ConstantDesc" (some 0) with
  accessFlags := 1537
  interfaces := #[]
  cf := some (fileOf pool6 1 #[] #[] 1537 3 #[] #[])
  fields := #[]
  methods := #[]
  instanceTypes := #[]
  staticTypes := #[]
  resolved := Array.replicate 37 none
  statics := none }

def pool7 : Array CpInfo := pool [(1, .methodref 2 3), (0, .class_ 4), (0, .nameAndType 5 6), (0, u "java/lang/Object"), (0, u "<init>"), (0, u "()V"), (0, .string 8), (0, u ""), (0, .fieldref 10 11), (0, .class_ 12), (0, .nameAndType 13 14), (0, u "java/lang/String"), (0, u "value"), (0, u "[B"), (0, .fieldref 10 16), (0, .nameAndType 17 18), (0, u "coder"), (0, u "B"), (2, u "hash"), (0, u "I"), (2, u "hashIsZero"), (0, u "Z"), (0, .methodref 10 28), (0, .nameAndType 5 29), (0, u "([CIILjava/lang/Void;)V"), (8, .fieldref 10 39), (0, .nameAndType 40 26), (0, u "COMPACT_STRINGS"), (1, .class_ 44), (1, u "java/lang/StringUTF16"), (0, u "compress"), (1, .methodref 42 48), (0, .nameAndType 49 50), (0, u "coderFromArrayLen"), (0, u "([BI)B"), (2, u "toBytes"), (53, .class_ 109), (1, u "java/lang/StringLatin1"), (67, .methodref 42 178), (0, .nameAndType 45 179), (0, u "([CII)[B"), (29, .methodref 10 210), (0, .nameAndType 5 211), (0, u "([BB)V"), (157, u "(C)Z"), (205, .class_ 576), (0, u "java/lang/CharSequence"), (22, u "CASE_INSENSITIVE_ORDER"), (0, u "Ljava/util/Comparator;"), (181, u "valueOf"), (0, u "(C)Ljava/lang/String;"), (226, u "([C)V"), (4, .methodref 107 1016), (0, .nameAndType 1017 369), (0, u "canEncode"), (0, .methodref 107 1019), (0, .nameAndType 53 1020), (0, u "(C)[B"), (80, u "serialPersistentFields"), (0, u "[Ljava/io/ObjectStreamField;"), (0, .class_ 1104), (0, u "java/lang/String$CaseInsensitiveComparator"), (1, .class_ 1107), (0, u "java/io/Serializable"), (0, .class_ 1109), (0, u "java/lang/Comparable"), (0, .class_ 1111), (0, u "java/lang/constant/Constable"), (0, .class_ 1113), (0, u "java/lang/constant/ConstantDesc"), (2, u "serialVersionUID"), (0, u "J"), (3, u "REPL"), (0, u "C"), (2, u "LATIN1"), (1, u "UTF16")] 323

def k7m0 : Method := { name := "<init>", desc := "()V", sig := { parameters := [], returnType := none }, accessFlags := 1, code := none }
def k7c1 : Code := { maxStack := 5, maxLocals := 2, code := jdk_42_method_3_code, exceptionTable := #[], attributes := #[] }
def k7m1 : Method := { name := "<init>", desc := "([C)V", sig := { parameters := [(.array .char)], returnType := none }, accessFlags := 1, code := some k7c1 }
def k7c2 : Code := { maxStack := 4, maxLocals := 1, code := jdk_42_method_139_code, exceptionTable := #[], attributes := #[] }
def k7m2 : Method := { name := "valueOf", desc := "(C)Ljava/lang/String;", sig := { parameters := [.char], returnType := some (.object "java/lang/String") }, accessFlags := 9, code := some k7c2 }
def k7c3 : Code := { maxStack := 4, maxLocals := 6, code := jdk_42_method_149_code, exceptionTable := #[], attributes := #[] }
def k7m3 : Method := { name := "<init>", desc := "([CIILjava/lang/Void;)V", sig := { parameters := [(.array .char), .int, .int, (.object "java/lang/Void")], returnType := none }, accessFlags := 2, code := some k7c3 }
def k7c4 : Code := { maxStack := 2, maxLocals := 3, code := jdk_42_method_151_code, exceptionTable := #[], attributes := #[] }
def k7m4 : Method := { name := "<init>", desc := "([BB)V", sig := { parameters := [(.array .byte), .byte], returnType := none }, accessFlags := 0, code := some k7c4 }
/-- java/lang/String -/
def k7 : Class := { plain "java/lang/String" (some 0) with
  accessFlags := 49
  interfaces := #[2, 3, 4, 5, 6]
  cf := some (fileOf pool7 10 #[.nestMembers #[1103]] #[{ accessFlags := 1, nameIndex := 5, descriptorIndex := 6, attributes := #[] }, { accessFlags := 1, nameIndex := 5, descriptorIndex := 1010, attributes := #[] }, { accessFlags := 9, nameIndex := 782, descriptorIndex := 783, attributes := #[] }, { accessFlags := 2, nameIndex := 5, descriptorIndex := 29, attributes := #[] }, { accessFlags := 0, nameIndex := 5, descriptorIndex := 211, attributes := #[] }] 49 2 #[1106, 1108, 575, 1110, 1112] #[{ accessFlags := 18, nameIndex := 13, descriptorIndex := 14, attributes := #[] }, { accessFlags := 18, nameIndex := 17, descriptorIndex := 18, attributes := #[] }, { accessFlags := 2, nameIndex := 21, descriptorIndex := 22, attributes := #[] }, { accessFlags := 2, nameIndex := 25, descriptorIndex := 26, attributes := #[] }, { accessFlags := 26, nameIndex := 1116, descriptorIndex := 1117, attributes := #[] }, { accessFlags := 24, nameIndex := 40, descriptorIndex := 26, attributes := #[] }, { accessFlags := 26, nameIndex := 1101, descriptorIndex := 1102, attributes := #[] }, { accessFlags := 26, nameIndex := 1121, descriptorIndex := 1122, attributes := #[] }, { accessFlags := 25, nameIndex := 599, descriptorIndex := 600, attributes := #[] }, { accessFlags := 24, nameIndex := 1125, descriptorIndex := 18, attributes := #[] }, { accessFlags := 24, nameIndex := 1127, descriptorIndex := 18, attributes := #[] }])
  fields := #[{ name := "value", type := (.array .byte), accessFlags := 18, slot := 0, constantValue := 0 }, { name := "coder", type := .byte, accessFlags := 18, slot := 1, constantValue := 0 }, { name := "hash", type := .int, accessFlags := 2, slot := 2, constantValue := 0 }, { name := "hashIsZero", type := .boolean, accessFlags := 2, slot := 3, constantValue := 0 }, { name := "serialVersionUID", type := .long, accessFlags := 26, slot := 0, constantValue := 0 }, { name := "COMPACT_STRINGS", type := .boolean, accessFlags := 24, slot := 1, constantValue := 0 }, { name := "serialPersistentFields", type := (.array (.object "java/io/ObjectStreamField")), accessFlags := 26, slot := 2, constantValue := 0 }, { name := "REPL", type := .char, accessFlags := 26, slot := 3, constantValue := 0 }, { name := "CASE_INSENSITIVE_ORDER", type := (.object "java/util/Comparator"), accessFlags := 25, slot := 4, constantValue := 0 }, { name := "LATIN1", type := .byte, accessFlags := 24, slot := 5, constantValue := 0 }, { name := "UTF16", type := .byte, accessFlags := 24, slot := 6, constantValue := 0 }]
  methods := #[k7m0, k7m1, k7m2, k7m3, k7m4]
  instanceTypes := #[(.array .byte), .byte, .int, .boolean]
  staticTypes := #[.long, .boolean, (.array (.object "java/io/ObjectStreamField")), .char, (.object "java/util/Comparator"), .byte, .byte]
  resolved := Array.replicate 1451 none
  statics := some 0 }

def pool8 : Array CpInfo := pool [(1, .methodref 2 3), (0, .class_ 4), (0, .nameAndType 5 6), (0, u "java/lang/Object"), (0, u "<init>"), (0, u "()V"), (0, .class_ 8), (0, u "java/lang/Record")] 13

def k8c0 : Code := { maxStack := 1, maxLocals := 1, code := jdk_30_method_1_code, exceptionTable := #[], attributes := #[] }
def k8m0 : Method := { name := "<init>", desc := "()V", sig := { parameters := [], returnType := none }, accessFlags := 4, code := some k8c0 }
/-- java/lang/Record -/
def k8 : Class := { plain "java/lang/Record" (some 0) with
  accessFlags := 1057
  interfaces := #[]
  cf := some (fileOf pool8 7 #[] #[{ accessFlags := 4, nameIndex := 5, descriptorIndex := 6, attributes := #[] }] 1057 2 #[] #[])
  fields := #[]
  methods := #[k8m0]
  instanceTypes := #[]
  staticTypes := #[]
  resolved := Array.replicate 22 none
  statics := none }

def pool9 : Array CpInfo := pool [(1, .methodref 2 3), (0, .class_ 4), (0, .nameAndType 5 6), (0, u "java/lang/Record"), (0, u "<init>"), (0, u "()V"), (0, .fieldref 8 9), (0, .class_ 10), (0, .nameAndType 11 12), (0, u "com/example/zonetally/zonetally/DayFaults"), (0, u "file"), (0, u "Lcom/example/zonetally/zonetally/DailyFile;"), (0, .fieldref 8 14), (0, .nameAndType 15 16), (0, u "hours"), (0, u "Ljava/util/List;"), (0, .fieldref 8 18), (0, .nameAndType 19 16), (0, u "found"), (0, .fieldref 8 21), (0, .nameAndType 22 16), (0, u "unlisted"), (0, .fieldref 8 24), (0, .nameAndType 25 26), (0, u "lacking"), (0, u "J"), (0, .interfaceMethodref 28 29), (0, .class_ 30), (0, .nameAndType 31 32), (0, u "java/util/List"), (0, u "of"), (0, u "(Ljava/lang/Object;)Ljava/util/List;"), (0, .methodref 8 34), (0, .nameAndType 35 36), (0, u "whole"), (0, u "(Ljava/util/List;)Lcom/example/zonetally/zonetally/DayFaults;"), (0, .interfaceMethodref 28 38), (0, .nameAndType 31 39), (0, u "()Ljava/util/List;"), (0, .methodref 8 41), (0, .nameAndType 5 42), (0, u "(Lcom/example/zonetally/zonetally/DailyFile;Ljava/util/List;Ljava/util/List;Ljava/util/List;J)V"), (0, .interfaceMethodref 28 44), (0, .nameAndType 45 46), (0, u "isEmpty"), (0, u "()Z"), (0, .class_ 48), (0, u "java/util/ArrayList"), (3, .interfaceMethodref 28 53), (0, .nameAndType 54 55), (0, u "size"), (0, u "()I"), (3, .interfaceMethodref 28 60), (0, .nameAndType 61 62), (0, u "get"), (0, u "(I)Ljava/lang/Object;"), (37, u "(Ljava/lang/String;)Lcom/example/zonetally/zonetally/DayFaults;"), (1, u "namesNothing"), (1, u "named"), (0, u "(Ljava/util/List;[Z)Ljava/util/List;"), (4, u "()Lcom/example/zonetally/zonetally/DailyFile;"), (3, u "()J")] 32

def k9c0 : Code := { maxStack := 3, maxLocals := 7, code := prog_17_method_1_code, exceptionTable := #[], attributes := #[] }
def k9m0 : Method := { name := "<init>", desc := "(Lcom/example/zonetally/zonetally/DailyFile;Ljava/util/List;Ljava/util/List;Ljava/util/List;J)V", sig := { parameters := [(.object "com/example/zonetally/zonetally/DailyFile"), (.object "java/util/List"), (.object "java/util/List"), (.object "java/util/List"), .long], returnType := none }, accessFlags := 0, code := some k9c0 }
def k9c1 : Code := { maxStack := 1, maxLocals := 1, code := prog_17_method_2_code, exceptionTable := #[], attributes := #[] }
def k9m1 : Method := { name := "whole", desc := "(Ljava/lang/String;)Lcom/example/zonetally/zonetally/DayFaults;", sig := { parameters := [(.object "java/lang/String")], returnType := some (.object "com/example/zonetally/zonetally/DayFaults") }, accessFlags := 8, code := some k9c1 }
def k9c2 : Code := { maxStack := 8, maxLocals := 1, code := prog_17_method_3_code, exceptionTable := #[], attributes := #[] }
def k9m2 : Method := { name := "whole", desc := "(Ljava/util/List;)Lcom/example/zonetally/zonetally/DayFaults;", sig := { parameters := [(.object "java/util/List")], returnType := some (.object "com/example/zonetally/zonetally/DayFaults") }, accessFlags := 8, code := some k9c2 }
def k9c3 : Code := { maxStack := 4, maxLocals := 1, code := prog_17_method_4_code, exceptionTable := #[], attributes := #[] }
def k9m3 : Method := { name := "namesNothing", desc := "()Z", sig := { parameters := [], returnType := some .boolean }, accessFlags := 0, code := some k9c3 }
def k9c4 : Code := { maxStack := 4, maxLocals := 8, code := prog_17_method_5_code, exceptionTable := #[], attributes := #[] }
def k9m4 : Method := { name := "named", desc := "(Ljava/util/List;[Z)Ljava/util/List;", sig := { parameters := [(.object "java/util/List"), (.array .boolean)], returnType := some (.object "java/util/List") }, accessFlags := 0, code := some k9c4 }
def k9c5 : Code := { maxStack := 1, maxLocals := 1, code := prog_17_method_9_code, exceptionTable := #[], attributes := #[] }
def k9m5 : Method := { name := "file", desc := "()Lcom/example/zonetally/zonetally/DailyFile;", sig := { parameters := [], returnType := some (.object "com/example/zonetally/zonetally/DailyFile") }, accessFlags := 1, code := some k9c5 }
def k9c6 : Code := { maxStack := 1, maxLocals := 1, code := prog_17_method_10_code, exceptionTable := #[], attributes := #[] }
def k9m6 : Method := { name := "hours", desc := "()Ljava/util/List;", sig := { parameters := [], returnType := some (.object "java/util/List") }, accessFlags := 1, code := some k9c6 }
def k9c7 : Code := { maxStack := 1, maxLocals := 1, code := prog_17_method_11_code, exceptionTable := #[], attributes := #[] }
def k9m7 : Method := { name := "found", desc := "()Ljava/util/List;", sig := { parameters := [], returnType := some (.object "java/util/List") }, accessFlags := 1, code := some k9c7 }
def k9c8 : Code := { maxStack := 1, maxLocals := 1, code := prog_17_method_12_code, exceptionTable := #[], attributes := #[] }
def k9m8 : Method := { name := "unlisted", desc := "()Ljava/util/List;", sig := { parameters := [], returnType := some (.object "java/util/List") }, accessFlags := 1, code := some k9c8 }
def k9c9 : Code := { maxStack := 2, maxLocals := 1, code := prog_17_method_13_code, exceptionTable := #[], attributes := #[] }
def k9m9 : Method := { name := "lacking", desc := "()J", sig := { parameters := [], returnType := some .long }, accessFlags := 1, code := some k9c9 }
/-- com/example/zonetally/zonetally/DayFaults -/
def k9 : Class := { plain "com/example/zonetally/zonetally/DayFaults" (some 8) with
  accessFlags := 48
  interfaces := #[]
  cf := some (fileOf pool9 8 #[] #[{ accessFlags := 0, nameIndex := 5, descriptorIndex := 42, attributes := #[] }, { accessFlags := 8, nameIndex := 35, descriptorIndex := 100, attributes := #[] }, { accessFlags := 8, nameIndex := 35, descriptorIndex := 36, attributes := #[] }, { accessFlags := 0, nameIndex := 102, descriptorIndex := 46, attributes := #[] }, { accessFlags := 0, nameIndex := 104, descriptorIndex := 105, attributes := #[] }, { accessFlags := 1, nameIndex := 11, descriptorIndex := 110, attributes := #[] }, { accessFlags := 1, nameIndex := 15, descriptorIndex := 39, attributes := #[] }, { accessFlags := 1, nameIndex := 19, descriptorIndex := 39, attributes := #[] }, { accessFlags := 1, nameIndex := 22, descriptorIndex := 39, attributes := #[] }, { accessFlags := 1, nameIndex := 25, descriptorIndex := 114, attributes := #[] }] 48 2 #[] #[{ accessFlags := 18, nameIndex := 11, descriptorIndex := 12, attributes := #[] }, { accessFlags := 18, nameIndex := 15, descriptorIndex := 16, attributes := #[] }, { accessFlags := 18, nameIndex := 19, descriptorIndex := 16, attributes := #[] }, { accessFlags := 18, nameIndex := 22, descriptorIndex := 16, attributes := #[] }, { accessFlags := 18, nameIndex := 25, descriptorIndex := 26, attributes := #[] }])
  fields := #[{ name := "file", type := (.object "com/example/zonetally/zonetally/DailyFile"), accessFlags := 18, slot := 0, constantValue := 0 }, { name := "hours", type := (.object "java/util/List"), accessFlags := 18, slot := 1, constantValue := 0 }, { name := "found", type := (.object "java/util/List"), accessFlags := 18, slot := 2, constantValue := 0 }, { name := "unlisted", type := (.object "java/util/List"), accessFlags := 18, slot := 3, constantValue := 0 }, { name := "lacking", type := .long, accessFlags := 18, slot := 4, constantValue := 0 }]
  methods := #[k9m0, k9m1, k9m2, k9m3, k9m4, k9m5, k9m6, k9m7, k9m8, k9m9]
  instanceTypes := #[(.object "com/example/zonetally/zonetally/DailyFile"), (.object "java/util/List"), (.object "java/util/List"), (.object "java/util/List"), .long]
  staticTypes := #[]
  resolved := Array.replicate 147 none
  statics := none }

def pool10 : Array CpInfo := pool [(8, .class_ 10), (1, u "java/lang/Iterable"), (24, .class_ 36), (0, u "java/lang/Object")] 25

/-- java/lang/Iterable -/
def k10 : Class := { plain "java/lang/Iterable" (some 0) with
  accessFlags := 1537
  interfaces := #[]
  cf := some (fileOf pool10 8 #[] #[] 1537 35 #[] #[])
  fields := #[]
  methods := #[]
  instanceTypes := #[]
  staticTypes := #[]
  resolved := Array.replicate 62 none
  statics := none }

def pool11 : Array CpInfo := pool [(10, .class_ 12), (1, u "java/util/Collection"), (47, .class_ 61), (0, u "java/lang/Object"), (0, .class_ 63), (0, u "java/lang/Iterable")] 51

/-- java/util/Collection -/
def k11 : Class := { plain "java/util/Collection" (some 0) with
  accessFlags := 1537
  interfaces := #[10]
  cf := some (fileOf pool11 10 #[] #[] 1537 60 #[62] #[])
  fields := #[]
  methods := #[]
  instanceTypes := #[]
  staticTypes := #[]
  resolved := Array.replicate 115 none
  statics := none }

def pool12 : Array CpInfo := pool [(8, .class_ 10), (1, u "java/util/SequencedCollection"), (15, .class_ 27), (0, u "java/lang/Object"), (0, .class_ 29), (0, u "java/util/Collection")] 27

/-- java/util/SequencedCollection -/
def k12 : Class := { plain "java/util/SequencedCollection" (some 0) with
  accessFlags := 1537
  interfaces := #[11]
  cf := some (fileOf pool12 8 #[] #[] 1537 26 #[28] #[])
  fields := #[]
  methods := #[]
  instanceTypes := #[]
  staticTypes := #[]
  resolved := Array.replicate 57 none
  statics := none }

def pool13 : Array CpInfo := pool [(8, .class_ 10), (1, u "java/util/List"), (7, u "()Z"), (12, u "(Ljava/lang/Object;)V"), (16, u "<init>"), (18, u "isEmpty"), (7, u "get"), (0, u "(I)Ljava/lang/Object;"), (2, u "size"), (0, u "()I"), (7, u "of"), (1, .fieldref 91 92), (0, .class_ 93), (0, .nameAndType 94 95), (0, u "java/util/ImmutableCollections"), (0, u "EMPTY_LIST"), (0, u "Ljava/util/ImmutableCollections$ListN;"), (0, .class_ 97), (0, u "java/util/ImmutableCollections$List12"), (0, .methodref 96 99), (0, .nameAndType 48 31), (3, .class_ 104), (0, u "java/lang/Object"), (14, u "()Ljava/util/List;"), (0, .class_ 121), (0, u "java/util/SequencedCollection"), (76, u "(Ljava/lang/Object;)Ljava/util/List;")] 52

def k13m0 : Method := { name := "size", desc := "()I", sig := { parameters := [], returnType := some .int }, accessFlags := 1025, code := none }
def k13m1 : Method := { name := "isEmpty", desc := "()Z", sig := { parameters := [], returnType := some .boolean }, accessFlags := 1025, code := none }
def k13m2 : Method := { name := "get", desc := "(I)Ljava/lang/Object;", sig := { parameters := [.int], returnType := some (.object "java/lang/Object") }, accessFlags := 1025, code := none }
def k13c3 : Code := { maxStack := 1, maxLocals := 0, code := jdk_40_method_36_code, exceptionTable := #[], attributes := #[] }
def k13m3 : Method := { name := "of", desc := "()Ljava/util/List;", sig := { parameters := [], returnType := some (.object "java/util/List") }, accessFlags := 9, code := some k13c3 }
def k13c4 : Code := { maxStack := 3, maxLocals := 1, code := jdk_40_method_37_code, exceptionTable := #[], attributes := #[] }
def k13m4 : Method := { name := "of", desc := "(Ljava/lang/Object;)Ljava/util/List;", sig := { parameters := [(.object "java/lang/Object")], returnType := some (.object "java/util/List") }, accessFlags := 9, code := some k13c4 }
/-- java/util/List -/
def k13 : Class := { plain "java/util/List" (some 0) with
  accessFlags := 1537
  interfaces := #[12]
  cf := some (fileOf pool13 8 #[] #[{ accessFlags := 1025, nameIndex := 79, descriptorIndex := 80, attributes := #[] }, { accessFlags := 1025, nameIndex := 67, descriptorIndex := 18, attributes := #[] }, { accessFlags := 1025, nameIndex := 75, descriptorIndex := 76, attributes := #[] }, { accessFlags := 9, nameIndex := 88, descriptorIndex := 119, attributes := #[] }, { accessFlags := 9, nameIndex := 88, descriptorIndex := 198, attributes := #[] }] 1537 103 #[120] #[])
  fields := #[]
  methods := #[k13m0, k13m1, k13m2, k13m3, k13m4]
  instanceTypes := #[]
  staticTypes := #[]
  resolved := Array.replicate 251 none
  statics := none }

def pool14 : Array CpInfo := pool [(1, .methodref 2 3), (0, .class_ 4), (0, .nameAndType 5 6), (0, u "java/lang/Object"), (0, u "<init>"), (0, u "()V"), (1, .class_ 10), (1, u "java/util/AbstractCollection"), (66, .class_ 78), (0, u "java/util/Collection")] 81

def k14c0 : Code := { maxStack := 1, maxLocals := 1, code := jdk_22_method_1_code, exceptionTable := #[], attributes := #[] }
def k14m0 : Method := { name := "<init>", desc := "()V", sig := { parameters := [], returnType := none }, accessFlags := 4, code := some k14c0 }
/-- java/util/AbstractCollection -/
def k14 : Class := { plain "java/util/AbstractCollection" (some 0) with
  accessFlags := 1057
  interfaces := #[11]
  cf := some (fileOf pool14 8 #[] #[{ accessFlags := 4, nameIndex := 5, descriptorIndex := 6, attributes := #[] }] 1057 2 #[77] #[])
  fields := #[]
  methods := #[k14m0]
  instanceTypes := #[]
  staticTypes := #[]
  resolved := Array.replicate 160 none
  statics := none }

def pool15 : Array CpInfo := pool [(1, .methodref 2 3), (0, .class_ 4), (0, .nameAndType 5 6), (0, u "java/util/AbstractCollection"), (0, u "<init>"), (0, u "()V"), (1, .class_ 10), (1, u "java/util/ImmutableCollections"), (2, .class_ 14), (0, u "java/util/ImmutableCollections$AbstractImmutableCollection")] 41

def k15c0 : Code := { maxStack := 1, maxLocals := 1, code := jdk_47_method_1_code, exceptionTable := #[], attributes := #[] }
def k15m0 : Method := { name := "<init>", desc := "()V", sig := { parameters := [], returnType := none }, accessFlags := 0, code := some k15c0 }
/-- java/util/ImmutableCollections$AbstractImmutableCollection -/
def k15 : Class := { plain "java/util/ImmutableCollections$AbstractImmutableCollection" (some 14) with
  accessFlags := 1056
  interfaces := #[]
  cf := some (fileOf pool15 13 #[.nestHost 8] #[{ accessFlags := 0, nameIndex := 5, descriptorIndex := 6, attributes := #[] }] 1056 2 #[] #[])
  fields := #[]
  methods := #[k15m0]
  instanceTypes := #[]
  staticTypes := #[]
  resolved := Array.replicate 56 none
  statics := none }

def pool16 : Array CpInfo := pool [(1, .class_ 2), (0, u "java/util/RandomAccess"), (0, .class_ 4), (0, u "java/lang/Object")] 2

/-- java/util/RandomAccess -/
def k16 : Class := { plain "java/util/RandomAccess" (some 0) with
  accessFlags := 1537
  interfaces := #[]
  cf := some (fileOf pool16 1 #[] #[] 1537 3 #[] #[])
  fields := #[]
  methods := #[]
  instanceTypes := #[]
  staticTypes := #[]
  resolved := Array.replicate 7 none
  statics := none }

def pool17 : Array CpInfo := pool [(1, .methodref 2 3), (0, .class_ 4), (0, .nameAndType 5 6), (0, u "java/util/ImmutableCollections$AbstractImmutableCollection"), (0, u "<init>"), (0, u "()V"), (1, .class_ 10), (1, u "java/util/ImmutableCollections"), (3, .class_ 16), (1, u "java/util/ImmutableCollections$AbstractImmutableList"), (60, .class_ 78), (0, u "java/util/List"), (45, .class_ 125), (0, u "java/util/RandomAccess")] 70

def k17c0 : Code := { maxStack := 1, maxLocals := 1, code := jdk_46_method_1_code, exceptionTable := #[], attributes := #[] }
def k17m0 : Method := { name := "<init>", desc := "()V", sig := { parameters := [], returnType := none }, accessFlags := 0, code := some k17c0 }
/-- java/util/ImmutableCollections$AbstractImmutableList -/
def k17 : Class := { plain "java/util/ImmutableCollections$AbstractImmutableList" (some 15) with
  accessFlags := 1056
  interfaces := #[13, 16]
  cf := some (fileOf pool17 14 #[.nestHost 8] #[{ accessFlags := 0, nameIndex := 5, descriptorIndex := 6, attributes := #[] }] 1056 2 #[77, 124] #[])
  fields := #[]
  methods := #[k17m0]
  instanceTypes := #[]
  staticTypes := #[]
  resolved := Array.replicate 196 none
  statics := none }

def pool18 : Array CpInfo := pool [(1, .methodref 2 3), (0, .class_ 4), (0, .nameAndType 5 6), (0, u "java/util/ImmutableCollections$AbstractImmutableList"), (0, u "<init>"), (0, u "()V"), (0, .methodref 8 9), (0, .class_ 10), (0, .nameAndType 11 12), (0, u "java/util/Objects"), (0, u "requireNonNull"), (0, u "(Ljava/lang/Object;)Ljava/lang/Object;"), (0, .fieldref 14 15), (0, .class_ 16), (0, .nameAndType 17 18), (0, u "java/util/ImmutableCollections$List12"), (0, u "e0"), (0, u "Ljava/lang/Object;"), (0, .fieldref 20 21), (0, .class_ 22), (0, .nameAndType 23 18), (0, u "java/util/ImmutableCollections"), (0, u "EMPTY"), (0, .fieldref 14 25), (0, .nameAndType 26 18), (0, u "e1"), (24, u "size"), (0, u "()I"), (17, .class_ 71), (0, u "java/io/Serializable"), (4, u "(Ljava/lang/Object;)V"), (11, u "isEmpty"), (0, u "()Z"), (0, u "get"), (0, u "(I)Ljava/lang/Object;")] 33

def k18c0 : Code := { maxStack := 2, maxLocals := 2, code := jdk_44_method_1_code, exceptionTable := #[], attributes := #[] }
def k18m0 : Method := { name := "<init>", desc := "(Ljava/lang/Object;)V", sig := { parameters := [(.object "java/lang/Object")], returnType := none }, accessFlags := 0, code := some k18c0 }
def k18c1 : Code := { maxStack := 2, maxLocals := 1, code := jdk_44_method_3_code, exceptionTable := #[], attributes := #[] }
def k18m1 : Method := { name := "size", desc := "()I", sig := { parameters := [], returnType := some .int }, accessFlags := 1, code := some k18c1 }
def k18c2 : Code := { maxStack := 1, maxLocals := 1, code := jdk_44_method_4_code, exceptionTable := #[], attributes := #[] }
def k18m2 : Method := { name := "isEmpty", desc := "()Z", sig := { parameters := [], returnType := some .boolean }, accessFlags := 1, code := some k18c2 }
def k18c3 : Code := { maxStack := 2, maxLocals := 2, code := jdk_44_method_5_code, exceptionTable := #[], attributes := #[] }
def k18m3 : Method := { name := "get", desc := "(I)Ljava/lang/Object;", sig := { parameters := [.int], returnType := some (.object "java/lang/Object") }, accessFlags := 1, code := some k18c3 }
/-- java/util/ImmutableCollections$List12 -/
def k18 : Class := { plain "java/util/ImmutableCollections$List12" (some 17) with
  accessFlags := 48
  interfaces := #[2]
  cf := some (fileOf pool18 14 #[.nestHost 20] #[{ accessFlags := 0, nameIndex := 5, descriptorIndex := 76, attributes := #[] }, { accessFlags := 1, nameIndex := 51, descriptorIndex := 52, attributes := #[] }, { accessFlags := 1, nameIndex := 88, descriptorIndex := 89, attributes := #[] }, { accessFlags := 1, nameIndex := 90, descriptorIndex := 91, attributes := #[] }] 48 2 #[70] #[{ accessFlags := 18, nameIndex := 17, descriptorIndex := 18, attributes := #[] }, { accessFlags := 18, nameIndex := 26, descriptorIndex := 18, attributes := #[] }])
  fields := #[{ name := "e0", type := (.object "java/lang/Object"), accessFlags := 18, slot := 0, constantValue := 0 }, { name := "e1", type := (.object "java/lang/Object"), accessFlags := 18, slot := 1, constantValue := 0 }]
  methods := #[k18m0, k18m1, k18m2, k18m3]
  instanceTypes := #[(.object "java/lang/Object"), (.object "java/lang/Object")]
  staticTypes := #[]
  resolved := Array.replicate 125 none
  statics := none }

def pool19 : Array CpInfo := pool [(2, .class_ 4), (1, u "java/lang/Object"), (0, u "<init>"), (0, u "()V"), (35, .class_ 44), (1, u "java/util/Objects"), (0, u "requireNonNull"), (0, u "(Ljava/lang/Object;)Ljava/lang/Object;")] 137

def k19m0 : Method := { name := "<init>", desc := "()V", sig := { parameters := [], returnType := none }, accessFlags := 2, code := none }
def k19c1 : Code := { maxStack := 2, maxLocals := 1, code := jdk_31_method_10_code, exceptionTable := #[], attributes := #[] }
def k19m1 : Method := { name := "requireNonNull", desc := "(Ljava/lang/Object;)Ljava/lang/Object;", sig := { parameters := [(.object "java/lang/Object")], returnType := some (.object "java/lang/Object") }, accessFlags := 9, code := some k19c1 }
/-- java/util/Objects -/
def k19 : Class := { plain "java/util/Objects" (some 0) with
  accessFlags := 49
  interfaces := #[]
  cf := some (fileOf pool19 42 #[] #[{ accessFlags := 2, nameIndex := 5, descriptorIndex := 6, attributes := #[] }, { accessFlags := 9, nameIndex := 45, descriptorIndex := 46, attributes := #[] }] 49 2 #[] #[])
  fields := #[]
  methods := #[k19m0, k19m1]
  instanceTypes := #[]
  staticTypes := #[]
  resolved := Array.replicate 184 none
  statics := none }

def pool20 : Array CpInfo := pool [(2, .class_ 4), (1, u "java/lang/Object"), (0, u "<init>"), (0, u "()V"), (3, .class_ 11), (0, u "java/util/ImmutableCollections$List12"), (0, .class_ 13), (0, u "java/util/ImmutableCollections$ListN"), (3, u "Z"), (29, .class_ 49), (1, u "java/util/ImmutableCollections"), (0, u "$assertionsDisabled"), (5, u "[Ljava/lang/Object;"), (5, u "EMPTY_LIST"), (0, u "Ljava/util/ImmutableCollections$ListN;"), (8, u "EMPTY_LIST_NULLS"), (22, u "SALT32L"), (0, u "J"), (2, u "REVERSE"), (6, u "archivedObjects"), (2, u "EMPTY"), (0, u "Ljava/lang/Object;"), (0, .class_ 112), (0, u "java/util/ImmutableCollections$SetN"), (5, u "EMPTY_SET"), (0, u "Ljava/util/ImmutableCollections$SetN;"), (0, .class_ 121), (0, u "java/util/ImmutableCollections$MapN"), (3, u "EMPTY_MAP"), (0, u "Ljava/util/ImmutableCollections$MapN;"), (4, u "EXPAND_FACTOR"), (0, u "I"), (36, .class_ 170), (0, u "java/util/ImmutableCollections$MapN$MapNIterator"), (0, .class_ 172), (0, u "java/util/ImmutableCollections$MapN$1"), (0, .class_ 174), (0, u "java/util/ImmutableCollections$Map1"), (0, .class_ 176), (0, u "java/util/ImmutableCollections$AbstractImmutableMap"), (0, .class_ 178), (0, u "java/util/ImmutableCollections$SetN$SetNIterator"), (0, .class_ 180), (0, u "java/util/ImmutableCollections$Set12"), (0, .class_ 182), (0, u "java/util/ImmutableCollections$Set12$1"), (0, .class_ 184), (0, u "java/util/ImmutableCollections$AbstractImmutableSet"), (0, .class_ 186), (0, u "java/util/ImmutableCollections$SubList"), (0, .class_ 188), (0, u "java/util/ImmutableCollections$ListItr"), (0, .class_ 190), (0, u "java/util/ImmutableCollections$AbstractImmutableList"), (0, .class_ 192), (0, u "java/util/ImmutableCollections$AbstractImmutableCollection"), (0, .class_ 194), (0, u "java/util/ImmutableCollections$Access"), (0, .class_ 196), (0, u "java/util/ImmutableCollections$Access$1")] 16

def k20m0 : Method := { name := "<init>", desc := "()V", sig := { parameters := [], returnType := none }, accessFlags := 2, code := none }
/-- java/util/ImmutableCollections -/
def k20 : Class := { plain "java/util/ImmutableCollections" (some 0) with
  accessFlags := 32
  interfaces := #[]
  cf := some (fileOf pool20 47 #[.nestMembers #[120, 169, 171, 173, 175, 111, 177, 179, 181, 183, 12, 10, 185, 187, 189, 191, 193, 195]] #[{ accessFlags := 2, nameIndex := 5, descriptorIndex := 6, attributes := #[] }] 32 2 #[] #[{ accessFlags := 26, nameIndex := 95, descriptorIndex := 96, attributes := #[] }, { accessFlags := 26, nameIndex := 99, descriptorIndex := 17, attributes := #[] }, { accessFlags := 10, nameIndex := 106, descriptorIndex := 56, attributes := #[] }, { accessFlags := 26, nameIndex := 109, descriptorIndex := 110, attributes := #[] }, { accessFlags := 24, nameIndex := 62, descriptorIndex := 63, attributes := #[] }, { accessFlags := 24, nameIndex := 72, descriptorIndex := 63, attributes := #[] }, { accessFlags := 24, nameIndex := 118, descriptorIndex := 119, attributes := #[] }, { accessFlags := 24, nameIndex := 125, descriptorIndex := 126, attributes := #[] }, { accessFlags := 24, nameIndex := 131, descriptorIndex := 132, attributes := #[] }, { accessFlags := 4120, nameIndex := 50, descriptorIndex := 17, attributes := #[] }])
  fields := #[{ name := "SALT32L", type := .long, accessFlags := 26, slot := 0, constantValue := 0 }, { name := "REVERSE", type := .boolean, accessFlags := 26, slot := 1, constantValue := 0 }, { name := "archivedObjects", type := (.array (.object "java/lang/Object")), accessFlags := 10, slot := 2, constantValue := 0 }, { name := "EMPTY", type := (.object "java/lang/Object"), accessFlags := 26, slot := 3, constantValue := 0 }, { name := "EMPTY_LIST", type := (.object "java/util/ImmutableCollections$ListN"), accessFlags := 24, slot := 4, constantValue := 0 }, { name := "EMPTY_LIST_NULLS", type := (.object "java/util/ImmutableCollections$ListN"), accessFlags := 24, slot := 5, constantValue := 0 }, { name := "EMPTY_SET", type := (.object "java/util/ImmutableCollections$SetN"), accessFlags := 24, slot := 6, constantValue := 0 }, { name := "EMPTY_MAP", type := (.object "java/util/ImmutableCollections$MapN"), accessFlags := 24, slot := 7, constantValue := 0 }, { name := "EXPAND_FACTOR", type := .int, accessFlags := 24, slot := 8, constantValue := 0 }, { name := "$assertionsDisabled", type := .boolean, accessFlags := 4120, slot := 9, constantValue := 0 }]
  methods := #[k20m0]
  instanceTypes := #[]
  staticTypes := #[.long, .boolean, (.array (.object "java/lang/Object")), (.object "java/lang/Object"), (.object "java/util/ImmutableCollections$ListN"), (.object "java/util/ImmutableCollections$ListN"), (.object "java/util/ImmutableCollections$SetN"), (.object "java/util/ImmutableCollections$MapN"), .int, .boolean]
  resolved := Array.replicate 213 none
  statics := some 1 }

def pool21 : Array CpInfo := pool [(1, .methodref 2 3), (0, .class_ 4), (0, .nameAndType 5 6), (0, u "java/util/AbstractCollection"), (0, u "<init>"), (0, u "()V"), (0, .fieldref 8 9), (0, .class_ 10), (0, .nameAndType 11 12), (0, u "java/util/AbstractList"), (0, u "modCount"), (0, u "I"), (64, .class_ 78), (0, u "java/util/AbstractList$Itr"), (3, .class_ 83), (0, u "java/util/AbstractList$ListItr"), (9, .class_ 94), (0, u "java/util/AbstractList$RandomAccessSubList"), (3, .class_ 99), (0, u "java/util/AbstractList$SubList"), (33, .class_ 134), (0, u "java/util/List"), (73, .class_ 209), (0, u "java/util/AbstractList$SubList$1"), (0, .class_ 211), (0, u "java/util/AbstractList$RandomAccessSpliterator")] 6

def k21c0 : Code := { maxStack := 2, maxLocals := 1, code := jdk_39_method_1_code, exceptionTable := #[], attributes := #[] }
def k21m0 : Method := { name := "<init>", desc := "()V", sig := { parameters := [], returnType := none }, accessFlags := 4, code := some k21c0 }
/-- java/util/AbstractList -/
def k21 : Class := { plain "java/util/AbstractList" (some 14) with
  accessFlags := 1057
  interfaces := #[13]
  cf := some (fileOf pool21 8 #[.nestMembers #[93, 98, 208, 210, 82, 77]] #[{ accessFlags := 4, nameIndex := 5, descriptorIndex := 6, attributes := #[] }] 1057 2 #[133] #[{ accessFlags := 132, nameIndex := 11, descriptorIndex := 12, attributes := #[] }])
  fields := #[{ name := "modCount", type := .int, accessFlags := 132, slot := 0, constantValue := 0 }]
  methods := #[k21m0]
  instanceTypes := #[.int]
  staticTypes := #[]
  resolved := Array.replicate 218 none
  statics := none }

def pool22 : Array CpInfo := pool [(1, .class_ 2), (0, u "java/lang/Cloneable"), (0, .class_ 4), (0, u "java/lang/Object")] 2

/-- java/lang/Cloneable -/
def k22 : Class := { plain "java/lang/Cloneable" (some 0) with
  accessFlags := 1537
  interfaces := #[]
  cf := some (fileOf pool22 1 #[] #[] 1537 3 #[] #[])
  fields := #[]
  methods := #[]
  instanceTypes := #[]
  staticTypes := #[]
  resolved := Array.replicate 7 none
  statics := none }

def pool23 : Array CpInfo := pool [(1, .methodref 2 3), (0, .class_ 4), (0, .nameAndType 5 6), (0, u "java/util/AbstractList"), (0, u "<init>"), (0, u "()V"), (2, .fieldref 10 11), (0, .class_ 12), (0, .nameAndType 13 14), (0, u "java/util/ArrayList"), (0, u "elementData"), (0, u "[Ljava/lang/Object;"), (2, u "EMPTY_ELEMENTDATA"), (21, .fieldref 10 40), (0, .nameAndType 41 14), (0, u "DEFAULTCAPACITY_EMPTY_ELEMENTDATA"), (8, u "size"), (0, u "I"), (96, .class_ 149), (0, u "java/util/List"), (112, .class_ 263), (0, u "java/util/ArrayList$ListItr"), (3, .class_ 268), (0, u "java/util/ArrayList$Itr"), (7, .class_ 277), (0, u "java/util/ArrayList$SubList"), (12, .class_ 291), (0, u "java/util/ArrayList$ArrayListSpliterator"), (37, .class_ 330), (0, u "java/util/RandomAccess"), (0, .class_ 332), (0, u "java/lang/Cloneable"), (0, .class_ 334), (0, u "java/io/Serializable"), (0, u "serialVersionUID"), (0, u "J"), (3, u "DEFAULT_CAPACITY"), (159, .class_ 501), (0, u "java/util/ArrayList$SubList$2"), (0, .class_ 503), (0, u "java/util/ArrayList$SubList$1")] 5

def k23c0 : Code := { maxStack := 2, maxLocals := 1, code := jdk_38_method_2_code, exceptionTable := #[], attributes := #[] }
def k23m0 : Method := { name := "<init>", desc := "()V", sig := { parameters := [], returnType := none }, accessFlags := 1, code := some k23c0 }
/-- java/util/ArrayList -/
def k23 : Class := { plain "java/util/ArrayList" (some 21) with
  accessFlags := 33
  interfaces := #[13, 16, 22, 2]
  cf := some (fileOf pool23 10 #[.nestMembers #[290, 276, 500, 502, 262, 267]] #[{ accessFlags := 1, nameIndex := 5, descriptorIndex := 6, attributes := #[] }] 33 2 #[148, 329, 331, 333] #[{ accessFlags := 26, nameIndex := 335, descriptorIndex := 336, attributes := #[] }, { accessFlags := 26, nameIndex := 340, descriptorIndex := 51, attributes := #[] }, { accessFlags := 26, nameIndex := 17, descriptorIndex := 14, attributes := #[] }, { accessFlags := 26, nameIndex := 41, descriptorIndex := 14, attributes := #[] }, { accessFlags := 128, nameIndex := 13, descriptorIndex := 14, attributes := #[] }, { accessFlags := 2, nameIndex := 50, descriptorIndex := 51, attributes := #[] }])
  fields := #[{ name := "serialVersionUID", type := .long, accessFlags := 26, slot := 0, constantValue := 0 }, { name := "DEFAULT_CAPACITY", type := .int, accessFlags := 26, slot := 1, constantValue := 0 }, { name := "EMPTY_ELEMENTDATA", type := (.array (.object "java/lang/Object")), accessFlags := 26, slot := 2, constantValue := 0 }, { name := "DEFAULTCAPACITY_EMPTY_ELEMENTDATA", type := (.array (.object "java/lang/Object")), accessFlags := 26, slot := 3, constantValue := 0 }, { name := "elementData", type := (.array (.object "java/lang/Object")), accessFlags := 128, slot := 1, constantValue := 0 }, { name := "size", type := .int, accessFlags := 2, slot := 2, constantValue := 0 }]
  methods := #[k23m0]
  instanceTypes := #[.int, (.array (.object "java/lang/Object")), .int]
  staticTypes := #[.long, .int, (.array (.object "java/lang/Object")), (.array (.object "java/lang/Object"))]
  resolved := Array.replicate 509 none
  statics := some 2 }

def pool24 : Array CpInfo := pool [(2, .class_ 4), (1, u "java/util/ImmutableCollections$AbstractImmutableList"), (2, .fieldref 8 9), (0, .class_ 10), (0, .nameAndType 11 12), (0, u "java/util/ImmutableCollections$ListN"), (0, u "elements"), (0, u "[Ljava/lang/Object;"), (2, u "allowNulls"), (0, u "Z"), (42, .class_ 60), (0, u "java/io/Serializable"), (16, u "size"), (0, u "()I"), (35, .class_ 115), (0, u "java/util/ImmutableCollections")] 3

def k24c0 : Code := { maxStack := 1, maxLocals := 1, code := jdk_45_method_3_code, exceptionTable := #[], attributes := #[] }
def k24m0 : Method := { name := "size", desc := "()I", sig := { parameters := [], returnType := some .int }, accessFlags := 1, code := some k24c0 }
/-- java/util/ImmutableCollections$ListN -/
def k24 : Class := { plain "java/util/ImmutableCollections$ListN" (some 17) with
  accessFlags := 48
  interfaces := #[2]
  cf := some (fileOf pool24 8 #[.nestHost 114] #[{ accessFlags := 1, nameIndex := 77, descriptorIndex := 78, attributes := #[] }] 48 2 #[59] #[{ accessFlags := 18, nameIndex := 11, descriptorIndex := 12, attributes := #[] }, { accessFlags := 18, nameIndex := 15, descriptorIndex := 16, attributes := #[] }])
  fields := #[{ name := "elements", type := (.array (.object "java/lang/Object")), accessFlags := 18, slot := 0, constantValue := 0 }, { name := "allowNulls", type := .boolean, accessFlags := 18, slot := 1, constantValue := 0 }]
  methods := #[k24m0]
  instanceTypes := #[(.array (.object "java/lang/Object")), .boolean]
  staticTypes := #[]
  resolved := Array.replicate 119 none
  statics := none }

def pool25 : Array CpInfo := pool [(6, .class_ 8), (1, u "java/lang/Object"), (0, u "<init>"), (0, u "()V"), (1, .class_ 14), (1, u "java/lang/StringUTF16"), (31, u "$assertionsDisabled"), (0, u "Z"), (13, u "HI_BYTE_SHIFT"), (0, u "I"), (2, u "LO_BYTE_SHIFT"), (49, .methodref 12 116), (0, .nameAndType 117 118), (0, u "compress"), (0, u "([CI[BII)I"), (3, u "([CII)[B"), (138, u "coderFromArrayLen"), (0, u "([BI)B"), (106, .class_ 371), (1, u "java/lang/StringUTF16$LinesSpliterator"), (58, u "MAX_LENGTH"), (196, .class_ 628), (0, u "java/lang/StringUTF16$CodePointsSpliterator"), (0, .class_ 630), (0, u "java/lang/StringUTF16$CharsSpliterator")] 4

def k25m0 : Method := { name := "<init>", desc := "()V", sig := { parameters := [], returnType := none }, accessFlags := 0, code := none }
def k25c1 : Code := { maxStack := 2, maxLocals := 2, code := jdk_52_method_15_code, exceptionTable := #[], attributes := #[] }
def k25m1 : Method := { name := "coderFromArrayLen", desc := "([BI)B", sig := { parameters := [(.array .byte), .int], returnType := some .byte }, accessFlags := 8, code := some k25c1 }
def k25c2 : Code := { maxStack := 5, maxLocals := 6, code := jdk_52_method_16_code, exceptionTable := #[], attributes := #[] }
def k25m2 : Method := { name := "compress", desc := "([CII)[B", sig := { parameters := [(.array .char), .int, .int], returnType := some (.array .byte) }, accessFlags := 9, code := some k25c2 }
def k25c3 : Code := { maxStack := 3, maxLocals := 7, code := jdk_52_method_21_code, exceptionTable := #[], attributes := #[] }
def k25m3 : Method := { name := "compress", desc := "([CI[BII)I", sig := { parameters := [(.array .char), .int, (.array .byte), .int, .int], returnType := some .int }, accessFlags := 9, code := some k25c3 }
/-- java/lang/StringUTF16 -/
def k25 : Class := { plain "java/lang/StringUTF16" (some 0) with
  accessFlags := 48
  interfaces := #[]
  cf := some (fileOf pool25 12 #[.nestMembers #[627, 629, 369]] #[{ accessFlags := 0, nameIndex := 9, descriptorIndex := 10, attributes := #[] }, { accessFlags := 8, nameIndex := 261, descriptorIndex := 262, attributes := #[] }, { accessFlags := 9, nameIndex := 117, descriptorIndex := 122, attributes := #[] }, { accessFlags := 9, nameIndex := 117, descriptorIndex := 118, attributes := #[] }] 48 6 #[] #[{ accessFlags := 26, nameIndex := 61, descriptorIndex := 62, attributes := #[] }, { accessFlags := 26, nameIndex := 65, descriptorIndex := 62, attributes := #[] }, { accessFlags := 24, nameIndex := 430, descriptorIndex := 62, attributes := #[] }, { accessFlags := 4120, nameIndex := 46, descriptorIndex := 47, attributes := #[] }])
  fields := #[{ name := "HI_BYTE_SHIFT", type := .int, accessFlags := 26, slot := 0, constantValue := 0 }, { name := "LO_BYTE_SHIFT", type := .int, accessFlags := 26, slot := 1, constantValue := 0 }, { name := "MAX_LENGTH", type := .int, accessFlags := 24, slot := 2, constantValue := 0 }, { name := "$assertionsDisabled", type := .boolean, accessFlags := 4120, slot := 3, constantValue := 0 }]
  methods := #[k25m0, k25m1, k25m2, k25m3]
  instanceTypes := #[]
  staticTypes := #[.int, .int, .int, .boolean]
  resolved := Array.replicate 635 none
  statics := none }

def pool26 : Array CpInfo := pool [(4, .class_ 6), (1, u "java/lang/Object"), (0, u "<init>"), (0, u "()V"), (5, .class_ 16), (1, u "java/lang/StringLatin1"), (73, u "canEncode"), (14, u "(C)Z"), (15, u "$assertionsDisabled"), (0, u "Z"), (98, .class_ 223), (1, u "java/lang/StringLatin1$LinesSpliterator"), (156, u "toBytes"), (1, u "(C)[B"), (7, .class_ 391), (0, u "java/lang/StringLatin1$CharsSpliterator")] 3

def k26m0 : Method := { name := "<init>", desc := "()V", sig := { parameters := [], returnType := none }, accessFlags := 0, code := none }
def k26c1 : Code := { maxStack := 2, maxLocals := 1, code := jdk_43_method_3_code, exceptionTable := #[], attributes := #[] }
def k26m1 : Method := { name := "canEncode", desc := "(C)Z", sig := { parameters := [.char], returnType := some .boolean }, accessFlags := 9, code := some k26c1 }
def k26c2 : Code := { maxStack := 4, maxLocals := 1, code := jdk_43_method_46_code, exceptionTable := #[], attributes := #[] }
def k26m2 : Method := { name := "toBytes", desc := "(C)[B", sig := { parameters := [.char], returnType := some (.array .byte) }, accessFlags := 9, code := some k26c2 }
/-- java/lang/StringLatin1 -/
def k26 : Class := { plain "java/lang/StringLatin1" (some 0) with
  accessFlags := 48
  interfaces := #[]
  cf := some (fileOf pool26 14 #[.nestMembers #[390, 221]] #[{ accessFlags := 0, nameIndex := 7, descriptorIndex := 8, attributes := #[] }, { accessFlags := 9, nameIndex := 90, descriptorIndex := 105, attributes := #[] }, { accessFlags := 9, nameIndex := 380, descriptorIndex := 382, attributes := #[] }] 48 4 #[] #[{ accessFlags := 4120, nameIndex := 121, descriptorIndex := 122, attributes := #[] }])
  fields := #[{ name := "$assertionsDisabled", type := .boolean, accessFlags := 4120, slot := 0, constantValue := 0 }]
  methods := #[k26m0, k26m1, k26m2]
  instanceTypes := #[]
  staticTypes := #[.boolean]
  resolved := Array.replicate 395 none
  statics := none }

def pool27 : Array CpInfo := pool [(2, .class_ 4), (1, u "java/lang/Object"), (0, u "<init>"), (0, u "()V"), (17, .class_ 26), (1, u "jdk/internal/util/Preconditions"), (28, .class_ 56), (0, u "jdk/internal/util/Preconditions$4"), (57, .class_ 115), (0, u "jdk/internal/util/Preconditions$1"), (7, u "SIOOBE_FORMATTER"), (0, u "Ljava/util/function/BiFunction;"), (0, .class_ 126), (0, u "jdk/internal/util/Preconditions$2"), (3, u "AIOOBE_FORMATTER"), (0, .class_ 132), (0, u "jdk/internal/util/Preconditions$3"), (3, u "IOOBE_FORMATTER")] 57

def k27m0 : Method := { name := "<init>", desc := "()V", sig := { parameters := [], returnType := none }, accessFlags := 1, code := none }
/-- jdk/internal/util/Preconditions -/
def k27 : Class := { plain "jdk/internal/util/Preconditions" (some 0) with
  accessFlags := 33
  interfaces := #[]
  cf := some (fileOf pool27 24 #[.nestMembers #[55, 131, 125, 114]] #[{ accessFlags := 1, nameIndex := 5, descriptorIndex := 6, attributes := #[] }] 33 2 #[] #[{ accessFlags := 25, nameIndex := 123, descriptorIndex := 124, attributes := #[] }, { accessFlags := 25, nameIndex := 130, descriptorIndex := 124, attributes := #[] }, { accessFlags := 25, nameIndex := 136, descriptorIndex := 124, attributes := #[] }])
  fields := #[{ name := "SIOOBE_FORMATTER", type := (.object "java/util/function/BiFunction"), accessFlags := 25, slot := 0, constantValue := 0 }, { name := "AIOOBE_FORMATTER", type := (.object "java/util/function/BiFunction"), accessFlags := 25, slot := 1, constantValue := 0 }, { name := "IOOBE_FORMATTER", type := (.object "java/util/function/BiFunction"), accessFlags := 25, slot := 2, constantValue := 0 }]
  methods := #[k27m0]
  instanceTypes := #[]
  staticTypes := #[(.object "java/util/function/BiFunction"), (.object "java/util/function/BiFunction"), (.object "java/util/function/BiFunction")]
  resolved := Array.replicate 194 none
  statics := some 3 }

def pool28 : Array CpInfo := pool [(9, u "<init>"), (6, .class_ 18), (1, u "java/lang/Object"), (0, u "()V"), (1, .class_ 23), (1, u "jdk/internal/util/ArraysSupport"), (0, u "LOG2_ARRAY_LONG_INDEX_SCALE"), (0, u "I"), (2, u "U"), (0, u "Ljdk/internal/misc/Unsafe;"), (8, u "BIG_ENDIAN"), (0, u "Z"), (8, u "LOG2_BYTE_BIT_SIZE"), (4, u "LOG2_ARRAY_INT_INDEX_SCALE"), (54, u "JLA"), (0, u "Ljdk/internal/access/JavaLangAccess;"), (11, u "LOG2_ARRAY_BOOLEAN_INDEX_SCALE"), (9, u "LOG2_ARRAY_BYTE_INDEX_SCALE"), (5, u "LOG2_ARRAY_CHAR_INDEX_SCALE"), (5, u "LOG2_ARRAY_SHORT_INDEX_SCALE"), (18, u "LOG2_ARRAY_FLOAT_INDEX_SCALE"), (24, u "LOG2_ARRAY_DOUBLE_INDEX_SCALE"), (89, u "T_BOOLEAN"), (2, u "T_CHAR"), (1, u "T_FLOAT"), (1, u "T_DOUBLE"), (1, u "T_BYTE"), (1, u "T_SHORT"), (1, u "T_INT"), (1, u "T_LONG"), (1, u "SOFT_MAX_ARRAY_LENGTH")] 83

def k28m0 : Method := { name := "<init>", desc := "()V", sig := { parameters := [], returnType := none }, accessFlags := 2, code := none }
/-- jdk/internal/util/ArraysSupport -/
def k28 : Class := { plain "jdk/internal/util/ArraysSupport" (some 0) with
  accessFlags := 33
  interfaces := #[]
  cf := some (fileOf pool28 21 #[] #[{ accessFlags := 2, nameIndex := 9, descriptorIndex := 19, attributes := #[] }] 33 16 #[] #[{ accessFlags := 24, nameIndex := 28, descriptorIndex := 29, attributes := #[] }, { accessFlags := 26, nameIndex := 38, descriptorIndex := 39, attributes := #[] }, { accessFlags := 25, nameIndex := 121, descriptorIndex := 25, attributes := #[] }, { accessFlags := 25, nameIndex := 131, descriptorIndex := 25, attributes := #[] }, { accessFlags := 25, nameIndex := 137, descriptorIndex := 25, attributes := #[] }, { accessFlags := 25, nameIndex := 143, descriptorIndex := 25, attributes := #[] }, { accessFlags := 25, nameIndex := 53, descriptorIndex := 25, attributes := #[] }, { accessFlags := 25, nameIndex := 24, descriptorIndex := 25, attributes := #[] }, { accessFlags := 25, nameIndex := 162, descriptorIndex := 25, attributes := #[] }, { accessFlags := 25, nameIndex := 187, descriptorIndex := 25, attributes := #[] }, { accessFlags := 26, nameIndex := 48, descriptorIndex := 25, attributes := #[] }, { accessFlags := 25, nameIndex := 277, descriptorIndex := 25, attributes := #[] }, { accessFlags := 25, nameIndex := 280, descriptorIndex := 25, attributes := #[] }, { accessFlags := 25, nameIndex := 282, descriptorIndex := 25, attributes := #[] }, { accessFlags := 25, nameIndex := 284, descriptorIndex := 25, attributes := #[] }, { accessFlags := 25, nameIndex := 286, descriptorIndex := 25, attributes := #[] }, { accessFlags := 25, nameIndex := 288, descriptorIndex := 25, attributes := #[] }, { accessFlags := 25, nameIndex := 290, descriptorIndex := 25, attributes := #[] }, { accessFlags := 25, nameIndex := 292, descriptorIndex := 25, attributes := #[] }, { accessFlags := 26, nameIndex := 108, descriptorIndex := 109, attributes := #[] }, { accessFlags := 25, nameIndex := 294, descriptorIndex := 25, attributes := #[] }])
  fields := #[{ name := "U", type := (.object "jdk/internal/misc/Unsafe"), accessFlags := 24, slot := 0, constantValue := 0 }, { name := "BIG_ENDIAN", type := .boolean, accessFlags := 26, slot := 1, constantValue := 0 }, { name := "LOG2_ARRAY_BOOLEAN_INDEX_SCALE", type := .int, accessFlags := 25, slot := 2, constantValue := 0 }, { name := "LOG2_ARRAY_BYTE_INDEX_SCALE", type := .int, accessFlags := 25, slot := 3, constantValue := 0 }, { name := "LOG2_ARRAY_CHAR_INDEX_SCALE", type := .int, accessFlags := 25, slot := 4, constantValue := 0 }, { name := "LOG2_ARRAY_SHORT_INDEX_SCALE", type := .int, accessFlags := 25, slot := 5, constantValue := 0 }, { name := "LOG2_ARRAY_INT_INDEX_SCALE", type := .int, accessFlags := 25, slot := 6, constantValue := 0 }, { name := "LOG2_ARRAY_LONG_INDEX_SCALE", type := .int, accessFlags := 25, slot := 7, constantValue := 0 }, { name := "LOG2_ARRAY_FLOAT_INDEX_SCALE", type := .int, accessFlags := 25, slot := 8, constantValue := 0 }, { name := "LOG2_ARRAY_DOUBLE_INDEX_SCALE", type := .int, accessFlags := 25, slot := 9, constantValue := 0 }, { name := "LOG2_BYTE_BIT_SIZE", type := .int, accessFlags := 26, slot := 10, constantValue := 0 }, { name := "T_BOOLEAN", type := .int, accessFlags := 25, slot := 11, constantValue := 0 }, { name := "T_CHAR", type := .int, accessFlags := 25, slot := 12, constantValue := 0 }, { name := "T_FLOAT", type := .int, accessFlags := 25, slot := 13, constantValue := 0 }, { name := "T_DOUBLE", type := .int, accessFlags := 25, slot := 14, constantValue := 0 }, { name := "T_BYTE", type := .int, accessFlags := 25, slot := 15, constantValue := 0 }, { name := "T_SHORT", type := .int, accessFlags := 25, slot := 16, constantValue := 0 }, { name := "T_INT", type := .int, accessFlags := 25, slot := 17, constantValue := 0 }, { name := "T_LONG", type := .int, accessFlags := 25, slot := 18, constantValue := 0 }, { name := "JLA", type := (.object "jdk/internal/access/JavaLangAccess"), accessFlags := 26, slot := 19, constantValue := 0 }, { name := "SOFT_MAX_ARRAY_LENGTH", type := .int, accessFlags := 25, slot := 20, constantValue := 0 }]
  methods := #[k28m0]
  instanceTypes := #[]
  staticTypes := #[(.object "jdk/internal/misc/Unsafe"), .boolean, .int, .int, .int, .int, .int, .int, .int, .int, .int, .int, .int, .int, .int, .int, .int, .int, .int, (.object "jdk/internal/access/JavaLangAccess"), .int]
  resolved := Array.replicate 378 none
  statics := none }

/-- the primitive boolean -/
def k29 : Class := { plain "boolean" none with kind := .primitive 'Z', accessFlags := 0x411 }
/-- [Z -/
def k30 : Class := { plain "[Z" (some 0) with kind := .array 29 .boolean, interfaces := #[22, 2], accessFlags := 1041 }

/-- the primitive byte -/
def k31 : Class := { plain "byte" none with kind := .primitive 'B', accessFlags := 0x411 }
/-- [B -/
def k32 : Class := { plain "[B" (some 0) with kind := .array 31 .byte, interfaces := #[22, 2], accessFlags := 1041 }

/-- the primitive char -/
def k33 : Class := { plain "char" none with kind := .primitive 'C', accessFlags := 0x411 }
/-- [C -/
def k34 : Class := { plain "[C" (some 0) with kind := .array 33 .char, interfaces := #[22, 2], accessFlags := 1041 }

/-- the primitive int -/
def k35 : Class := { plain "int" none with kind := .primitive 'I', accessFlags := 0x411 }
/-- [I -/
def k36 : Class := { plain "[I" (some 0) with kind := .array 35 .int, interfaces := #[22, 2], accessFlags := 1041 }

/-- [Ljava/lang/Object; -/
def k37 : Class := { plain "[Ljava/lang/Object;" (some 0) with kind := .array 0 (.object "java/lang/Object"), interfaces := #[22, 2], accessFlags := 1041 }

def heap : Heap := #[{ cls := 7, slots := #[.long 0, .int 1, .null, .int 0, .null, .int 0, .int 0], vm := .statics 7 },
  { cls := 20, slots := #[.long 0, .int 0, .null, .ref 6, .ref 5, .null, .null, .null, .int 0, .int 1], vm := .statics 20 },
  { cls := 23, slots := #[.long 0, .int 0, .ref 7, .ref 8], vm := .statics 23 },
  { cls := 27, slots := #[.null, .null, .null], vm := .statics 27 },
  { cls := 37, slots := #[], vm := .none },
  { cls := 24, slots := #[.ref 4, .int 0], vm := .none },
  { cls := 0, slots := #[], vm := .none },
  { cls := 37, slots := #[], vm := .none },
  { cls := 37, slots := #[], vm := .none }]
def classes : Array Class := #[k0, k1, k2, k3, k4, k5, k6, k7, k8, k9, k10, k11, k12, k13, k14, k15, k16, k17, k18, k19, k20, k21, k22, k23, k24, k25, k26, k27, k28, k29, k30, k31, k32, k33, k34, k35, k36, k37]
def interned : List (Array UInt16 × Addr) := []
def slotsUsed : Nat := 26
def theMethod : MethodId := ⟨1, 1⟩
def args0 : Array Value := #[.int 5, .int 7, .int 9, .int 11]
def aboutOver (below : List Frame) : State where
  vm := { classes := classes, interned := interned.toArray }
  heap := heap
  slotsUsed := slotsUsed
  threads := #[{ frames := .invoking theMethod args0 :: below }]
def below0 : List Frame := [.native { method := ⟨0, 0⟩, args := #[] }]
def about1 : State := aboutOver below0
def p0 : Program := .bare "" "" ""
def e0 : Env := launch0.env 0 0 0
theorem w_frames : about1.frames = Frame.invoking theMethod args0 :: below0 := rfl
set_option maxRecDepth 65536 in
theorem w_args : argsFit about1.vm theMethod args0 = true := by decide +kernel
set_option maxRecDepth 65536 in
theorem w_heap : heapFits about1 = true := by decide +kernel
set_option maxRecDepth 65536 in
theorem w_runnable : about1.curStatus? = some .runnable := by decide +kernel
set_option maxRecDepth 65536 in
theorem w_alone : about1.alone = true := by decide +kernel
set_option maxRecDepth 65536 in
theorem w_named : about1.methodNamed? x = some theMethod := by decide +kernel
set_option maxRecDepth 65536 in
theorem w_hears : about1.hears theMethod below0 = true := by decide +kernel
set_option maxRecDepth 65536 in
theorem w_ripe : about1.ripe theMethod args0 below0 = true := by decide +kernel
theorem w_running : about1.status = .running := rfl
set_option maxRecDepth 65536 in
theorem w_room : about1.hasRoom e0.platform room_1 = true :=
  launch0.hasRoom_least _ room_1 (by decide +kernel) (by decide +kernel) (by decide +kernel) (by decide +kernel) (by decide +kernel) (by decide +kernel)
theorem allAtoms_all (ts : List Jvm.Cond) (a : Array Jvm.Value) (st : Jvm.State) : (allAtoms ts).before a st = ts.all (fun c => c.before a st) := by
  induction ts with
  | nil => rfl
  | cons c t ih =>
    show (Jvm.Cond.and c (allAtoms t)).before a st = _
    rw [Jvm.Cond.before_and, ih, List.all_cons]
def words1 : List Jvm.Cond := Jvm.Cond.code x code maxLocals ret :: tables_1
/-- a 'code' word, met by the world's own term for the bytes: nothing is compared byte by byte -/
theorem code_word {y : MethodName} {bytes : ByteArray} {mx : Nat} {rt : Option FieldType} {a : Array Value} {s : State} {m : MethodId} {meth : Method} {c : Code} (h1 : s.methodNamed? y = some m) (h2 : s.vm.method? m = some meth) (h3 : meth.code = some c) (h4 : c.code = bytes)
    (h5 : (c.maxLocals == mx && c.exceptionTable.isEmpty && decide (c.maxStack ≤ mostOperands) && decide (meth.sig.returnType = rt) && !meth.locks && decide (parseMethodDescriptor y.desc = some meth.sig)) = true) : (Jvm.Cond.code y bytes mx rt).before a s = true := by
  simp only [Bool.and_eq_true, beq_iff_eq, Bool.not_eq_true', decide_eq_true_eq] at h5
  obtain ⟨⟨⟨⟨⟨g1, g2⟩, g3⟩, g4⟩, g5⟩, g6⟩ := h5
  simp [Cond.before, Cond.holds, Cond.value, h1, h2, h3, h4, g1, g2, g3, g4, g5, g6]
def isCode : Jvm.Cond → Bool
  | .code _ _ _ _ => true
  | _ => false
theorem all_split {L : List Jvm.Cond} {P : Jvm.Cond → Bool} (h1 : L.all (fun c => isCode c || P c) = true) (h2 : ∀ c ∈ L.filter isCode, P c = true) : L.all P = true := by
  refine List.all_eq_true.mpr fun c hc => ?_
  have h := List.all_eq_true.mp h1 c hc
  rcases Bool.eq_false_or_eq_true (isCode c) with hi | hi
  · exact h2 c (List.mem_filter.mpr ⟨hc, hi⟩)
  · simpa [hi] using h
set_option maxRecDepth 65536 in
theorem w_c0 : (Jvm.Cond.code x code maxLocals ret).before args0 about1 = true := code_word (m := ⟨1, 1⟩) (meth := k1m1) (c := k1c1) (by decide +kernel) rfl rfl rfl (by decide +kernel)
set_option maxRecDepth 65536 in
theorem w_c1 : (Jvm.Cond.code ({ cls := "java/lang/String", name := "<init>", desc := "([C)V" } : Jvm.MethodName) jdk_42_method_3_code (2 : Nat) (Option.none : Option Jvm.ClassFile.FieldType)).before args0 about1 = true := code_word (m := ⟨7, 1⟩) (meth := k7m1) (c := k7c1) (by decide +kernel) rfl rfl rfl (by decide +kernel)
set_option maxRecDepth 65536 in
theorem w_c2 : (Jvm.Cond.code ({ cls := "java/lang/String", name := "<init>", desc := "([CIILjava/lang/Void;)V" } : Jvm.MethodName) jdk_42_method_149_code (6 : Nat) (Option.none : Option Jvm.ClassFile.FieldType)).before args0 about1 = true := code_word (m := ⟨7, 3⟩) (meth := k7m3) (c := k7c3) (by decide +kernel) rfl rfl rfl (by decide +kernel)
set_option maxRecDepth 65536 in
theorem w_c3 : (Jvm.Cond.code ({ cls := "java/lang/Object", name := "<init>", desc := "()V" } : Jvm.MethodName) object_method_1_code (1 : Nat) (Option.none : Option Jvm.ClassFile.FieldType)).before args0 about1 = true := code_word (m := ⟨0, 0⟩) (meth := k0m0) (c := k0c0) (by decide +kernel) rfl rfl rfl (by decide +kernel)
set_option maxRecDepth 65536 in
theorem w_c4 : (Jvm.Cond.code ({ cls := "com/example/zonetally/zonetally/DayFaults", name := "whole", desc := "(Ljava/lang/String;)Lcom/example/zonetally/zonetally/DayFaults;" } : Jvm.MethodName) prog_17_method_2_code (1 : Nat) (Option.some (Jvm.ClassFile.FieldType.object "com/example/zonetally/zonetally/DayFaults"))).before args0 about1 = true := code_word (m := ⟨9, 1⟩) (meth := k9m1) (c := k9c1) (by decide +kernel) rfl rfl rfl (by decide +kernel)
set_option maxRecDepth 65536 in
theorem w_c5 : (Jvm.Cond.code ({ cls := "java/util/List", name := "of", desc := "(Ljava/lang/Object;)Ljava/util/List;" } : Jvm.MethodName) jdk_40_method_37_code (1 : Nat) (Option.some (Jvm.ClassFile.FieldType.object "java/util/List"))).before args0 about1 = true := code_word (m := ⟨13, 4⟩) (meth := k13m4) (c := k13c4) (by decide +kernel) rfl rfl rfl (by decide +kernel)
set_option maxRecDepth 65536 in
theorem w_c6 : (Jvm.Cond.code ({ cls := "java/util/ImmutableCollections$List12", name := "<init>", desc := "(Ljava/lang/Object;)V" } : Jvm.MethodName) jdk_44_method_1_code (2 : Nat) (Option.none : Option Jvm.ClassFile.FieldType)).before args0 about1 = true := code_word (m := ⟨18, 0⟩) (meth := k18m0) (c := k18c0) (by decide +kernel) rfl rfl rfl (by decide +kernel)
set_option maxRecDepth 65536 in
theorem w_c7 : (Jvm.Cond.code ({ cls := "java/util/ImmutableCollections$AbstractImmutableList", name := "<init>", desc := "()V" } : Jvm.MethodName) jdk_46_method_1_code (1 : Nat) (Option.none : Option Jvm.ClassFile.FieldType)).before args0 about1 = true := code_word (m := ⟨17, 0⟩) (meth := k17m0) (c := k17c0) (by decide +kernel) rfl rfl rfl (by decide +kernel)
set_option maxRecDepth 65536 in
theorem w_c8 : (Jvm.Cond.code ({ cls := "java/util/ImmutableCollections$AbstractImmutableCollection", name := "<init>", desc := "()V" } : Jvm.MethodName) jdk_47_method_1_code (1 : Nat) (Option.none : Option Jvm.ClassFile.FieldType)).before args0 about1 = true := code_word (m := ⟨15, 0⟩) (meth := k15m0) (c := k15c0) (by decide +kernel) rfl rfl rfl (by decide +kernel)
set_option maxRecDepth 65536 in
theorem w_c9 : (Jvm.Cond.code ({ cls := "java/util/AbstractCollection", name := "<init>", desc := "()V" } : Jvm.MethodName) jdk_22_method_1_code (1 : Nat) (Option.none : Option Jvm.ClassFile.FieldType)).before args0 about1 = true := code_word (m := ⟨14, 0⟩) (meth := k14m0) (c := k14c0) (by decide +kernel) rfl rfl rfl (by decide +kernel)
set_option maxRecDepth 65536 in
theorem w_c10 : (Jvm.Cond.code ({ cls := "java/util/Objects", name := "requireNonNull", desc := "(Ljava/lang/Object;)Ljava/lang/Object;" } : Jvm.MethodName) jdk_31_method_10_code (1 : Nat) (Option.some (Jvm.ClassFile.FieldType.object "java/lang/Object"))).before args0 about1 = true := code_word (m := ⟨19, 1⟩) (meth := k19m1) (c := k19c1) (by decide +kernel) rfl rfl rfl (by decide +kernel)
set_option maxRecDepth 65536 in
theorem w_c11 : (Jvm.Cond.code ({ cls := "com/example/zonetally/zonetally/DayFaults", name := "whole", desc := "(Ljava/util/List;)Lcom/example/zonetally/zonetally/DayFaults;" } : Jvm.MethodName) prog_17_method_3_code (1 : Nat) (Option.some (Jvm.ClassFile.FieldType.object "com/example/zonetally/zonetally/DayFaults"))).before args0 about1 = true := code_word (m := ⟨9, 2⟩) (meth := k9m2) (c := k9c2) (by decide +kernel) rfl rfl rfl (by decide +kernel)
set_option maxRecDepth 65536 in
theorem w_c12 : (Jvm.Cond.code ({ cls := "java/util/List", name := "of", desc := "()Ljava/util/List;" } : Jvm.MethodName) jdk_40_method_36_code (0 : Nat) (Option.some (Jvm.ClassFile.FieldType.object "java/util/List"))).before args0 about1 = true := code_word (m := ⟨13, 3⟩) (meth := k13m3) (c := k13c3) (by decide +kernel) rfl rfl rfl (by decide +kernel)
set_option maxRecDepth 65536 in
theorem w_c13 : (Jvm.Cond.code ({ cls := "com/example/zonetally/zonetally/DayFaults", name := "<init>", desc := "(Lcom/example/zonetally/zonetally/DailyFile;Ljava/util/List;Ljava/util/List;Ljava/util/List;J)V" } : Jvm.MethodName) prog_17_method_1_code (7 : Nat) (Option.none : Option Jvm.ClassFile.FieldType)).before args0 about1 = true := code_word (m := ⟨9, 0⟩) (meth := k9m0) (c := k9c0) (by decide +kernel) rfl rfl rfl (by decide +kernel)
set_option maxRecDepth 65536 in
theorem w_c14 : (Jvm.Cond.code ({ cls := "java/lang/Record", name := "<init>", desc := "()V" } : Jvm.MethodName) jdk_30_method_1_code (1 : Nat) (Option.none : Option Jvm.ClassFile.FieldType)).before args0 about1 = true := code_word (m := ⟨8, 0⟩) (meth := k8m0) (c := k8c0) (by decide +kernel) rfl rfl rfl (by decide +kernel)
set_option maxRecDepth 65536 in
theorem w_c15 : (Jvm.Cond.code ({ cls := "com/example/zonetally/zonetally/DayFaults", name := "found", desc := "()Ljava/util/List;" } : Jvm.MethodName) prog_17_method_11_code (1 : Nat) (Option.some (Jvm.ClassFile.FieldType.object "java/util/List"))).before args0 about1 = true := code_word (m := ⟨9, 7⟩) (meth := k9m7) (c := k9c7) (by decide +kernel) rfl rfl rfl (by decide +kernel)
set_option maxRecDepth 65536 in
theorem w_c16 : (Jvm.Cond.code ({ cls := "java/util/ArrayList", name := "<init>", desc := "()V" } : Jvm.MethodName) jdk_38_method_2_code (1 : Nat) (Option.none : Option Jvm.ClassFile.FieldType)).before args0 about1 = true := code_word (m := ⟨23, 0⟩) (meth := k23m0) (c := k23c0) (by decide +kernel) rfl rfl rfl (by decide +kernel)
set_option maxRecDepth 65536 in
theorem w_c17 : (Jvm.Cond.code ({ cls := "java/util/AbstractList", name := "<init>", desc := "()V" } : Jvm.MethodName) jdk_39_method_1_code (1 : Nat) (Option.none : Option Jvm.ClassFile.FieldType)).before args0 about1 = true := code_word (m := ⟨21, 0⟩) (meth := k21m0) (c := k21c0) (by decide +kernel) rfl rfl rfl (by decide +kernel)
set_option maxRecDepth 65536 in
theorem w_c18 : (Jvm.Cond.code ({ cls := "com/example/zonetally/zonetally/DayFaults", name := "named", desc := "(Ljava/util/List;[Z)Ljava/util/List;" } : Jvm.MethodName) prog_17_method_5_code (8 : Nat) (Option.some (Jvm.ClassFile.FieldType.object "java/util/List"))).before args0 about1 = true := code_word (m := ⟨9, 4⟩) (meth := k9m4) (c := k9c4) (by decide +kernel) rfl rfl rfl (by decide +kernel)
set_option maxRecDepth 65536 in
theorem w_c19 : (Jvm.Cond.code ({ cls := "com/example/zonetally/zonetally/DayFaults", name := "file", desc := "()Lcom/example/zonetally/zonetally/DailyFile;" } : Jvm.MethodName) prog_17_method_9_code (1 : Nat) (Option.some (Jvm.ClassFile.FieldType.object "com/example/zonetally/zonetally/DailyFile"))).before args0 about1 = true := code_word (m := ⟨9, 5⟩) (meth := k9m5) (c := k9c5) (by decide +kernel) rfl rfl rfl (by decide +kernel)
set_option maxRecDepth 65536 in
theorem w_c20 : (Jvm.Cond.code ({ cls := "com/example/zonetally/zonetally/DayFaults", name := "hours", desc := "()Ljava/util/List;" } : Jvm.MethodName) prog_17_method_10_code (1 : Nat) (Option.some (Jvm.ClassFile.FieldType.object "java/util/List"))).before args0 about1 = true := code_word (m := ⟨9, 6⟩) (meth := k9m6) (c := k9c6) (by decide +kernel) rfl rfl rfl (by decide +kernel)
set_option maxRecDepth 65536 in
theorem w_c21 : (Jvm.Cond.code ({ cls := "java/util/ImmutableCollections$ListN", name := "size", desc := "()I" } : Jvm.MethodName) jdk_45_method_3_code (1 : Nat) (Option.some Jvm.ClassFile.FieldType.int)).before args0 about1 = true := code_word (m := ⟨24, 0⟩) (meth := k24m0) (c := k24c0) (by decide +kernel) rfl rfl rfl (by decide +kernel)
set_option maxRecDepth 65536 in
theorem w_c22 : (Jvm.Cond.code ({ cls := "com/example/zonetally/zonetally/DayFaults", name := "unlisted", desc := "()Ljava/util/List;" } : Jvm.MethodName) prog_17_method_12_code (1 : Nat) (Option.some (Jvm.ClassFile.FieldType.object "java/util/List"))).before args0 about1 = true := code_word (m := ⟨9, 8⟩) (meth := k9m8) (c := k9c8) (by decide +kernel) rfl rfl rfl (by decide +kernel)
set_option maxRecDepth 65536 in
theorem w_c23 : (Jvm.Cond.code ({ cls := "com/example/zonetally/zonetally/DayFaults", name := "lacking", desc := "()J" } : Jvm.MethodName) prog_17_method_13_code (1 : Nat) (Option.some Jvm.ClassFile.FieldType.long)).before args0 about1 = true := code_word (m := ⟨9, 9⟩) (meth := k9m9) (c := k9c9) (by decide +kernel) rfl rfl rfl (by decide +kernel)
set_option maxRecDepth 65536 in
theorem w_c24 : (Jvm.Cond.code ({ cls := "java/util/ImmutableCollections$List12", name := "size", desc := "()I" } : Jvm.MethodName) jdk_44_method_3_code (1 : Nat) (Option.some Jvm.ClassFile.FieldType.int)).before args0 about1 = true := code_word (m := ⟨18, 1⟩) (meth := k18m1) (c := k18c1) (by decide +kernel) rfl rfl rfl (by decide +kernel)
set_option maxRecDepth 65536 in
theorem w_c25 : (Jvm.Cond.code ({ cls := "java/util/ImmutableCollections$List12", name := "get", desc := "(I)Ljava/lang/Object;" } : Jvm.MethodName) jdk_44_method_5_code (2 : Nat) (Option.some (Jvm.ClassFile.FieldType.object "java/lang/Object"))).before args0 about1 = true := code_word (m := ⟨18, 3⟩) (meth := k18m3) (c := k18c3) (by decide +kernel) rfl rfl rfl (by decide +kernel)
set_option maxRecDepth 65536 in
theorem w_c26 : (Jvm.Cond.code ({ cls := "com/example/zonetally/zonetally/DayFaults", name := "namesNothing", desc := "()Z" } : Jvm.MethodName) prog_17_method_4_code (1 : Nat) (Option.some Jvm.ClassFile.FieldType.boolean)).before args0 about1 = true := code_word (m := ⟨9, 3⟩) (meth := k9m3) (c := k9c3) (by decide +kernel) rfl rfl rfl (by decide +kernel)
set_option maxRecDepth 65536 in
theorem w_c27 : (Jvm.Cond.code ({ cls := "java/util/ImmutableCollections$List12", name := "isEmpty", desc := "()Z" } : Jvm.MethodName) jdk_44_method_4_code (1 : Nat) (Option.some Jvm.ClassFile.FieldType.boolean)).before args0 about1 = true := code_word (m := ⟨18, 2⟩) (meth := k18m2) (c := k18c2) (by decide +kernel) rfl rfl rfl (by decide +kernel)
set_option maxRecDepth 65536 in
theorem w_c28 : (Jvm.Cond.code ({ cls := "java/lang/StringUTF16", name := "compress", desc := "([CII)[B" } : Jvm.MethodName) jdk_52_method_16_code (6 : Nat) (Option.some (Jvm.ClassFile.FieldType.array Jvm.ClassFile.FieldType.byte))).before args0 about1 = true := code_word (m := ⟨25, 2⟩) (meth := k25m2) (c := k25c2) (by decide +kernel) rfl rfl rfl (by decide +kernel)
set_option maxRecDepth 65536 in
theorem w_c29 : (Jvm.Cond.code ({ cls := "java/lang/StringUTF16", name := "compress", desc := "([CI[BII)I" } : Jvm.MethodName) jdk_52_method_21_code (7 : Nat) (Option.some Jvm.ClassFile.FieldType.int)).before args0 about1 = true := code_word (m := ⟨25, 3⟩) (meth := k25m3) (c := k25c3) (by decide +kernel) rfl rfl rfl (by decide +kernel)
set_option maxRecDepth 65536 in
theorem w_c30 : (Jvm.Cond.code ({ cls := "java/lang/StringUTF16", name := "coderFromArrayLen", desc := "([BI)B" } : Jvm.MethodName) jdk_52_method_15_code (2 : Nat) (Option.some Jvm.ClassFile.FieldType.byte)).before args0 about1 = true := code_word (m := ⟨25, 1⟩) (meth := k25m1) (c := k25c1) (by decide +kernel) rfl rfl rfl (by decide +kernel)
set_option maxRecDepth 65536 in
theorem w_c31 : (Jvm.Cond.code ({ cls := "java/lang/String", name := "valueOf", desc := "(C)Ljava/lang/String;" } : Jvm.MethodName) jdk_42_method_139_code (1 : Nat) (Option.some (Jvm.ClassFile.FieldType.object "java/lang/String"))).before args0 about1 = true := code_word (m := ⟨7, 2⟩) (meth := k7m2) (c := k7c2) (by decide +kernel) rfl rfl rfl (by decide +kernel)
set_option maxRecDepth 65536 in
theorem w_c32 : (Jvm.Cond.code ({ cls := "java/lang/StringLatin1", name := "canEncode", desc := "(C)Z" } : Jvm.MethodName) jdk_43_method_3_code (1 : Nat) (Option.some Jvm.ClassFile.FieldType.boolean)).before args0 about1 = true := code_word (m := ⟨26, 1⟩) (meth := k26m1) (c := k26c1) (by decide +kernel) rfl rfl rfl (by decide +kernel)
set_option maxRecDepth 65536 in
theorem w_c33 : (Jvm.Cond.code ({ cls := "java/lang/StringLatin1", name := "toBytes", desc := "(C)[B" } : Jvm.MethodName) jdk_43_method_46_code (1 : Nat) (Option.some (Jvm.ClassFile.FieldType.array Jvm.ClassFile.FieldType.byte))).before args0 about1 = true := code_word (m := ⟨26, 2⟩) (meth := k26m2) (c := k26c2) (by decide +kernel) rfl rfl rfl (by decide +kernel)
set_option maxRecDepth 65536 in
theorem w_c34 : (Jvm.Cond.code ({ cls := "java/lang/String", name := "<init>", desc := "([BB)V" } : Jvm.MethodName) jdk_42_method_151_code (3 : Nat) (Option.none : Option Jvm.ClassFile.FieldType)).before args0 about1 = true := code_word (m := ⟨7, 4⟩) (meth := k7m4) (c := k7c4) (by decide +kernel) rfl rfl rfl (by decide +kernel)
def codes1 : List Jvm.Cond := [Jvm.Cond.code x code maxLocals ret, Jvm.Cond.code ({ cls := "java/lang/String", name := "<init>", desc := "([C)V" } : Jvm.MethodName) jdk_42_method_3_code (2 : Nat) (Option.none : Option Jvm.ClassFile.FieldType), Jvm.Cond.code ({ cls := "java/lang/String", name := "<init>", desc := "([CIILjava/lang/Void;)V" } : Jvm.MethodName) jdk_42_method_149_code (6 : Nat) (Option.none : Option Jvm.ClassFile.FieldType), Jvm.Cond.code ({ cls := "java/lang/Object", name := "<init>", desc := "()V" } : Jvm.MethodName) object_method_1_code (1 : Nat) (Option.none : Option Jvm.ClassFile.FieldType), Jvm.Cond.code ({ cls := "com/example/zonetally/zonetally/DayFaults", name := "whole", desc := "(Ljava/lang/String;)Lcom/example/zonetally/zonetally/DayFaults;" } : Jvm.MethodName) prog_17_method_2_code (1 : Nat) (Option.some (Jvm.ClassFile.FieldType.object "com/example/zonetally/zonetally/DayFaults")), Jvm.Cond.code ({ cls := "java/util/List", name := "of", desc := "(Ljava/lang/Object;)Ljava/util/List;" } : Jvm.MethodName) jdk_40_method_37_code (1 : Nat) (Option.some (Jvm.ClassFile.FieldType.object "java/util/List")), Jvm.Cond.code ({ cls := "java/util/ImmutableCollections$List12", name := "<init>", desc := "(Ljava/lang/Object;)V" } : Jvm.MethodName) jdk_44_method_1_code (2 : Nat) (Option.none : Option Jvm.ClassFile.FieldType), Jvm.Cond.code ({ cls := "java/util/ImmutableCollections$AbstractImmutableList", name := "<init>", desc := "()V" } : Jvm.MethodName) jdk_46_method_1_code (1 : Nat) (Option.none : Option Jvm.ClassFile.FieldType), Jvm.Cond.code ({ cls := "java/util/ImmutableCollections$AbstractImmutableCollection", name := "<init>", desc := "()V" } : Jvm.MethodName) jdk_47_method_1_code (1 : Nat) (Option.none : Option Jvm.ClassFile.FieldType), Jvm.Cond.code ({ cls := "java/util/AbstractCollection", name := "<init>", desc := "()V" } : Jvm.MethodName) jdk_22_method_1_code (1 : Nat) (Option.none : Option Jvm.ClassFile.FieldType), Jvm.Cond.code ({ cls := "java/util/Objects", name := "requireNonNull", desc := "(Ljava/lang/Object;)Ljava/lang/Object;" } : Jvm.MethodName) jdk_31_method_10_code (1 : Nat) (Option.some (Jvm.ClassFile.FieldType.object "java/lang/Object")), Jvm.Cond.code ({ cls := "com/example/zonetally/zonetally/DayFaults", name := "whole", desc := "(Ljava/util/List;)Lcom/example/zonetally/zonetally/DayFaults;" } : Jvm.MethodName) prog_17_method_3_code (1 : Nat) (Option.some (Jvm.ClassFile.FieldType.object "com/example/zonetally/zonetally/DayFaults")), Jvm.Cond.code ({ cls := "java/util/List", name := "of", desc := "()Ljava/util/List;" } : Jvm.MethodName) jdk_40_method_36_code (0 : Nat) (Option.some (Jvm.ClassFile.FieldType.object "java/util/List")), Jvm.Cond.code ({ cls := "com/example/zonetally/zonetally/DayFaults", name := "<init>", desc := "(Lcom/example/zonetally/zonetally/DailyFile;Ljava/util/List;Ljava/util/List;Ljava/util/List;J)V" } : Jvm.MethodName) prog_17_method_1_code (7 : Nat) (Option.none : Option Jvm.ClassFile.FieldType), Jvm.Cond.code ({ cls := "java/lang/Record", name := "<init>", desc := "()V" } : Jvm.MethodName) jdk_30_method_1_code (1 : Nat) (Option.none : Option Jvm.ClassFile.FieldType), Jvm.Cond.code ({ cls := "com/example/zonetally/zonetally/DayFaults", name := "found", desc := "()Ljava/util/List;" } : Jvm.MethodName) prog_17_method_11_code (1 : Nat) (Option.some (Jvm.ClassFile.FieldType.object "java/util/List")), Jvm.Cond.code ({ cls := "java/util/ArrayList", name := "<init>", desc := "()V" } : Jvm.MethodName) jdk_38_method_2_code (1 : Nat) (Option.none : Option Jvm.ClassFile.FieldType), Jvm.Cond.code ({ cls := "java/util/AbstractList", name := "<init>", desc := "()V" } : Jvm.MethodName) jdk_39_method_1_code (1 : Nat) (Option.none : Option Jvm.ClassFile.FieldType), Jvm.Cond.code ({ cls := "com/example/zonetally/zonetally/DayFaults", name := "named", desc := "(Ljava/util/List;[Z)Ljava/util/List;" } : Jvm.MethodName) prog_17_method_5_code (8 : Nat) (Option.some (Jvm.ClassFile.FieldType.object "java/util/List")), Jvm.Cond.code ({ cls := "com/example/zonetally/zonetally/DayFaults", name := "file", desc := "()Lcom/example/zonetally/zonetally/DailyFile;" } : Jvm.MethodName) prog_17_method_9_code (1 : Nat) (Option.some (Jvm.ClassFile.FieldType.object "com/example/zonetally/zonetally/DailyFile")), Jvm.Cond.code ({ cls := "com/example/zonetally/zonetally/DayFaults", name := "hours", desc := "()Ljava/util/List;" } : Jvm.MethodName) prog_17_method_10_code (1 : Nat) (Option.some (Jvm.ClassFile.FieldType.object "java/util/List")), Jvm.Cond.code ({ cls := "java/util/ImmutableCollections$ListN", name := "size", desc := "()I" } : Jvm.MethodName) jdk_45_method_3_code (1 : Nat) (Option.some Jvm.ClassFile.FieldType.int), Jvm.Cond.code ({ cls := "com/example/zonetally/zonetally/DayFaults", name := "unlisted", desc := "()Ljava/util/List;" } : Jvm.MethodName) prog_17_method_12_code (1 : Nat) (Option.some (Jvm.ClassFile.FieldType.object "java/util/List")), Jvm.Cond.code ({ cls := "com/example/zonetally/zonetally/DayFaults", name := "lacking", desc := "()J" } : Jvm.MethodName) prog_17_method_13_code (1 : Nat) (Option.some Jvm.ClassFile.FieldType.long), Jvm.Cond.code ({ cls := "java/util/ImmutableCollections$List12", name := "size", desc := "()I" } : Jvm.MethodName) jdk_44_method_3_code (1 : Nat) (Option.some Jvm.ClassFile.FieldType.int), Jvm.Cond.code ({ cls := "java/util/ImmutableCollections$List12", name := "get", desc := "(I)Ljava/lang/Object;" } : Jvm.MethodName) jdk_44_method_5_code (2 : Nat) (Option.some (Jvm.ClassFile.FieldType.object "java/lang/Object")), Jvm.Cond.code ({ cls := "com/example/zonetally/zonetally/DayFaults", name := "namesNothing", desc := "()Z" } : Jvm.MethodName) prog_17_method_4_code (1 : Nat) (Option.some Jvm.ClassFile.FieldType.boolean), Jvm.Cond.code ({ cls := "java/util/ImmutableCollections$List12", name := "isEmpty", desc := "()Z" } : Jvm.MethodName) jdk_44_method_4_code (1 : Nat) (Option.some Jvm.ClassFile.FieldType.boolean), Jvm.Cond.code ({ cls := "java/lang/StringUTF16", name := "compress", desc := "([CII)[B" } : Jvm.MethodName) jdk_52_method_16_code (6 : Nat) (Option.some (Jvm.ClassFile.FieldType.array Jvm.ClassFile.FieldType.byte)), Jvm.Cond.code ({ cls := "java/lang/StringUTF16", name := "compress", desc := "([CI[BII)I" } : Jvm.MethodName) jdk_52_method_21_code (7 : Nat) (Option.some Jvm.ClassFile.FieldType.int), Jvm.Cond.code ({ cls := "java/lang/StringUTF16", name := "coderFromArrayLen", desc := "([BI)B" } : Jvm.MethodName) jdk_52_method_15_code (2 : Nat) (Option.some Jvm.ClassFile.FieldType.byte), Jvm.Cond.code ({ cls := "java/lang/String", name := "valueOf", desc := "(C)Ljava/lang/String;" } : Jvm.MethodName) jdk_42_method_139_code (1 : Nat) (Option.some (Jvm.ClassFile.FieldType.object "java/lang/String")), Jvm.Cond.code ({ cls := "java/lang/StringLatin1", name := "canEncode", desc := "(C)Z" } : Jvm.MethodName) jdk_43_method_3_code (1 : Nat) (Option.some Jvm.ClassFile.FieldType.boolean), Jvm.Cond.code ({ cls := "java/lang/StringLatin1", name := "toBytes", desc := "(C)[B" } : Jvm.MethodName) jdk_43_method_46_code (1 : Nat) (Option.some (Jvm.ClassFile.FieldType.array Jvm.ClassFile.FieldType.byte)), Jvm.Cond.code ({ cls := "java/lang/String", name := "<init>", desc := "([BB)V" } : Jvm.MethodName) jdk_42_method_151_code (3 : Nat) (Option.none : Option Jvm.ClassFile.FieldType)]
set_option maxRecDepth 65536 in
theorem codes_eq : words1.filter isCode = codes1 := rfl
theorem w_codes : ∀ c ∈ words1.filter isCode, c.before args0 about1 = true := by
  rw [codes_eq]
  intro c hc
  simp only [codes1, List.mem_cons, List.not_mem_nil, or_false] at hc
  rcases hc with rfl | rfl | rfl | rfl | rfl | rfl | rfl | rfl | rfl | rfl | rfl | rfl | rfl | rfl | rfl | rfl | rfl | rfl | rfl | rfl | rfl | rfl | rfl | rfl | rfl | rfl | rfl | rfl | rfl | rfl | rfl | rfl | rfl | rfl | rfl
  · exact w_c0
  · exact w_c1
  · exact w_c2
  · exact w_c3
  · exact w_c4
  · exact w_c5
  · exact w_c6
  · exact w_c7
  · exact w_c8
  · exact w_c9
  · exact w_c10
  · exact w_c11
  · exact w_c12
  · exact w_c13
  · exact w_c14
  · exact w_c15
  · exact w_c16
  · exact w_c17
  · exact w_c18
  · exact w_c19
  · exact w_c20
  · exact w_c21
  · exact w_c22
  · exact w_c23
  · exact w_c24
  · exact w_c25
  · exact w_c26
  · exact w_c27
  · exact w_c28
  · exact w_c29
  · exact w_c30
  · exact w_c31
  · exact w_c32
  · exact w_c33
  · exact w_c34
set_option maxRecDepth 65536 in
theorem w_t1 : (words1.take 24).all (fun c => isCode c || c.before args0 about1) = true := by decide +kernel
set_option maxRecDepth 65536 in
theorem w_t2 : ((words1.drop 24).take 24).all (fun c => isCode c || c.before args0 about1) = true := by decide +kernel
set_option maxRecDepth 65536 in
theorem w_t3 : (((words1.drop 24).drop 24).take 24).all (fun c => isCode c || c.before args0 about1) = true := by decide +kernel
set_option maxRecDepth 65536 in
theorem w_t4 : ((((words1.drop 24).drop 24).drop 24).take 24).all (fun c => isCode c || c.before args0 about1) = true := by decide +kernel
set_option maxRecDepth 65536 in
theorem w_t5 : (((((words1.drop 24).drop 24).drop 24).drop 24).take 24).all (fun c => isCode c || c.before args0 about1) = true := by decide +kernel
set_option maxRecDepth 65536 in
theorem w_t6 : ((((((words1.drop 24).drop 24).drop 24).drop 24).drop 24).take 24).all (fun c => isCode c || c.before args0 about1) = true := by decide +kernel
set_option maxRecDepth 65536 in
theorem w_t7 : (((((((words1.drop 24).drop 24).drop 24).drop 24).drop 24).drop 24).take 24).all (fun c => isCode c || c.before args0 about1) = true := by decide +kernel
set_option maxRecDepth 65536 in
theorem w_t8 : ((((((((words1.drop 24).drop 24).drop 24).drop 24).drop 24).drop 24).drop 24).take 24).all (fun c => isCode c || c.before args0 about1) = true := by decide +kernel
set_option maxRecDepth 65536 in
theorem w_t9 : ((((((((words1.drop 24).drop 24).drop 24).drop 24).drop 24).drop 24).drop 24).drop 24).all (fun c => isCode c || c.before args0 about1) = true := by decide +kernel
theorem w_tables : (allAtoms (Jvm.Cond.code x code maxLocals ret :: tables_1)).before args0 about1 = true := by
  rw [allAtoms_all]
  show words1.all (fun c => c.before args0 about1) = true
  refine all_split ?_ w_codes
  rw [← List.take_append_drop 24 words1, List.all_append, w_t1, ← List.take_append_drop 24 (words1.drop 24), List.all_append, w_t2, ← List.take_append_drop 24 ((words1.drop 24).drop 24), List.all_append, w_t3, ← List.take_append_drop 24 (((words1.drop 24).drop 24).drop 24), List.all_append, w_t4, ← List.take_append_drop 24 ((((words1.drop 24).drop 24).drop 24).drop 24), List.all_append, w_t5, ← List.take_append_drop 24 (((((words1.drop 24).drop 24).drop 24).drop 24).drop 24), List.all_append, w_t6, ← List.take_append_drop 24 ((((((words1.drop 24).drop 24).drop 24).drop 24).drop 24).drop 24), List.all_append, w_t7, ← List.take_append_drop 24 (((((((words1.drop 24).drop 24).drop 24).drop 24).drop 24).drop 24).drop 24), List.all_append, w_t8, w_t9]
  rfl
set_option maxRecDepth 65536 in
theorem w_rest : rest_1_c.before args0 about1 = true := by decide +kernel
set_option maxRecDepth 65536 in
theorem w_case : (Jvm.Cond.and given_1 narrow_1).before args0 about1 = true := by decide +kernel
set_option maxRecDepth 65536 in
theorem w_consts : constsHeld consts_1 about1 := Jvm.Lit.constsHeldB_iff.mp (by decide +kernel)
theorem w_applies : (headSpec (Jvm.Cond.code x code maxLocals ret :: tables_1) room_1).applies x e0.platform about1 = true :=
  (Spec.applies_iff w_frames).mpr ⟨w_running, w_runnable, w_alone, w_named, w_hears, w_ripe, w_room, w_tables⟩
theorem atStart : AtStart classFile x code maxLocals ret World_1 tables_1 room_1 Calls_1 rest_1 Pre_1 launch0 p0 e0 about1 theMethod args0 below0 :=
  ⟨lists_1, trivial, launch0.admits_env _ _ _, launch0.least_env, fairChoices_fair.cas, fairChoices_fair.clock, w_frames, w_args, w_heap, w_applies, ⟨w_consts, trivial⟩, w_rest, w_case⟩
end start1
theorem witness_1 : WitnessClaimed_1 := ⟨start1.p0, start1.e0, start1.about1, start1.theMethod, start1.args0, start1.below0, start1.atStart⟩
end Jvm.Pilot.@@N@@
