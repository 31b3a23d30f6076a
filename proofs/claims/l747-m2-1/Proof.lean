import JvmDerived
import JvmDerived.Pilot.@@N@@Statement
import JvmDerived.Pilot.@@N@@Code
set_option linter.unusedVariables false
set_option linter.unusedSimpArgs false
namespace Jvm.RoadKit
open Sem ClassFile Op Lib Jvm.Stand Jvm.Free Jvm.LawKit
abbrev own_Go (p : Program) (e : Env) (below : List Frame) (A B : State) : Prop := ∀ t, Steps p.tables e below B t → Steps p.tables e below A t
theorem own_name {p : Program} {e : Env} {below : List Frame} {A : State} {α : Type} {F : α → State} (x : α) (P : own_Go p e below A (F x)) : ∃ z, z = x ∧ own_Go p e below A (F z) := ⟨x, rfl, P⟩
theorem own_step {p : Program} {e : Env} {below : List Frame} {A B C : State} (P : own_Go p e below A B) (q : own_Go p e below B C) : own_Go p e below A C := fun t_ k_ => P t_ (q t_ k_)
theorem own_IB {Z s U : State} {Ts : List String} (I : IB Z s.vm Ts) (w : s.WarmedH U.vm) : IB Z U.vm Ts := by
  obtain ⟨more, e, hm⟩ := I
  exact ⟨more, w.interned_eq.trans e, hm⟩
theorem own_backI {p : Program} {l : Launch} {e : Env} {R : Room} {s Z : State} {args a0 : Array Value} {below : List Frame} {h : Heap} {y : MethodName} {bytes : ByteArray} {maxL : Nat} {ret : Option FieldType} {rm : Room} {len W : Nat} {as' : Array Value} {Ts : List String} {Q : Option Value → Heap → List Loc → Prop}
    (hM : MetFree l y (head1 [Cond.code y bytes maxL ret] rm) (fun a U => a = as' ∧ Z.Warmed39 U.vm ∧ U.heap = h ∧ IB Z U.vm Ts) (fun _ _ _ _ _ => True) (fun _ U o U' => ∃ v L, o = .returned v ∧ Q v U'.heap L ∧ ReturnedEndW U o U' L rm.cells rm.slots))
    (hZ : Z.Warmed39 s.vm) (hI : IB Z s.vm Ts) (wc : (Cond.code y bytes maxL ret).before a0 Z = true) (wz : (Cond.initialized y.cls).before a0 Z = true) (hf : rm.frames + 1 ≤ R.frames) (hl : W + (maxL + 11) + rm.locals ≤ R.locals) :
    BackS l R p e below s args y len W (fun A a => a = as' ∧ A.U.heap = h ∧ A.cells + rm.cells ≤ R.cells ∧ A.slots + rm.slots ≤ R.slots) (fun A _ v B => ∃ L, Q v B.U.heap L ∧ B.locs = A.locs ++ L ∧ B.cells = A.cells + rm.cells ∧ B.slots = A.slots + rm.slots) := by
  refine BackS.of_freeW (bytes := bytes) (maxL := maxL) (ret := ret) (E := fun _ _ o t L k n => k = rm.cells ∧ n = rm.slots ∧ ∃ v, o = .returned v ∧ Q v t.heap L) hM hf hl ?_ ?_ (fun _ _ _ _ _ _ _ _ _ => trivial) ?_ ?_
  · intro m meth c A a Y hp
    have hU : Z.Warmed39 A.U.vm := wtrans hZ Y.warmed
    refine ⟨?_, mv hU wc, mv hU wz, hp.2.2.1, hp.2.2.2⟩
    show (Cond.and _ .tt).before a A.U = true
    rw [Cond.before_and, mv hU wc]; rfl
  · intro m meth c A a g mk Y hp
    exact ⟨hp.1, wtrans hZ Y.warmed, hp.2.1, own_IB hI Y.warmed⟩
  · rintro _ _ _ _ ⟨v, L, h1, h2, h3⟩
    exact ⟨L, _, _, h3, rfl, rfl, v, h1, h2⟩
  · intro m meth c A a g mk v t L k n Y hp _ _ q
    obtain ⟨e1, e2, v', e3, e4⟩ := q
    cases e3; subst e1 e2; exact ⟨L, e4, rfl, rfl, rfl⟩
section New
variable {p : Program} {l : Launch} {e : Env} {R : Room} {s : State} {m : MethodId} {args : Array Value} {below : List Frame} {meth : Method} {c : Code} {T : State} {locs : List Loc} {cells slots : Nat}
theorem retI (X : Stand p l e R s m args below meth c T locs cells slots) (hx : p.tables.exec = Jvm.exec) {pc : Nat} {Ls : Array Slot} {z : Int32} {rest : List Value} (hret : meth.sig.returnType = some .int) (hd : decode c.code pc = .ok (.ireturn, 1)) {fs : List Frame}
    (hl : ∀ (f : JFrame) (acts : List Action), f.method = m → f.locked = none → f.entered = [] → (doReturn e (T.setTop f) acts (some (.int z))).1 = T.setFrames fs) : Steps p.tables e below (T.setTop (mkF m pc Ls (.int z :: rest))) (T.setFrames fs) := by
  have hm' : T.vm.method? m = some meth := X.method'
  have hn : narrow .int (.int z) = .int z := rfl
  show Steps p.tables e below (T.setTop { method := m, pc := pc, locals := Ls, stack := _ :: rest, locked := none }) _
  jvm_step X.here [X.here.top, hx, hd, hm', hret, hn]
  first | (intro acts; rw [hl _ acts rfl rfl rfl]) | rw [hl _ _ rfl rfl rfl]
  exact Steps.refl _
end New
section PrivH
variable {p : Program} {l : Launch} {e : Env} {R : Jvm.Room} {s : State} {m : MethodId} {args : Array Value} {below : List Frame} {meth : Method} {c : Code} {T : State} {locs : List Loc} {cells slots : Nat}
theorem own_privateH (X : Stand p l e R s m args below meth c T locs cells slots) (hexec : p.tables.exec = Jvm.exec) {own : String} {index : Nat} {y : MethodName} {bytes : ByteArray} {maxL : Nat} {ret : Option FieldType} {hs : List (Nat × Nat × Nat × Nat)}
    (hown : s.vm.findClass own = some m.cls) (hlink : (Cond.methodLink own index y).before args s = true) (hinst : (Cond.instanceMethod y).before args s = true) (hsel : (Cond.selects y.cls y y).before args s = true)
    (hpriv : s.PrivateAt y) (hcode : (Cond.codeWith y bytes maxL ret hs).before args s = true) (hy : y.cls ≠ "java/lang/invoke/MethodHandle" ∧ y.cls ≠ "java/lang/invoke/VarHandle")
    {W : Nat} {Pre : Free.Pt → Array Value → Prop} {Post : Free.Pt → Array Value → Option Value → Free.Pt → Prop} (hK : Free.Back l R p e below s args y 3 W Pre Post)
    {g : JFrame} (hg : g.method = m) (hsize : g.locals.size = c.maxLocals) {s₀ : State} (hcome : Steps p.tables e below s₀ (T.setTop g)) {a : Addr} {cell : Cell} (hcell : T.heap[a]? = some cell) (hobj : ∀ q, cell.vm ≠ .statics q)
    {argsL rest : List Value} (hlen : ∀ sig, parseMethodDescriptor y.desc = some sig → argsL.length = sig.parameters.length)
    (hstack : g.stack = argsL.reverse ++ .ref a :: rest) (hW : 2 * g.monitorRoom + (rest.map fun v => v.category).sum ≤ W) (hdg : decode c.code g.pc = .ok (.invokevirtual index, 3))
    (hpre : ∀ vm₁, s.WarmedH vm₁ → Pre ⟨T.setVm vm₁, locs, cells, slots⟩ (.ref a :: argsL).toArray) :
    ∃ (v : Option Value) (vm₁ : Vm) (B : Free.Pt), s.WarmedH vm₁ ∧ Stand p l e R s m args below meth c B.U B.locs B.cells B.slots ∧ Post ⟨T.setVm vm₁, locs, cells, slots⟩ (.ref a :: argsL).toArray v B ∧
      Steps p.tables e below s₀ (B.U.setTop { g with pc := g.pc + 3, stack := v.toList ++ rest }) := by
  obtain ⟨mk, methM, hnamed, hmethM, hstM, habM⟩ := Cond.instanceMethod_spec hinst
  obtain ⟨mk', methM', cM, hnamed', hmethM', -, -, -, -, -, -, hsigM⟩ := Cond.codeWith_spec hcode
  cases hnamed.symm.trans hnamed'
  cases hmethM.symm.trans hmethM'
  obtain ⟨c2, r2, m2, -, -, q3, -, kP, hkP, hkPi⟩ := Cond.selects_spec hsel
  cases hnamed.symm.trans q3
  have hselP : selectMethod e.platform s.vm cell.cls mk = .method mk := selectMethod_private hmethM (hpriv mk methM hnamed hmethM)
  obtain ⟨vm₁, X₁, hstep₁⟩ := X.invokevirtual hexec hown hlink hnamed hmethM hstM hkP hkPi hy (a := a) (cell := cell) hcell hobj hselP hmethM habM hkP hkPi (g := g) hg (argsL := argsL) (rest := rest) (hlen _ hsigM) hstack hdg
  have hW₁ : s.WarmedH vm₁ := X₁.warmed
  obtain ⟨v, B, X', hpost, hsteps⟩ := hK m meth c ⟨T.setVm vm₁, locs, cells, slots⟩ { g with stack := rest } (.invokevirtual index) mk (.ref a :: argsL).toArray X₁ hg hsize hdg hW (X₁.named hnamed) (hpre vm₁ hW₁)
  exact ⟨v, vm₁, B, hW₁, X', hpost, (hcome.trans (hstep₁ _ fun acts => by rw [doInvoke_state]; exact Steps.refl _)).trans hsteps⟩
end PrivH
section Compact
abbrev i_ (z : Int32) : Slot := .val (.int z)
abbrev r_ (a : Addr) : Slot := .val (.ref a)
abbrev u_ : Slot := .unset
theorem own_w {ws : List Cond} {a0 : Array Value} {Z : State} {d : Cond} (hw : ∀ d ∈ ws, d.before a0 Z = true) (i : Nat) (q : ws[i]? = some d) : d.before a0 Z = true := hw _ (List.mem_of_getElem? q)
abbrev own_d (c : ByteArray) (pc : Nat) (i : Instr) (n : Nat) : Prop := decode c pc = .ok (i, n)
abbrev own_MF (l : Launch) (y : MethodName) (cw : Cond) (ws : List Cond) (rm : Jvm.Room) (as : Array Value) (Z : State) (h0 : Heap) (E : State → Prop) (Q : Option Value → Heap → List Loc → Prop) : Prop :=
  MetFree l y (head1 (cw :: ws) rm) (fun a U => a = as ∧ Z.Warmed39 U.vm ∧ U.heap = h0 ∧ E U) (fun _ _ _ _ _ => True) (fun _ U o V => ∃ v L, o = .returned v ∧ Q v V.heap L ∧ FrameEnd U o V L rm.cells rm.slots)
abbrev own_T : State → Prop := fun _ => True
def own_G (p : Program) (e : Env) (below : List Frame) (A s : State) (rm : Jvm.Room) (Q : Option Value → Heap → List Loc → Prop) : Prop :=
  ∃ s₂ o, Steps p.tables e below A s₂ ∧ s₂.status = .running ∧ Ended s₂ below o ∧ ∃ v L, o = .returned v ∧ Q v s₂.heap L ∧ FrameEnd s o s₂ L rm.cells rm.slots
theorem own_in {l : Launch} {y : MethodName} {cw : Cond} {ws : List Cond} {rm : Jvm.Room} {as : Array Value} {Z : State} {h0 : Heap} {E : State → Prop} {Q : Option Value → Heap → List Loc → Prop} {code : ByteArray} {maxL : Nat} {ret : Option FieldType} {L0 : Array Slot} (own : String) (ho : y.cls = own)
    (pl : plainFor y = true) (his : ∀ args (s : State) m, (head1 (cw :: ws) rm).pre.before args s = true → s.methodNamed? y = some m → ∃ meth c, s.vm.method? m = some meth ∧ meth.code = some c ∧ c.code = code ∧ c.maxLocals = maxL ∧ meth.sig.returnType = ret ∧ meth.locks = false)
    (ef : ∀ m, entryFrame m as maxL = mkF m 0 L0 [])
    (B : ∀ p e s m below meth c s₁ A, p.tables.exec = Jvm.exec → c.code = code → c.maxLocals = maxL → s.vm.findClass own = some m.cls → meth.name = y.name → meth.sig.returnType = ret → meth.locks = false → Z.Warmed39 s.vm → E s → Stand p l e rm s m as below meth c s₁ [] 0 0 → s₁.heap = h0 → own_Go p e below A (s₁.setTop (mkF m 0 L0 [])) → own_G p e below A s rm Q) :
    own_MF l y cw ws rm as Z h0 E Q := by
  refine MetFree.of_bodySF pl his ?_
  intro p e s m args below meth c s₁ Bd hml hP _
  obtain ⟨rfl, hZ, hh, hE⟩ := hP
  subst ho
  have X0 : Stand p l e rm s m args below meth c s₁ [] 0 0 := Stand.of_body Bd
  exact B p e s m below meth c s₁ _ Bd.exec Bd.bytes hml (findClass_of_methodNamed Bd.named) (name_of_methodNamed Bd.named Bd.method).1 Bd.returns Bd.notSynchronized hZ hE X0 (by rw [← hh, Bd.state]; rfl) (fun t_ k_ => castTop (ef m) k_)
variable {p : Program} {l : Launch} {e : Env} {R rm : Jvm.Room} {s : State} {m : MethodId} {args : Array Value} {below : List Frame} {meth : Method} {c : Code} {T A Z : State} {locs : List Loc} {cells slots : Nat} {a0 : Array Value} {h : Heap} {pc : Nat} {Ls : Array Slot} {st : List Value} {own : String} {index : Nat} {E : State → Prop} {Q : Option Value → Heap → List Loc → Prop} {as : Array Value} {bytes : ByteArray} {maxL : Nat} {ret : Option FieldType} {hs : List (Nat × Nat × Nat × Nat)} {y : MethodName} {W N : Nat} {sg : MethodDescriptor}
theorem own_hv {t : FieldType} {v : Option Value} {rt : Option FieldType} (h : rt = some t) : rt = none → v = none := fun q => by rw [h] at q; cases q
theorem own_out (X : Stand p l e rm s m args below meth c T locs cells slots) (hlk : meth.locks = false) {v : Option Value} (hv : meth.sig.returnType = none → v = none) (P : own_Go p e below A (T.setTop (mkF m pc Ls st)))
    (stp : ∀ fs, (∀ (f : JFrame) (acts : List Action), f.method = m → f.locked = none → f.entered = [] → (doReturn e (T.setTop f) acts v).1 = T.setFrames fs) → Steps p.tables e below (T.setTop (mkF m pc Ls st)) (T.setFrames fs))
    (eT : T.heap = h) (q : Q v h locs) (hc : cells ≤ rm.cells ∧ slots ≤ rm.slots) : own_G p e below A s rm Q := by
  obtain ⟨fs, hr, hrun, hended, hW, hsame⟩ := X.leave hv hlk
  refine ⟨_, _, P _ (stp fs hr), hrun, hended, _, _, rfl, ?_, ⟨_, rfl⟩, hW, hsame.mono hc.1 hc.2⟩
  show Q v T.heap locs
  rw [eT]; exact q
theorem own_back (M : own_MF l y (Cond.code y bytes maxL ret) [] rm as Z h E Q) (hZ : Z.Warmed39 s.vm) (hE : ∀ U : State, s.WarmedH U.vm → E U) (wc : (Cond.code y bytes maxL ret).before a0 Z = true) (wz : (Cond.initialized y.cls).before a0 Z = true) {len : Nat} (hf : rm.frames + 1 ≤ R.frames) (hl : W + (maxL + 11) + rm.locals ≤ R.locals) :
    Back l R p e below s args y len W (fun A a => a = as ∧ A.U.heap = h ∧ A.cells + rm.cells ≤ R.cells ∧ A.slots + rm.slots ≤ R.slots)
      (fun A _ v B => ∃ L, Q v B.U.heap L ∧ B.locs = A.locs ++ L ∧ B.cells = A.cells + rm.cells ∧ B.slots = A.slots + rm.slots) :=
  Back.of_free (bytes := bytes) (maxL := maxL) (ret := ret) (E := fun _ _ o t L k n => k = rm.cells ∧ n = rm.slots ∧ ∃ v, o = .returned v ∧ Q v t.heap L) M hf hl
    (fun m meth c A a Y hp => have hU : Z.Warmed39 A.U.vm := wtrans hZ Y.warmed
      ⟨by show (Cond.and _ .tt).before a A.U = true; rw [Cond.before_and, mv hU wc]; rfl, mv hU wc, mv hU wz, hp.2.2.1, hp.2.2.2⟩)
    (fun m meth c A a g mk Y hp => ⟨hp.1, wtrans hZ Y.warmed, hp.2.1, hE _ Y.warmed⟩) (fun _ _ _ _ _ _ _ _ _ => trivial)
    (fun _ _ _ _ ⟨v, L, h1, h2, h3⟩ => ⟨L, _, _, h3, rfl, rfl, v, h1, h2⟩)
    (fun m meth c A a g mk v t L k n Y hp _ _ ⟨e1, e2, v', e3, e4⟩ => by cases e3; subst e1 e2; exact ⟨L, e4, rfl, rfl, rfl⟩)
theorem own_backH (M : own_MF l y (Cond.codeWith y bytes maxL ret hs) [] rm as Z h E Q) (hZ : Z.Warmed39 s.vm) (hE : ∀ U : State, s.WarmedH U.vm → E U) (wc : (Cond.codeWith y bytes maxL ret hs).before a0 Z = true) (wz : (Cond.initialized y.cls).before a0 Z = true) {len : Nat} (hf : rm.frames + 1 ≤ R.frames) (hl : W + (maxL + 11) + rm.locals ≤ R.locals) :
    Back l R p e below s args y len W (fun A a => a = as ∧ A.U.heap = h ∧ A.cells + rm.cells ≤ R.cells ∧ A.slots + rm.slots ≤ R.slots)
      (fun A _ v B => ∃ L, Q v B.U.heap L ∧ B.locs = A.locs ++ L ∧ B.cells = A.cells + rm.cells ∧ B.slots = A.slots + rm.slots) :=
  Back.of_freeWith (bytes := bytes) (maxL := maxL) (ret := ret) (handlers := hs) (E := fun _ _ o t L k n => k = rm.cells ∧ n = rm.slots ∧ ∃ v, o = .returned v ∧ Q v t.heap L) M hf hl
    (fun m meth c A a Y hp => have hU : Z.Warmed39 A.U.vm := wtrans hZ Y.warmed
      ⟨by show (Cond.and _ .tt).before a A.U = true; rw [Cond.before_and, mv hU wc]; rfl, mv hU wc, mv hU wz, hp.2.2.1, hp.2.2.2⟩)
    (fun m meth c A a g mk Y hp => ⟨hp.1, wtrans hZ Y.warmed, hp.2.1, hE _ Y.warmed⟩) (fun _ _ _ _ _ _ _ _ _ => trivial)
    (fun _ _ _ _ ⟨v, L, h1, h2, h3⟩ => ⟨L, _, _, h3, rfl, rfl, v, h1, h2⟩)
    (fun m meth c A a g mk v t L k n Y hp _ _ ⟨e1, e2, v', e3, e4⟩ => by cases e3; subst e1 e2; exact ⟨L, e4, rfl, rfl, rfl⟩)
abbrev own_R (p : Program) (l : Launch) (e : Env) (R : Jvm.Room) (s : State) (m : MethodId) (args : Array Value) (below : List Frame) (meth : Method) (c : Code) (A : State) (locs : List Loc) (cells slots : Nat) (rm : Jvm.Room) (Q : Option Value → Heap → List Loc → Prop) (pc : Nat) (Ls : Array Slot) (rest : List Value) : Prop :=
  ∃ v T' L', Stand p l e R s m args below meth c T' (locs ++ L') (cells + rm.cells) (slots + rm.slots) ∧ Q v T'.heap L' ∧ own_Go p e below A (T'.setTop (mkF m (pc + 3) Ls (v.toList ++ rest)))
abbrev own_fit (rm R : Jvm.Room) (W maxL cells slots : Nat) : Prop := rm.frames + 1 ≤ R.frames ∧ W + (maxL + 11) + rm.locals ≤ R.locals ∧ cells + rm.cells ≤ R.cells ∧ slots + rm.slots ≤ R.slots
abbrev own_MH (y : MethodName) : Prop := y.cls ≠ "java/lang/invoke/MethodHandle" ∧ y.cls ≠ "java/lang/invoke/VarHandle"
theorem own_cS (M : own_MF l y (Cond.code y bytes maxL ret) [] rm as Z h E Q) (X : Stand p l e R s m args below meth c T locs cells slots) (hx : p.tables.exec = Jvm.exec) (hZ : Z.Warmed39 s.vm) (hE : ∀ U : State, s.WarmedH U.vm → E U) (hown : s.vm.findClass own = some m.cls)
    (w1 : (Cond.methodLink own index y).before a0 Z = true) (w2 : (Cond.static y).before a0 Z = true) (w3 : (Cond.initialized y.cls).before a0 Z = true) (w4 : (Cond.code y bytes maxL ret).before a0 Z = true) (hy : own_MH y) (P : own_Go p e below A (T.setTop (mkF m pc Ls st))) (hml : c.maxLocals = N) (hsz : Ls.size = N)
    (argsL rest : List Value) (hst : st = argsL.reverse ++ rest) (has : argsL.toArray = as) (hW : (rest.map fun v => v.category).sum = W) (hpd : parseMethodDescriptor y.desc = some sg) (hlen : argsL.length = sg.parameters.length) (hd : decode c.code pc = .ok (.invokestatic index, 3)) (eT : T.heap = h) (hr : own_fit rm R W maxL cells slots) :
    own_R p l e R s m args below meth c A locs cells slots rm Q pc Ls rest := by
  obtain ⟨v, _, ⟨T', L', k', n'⟩, -, X', ⟨L, hQ, q1, q2, q3⟩, stp⟩ := Jvm.LawKit.callS X hx hown (mvT hZ w1) (mvT hZ w2) (mvT hZ w3) (mvT hZ w4) hy (own_back (W := W) M hZ hE w4 w3 hr.1 hr.2.1) (g := mkF m pc Ls st) rfl (hsz.trans hml.symm) (argsL := argsL) (rest := rest) (fun sig hs => by cases hpd.symm.trans hs; exact hlen) hst (by show 2 * 0 + _ ≤ _; omega) hd (fun _ _ => ⟨has, eT, hr.2.2.1, hr.2.2.2⟩)
  dsimp only [Pt.U, Pt.locs, Pt.cells, Pt.slots] at X' q1 q2 q3 stp hQ
  subst q1 q2 q3
  exact ⟨v, T', L, X', hQ, fun t_ k_ => P t_ (stp t_ k_)⟩
theorem own_cSH (M : own_MF l y (Cond.codeWith y bytes maxL ret hs) [] rm as Z h E Q) (X : Stand p l e R s m args below meth c T locs cells slots) (hx : p.tables.exec = Jvm.exec) (hZ : Z.Warmed39 s.vm) (hE : ∀ U : State, s.WarmedH U.vm → E U) (hown : s.vm.findClass own = some m.cls)
    (w1 : (Cond.methodLink own index y).before a0 Z = true) (w2 : (Cond.static y).before a0 Z = true) (w3 : (Cond.initialized y.cls).before a0 Z = true) (w4 : (Cond.codeWith y bytes maxL ret hs).before a0 Z = true) (hy : own_MH y) (P : own_Go p e below A (T.setTop (mkF m pc Ls st))) (hml : c.maxLocals = N) (hsz : Ls.size = N)
    (argsL rest : List Value) (hst : st = argsL.reverse ++ rest) (has : argsL.toArray = as) (hW : (rest.map fun v => v.category).sum = W) (hpd : parseMethodDescriptor y.desc = some sg) (hlen : argsL.length = sg.parameters.length) (hd : decode c.code pc = .ok (.invokestatic index, 3)) (eT : T.heap = h) (hr : own_fit rm R W maxL cells slots) :
    own_R p l e R s m args below meth c A locs cells slots rm Q pc Ls rest := by
  obtain ⟨v, _, ⟨T', L', k', n'⟩, -, X', ⟨L, hQ, q1, q2, q3⟩, stp⟩ := callSH X hx hown (mvT hZ w1) (mvT hZ w2) (mvT hZ w3) (mvT hZ w4) hy (own_backH (W := W) M hZ hE w4 w3 hr.1 hr.2.1) (g := mkF m pc Ls st) rfl (hsz.trans hml.symm) (argsL := argsL) (rest := rest) (fun sig hs => by cases hpd.symm.trans hs; exact hlen) hst (by show 2 * 0 + _ ≤ _; omega) hd (fun _ _ => ⟨has, eT, hr.2.2.1, hr.2.2.2⟩)
  dsimp only [Pt.U, Pt.locs, Pt.cells, Pt.slots] at X' q1 q2 q3 stp hQ
  subst q1 q2 q3
  exact ⟨v, T', L, X', hQ, fun t_ k_ => P t_ (stp t_ k_)⟩
variable {a : Addr}
theorem own_cI (M : own_MF l y (Cond.code y bytes maxL none) [] rm as Z h E Q) (X : Stand p l e R s m args below meth c T locs cells slots) (hx : p.tables.exec = Jvm.exec) (hZ : Z.Warmed39 s.vm) (hE : ∀ U : State, s.WarmedH U.vm → E U) (hown : s.vm.findClass own = some m.cls) (hn : y.name = "<init>")
    (w1 : (Cond.methodLink own index y).before a0 Z = true) (w2 : (Cond.instanceMethod y).before a0 Z = true) (w3 : (Cond.initialized y.cls).before a0 Z = true) (w4 : (Cond.code y bytes maxL none).before a0 Z = true) (hy : own_MH y) (P : own_Go p e below A (T.setTop (mkF m pc Ls st))) (hml : c.maxLocals = N) (hsz : Ls.size = N)
    (argsL rest : List Value) (hst : st = argsL.reverse ++ .ref a :: rest) (has : (.ref a :: argsL).toArray = as) (hW : (rest.map fun v => v.category).sum = W) (hpd : parseMethodDescriptor y.desc = some sg) (hlen : argsL.length = sg.parameters.length) (hd : decode c.code pc = .ok (.invokespecial index, 3)) (eT : T.heap = h) (hr : own_fit rm R W maxL cells slots) :
    own_R p l e R s m args below meth c A locs cells slots rm Q pc Ls rest := by
  obtain ⟨v, _, ⟨T', L', k', n'⟩, -, X', ⟨L, hQ, q1, q2, q3⟩, stp⟩ := X.specialBack hx hn hown (mvT hZ w1) (mvT hZ w2) (mvT hZ w4) hy (own_back (W := W) M hZ hE w4 w3 hr.1 hr.2.1) (g := mkF m pc Ls st) rfl (hsz.trans hml.symm) (Steps.refl _) (a := a) (argsL := argsL) (rest := rest) (fun sig hs => by cases hpd.symm.trans hs; exact hlen) hst (by show 2 * 0 + _ ≤ _; omega) hd (fun _ _ => ⟨has, eT, hr.2.2.1, hr.2.2.2⟩)
  dsimp only [Pt.U, Pt.locs, Pt.cells, Pt.slots] at X' q1 q2 q3 stp hQ
  subst q1 q2 q3
  exact ⟨v, T', L, X', hQ, fun t_ k_ => P t_ (stp.trans k_)⟩
theorem own_cV {C : String} (M : own_MF l y (Cond.code y bytes maxL ret) [] rm as Z h E Q) (X : Stand p l e R s m args below meth c T locs cells slots) (hx : p.tables.exec = Jvm.exec) (hZ : Z.Warmed39 s.vm) (hE : ∀ U : State, s.WarmedH U.vm → E U) (hown : s.vm.findClass own = some m.cls) (F : Exa Z h a C)
    (w1 : (Cond.methodLink own index y).before a0 Z = true) (w5 : (Cond.declares y).before a0 Z = true) (w6 : (Cond.selects C y y).before a0 Z = true) (w2 : (Cond.instanceMethod y).before a0 Z = true) (w3 : (Cond.initialized y.cls).before a0 Z = true) (w4 : (Cond.code y bytes maxL ret).before a0 Z = true) (hy : own_MH y) (P : own_Go p e below A (T.setTop (mkF m pc Ls st))) (hml : c.maxLocals = N) (hsz : Ls.size = N)
    (argsL rest : List Value) (hst : st = argsL.reverse ++ .ref a :: rest) (has : (.ref a :: argsL).toArray = as) (hW : (rest.map fun v => v.category).sum = W) (hpd : parseMethodDescriptor y.desc = some sg) (hlen : argsL.length = sg.parameters.length) (hd : decode c.code pc = .ok (.invokevirtual index, 3)) (eT : T.heap = h) (hr : own_fit rm R W maxL cells slots) :
    own_R p l e R s m args below meth c A locs cells slots rm Q pc Ls rest := by
  obtain ⟨cq, kq, qa, qb, qc⟩ := isOf hZ eT F
  obtain ⟨v, _, ⟨T', L', k', n'⟩, -, X', ⟨L, hQ, q1, q2, q3⟩, stp⟩ := X.virtualBack hx hown (mvT hZ w1) (mvT hZ w5) (notFace_of_selects (args := #[]) (mvT hZ w6)) (mvT hZ w6) (mvT hZ w2) hy (own_back (W := W) M hZ hE w4 w3 hr.1 hr.2.1) qa qc (g := mkF m pc Ls st) rfl (hsz.trans hml.symm) (Steps.refl _) (argsL := argsL) (rest := rest) (fun sig hs => by cases hpd.symm.trans hs; exact hlen) hst (by show 2 * 0 + _ ≤ _; omega) hd (fun _ _ => ⟨has, eT, hr.2.2.1, hr.2.2.2⟩)
  dsimp only [Pt.U, Pt.locs, Pt.cells, Pt.slots] at X' q1 q2 q3 stp hQ
  subst q1 q2 q3
  exact ⟨v, T', L, X', hQ, fun t_ k_ => P t_ (stp.trans k_)⟩
theorem own_cP {C : String} (M : own_MF l y (Cond.code y bytes maxL ret) [] rm as Z h E Q) (X : Stand p l e R s m args below meth c T locs cells slots) (hx : p.tables.exec = Jvm.exec) (hZ : Z.Warmed39 s.vm) (hE : ∀ U : State, s.WarmedH U.vm → E U) (hown : s.vm.findClass own = some m.cls) (F : Exa Z h a C)
    (w1 : (Cond.methodLink own index y).before a0 Z = true) (w5 : (Cond.privateMethod y).before a0 Z = true) (w6 : (Cond.selects y.cls y y).before a0 Z = true) (w2 : (Cond.instanceMethod y).before a0 Z = true) (w3 : (Cond.initialized y.cls).before a0 Z = true) (w4 : (Cond.code y bytes maxL ret).before a0 Z = true) (hy : own_MH y) (P : own_Go p e below A (T.setTop (mkF m pc Ls st))) (hml : c.maxLocals = N) (hsz : Ls.size = N)
    (argsL rest : List Value) (hst : st = argsL.reverse ++ .ref a :: rest) (has : (.ref a :: argsL).toArray = as) (hW : (rest.map fun v => v.category).sum = W) (hpd : parseMethodDescriptor y.desc = some sg) (hlen : argsL.length = sg.parameters.length) (hd : decode c.code pc = .ok (.invokevirtual index, 3)) (eT : T.heap = h) (hr : own_fit rm R W maxL cells slots) :
    own_R p l e R s m args below meth c A locs cells slots rm Q pc Ls rest := by
  obtain ⟨cq, qa, qb⟩ := F.cell
  obtain ⟨v, _, ⟨T', L', k', n'⟩, -, X', ⟨L, hQ, q1, q2, q3⟩, stp⟩ := X.privateBack hx hown (mvT hZ w1) (mvT hZ w2) (mvT hZ w6) (Cond.privateMethod_at (mvP hZ w5 (args := #[]))) (mvT hZ w4) hy (own_back (W := W) M hZ hE w4 w3 hr.1 hr.2.1) (g := mkF m pc Ls st) rfl (hsz.trans hml.symm) (Steps.refl _) (a := a) (by rw [eT]; exact qa) qb (argsL := argsL) (rest := rest) (fun sig hs => by cases hpd.symm.trans hs; exact hlen) hst (by show 2 * 0 + _ ≤ _; omega) hd (fun _ _ => ⟨has, eT, hr.2.2.1, hr.2.2.2⟩)
  dsimp only [Pt.U, Pt.locs, Pt.cells, Pt.slots] at X' q1 q2 q3 stp hQ
  subst q1 q2 q3
  exact ⟨v, T', L, X', hQ, fun t_ k_ => P t_ (stp.trans k_)⟩
theorem own_cPH {C : String} (M : own_MF l y (Cond.codeWith y bytes maxL ret hs) [] rm as Z h E Q) (X : Stand p l e R s m args below meth c T locs cells slots) (hx : p.tables.exec = Jvm.exec) (hZ : Z.Warmed39 s.vm) (hE : ∀ U : State, s.WarmedH U.vm → E U) (hown : s.vm.findClass own = some m.cls) (F : Exa Z h a C)
    (w1 : (Cond.methodLink own index y).before a0 Z = true) (w5 : (Cond.privateMethod y).before a0 Z = true) (w6 : (Cond.selects y.cls y y).before a0 Z = true) (w2 : (Cond.instanceMethod y).before a0 Z = true) (w3 : (Cond.initialized y.cls).before a0 Z = true) (w4 : (Cond.codeWith y bytes maxL ret hs).before a0 Z = true) (hy : own_MH y) (P : own_Go p e below A (T.setTop (mkF m pc Ls st))) (hml : c.maxLocals = N) (hsz : Ls.size = N)
    (argsL rest : List Value) (hst : st = argsL.reverse ++ .ref a :: rest) (has : (.ref a :: argsL).toArray = as) (hW : (rest.map fun v => v.category).sum = W) (hpd : parseMethodDescriptor y.desc = some sg) (hlen : argsL.length = sg.parameters.length) (hd : decode c.code pc = .ok (.invokevirtual index, 3)) (eT : T.heap = h) (hr : own_fit rm R W maxL cells slots) :
    own_R p l e R s m args below meth c A locs cells slots rm Q pc Ls rest := by
  obtain ⟨cq, qa, qb⟩ := F.cell
  obtain ⟨v, _, ⟨T', L', k', n'⟩, -, X', ⟨L, hQ, q1, q2, q3⟩, stp⟩ := own_privateH X hx hown (mvT hZ w1) (mvT hZ w2) (mvT hZ w6) (Cond.privateMethod_at (mvP hZ w5 (args := #[]))) (mvT hZ w4) hy (own_backH (W := W) M hZ hE w4 w3 hr.1 hr.2.1) (g := mkF m pc Ls st) rfl (hsz.trans hml.symm) (Steps.refl _) (a := a) (by rw [eT]; exact qa) qb (argsL := argsL) (rest := rest) (fun sig hs => by cases hpd.symm.trans hs; exact hlen) hst (by show 2 * 0 + _ ≤ _; omega) hd (fun _ _ => ⟨has, eT, hr.2.2.1, hr.2.2.2⟩)
  dsimp only [Pt.U, Pt.locs, Pt.cells, Pt.slots] at X' q1 q2 q3 stp hQ
  subst q1 q2 q3
  exact ⟨v, T', L, X', hQ, fun t_ k_ => P t_ (stp.trans k_)⟩
theorem own_to {C : State} (P : own_Go p e below A C) : own_Go p e below A C := P
theorem own_litU {i : Nat} (L : Lit s own i a) {U : State} (hW : s.WarmedH U.vm) : Lit U own i a := State.resolvedAt?_warmed39 (s := s) hW.wide L
theorem own_backI2 {Ts : List String} {i : Nat} {len : Nat} {Q : Addr → Option Value → Heap → List Loc → Prop}
    (hM : MetFree l y (head1 [Cond.code y bytes maxL ret] rm) (fun a U => a = as ∧ Z.Warmed39 U.vm ∧ U.heap = h ∧ IB Z U.vm Ts) (fun _ _ _ _ _ => True) (fun _ U o U' => ∃ v L la, o = .returned v ∧ Q la v U'.heap L ∧ Lit U' own i la ∧ ReturnedEndW U o U' L rm.cells rm.slots))
    (hZ : Z.Warmed39 s.vm) (hI : IB Z s.vm Ts) (wc : (Cond.code y bytes maxL ret).before a0 Z = true) (wz : (Cond.initialized y.cls).before a0 Z = true) (hf : rm.frames + 1 ≤ R.frames) (hl : W + (maxL + 11) + rm.locals ≤ R.locals) :
    BackS l R p e below s args y len W (fun A a => a = as ∧ A.U.heap = h ∧ A.cells + rm.cells ≤ R.cells ∧ A.slots + rm.slots ≤ R.slots) (fun A _ v B => ∃ L la, Q la v B.U.heap L ∧ Lit B.U own i la ∧ B.locs = A.locs ++ L ∧ B.cells = A.cells + rm.cells ∧ B.slots = A.slots + rm.slots) := by
  refine BackS.of_freeW (bytes := bytes) (maxL := maxL) (ret := ret) (E := fun _ _ o t L k n => k = rm.cells ∧ n = rm.slots ∧ ∃ v la, o = .returned v ∧ Q la v t.heap L ∧ Lit t own i la) hM hf hl ?_ ?_ (fun _ _ _ _ _ _ _ _ _ => trivial) ?_ ?_
  · intro m meth c A a Y hp
    have hU : Z.Warmed39 A.U.vm := wtrans hZ Y.warmed
    refine ⟨?_, mv hU wc, mv hU wz, hp.2.2.1, hp.2.2.2⟩
    show (Cond.and _ .tt).before a A.U = true
    rw [Cond.before_and, mv hU wc]; rfl
  · intro m meth c A a g mk Y hp
    exact ⟨hp.1, wtrans hZ Y.warmed, hp.2.1, own_IB hI Y.warmed⟩
  · rintro _ _ _ _ ⟨v, L, la, h1, h2, h2', h3⟩
    exact ⟨L, _, _, h3, rfl, rfl, v, la, h1, h2, h2'⟩
  · intro m meth c A a g mk v t L k n Y hp _ _ q
    obtain ⟨e1, e2, v', la, e3, e4, e5⟩ := q
    cases e3; subst e1 e2; exact ⟨L, la, e4, e5, rfl, rfl, rfl⟩
theorem own_chv {i : Nat} {vm : Vm} {text : String} {n0 : Nat} (hh : Jvm.Lit.constHeld Z own i) (w : (Cond.stringLink own i text).before a0 Z = true) (ht : ∀ c ∈ text.toList, c.toNat < 256) (hcw : Jvm.Lit.compactW.before a0 Z = true) (wa : (Cond.arrayClass .byte).before a0 Z = true) (wi : (Cond.instantiable "java/lang/String" 4).before a0 Z = true)
    (hI : IB Z vm []) (hZ : Z.Warmed39 vm) (O : Old Z n0 h) : CHv Z [(own, i)] vm h ∧ EW Z a0 [(own, i)] := by
  have E : EW Z a0 [(own, i)] := EW.cons w ht EW.nil
  have H := CHv.start E (fun p hp => by cases List.mem_singleton.mp hp; exact hh) hcw wa wi
  have hi : vm.interned = Z.vm.interned := by
    obtain ⟨more, e1, hm⟩ := hI
    have : more = #[] := by
      rw [Array.eq_empty_iff_forall_not_mem]
      intro q hq
      obtain ⟨t, ht, -⟩ := hm q hq
      cases ht
    rw [e1, this]; simp
  exact ⟨(CHv.later (vm := Z.vm) (h := Z.heap) (State.Warmed39.refl Z) (show (Wst Z Z.vm Z.heap).Warmed39 vm from hZ) E O.2 (Or.inl hi) H).1, E⟩
theorem own_exB {i : Nat} {vm : Vm} {text : String} {b : Addr} (H : CHv Z [(own, i)] vm h) (hZ : Z.Warmed39 vm) (w : (Cond.stringLink own i text).before a0 Z = true) (L : Lit (s.setVm vm) own i a) (F : Fld Z h a "java/lang/String" "value" "[B" (.ref b)) : Exa Z h b "[B" := by
  have hal := hZ.alike
  have q : (s.setVm vm).resolvedAt? own i = some (.string a) := L
  cases hf : vm.findClass own with
  | none => simp [State.resolvedAt?, hf] at q
  | some cl =>
  have w2 : (Cond.stringLink own i text).before a0 (Wst Z vm h) = true := mvS (s := { Z with heap := h }) hZ w
  obtain ⟨kx, cf, i0, units, hkx, hcf, hp, hu, -, -, -⟩ := Cond.stringLink_spec (s := Wst Z vm h) hf w2
  have hkx : vm.classes[cl]? = some kx := hkx
  have hres : kx.resolved[i]? = some (some (.string a)) := by
    simp [State.resolvedAt?, hf, hkx] at q
    cases hr : kx.resolved[i]? with
    | none => rw [hr] at q; cases q
    | some o => rw [hr] at q; cases o with
      | none => cases q
      | some r => simpa using q
  obtain ⟨z, hza, G⟩ := SlB.of (H _ (List.mem_singleton_self _) units a ⟨cl, kx, cf, i0, hf, hkx, hcf, hp, hu, Or.inl hres⟩)
  have ha := G.ha
  have hd := G.hd
  obtain ⟨cS, ⟨⟨-, -, -, ⟨cv, kv, iv, s4, -⟩, -, -, -, s8, -, -, s11, -⟩, -, -⟩, -, hB, -⟩ := G
  obtain ⟨kv', z4⟩ := ff_back (U := Wst Z vm h) hal s4
  obtain ⟨cell, c1, k1, i1, f1, h1, h2, -, -, -, -, h7⟩ := F
  have e1 := z4.symm.trans h2
  simp only [Option.some.injEq, Prod.mk.injEq] at e1
  have e2 : some z.sC = some cell := (show h[z.sa]? = some z.sC from ha).symm.trans (by rw [hza]; exact h1)
  have e3 : z.sC = cell := Option.some.inj e2
  have e4 : z.sd = b := by
    have q1 : cell.slots[z.fSV.slot]? = some (.ref z.sd) := by rw [← e3]; exact s8
    rw [e1.2.2.2, h7] at q1
    simpa using q1.symm
  subst e4
  have hBZ : Z.vm.findClass "[B" = some z.SA.cls := by rw [← hal.findClass]; exact hB
  obtain ⟨kb, hkb, -⟩ := Vm.findClass_spec hBZ
  obtain ⟨kb', hkb', ekb⟩ := hal.2.2 _ _ hkb
  obtain ⟨hst, k9, hk9, comp, hkind9⟩ := s11
  have hk9 : vm.classes[z.SA.cls]? = some k9 := hk9
  cases hkb'.symm.trans hk9
  refine ⟨z.SA, kb, hd, hBZ, hkb, ?_, fun ho => ?_⟩
  · cases hv : z.SA.vm <;> first | rfl | exact absurd hv (hst _)
  · rw [ekb] at hkind9
    have := hkind9.symm.trans ho
    cases this
theorem oS (C : State) {B : State} (P : own_Go p e below A B) (q : own_Go p e below B C) : own_Go p e below A C := fun t_ k_ => P t_ (q t_ k_)
section Rows
variable {code : ByteArray} {target : State}
theorem aN_ (X : Stand p l e R s m args below meth c T locs cells slots) (hx : p.tables.exec = Jvm.exec) (hby : c.code = code) {k : Fin 4} {v : Value} (d : decode code pc = .ok (.aload_n k, 1)) (hl : Ls[k.val]? = some (.val v)) (hv : v.isRef = true) (hr : Steps p.tables e below (T.setTop (mkF m (pc + 1) Ls (v :: st))) target) : Steps p.tables e below (T.setTop (mkF m pc Ls st)) target := XS.aloadN X.here hx rfl (hb hby d) hl hv hr
theorem a_ (X : Stand p l e R s m args below meth c T locs cells slots) (hx : p.tables.exec = Jvm.exec) (hby : c.code = code) {k : Nat} {v : Value} (d : decode code pc = .ok (.aload k, 2)) (hl : Ls[k]? = some (.val v)) (hv : v.isRef = true) (hr : Steps p.tables e below (T.setTop (mkF m (pc + 2) Ls (v :: st))) target) : Steps p.tables e below (T.setTop (mkF m pc Ls st)) target := XS.aload X.here hx rfl (hb hby d) hl hv hr
theorem iN_ (X : Stand p l e R s m args below meth c T locs cells slots) (hx : p.tables.exec = Jvm.exec) (hby : c.code = code) {k : Fin 4} {v : Int32} (d : decode code pc = .ok (.iload_n k, 1)) (hl : Ls[k.val]? = some (.val (.int v))) (hr : Steps p.tables e below (T.setTop (mkF m (pc + 1) Ls (.int v :: st))) target) : Steps p.tables e below (T.setTop (mkF m pc Ls st)) target := XS.iloadN X.here hx rfl (hb hby d) hl hr
theorem il_ (X : Stand p l e R s m args below meth c T locs cells slots) (hx : p.tables.exec = Jvm.exec) (hby : c.code = code) {k : Nat} {v : Int32} (d : decode code pc = .ok (.iload k, 2)) (hl : Ls[k]? = some (.val (.int v))) (hr : Steps p.tables e below (T.setTop (mkF m (pc + 2) Ls (.int v :: st))) target) : Steps p.tables e below (T.setTop (mkF m pc Ls st)) target := XS.iload X.here hx rfl (hb hby d) hl hr
theorem is_ (X : Stand p l e R s m args below meth c T locs cells slots) (hx : p.tables.exec = Jvm.exec) (hby : c.code = code) {k : Nat} {x : Int32} {rest : List Value} {l' : Array Slot} (d : decode code pc = .ok (.istore k, 2)) (hl : storeLocals Ls k (.int x) = some l') (hr : Steps p.tables e below (T.setTop (mkF m (pc + 2) l' rest)) target) : Steps p.tables e below (T.setTop (mkF m pc Ls (.int x :: rest))) target := XS.istore X.here hx rfl (hb hby d) rfl hl hr
theorem cY_ (X : Stand p l e R s m args below meth c T locs cells slots) (hx : p.tables.exec = Jvm.exec) (hby : c.code = code) {cd : ClassFile.Cond} {x y : Int32} {rest : List Value} {o : Int} {pc' : Nat} (d : decode code pc = .ok (.if_icmp cd o, 3)) (hc : if_icmp.holds cd x y = true) (hp : 0 ≤ (pc : Int) + o ∧ ((pc : Int) + o).toNat = pc') (hr : Steps p.tables e below (T.setTop (mkF m pc' Ls rest)) target) : Steps p.tables e below (T.setTop (mkF m pc Ls (.int y :: .int x :: rest))) target := XS.icmpYes X.here hx rfl rfl (hb hby d) rfl hc hp.1 hp.2 hr
theorem fY_ (X : Stand p l e R s m args below meth c T locs cells slots) (hx : p.tables.exec = Jvm.exec) (hby : c.code = code) {cd : ClassFile.Cond} {x : Int32} {rest : List Value} {o : Int} {pc' : Nat} (d : decode code pc = .ok (.ifCond cd o, 3)) (hc : ifCond.holds cd x = true) (hp : 0 ≤ (pc : Int) + o ∧ ((pc : Int) + o).toNat = pc') (hr : Steps p.tables e below (T.setTop (mkF m pc' Ls rest)) target) : Steps p.tables e below (T.setTop (mkF m pc Ls (.int x :: rest))) target := XS.ifYes X.here hx rfl rfl (hb hby d) rfl hc hp.1 hp.2 hr
theorem gt_ (X : Stand p l e R s m args below meth c T locs cells slots) (hx : p.tables.exec = Jvm.exec) (hby : c.code = code) {o : Int} {pc' : Nat} (d : decode code pc = .ok (.goto o, 3)) (hp : 0 ≤ (pc : Int) + o ∧ ((pc : Int) + o).toNat = pc') (hr : Steps p.tables e below (T.setTop (mkF m pc' Ls st)) target) : Steps p.tables e below (T.setTop (mkF m pc Ls st)) target := XS.goto X.here hx rfl rfl (hb hby d) hp.1 hp.2 hr
end Rows
end Compact
end Jvm.RoadKit
namespace Jvm.Pilot.@@N@@
open Jvm Jvm.ClassFile Sem Op Lib Jvm.Free Jvm.Stand Jvm.LawKit Jvm.RoadKit Bundle Jvm.Pilot.@@N@@.Jvm.D
set_option maxRecDepth 65536 in
set_option maxHeartbeats 4000000 in
theorem own_wS : ∀ d ∈ Bundle.stringAtoms, d ∈ tables_1 := by
  intro d hd
  simp only [Bundle.stringAtoms, Bundle.sN, List.mem_cons, List.not_mem_nil, or_false] at hd
  rcases hd with rfl | rfl | rfl | rfl | rfl | rfl | rfl
  all_goals (simp only [tables_1, List.mem_cons, List.not_mem_nil, or_false]; simp)

theorem own_shr0 (z : Int32) : z >>> ((0 : Int32) &&& 31) = z := by
  rw [← Int32.toInt_inj, c_ishr z 0 0 (by decide)]; simp
theorem own_nc (x : Int32) : nar .char ((x &&& 255).toUInt32.toUInt16.toUInt32.toInt32) = x &&& (255 : Int32) := by
  show (((x &&& 255).toUInt32.toUInt16.toUInt32.toInt32).toUInt32.toUInt16.toUInt32.toInt32) = _
  rw [i2c_mask, i2c_mask]
theorem own_nc1 (x : Int32) : nar .char (x &&& 255) = x &&& (255 : Int32) := i2c_mask x
def own_al (p0 : Int32) : Int32 := (if p0 < (26 : Int32) then (nar .char (((65 : Int32) + p0).toUInt32.toUInt16.toUInt32.toInt32)) else (if p0 < (52 : Int32) then (nar .char (((97 : Int32) + (p0 - (26 : Int32))).toUInt32.toUInt16.toUInt32.toInt32)) else (if p0 < (62 : Int32) then (nar .char (((48 : Int32) + (p0 - (52 : Int32))).toUInt32.toUInt16.toUInt32.toInt32)) else (if p0 = (62 : Int32) then (45 : Int32) else (95 : Int32)))))
abbrev cB1 := method_2_code
abbrev yM1 : MethodName := ⟨"com/example/verified_health_identity/verifiedhealthidentity/jose/Base64urlDecodePinLaw", "alpha", "(I)C"⟩
theorem d1_0 : own_d cB1 0 (.iload_n 0) 1 := by decide +kernel
theorem d1_1 : own_d cB1 1 (.bipush 26) 2 := by decide +kernel
theorem d1_3 : own_d cB1 3 (.if_icmp .ge 9) 3 := by decide +kernel
theorem d1_6 : own_d cB1 6 (.bipush 65) 2 := by decide +kernel
theorem d1_8 : own_d cB1 8 (.iload_n 0) 1 := by decide +kernel
theorem d1_9 : own_d cB1 9 (.iadd) 1 := by decide +kernel
theorem d1_10 : own_d cB1 10 (.i2c) 1 := by decide +kernel
theorem d1_11 : own_d cB1 11 (.ireturn) 1 := by decide +kernel
theorem d1_12 : own_d cB1 12 (.iload_n 0) 1 := by decide +kernel
theorem d1_13 : own_d cB1 13 (.bipush 52) 2 := by decide +kernel
theorem d1_15 : own_d cB1 15 (.if_icmp .ge 12) 3 := by decide +kernel
theorem d1_18 : own_d cB1 18 (.bipush 97) 2 := by decide +kernel
theorem d1_20 : own_d cB1 20 (.iload_n 0) 1 := by decide +kernel
theorem d1_21 : own_d cB1 21 (.bipush 26) 2 := by decide +kernel
theorem d1_23 : own_d cB1 23 (.isub) 1 := by decide +kernel
theorem d1_24 : own_d cB1 24 (.iadd) 1 := by decide +kernel
theorem d1_25 : own_d cB1 25 (.i2c) 1 := by decide +kernel
theorem d1_26 : own_d cB1 26 (.ireturn) 1 := by decide +kernel
theorem d1_27 : own_d cB1 27 (.iload_n 0) 1 := by decide +kernel
theorem d1_28 : own_d cB1 28 (.bipush 62) 2 := by decide +kernel
theorem d1_30 : own_d cB1 30 (.if_icmp .ge 12) 3 := by decide +kernel
theorem d1_33 : own_d cB1 33 (.bipush 48) 2 := by decide +kernel
theorem d1_35 : own_d cB1 35 (.iload_n 0) 1 := by decide +kernel
theorem d1_36 : own_d cB1 36 (.bipush 52) 2 := by decide +kernel
theorem d1_38 : own_d cB1 38 (.isub) 1 := by decide +kernel
theorem d1_39 : own_d cB1 39 (.iadd) 1 := by decide +kernel
theorem d1_40 : own_d cB1 40 (.i2c) 1 := by decide +kernel
theorem d1_41 : own_d cB1 41 (.ireturn) 1 := by decide +kernel
theorem d1_42 : own_d cB1 42 (.iload_n 0) 1 := by decide +kernel
theorem d1_43 : own_d cB1 43 (.bipush 62) 2 := by decide +kernel
theorem d1_45 : own_d cB1 45 (.if_icmp .ne 6) 3 := by decide +kernel
theorem d1_48 : own_d cB1 48 (.bipush 45) 2 := by decide +kernel
theorem d1_50 : own_d cB1 50 (.ireturn) 1 := by decide +kernel
theorem d1_51 : own_d cB1 51 (.bipush 95) 2 := by decide +kernel
theorem d1_53 : own_d cB1 53 (.ireturn) 1 := by decide +kernel
theorem ef1I (m : MethodId) (x0 : Int32) : entryFrame m #[(.int x0)] 1 = mkF m 0 #[i_ x0] [] := by first | (simp [entryFrame, mkF, argsToLocals, Value.category]; done) | rfl
def Q_own_al (Z : State) (p0 : Int32) (h0 : Heap) (n0 : Nat) (v_ : Option Value) (h : Heap) (L_ : List Loc) : Prop := v_ = some (.int (own_al p0)) ∧ Fr n0 L_ ∧ h = h0
theorem pn0 : plainName "com/example/verified_health_identity/verifiedhealthidentity/jose/Base64urlDecodePinLaw" = true := by first | (simp [plainName, overriddenIn]; done) | decide +kernel
set_option maxRecDepth 65536 in
set_option maxHeartbeats 40000000 in
theorem rm_own_al (l : Launch) (Z : State) (a0 : Array Value) (hw : ∀ d ∈ tables_1, d.before a0 Z = true) (ws : List Jvm.Cond) (p0 : Int32) (h0 : Heap) (n0 : Nat) (Z0 : n0 ≤ h0.size) :
    own_MF l yM1 (.code yM1 cB1 1 (some .char)) ws ⟨0, 0, 0, 0⟩ #[(.int p0)] Z h0 own_T (Q_own_al Z p0 h0 n0) := by
  refine own_in "com/example/verified_health_identity/verifiedhealthidentity/jose/Base64urlDecodePinLaw" rfl (plainFor_of_name pn0) hisR (fun m => ef1I m p0) ?_
  intro p e s m below meth c s₁ A_ hx hby hml hown hnm hrt hlk hZ _ X0 e0 pre0
  have N0 := Fr.nil n0
  have P1 := oS (s₁.setTop (mkF m 3 #[i_ p0] [(.int 26), (.int p0)])) pre0 (by
    intro _ k_
    refine iN_ X0 hx hby d1_0 rfl ?_
    refine XS.bipush X0.here hx rfl (hb hby d1_1) ?_
    exact k_)
  by_cases c2 : p0 < (26 : Int32)
  · have P3 := oS (s₁.setTop (mkF m 11 #[i_ p0] [(.int (((65 : Int32) + p0).toUInt32.toUInt16.toUInt32.toInt32))])) P1 (by
      intro _ k_
      refine XS.icmpNo X0.here hx rfl (hb hby d1_3) rfl (tlt c2).2.1 ?_
      refine XS.bipush X0.here hx rfl (hb hby d1_6) ?_
      refine iN_ X0 hx hby d1_8 rfl ?_
      refine XS.iadd X0.here hx rfl (hb hby d1_9) rfl ?_
      refine XS.i2c X0.here hx rfl (hb hby d1_10) rfl ?_
      exact k_)
    exact own_out X0 hlk (v := some (.int (nar .char (((65 : Int32) + p0).toUInt32.toUInt16.toUInt32.toInt32)))) (own_hv hrt) P3 (fun _ q_ => retN X0 hx (t := .char) hrt (by simp) (hb hby d1_11) q_) e0 ⟨by unfold own_al; rw [if_pos c2], N0, rfl⟩ (by decide)
  · have P5 := oS (s₁.setTop (mkF m 15 #[i_ p0] [(.int 52), (.int p0)])) P1 (by
      intro _ k_
      refine cY_ X0 hx hby d1_3 (pc := 3) (pc' := 12) (flt c2).2.1 (by decide) ?_
      refine iN_ X0 hx hby d1_12 rfl ?_
      refine XS.bipush X0.here hx rfl (hb hby d1_13) ?_
      exact k_)
    by_cases c6 : p0 < (52 : Int32)
    · have P7 := oS (s₁.setTop (mkF m 26 #[i_ p0] [(.int (((97 : Int32) + (p0 - (26 : Int32))).toUInt32.toUInt16.toUInt32.toInt32))])) P5 (by
        intro _ k_
        refine XS.icmpNo X0.here hx rfl (hb hby d1_15) rfl (tlt c6).2.1 ?_
        refine XS.bipush X0.here hx rfl (hb hby d1_18) ?_
        refine iN_ X0 hx hby d1_20 rfl ?_
        refine XS.bipush X0.here hx rfl (hb hby d1_21) ?_
        refine XS.isub X0.here hx rfl (hb hby d1_23) rfl ?_
        refine XS.iadd X0.here hx rfl (hb hby d1_24) rfl ?_
        refine XS.i2c X0.here hx rfl (hb hby d1_25) rfl ?_
        exact k_)
      exact own_out X0 hlk (v := some (.int (nar .char (((97 : Int32) + (p0 - (26 : Int32))).toUInt32.toUInt16.toUInt32.toInt32)))) (own_hv hrt) P7 (fun _ q_ => retN X0 hx (t := .char) hrt (by simp) (hb hby d1_26) q_) e0 ⟨by unfold own_al; rw [if_neg c2, if_pos c6], N0, rfl⟩ (by decide)
    · have P9 := oS (s₁.setTop (mkF m 30 #[i_ p0] [(.int 62), (.int p0)])) P5 (by
        intro _ k_
        refine cY_ X0 hx hby d1_15 (pc := 15) (pc' := 27) (flt c6).2.1 (by decide) ?_
        refine iN_ X0 hx hby d1_27 rfl ?_
        refine XS.bipush X0.here hx rfl (hb hby d1_28) ?_
        exact k_)
      by_cases c10 : p0 < (62 : Int32)
      · have P11 := oS (s₁.setTop (mkF m 41 #[i_ p0] [(.int (((48 : Int32) + (p0 - (52 : Int32))).toUInt32.toUInt16.toUInt32.toInt32))])) P9 (by
          intro _ k_
          refine XS.icmpNo X0.here hx rfl (hb hby d1_30) rfl (tlt c10).2.1 ?_
          refine XS.bipush X0.here hx rfl (hb hby d1_33) ?_
          refine iN_ X0 hx hby d1_35 rfl ?_
          refine XS.bipush X0.here hx rfl (hb hby d1_36) ?_
          refine XS.isub X0.here hx rfl (hb hby d1_38) rfl ?_
          refine XS.iadd X0.here hx rfl (hb hby d1_39) rfl ?_
          refine XS.i2c X0.here hx rfl (hb hby d1_40) rfl ?_
          exact k_)
        exact own_out X0 hlk (v := some (.int (nar .char (((48 : Int32) + (p0 - (52 : Int32))).toUInt32.toUInt16.toUInt32.toInt32)))) (own_hv hrt) P11 (fun _ q_ => retN X0 hx (t := .char) hrt (by simp) (hb hby d1_41) q_) e0 ⟨by unfold own_al; rw [if_neg c2, if_neg c6, if_pos c10], N0, rfl⟩ (by decide)
      · have P13 := oS (s₁.setTop (mkF m 45 #[i_ p0] [(.int 62), (.int p0)])) P9 (by
          intro _ k_
          refine cY_ X0 hx hby d1_30 (pc := 30) (pc' := 42) (flt c10).2.1 (by decide) ?_
          refine iN_ X0 hx hby d1_42 rfl ?_
          refine XS.bipush X0.here hx rfl (hb hby d1_43) ?_
          exact k_)
        by_cases c14 : p0 = (62 : Int32)
        · have P15 := oS (s₁.setTop (mkF m 50 #[i_ p0] [(.int 45)])) P13 (by
            intro _ k_
            refine XS.icmpNo X0.here hx rfl (hb hby d1_45) rfl (teq c14).2 ?_
            refine XS.bipush X0.here hx rfl (hb hby d1_48) ?_
            exact k_)
          exact own_out X0 hlk (v := some (.int 45)) (own_hv hrt) P15 (fun _ q_ => retN X0 hx (t := .char) hrt (by simp) (hb hby d1_50) q_) e0 ⟨by unfold own_al; rw [if_neg c2, if_neg c6, if_neg c10, if_pos c14], N0, rfl⟩ (by decide)
        · have P17 := oS (s₁.setTop (mkF m 53 #[i_ p0] [(.int 95)])) P13 (by
            intro _ k_
            refine cY_ X0 hx hby d1_45 (pc := 45) (pc' := 51) (feq c14).2 (by decide) ?_
            refine XS.bipush X0.here hx rfl (hb hby d1_51) ?_
            exact k_)
          exact own_out X0 hlk (v := some (.int 95)) (own_hv hrt) P17 (fun _ q_ => retN X0 hx (t := .char) hrt (by simp) (hb hby d1_53) q_) e0 ⟨by unfold own_al; rw [if_neg c2, if_neg c6, if_neg c10, if_neg c14], N0, rfl⟩ (by decide)
def own_decI : List Int32 := [-1, -1, -1, -1, -1, -1, -1, -1, -1, -1, -1, -1, -1, -1, -1, -1, -1, -1, -1, -1, -1, -1, -1, -1, -1, -1, -1, -1, -1, -1, -1, -1, -1, -1, -1, -1, -1, -1, -1, -1, -1, -1, -1, -1, -1, 62, -1, -1, 52, 53, 54, 55, 56, 57, 58, 59, 60, 61, -1, -1, -1, -2, -1, -1, -1, 0, 1, 2, 3, 4, 5, 6, 7, 8, 9, 10, 11, 12, 13, 14, 15, 16, 17, 18, 19, 20, 21, 22, 23, 24, 25, -1, -1, -1, -1, 63, -1, 26, 27, 28, 29, 30, 31, 32, 33, 34, 35, 36, 37, 38, 39, 40, 41, 42, 43, 44, 45, 46, 47, 48, 49, 50, 51, -1, -1, -1, -1, -1, -1, -1, -1, -1, -1, -1, -1, -1, -1, -1, -1, -1, -1, -1, -1, -1, -1, -1, -1, -1, -1, -1, -1, -1, -1, -1, -1, -1, -1, -1, -1, -1, -1, -1, -1, -1, -1, -1, -1, -1, -1, -1, -1, -1, -1, -1, -1, -1, -1, -1, -1, -1, -1, -1, -1, -1, -1, -1, -1, -1, -1, -1, -1, -1, -1, -1, -1, -1, -1, -1, -1, -1, -1, -1, -1, -1, -1, -1, -1, -1, -1, -1, -1, -1, -1, -1, -1, -1, -1, -1, -1, -1, -1, -1, -1, -1, -1, -1, -1, -1, -1, -1, -1, -1, -1, -1, -1, -1, -1, -1, -1, -1, -1, -1, -1, -1, -1, -1, -1, -1, -1, -1, -1, -1, -1, -1, -1, -1]
def own_dec : List Value := own_decI.map Value.int
def own_encI : List Int32 := [65, 66, 67, 68, 69, 70, 71, 72, 73, 74, 75, 76, 77, 78, 79, 80, 81, 82, 83, 84, 85, 86, 87, 88, 89, 90, 97, 98, 99, 100, 101, 102, 103, 104, 105, 106, 107, 108, 109, 110, 111, 112, 113, 114, 115, 116, 117, 118, 119, 120, 121, 122, 48, 49, 50, 51, 52, 53, 54, 55, 56, 57, 45, 95]
def own_enc : List Value := own_encI.map Value.int
theorem own_ind {J : Int32 → Prop} {z : Int32} (hz : ¬ z < 0) (h0 : J 0) (turn : ∀ i : Int32, (¬ i < 0 ∧ i < z) → J i → J (i + (1 : Int32))) : J z := by
  have a0 : (0 : Int32).toInt = 0 := rfl
  have a1 : (1 : Int32).toInt = 1 := rfl
  have hz' := hz; rw [Int32.lt_iff_toInt_lt, a0] at hz'
  have key : ∀ n : Nat, ∀ i : Int32, i.toInt = n → (n : Int) ≤ z.toInt → J i := by
    intro n; induction n with
    | zero => intro i hi _; have : i = 0 := by rw [← Int32.toInt_inj, a0]; omega
              subst this; exact h0
    | succ n ih =>
      intro i hi hle
      have r := rng32 i
      have s := c_isub i 1; have r2 := rng32 (i - 1)
      have e : (i - 1).toInt = n := by omega
      have t := turn (i - 1) (by rw [Int32.lt_iff_toInt_lt, Int32.lt_iff_toInt_lt, a0, e]; omega) (ih (i - 1) e (by omega))
      have q : i - 1 + 1 = i := by have c := c_iadd (i - 1) 1; rw [← Int32.toInt_inj]; have r3 := rng32 (i - 1 + 1); omega
      rw [q] at t; exact t
  exact key z.toInt.toNat z (by omega) (by omega)
theorem own_ntc {i z : Int32} (h : ¬ i < 0 ∧ i < z) : (i + (1 : Int32)).toNatClampNeg = i.toNatClampNeg + 1 := by
  have a0 : (0 : Int32).toInt = 0 := rfl
  have a1 : (1 : Int32).toInt = 1 := rfl
  have h1 := h.1; have h2 := h.2; rw [Int32.lt_iff_toInt_lt, a0] at h1; rw [Int32.lt_iff_toInt_lt] at h2
  have c := c_iadd i 1; have r := rng32 i; have r2 := rng32 (i + 1); have r3 := rng32 z
  have e : (i + 1).toInt = i.toInt + 1 := by omega
  have p := nat_of (j := i) h.1
  have q := nat_of (j := i + 1) (by rw [Int32.lt_iff_toInt_lt, a0]; omega)
  omega
theorem own_nlt {i z : Int32} (h : ¬ i < 0 ∧ i < z) : i.toNatClampNeg < z.toNatClampNeg := by
  have a0 : (0 : Int32).toInt = 0 := rfl
  have h1 := h.1; have h2 := h.2; rw [Int32.lt_iff_toInt_lt, a0] at h1; rw [Int32.lt_iff_toInt_lt] at h2
  have p := nat_of (j := i) h.1
  have q := nat_of (j := z) (by rw [Int32.lt_iff_toInt_lt, a0]; omega)
  omega
theorem own_mapI (L : List Int32) (k : Nat) : (L.map Value.int).getD k (.int 0) = .int (L.getD k 0) := by
  rw [List.getD_eq_getElem?_getD, List.getD_eq_getElem?_getD, List.getElem?_map]; cases L[k]? <;> rfl
def own_fill (cv : List Int32) : Nat → List Value
  | 0 => List.replicate cv.length (.int 0)
  | j + 1 => (own_fill cv j).set j (.int ((cv.getD j 0).toInt8.toInt32).toInt8.toInt32)
theorem own_fillL (cv : List Int32) (j : Nat) : (own_fill cv j).length = cv.length := by
  induction j with
  | zero => simp [own_fill]
  | succ j ih => simp [own_fill, ih]
theorem own_fillI {cv : List Int32} {i z : Int32} (hl : z.toNatClampNeg = cv.length) (h : ¬ i < 0 ∧ i < z) : i.toNatClampNeg < (own_fill cv i.toNatClampNeg).length := by
  rw [own_fillL, ← hl]; exact own_nlt h
def own_all : List Int32 → Prop
  | [] => True
  | c :: r => ¬ ((255 : Int32) < c) ∧ own_all r
theorem own_allG {cv : List Int32} (h : own_all cv) (k : Nat) : ¬ ((255 : Int32) < cv.getD k 0) := by
  induction cv generalizing k with
  | nil => first | (simp; done) | (show ¬ ((255 : Int32) < 0); decide)
  | cons c r ih =>
    have h' : ¬ ((255 : Int32) < c) ∧ own_all r := h
    cases k with
    | zero => exact h'.1
    | succ k => simpa using ih h'.2 k

abbrev cB16 := jdk_2450_method_9_code
abbrev yM16 : MethodName := ⟨"java/util/Base64$Decoder", "decode0", "([BII[B)I"⟩
abbrev cB22 := jdk_2452_method_10_code
abbrev yM22 : MethodName := ⟨"java/util/Base64$Encoder", "encode0", "([BII[B)I"⟩
abbrev own_dz (zl : Int32) (vs : List Value) : Prop := ¬ ((zl - (0 : Int32)) = (0 : Int32)) → ¬ ((zl - (0 : Int32)) < (2 : Int32)) ∧ (¬ (zl - (1 : Int32)) < 0 ∧ (zl - (1 : Int32)) < zl) ∧ ∃ x : Int32, vs.getD (zl - (1 : Int32)).toNatClampNeg (.int 0) = .int x ∧ ¬ (x = (61 : Int32))
abbrev own_ez (zk zl m4 : Int32) : Prop := (((((((4 : Int32).toInt64) * ((zk / (3 : Int32)).toInt64)).toInt32).toInt64) = (((4 : Int32).toInt64) * ((zk / (3 : Int32)).toInt64))) ∧ ((((4 : Int32).toInt64) * ((zk / (3 : Int32)).toInt64)).toInt32) = m4) ∧ ((zk % (3 : Int32)) = (0 : Int32) → ¬ (((m4 ^^^ (m4 + (0 : Int32))) &&& ((0 : Int32) ^^^ (m4 + (0 : Int32)))) < (0 : Int32)) ∧ (m4 + (0 : Int32)) = zl) ∧ (¬ ((zk % (3 : Int32)) = (0 : Int32)) → ¬ (((m4 ^^^ (m4 + ((zk % (3 : Int32)) + (1 : Int32)))) &&& (((zk % (3 : Int32)) + (1 : Int32)) ^^^ (m4 + ((zk % (3 : Int32)) + (1 : Int32))))) < (0 : Int32)) ∧ (m4 + ((zk % (3 : Int32)) + (1 : Int32))) = zl)
def QD0 (Z : State) (d : Addr) (kd : ClassId) (zo : Int32) (vo : List Value) (h0 : Heap) (n0 : Nat) (v_ : Option Value) (h : Heap) (L_ : List Loc) : Prop := v_ = some (.int zo) ∧ Fr n0 L_ ∧ Keep h0 h [d] ∧ Arv Z h d kd .byte zo vo (.int 0)
abbrev HD0 (l : Launch) (Z : State) (zl zk : Int32) (vs ys : List Value) : Prop := ∀ (de : Addr) (b : Addr) (k : ClassId) (d : Addr) (kd : ClassId) (h0 : Heap) (n0 : Nat) (Z0 : n0 ≤ h0.size) (O : Old Z n0 h0) (Fu : Fld Z h0 de "java/util/Base64$Decoder" "isURL" "Z" (.int 1)) (Fm : Fld Z h0 de "java/util/Base64$Decoder" "isMIME" "Z" (.int 0)) (Ed : Exa Z h0 de "java/util/Base64$Decoder") (Vb : Arv Z h0 b k .byte zl vs (.int 0)) (Vd : Arv Z h0 d kd .byte zk [] (.int 0)) (nbd : b ≠ d) (gd : n0 ≤ d) (nde : de ≠ d), own_MF l yM16 (.code yM16 cB16 11 (some .int)) [] ⟨1, 0, 0, 40⟩ #[(.ref de), (.ref b), (.int 0), (.int zl), (.ref d)] Z h0 own_T (QD0 Z d kd zk ys h0 n0)
def QE0 (Z : State) (d : Addr) (kd : ClassId) (zo : Int32) (vo : List Value) (h0 : Heap) (n0 : Nat) (v_ : Option Value) (h : Heap) (L_ : List Loc) : Prop := v_ = some (.int zo) ∧ Fr n0 L_ ∧ Keep h0 h [d] ∧ Arv Z h d kd .byte zo vo (.int 0)
abbrev HE0 (l : Launch) (Z : State) (zk zl : Int32) (ys vs : List Value) : Prop := ∀ (en : Addr) (b : Addr) (k : ClassId) (d : Addr) (kd : ClassId) (h0 : Heap) (n0 : Nat) (Z0 : n0 ≤ h0.size) (O : Old Z n0 h0) (Fp : Fld Z h0 en "java/util/Base64$Encoder" "doPadding" "Z" (.int 0)) (Fl : Fld Z h0 en "java/util/Base64$Encoder" "linemax" "I" (.int (-1 : Int32))) (Fe : Fld Z h0 en "java/util/Base64$Encoder" "isURL" "Z" (.int 1)) (Ee : Exa Z h0 en "java/util/Base64$Encoder") (Vb : Arv Z h0 b k .byte zk ys (.int 0)) (Vd : Arv Z h0 d kd .byte zl [] (.int 0)) (nbd : b ≠ d) (gd : n0 ≤ d) (nen : en ≠ d), own_MF l yM22 (.code yM22 cB22 16 (some .int)) [] ⟨1, 0, 0, 40⟩ #[(.ref en), (.ref b), (.int 0), (.int zk), (.ref d)] Z h0 own_T (QE0 Z d kd zl vs h0 n0)
def own_ws (t : Term) : Nat → List Int32 → List Jvm.Cond
  | _, [] => []
  | i, v :: r => Cond.eq (.elem t (.int (Int32.ofNat i))) (.int v) :: own_ws t (i + 1) r
theorem own_hasL {args : Array Value} {s : State} {t : Term} {a : Addr} {cl : Cell} (ev : t.eval args s none [] s = some (.ref a)) (har : s.arrayAt? a = some cl) (h31 : cl.slots.size < 2 ^ 31) : ∀ (L : List Int32) (i : Nat), i + L.length ≤ cl.slots.size → (∀ d ∈ own_ws t i L, d.before args s = true) → HasL cl i (L.map Value.int)
  | [], _, _, _ => trivial
  | v :: r, i, hl, hw => by
    have hl' : i + (r.length + 1) ≤ cl.slots.size := hl
    refine ⟨?_, own_hasL ev har h31 r (i + 1) (by omega) (fun d hd => hw d (List.mem_cons_of_mem _ hd))⟩
    have e1 := Cond.eq_int (hw _ (List.mem_cons_self ..)) rfl
    rw [Jvm.Free.SBG.elem_at (ix := .int (Int32.ofNat i)) ev har (by omega) h31 rfl] at e1; exact e1
theorem own_tabS {args : Array Value} {s : State} {t : Term} {a : Addr} {ty : FieldType} {z : Int32} {L : List Int32} (hf : Fit s) (ev : t.eval args s none [] s = some (.ref a)) (wa : (Cond.arrayOf t ty).before args s = true) (wl : (Cond.eq (.length t) (.int z)).before args s = true) (hz : ¬ z < 0) (hl : z.toNatClampNeg = L.length) (hw : ∀ d ∈ own_ws t 0 L, d.before args s = true) :
    ∃ k, Arv s s.heap a k ty z (L.map Value.int) (.int 0) := by
  obtain ⟨c, A⟩ := Arr.start ev (Cond.before_iff.mp wa)
  have hlen := Cond.eq_int wl rfl
  obtain ⟨sd, SA, hev, har, -⟩ := Term.length_spec hlen
  cases ev.symm.trans hev
  have h31 := Jvm.Free.SBG.length_lt ev har hlen
  have hc : s.heap[a]? = some SA := by
    simp only [State.arrayAt?, Option.bind_eq_bind] at har
    cases q : s.heap[a]? with
    | none => simp [q] at har
    | some x => simp only [q, Option.bind_some] at har; grind
  cases hc.symm.trans A.1
  have e : (Term.length t).eval args s none [] s = some (.int (Int32.ofNat c.slots.size)) := by simp [Term.eval, ev, har, h31]
  have h2 : Int32.ofNat c.slots.size = z := by simpa using Option.some.inj (e.symm.trans hlen)
  have h3 : c.slots.size = L.length := by
    have q := congrArg Int32.toInt h2
    rw [Int32.toInt_ofNat_small h31] at q
    have r := nat_of hz; omega
  exact ⟨c.cls, Arv.start hf A h31 h2 hz (by rw [hl, List.length_map]) (own_hasL ev har h31 L 0 (by omega) hw)⟩
theorem own_fldS {args : Array Value} {s : State} {t : Term} {a : Addr} {C n d : String} {z : Int32} (ev : t.eval args s none [] s = some (.ref a)) (w : (Cond.eq (.field t C n d) (.int z)).before args s = true) : Fld s s.heap a C n d (.int z) := by
  have e := Cond.eq_int w rfl
  exact Fld.start (by simpa [Term.eval, ev] using e)
theorem own_exS {args : Array Value} {s : State} {t : Term} {C : String} (w : (Cond.exactly t C).before args s = true) : ∃ a, t.eval args s none [] s = some (.ref a) ∧ Exa s s.heap a C := by
  obtain ⟨a, -, -, -, e1, -⟩ := Cond.exactly_spec w
  exact ⟨a, e1, Exa.start e1 (Cond.before_iff.mp w)⟩

set_option maxRecDepth 65536 in
theorem own_t1 : (jdkStatics_1.drop 20).take 256 = own_ws (.static "java/util/Base64$Decoder" "fromBase64URL" "[I") 0 own_decI := rfl
set_option maxRecDepth 65536 in
theorem own_t2 : (jdkStatics_1.drop 281).take 64 = own_ws (.static "java/util/Base64$Encoder" "toBase64URL" "[C") 0 own_encI := rfl
theorem own_tn {x : Int32} (h : 0 ≤ x.toInt) : (x.toBitVec.toNat : Int) = x.toInt := by
  have e : x.toInt = x.toBitVec.toInt := rfl
  have l := x.toBitVec.isLt
  rw [e] at h ⊢; rw [BitVec.toInt_eq_toNat_cond] at h ⊢; split at h <;> split <;> omega
theorem own_orD (u v : Int32) (k : Nat) (hu : 0 ≤ u.toInt ∧ u.toInt % (2 ^ k : Nat) = 0) (hv : 0 ≤ v.toInt ∧ v.toInt < (2 ^ k : Nat)) (hs : u.toInt + v.toInt < 2147483648) : (u ||| v).toInt = u.toInt + v.toInt := by
  have a := own_tn hu.1; have b := own_tn hv.1
  have e : (u ||| v).toBitVec.toNat = u.toBitVec.toNat ||| v.toBitVec.toNat := by rw [Int32.toBitVec_or, BitVec.toNat_or]
  have hm : u.toBitVec.toNat % 2 ^ k = 0 := by
    have q := hu.2; rw [← a] at q; exact_mod_cast q
  obtain ⟨j, hj⟩ : ∃ j : Nat, u.toBitVec.toNat = j <<< k := ⟨u.toBitVec.toNat / 2 ^ k, by rw [Nat.shiftLeft_eq]; exact (Nat.div_mul_cancel (Nat.dvd_of_mod_eq_zero hm)).symm⟩
  have l : v.toBitVec.toNat < 2 ^ k := by have q := hv.2; rw [← b] at q; exact_mod_cast q
  rw [hj, ← Nat.shiftLeft_add_eq_or_of_lt l, ← hj] at e
  have q : (u ||| v).toInt = (u ||| v).toBitVec.toInt := rfl
  rw [q, BitVec.toInt_eq_toNat_cond, e]
  split <;> omega
theorem own_sl (u : Int32) (q : Int32) (k : Nat) (hk : q.toBitVec.toNat % 32 = k) (h0 : 0 ≤ u.toInt) (h : u.toInt * (2 ^ k : Nat) < 2147483648) : (u <<< (q &&& 31)).toInt = u.toInt * (2 ^ k : Nat) := by
  have a := c_ishl u q k hk; have r := rng32 (u <<< (q &&& 31))
  have h1 : 0 ≤ u.toInt * (2 ^ k : Nat) := Int.mul_nonneg h0 (Int.natCast_nonneg _)
  generalize u.toInt * ((2 ^ k : Nat) : Int) = w at *; omega
theorem own_b8 {z b : Int32} (h : (z.toInt - b.toInt) % 256 = 0) : z.toInt8.toInt32.toInt8.toInt32 = b.toInt8.toInt32 := by
  have a := c_i2b z; have c := c_i2b (z.toInt8.toInt32); have d := c_i2b b
  rw [← Int32.toInt_inj]; omega
def own_B (b : Int32) : Prop := 0 ≤ b.toInt ∧ b.toInt < 256
theorem own_y255 {b : Int32} (h : own_B b) : (b.toInt8.toInt32 &&& 255).toInt = b.toInt := by
  have a := c_i2b b; unfold own_B at h
  rw [c_mask _ 255 8 (by decide) (by decide +kernel)]; omega
theorem own_B255 (x : Int32) : own_B (x &&& 255) := by
  have a := c_mask x 255 8 (by decide) (by decide +kernel); unfold own_B; omega
/-- the four 6-bit groups of three bytes -/
def own_H (b0 b1 b2 s0 s1 s2 s3 : Int32) : Prop := (own_B b0 ∧ own_B b1 ∧ own_B b2) ∧ s0.toInt = b0.toInt / 4 ∧ s1.toInt = b0.toInt % 4 * 16 + b1.toInt / 16 ∧ s2.toInt = b1.toInt % 16 * 4 + b2.toInt / 64 ∧ s3.toInt = b2.toInt % 64
def own_vv (b0 b1 b2 : Int32) : Int32 := ((b0 <<< ((16 : Int32) &&& 31)) ||| (b1 <<< ((8 : Int32) &&& 31))) ||| b2
theorem own_vvI {b0 b1 b2 : Int32} (h0 : own_B b0) (h1 : own_B b1) (h2 : own_B b2) : (own_vv b0 b1 b2).toInt = 65536 * b0.toInt + 256 * b1.toInt + b2.toInt := by
  unfold own_B at h0 h1 h2
  have a := own_sl b0 16 16 (by decide) h0.1 (by omega); have b := own_sl b1 8 8 (by decide) h1.1 (by omega)
  unfold own_vv
  have c := own_orD (b0 <<< ((16 : Int32) &&& 31)) (b1 <<< ((8 : Int32) &&& 31)) 16 (by omega) (by omega) (by omega)
  rw [own_orD _ _ 8 (by omega) (by omega) (by omega), c]; omega
theorem own_g0 {v : Int32} (h : 0 ≤ v.toInt) : ((v.toUInt32 >>> ((18 : Int32) &&& 31).toUInt32).toInt32 &&& 63).toInt = v.toInt / 262144 % 64 := by
  have a := c_iushr v 18 18 (by decide) (by decide); have r := rng32 v
  rw [c_mask _ 63 6 (by decide) (by decide +kernel), a]; omega
theorem own_g1 {v : Int32} (h : 0 ≤ v.toInt) : ((v.toUInt32 >>> ((12 : Int32) &&& 31).toUInt32).toInt32 &&& 63).toInt = v.toInt / 4096 % 64 := by
  have a := c_iushr v 12 12 (by decide) (by decide); have r := rng32 v
  rw [c_mask _ 63 6 (by decide) (by decide +kernel), a]; omega
theorem own_g2 {v : Int32} (h : 0 ≤ v.toInt) : ((v.toUInt32 >>> ((6 : Int32) &&& 31).toUInt32).toInt32 &&& 63).toInt = v.toInt / 64 % 64 := by
  have a := c_iushr v 6 6 (by decide) (by decide); have r := rng32 v
  rw [c_mask _ 63 6 (by decide) (by decide +kernel), a]; omega
theorem own_g3 (v : Int32) : (v &&& 63).toInt = v.toInt % 64 := by rw [c_mask _ 63 6 (by decide) (by decide +kernel)]; omega
theorem own_HI {b0 b1 b2 v s0 s1 s2 s3 : Int32} (h0 : own_B b0) (h1 : own_B b1) (h2 : own_B b2) (hv : v = own_vv b0 b1 b2) (e0 : s0 = ((v.toUInt32 >>> ((18 : Int32) &&& 31).toUInt32).toInt32 &&& 63)) (e1 : s1 = ((v.toUInt32 >>> ((12 : Int32) &&& 31).toUInt32).toInt32 &&& 63)) (e2 : s2 = ((v.toUInt32 >>> ((6 : Int32) &&& 31).toUInt32).toInt32 &&& 63)) (e3 : s3 = (v &&& 63)) : own_H b0 b1 b2 s0 s1 s2 s3 := by
  have q := own_vvI h0 h1 h2; rw [← hv] at q
  have g := h0; have g1 := h1; have g2 := h2; unfold own_B at g g1 g2
  have z : 0 ≤ v.toInt := by omega
  refine ⟨⟨h0, h1, h2⟩, ?_⟩
  rw [e0, e1, e2, e3, own_g0 z, own_g1 z, own_g2 z, own_g3 v]; omega
section Bits
variable {b0 b1 b2 s0 s1 s2 s3 : Int32}
theorem own_s63 (h : own_H b0 b1 b2 s0 s1 s2 s3) : (0 ≤ s0.toInt ∧ s0.toInt < 64) ∧ (0 ≤ s1.toInt ∧ s1.toInt < 64) ∧ (0 ≤ s2.toInt ∧ s2.toInt < 64) ∧ (0 ≤ s3.toInt ∧ s3.toInt < 64) := by
  unfold own_H own_B at h; omega
theorem own_d2 (h : own_H b0 b1 b2 s0 s1 s2 s3) : (((0 : Int32) ||| (s0 <<< ((18 : Int32) &&& 31))) ||| (s1 <<< ((12 : Int32) &&& 31))).toInt = s0.toInt * 262144 + s1.toInt * 4096 := by
  have q := own_s63 h
  have a := own_sl s0 18 18 (by decide) q.1.1 (by omega); have b := own_sl s1 12 12 (by decide) q.2.1.1 (by omega)
  have z : (0 : Int32).toInt = 0 := rfl
  have c := own_orD (0 : Int32) (s0 <<< ((18 : Int32) &&& 31)) 30 (by omega) (by omega) (by omega)
  rw [own_orD _ _ 18 (by omega) (by omega) (by omega), c]; omega
theorem own_d3 (h : own_H b0 b1 b2 s0 s1 s2 s3) : ((((0 : Int32) ||| (s0 <<< ((18 : Int32) &&& 31))) ||| (s1 <<< ((12 : Int32) &&& 31))) ||| (s2 <<< ((6 : Int32) &&& 31))).toInt = s0.toInt * 262144 + s1.toInt * 4096 + s2.toInt * 64 := by
  have q := own_s63 h; have d := own_d2 h
  have a := own_sl s2 6 6 (by decide) q.2.2.1.1 (by omega)
  rw [own_orD _ _ 12 (by omega) (by omega) (by omega), d]; omega
theorem own_d4 (h : own_H b0 b1 b2 s0 s1 s2 s3) : (((((0 : Int32) ||| (s0 <<< ((18 : Int32) &&& 31))) ||| (s1 <<< ((12 : Int32) &&& 31))) ||| (s2 <<< ((6 : Int32) &&& 31))) ||| (s3 <<< ((0 : Int32) &&& 31))).toInt = s0.toInt * 262144 + s1.toInt * 4096 + s2.toInt * 64 + s3.toInt := by
  have q := own_s63 h; have d := own_d3 h
  have a := own_sl s3 0 0 (by decide) q.2.2.2.1 (by omega)
  rw [own_orD _ _ 6 (by omega) (by omega) (by omega), d]; omega
-- what is decoded
theorem own_r2 (h : own_H b0 b1 b2 s0 s1 s2 s3) : (((((0 : Int32) ||| (s0 <<< ((18 : Int32) &&& 31))) ||| (s1 <<< ((12 : Int32) &&& 31))) >>> ((16 : Int32) &&& 31)).toInt8.toInt32).toInt8.toInt32 = b0.toInt8.toInt32 := own_b8 (by
  rw [c_ishr _ 16 16 (by decide), own_d2 h]; unfold own_H own_B at h; omega)
theorem own_r30 (h : own_H b0 b1 b2 s0 s1 s2 s3) : ((((((0 : Int32) ||| (s0 <<< ((18 : Int32) &&& 31))) ||| (s1 <<< ((12 : Int32) &&& 31))) ||| (s2 <<< ((6 : Int32) &&& 31))) >>> ((16 : Int32) &&& 31)).toInt8.toInt32).toInt8.toInt32 = b0.toInt8.toInt32 := own_b8 (by
  rw [c_ishr _ 16 16 (by decide), own_d3 h]; unfold own_H own_B at h; omega)
theorem own_r31 (h : own_H b0 b1 b2 s0 s1 s2 s3) : ((((((0 : Int32) ||| (s0 <<< ((18 : Int32) &&& 31))) ||| (s1 <<< ((12 : Int32) &&& 31))) ||| (s2 <<< ((6 : Int32) &&& 31))) >>> ((8 : Int32) &&& 31)).toInt8.toInt32).toInt8.toInt32 = b1.toInt8.toInt32 := own_b8 (by
  rw [c_ishr _ 8 8 (by decide), own_d3 h]; unfold own_H own_B at h; omega)
theorem own_r40 (h : own_H b0 b1 b2 s0 s1 s2 s3) : (((((((0 : Int32) ||| (s0 <<< ((18 : Int32) &&& 31))) ||| (s1 <<< ((12 : Int32) &&& 31))) ||| (s2 <<< ((6 : Int32) &&& 31))) ||| (s3 <<< ((0 : Int32) &&& 31))) >>> ((16 : Int32) &&& 31)).toInt8.toInt32).toInt8.toInt32 = b0.toInt8.toInt32 := own_b8 (by
  rw [c_ishr _ 16 16 (by decide), own_d4 h]; unfold own_H own_B at h; omega)
theorem own_r41 (h : own_H b0 b1 b2 s0 s1 s2 s3) : (((((((0 : Int32) ||| (s0 <<< ((18 : Int32) &&& 31))) ||| (s1 <<< ((12 : Int32) &&& 31))) ||| (s2 <<< ((6 : Int32) &&& 31))) ||| (s3 <<< ((0 : Int32) &&& 31))) >>> ((8 : Int32) &&& 31)).toInt8.toInt32).toInt8.toInt32 = b1.toInt8.toInt32 := own_b8 (by
  rw [c_ishr _ 8 8 (by decide), own_d4 h]; unfold own_H own_B at h; omega)
theorem own_r42 (h : own_H b0 b1 b2 s0 s1 s2 s3) : ((((((0 : Int32) ||| (s0 <<< ((18 : Int32) &&& 31))) ||| (s1 <<< ((12 : Int32) &&& 31))) ||| (s2 <<< ((6 : Int32) &&& 31))) ||| (s3 <<< ((0 : Int32) &&& 31))).toInt8.toInt32).toInt8.toInt32 = b2.toInt8.toInt32 := own_b8 (by
  rw [own_d4 h]; unfold own_H own_B at h; omega)
-- the encoder's indices
theorem own_i0 (h : own_H b0 b1 b2 s0 s1 s2 s3) : ((b0.toInt8.toInt32 &&& 255) >>> ((2 : Int32) &&& 31)) = s0 := by
  rw [← Int32.toInt_inj, c_ishr _ 2 2 (by decide), own_y255 h.1.1]; unfold own_H own_B at h; omega
theorem own_j1 (h : own_H b0 b1 b2 s0 s1 s2 s3) : (((b0.toInt8.toInt32 &&& 255) <<< ((4 : Int32) &&& 31)) &&& 63).toInt = b0.toInt % 4 * 16 := by
  have q := own_y255 h.1.1; unfold own_H own_B at h
  have a := own_sl (b0.toInt8.toInt32 &&& 255) 4 4 (by decide) (by omega) (by omega)
  rw [own_g3, a, q]; omega
theorem own_i1a (h : own_H b0 b1 b2 s0 s1 s2 s3) (z : b1 = 0) : (((b0.toInt8.toInt32 &&& 255) <<< ((4 : Int32) &&& 31)) &&& 63) = s1 := by
  rw [← Int32.toInt_inj, own_j1 h]; unfold own_H own_B at h; subst z; have z : (0 : Int32).toInt = 0 := rfl; omega
theorem own_i1b (h : own_H b0 b1 b2 s0 s1 s2 s3) : ((((b0.toInt8.toInt32 &&& 255) <<< ((4 : Int32) &&& 31)) &&& 63) ||| ((b1.toInt8.toInt32 &&& 255) >>> ((4 : Int32) &&& 31))) = s1 := by
  have a := own_j1 h
  have b : ((b1.toInt8.toInt32 &&& 255) >>> ((4 : Int32) &&& 31)).toInt = b1.toInt / 16 := by rw [c_ishr _ 4 4 (by decide), own_y255 h.1.2.1]; omega
  unfold own_H own_B at h
  rw [← Int32.toInt_inj, own_orD _ _ 4 (by omega) (by omega) (by omega)]; omega
theorem own_i2a (h : own_H b0 b1 b2 s0 s1 s2 s3) (z : b2 = 0) : (((b1.toInt8.toInt32 &&& 255) <<< ((2 : Int32) &&& 31)) &&& 63) = s2 := by
  have q := own_y255 h.1.2.1; unfold own_H own_B at h
  have a := own_sl (b1.toInt8.toInt32 &&& 255) 2 2 (by decide) (by omega) (by omega)
  rw [← Int32.toInt_inj, own_g3, a, q]; subst z; have z : (0 : Int32).toInt = 0 := rfl; omega
theorem own_yB {b : Int32} (h : own_B b) : own_B (b.toInt8.toInt32 &&& 255) := by have q := own_y255 h; unfold own_B at h ⊢; omega
theorem own_ew (h : own_H b0 b1 b2 s0 s1 s2 s3) : (own_vv (b0.toInt8.toInt32 &&& 255) (b1.toInt8.toInt32 &&& 255) (b2.toInt8.toInt32 &&& 255)).toInt = 65536 * b0.toInt + 256 * b1.toInt + b2.toInt := by
  rw [own_vvI (own_yB h.1.1) (own_yB h.1.2.1) (own_yB h.1.2.2), own_y255 h.1.1, own_y255 h.1.2.1, own_y255 h.1.2.2]
theorem own_k0 (h : own_H b0 b1 b2 s0 s1 s2 s3) : (((((((b0.toInt8.toInt32 &&& 255) <<< ((16 : Int32) &&& 31)) ||| ((b1.toInt8.toInt32 &&& 255) <<< ((8 : Int32) &&& 31))) ||| (b2.toInt8.toInt32 &&& 255)).toUInt32 >>> ((18 : Int32) &&& 31).toUInt32).toInt32) &&& 63) = s0 := by
  have q := own_ew h; have z : 0 ≤ (own_vv (b0.toInt8.toInt32 &&& 255) (b1.toInt8.toInt32 &&& 255) (b2.toInt8.toInt32 &&& 255)).toInt := by rw [q]; unfold own_H own_B at h; omega
  rw [← Int32.toInt_inj]; refine (own_g0 z).trans ?_; rw [q]; unfold own_H own_B at h; omega
theorem own_k1 (h : own_H b0 b1 b2 s0 s1 s2 s3) : (((((((b0.toInt8.toInt32 &&& 255) <<< ((16 : Int32) &&& 31)) ||| ((b1.toInt8.toInt32 &&& 255) <<< ((8 : Int32) &&& 31))) ||| (b2.toInt8.toInt32 &&& 255)).toUInt32 >>> ((12 : Int32) &&& 31).toUInt32).toInt32) &&& 63) = s1 := by
  have q := own_ew h; have z : 0 ≤ (own_vv (b0.toInt8.toInt32 &&& 255) (b1.toInt8.toInt32 &&& 255) (b2.toInt8.toInt32 &&& 255)).toInt := by rw [q]; unfold own_H own_B at h; omega
  rw [← Int32.toInt_inj]; refine (own_g1 z).trans ?_; rw [q]; unfold own_H own_B at h; omega
theorem own_k2 (h : own_H b0 b1 b2 s0 s1 s2 s3) : (((((((b0.toInt8.toInt32 &&& 255) <<< ((16 : Int32) &&& 31)) ||| ((b1.toInt8.toInt32 &&& 255) <<< ((8 : Int32) &&& 31))) ||| (b2.toInt8.toInt32 &&& 255)).toUInt32 >>> ((6 : Int32) &&& 31).toUInt32).toInt32) &&& 63) = s2 := by
  have q := own_ew h; have z : 0 ≤ (own_vv (b0.toInt8.toInt32 &&& 255) (b1.toInt8.toInt32 &&& 255) (b2.toInt8.toInt32 &&& 255)).toInt := by rw [q]; unfold own_H own_B at h; omega
  rw [← Int32.toInt_inj]; refine (own_g2 z).trans ?_; rw [q]; unfold own_H own_B at h; omega
theorem own_k3 (h : own_H b0 b1 b2 s0 s1 s2 s3) : (((((b0.toInt8.toInt32 &&& 255) <<< ((16 : Int32) &&& 31)) ||| ((b1.toInt8.toInt32 &&& 255) <<< ((8 : Int32) &&& 31))) ||| (b2.toInt8.toInt32 &&& 255)) &&& 63) = s3 := by
  have q := own_ew h
  rw [← Int32.toInt_inj]; refine (own_g3 _).trans ?_; refine (congrArg (· % 64) q).trans ?_; unfold own_H own_B at h; omega
end Bits
def own_ch (s : Int32) : Int32 := nar .char (own_al s)
def own_sg (s : Int32) : Int32 := (own_ch s).toInt8.toInt32.toInt8.toInt32
theorem own_signF : ∀ k : Fin 64, ¬ ((255 : Int32) < own_ch (Int32.ofNat k.val)) ∧ (¬ (own_sg (Int32.ofNat k.val) &&& 255) < 0 ∧ (own_sg (Int32.ofNat k.val) &&& 255) < (256 : Int32)) ∧ own_decI.getD (own_sg (Int32.ofNat k.val) &&& 255).toNatClampNeg 0 = Int32.ofNat k.val ∧ ¬ (Int32.ofNat k.val < (0 : Int32)) ∧ ¬ (own_sg (Int32.ofNat k.val) = (61 : Int32)) ∧ (¬ Int32.ofNat k.val < 0 ∧ Int32.ofNat k.val < (64 : Int32)) ∧ own_encI.getD (Int32.ofNat k.val).toNatClampNeg 0 = own_ch (Int32.ofNat k.val) := by decide +kernel
theorem own_sign {s : Int32} (h : 0 ≤ s.toInt ∧ s.toInt < 64) : ¬ ((255 : Int32) < own_ch s) ∧ (¬ (own_sg s &&& 255) < 0 ∧ (own_sg s &&& 255) < (256 : Int32)) ∧ own_dec.getD (own_sg s &&& 255).toNatClampNeg (.int 0) = .int s ∧ ¬ (s < (0 : Int32)) ∧ ¬ (own_sg s = (61 : Int32)) ∧ (¬ s < 0 ∧ s < (64 : Int32)) ∧ own_enc.getD s.toNatClampNeg (.int 0) = .int (own_ch s) := by
  have e : s = Int32.ofNat s.toInt.toNat := by rw [← Int32.toInt_inj, Int32.toInt_ofNat_of_lt (by omega)]; omega
  have q := own_signF ⟨s.toInt.toNat, by omega⟩
  dsimp only at q; rw [← e] at q
  refine ⟨q.1, q.2.1, ?_, q.2.2.2.1, q.2.2.2.2.1, q.2.2.2.2.2.1, ?_⟩
  · unfold own_dec; rw [own_mapI, q.2.2.1]
  · unfold own_enc; rw [own_mapI, q.2.2.2.2.2.2]
theorem own_BL (x : Int64) : own_B ((x &&& (255 : Int64)).toInt32) := by
  have e : (x &&& (255 : Int64)).toBitVec.toNat = x.toBitVec.toNat % 256 := by
    rw [Int64.toBitVec_and, BitVec.toNat_and]; exact Nat.and_two_pow_sub_one_eq_mod _ 8
  have a : (x &&& (255 : Int64)).toInt = ((x.toBitVec.toNat % 256 : Nat) : Int) := by
    show (x &&& (255 : Int64)).toBitVec.toInt = _
    rw [BitVec.toInt_eq_toNat_cond, e]; split <;> omega
  have q := c_l2i (x &&& (255 : Int64)); have r := rng32 ((x &&& (255 : Int64)).toInt32); unfold own_B; omega
theorem own_pB {P Q : Prop} {z : Int32} {x : Int64} (h : (P ∧ z = ((x &&& (255 : Int64)).toInt32)) ∨ (Q ∧ z = (0 : Int32))) : own_B z := by
  rcases h with ⟨-, rfl⟩ | ⟨-, rfl⟩
  · exact own_BL _
  · exact ⟨by decide, by decide⟩
theorem own_p0 {P : Prop} {z w : Int32} (h : (P ∧ z = w) ∨ (¬ P ∧ z = (0 : Int32))) (hp : ¬ P) : z = 0 := by
  rcases h with ⟨q, -⟩ | ⟨-, q⟩
  · exact absurd q hp
  · exact q
theorem own_HL {b0 b1 b2 s0 s1 s2 s3 : Int32} (h0 : own_B b0) (h1 : own_B b1) (h2 : own_B b2) (e0 : s0 = (b0 >>> ((2 : Int32) &&& 31))) (e1 : s1 = (((b0 &&& 3) <<< ((4 : Int32) &&& 31)) ||| (b1 >>> ((4 : Int32) &&& 31)))) (e2 : s2 = (((b1 &&& 15) <<< ((2 : Int32) &&& 31)) ||| (b2 >>> ((6 : Int32) &&& 31)))) (e3 : s3 = (b2 &&& 63)) : own_H b0 b1 b2 s0 s1 s2 s3 := by
  have g0 := h0; have g1 := h1; have g2 := h2; unfold own_B at g0 g1 g2
  have a := c_ishr b0 2 2 (by decide); have m3 := c_mask b0 3 2 (by decide) (by decide +kernel); have m15 := c_mask b1 15 4 (by decide) (by decide +kernel)
  have l1 := own_sl (b0 &&& 3) 4 4 (by decide) (by omega) (by omega); have l2 := own_sl (b1 &&& 15) 2 2 (by decide) (by omega) (by omega)
  have r1 := c_ishr b1 4 4 (by decide); have r2 := c_ishr b2 6 6 (by decide)
  have o1 := own_orD ((b0 &&& 3) <<< ((4 : Int32) &&& 31)) (b1 >>> ((4 : Int32) &&& 31)) 4 (by omega) (by omega) (by omega)
  have o2 := own_orD ((b1 &&& 15) <<< ((2 : Int32) &&& 31)) (b2 >>> ((6 : Int32) &&& 31)) 2 (by omega) (by omega) (by omega)
  refine ⟨⟨h0, h1, h2⟩, ?_⟩
  rw [e0, e1, e2, e3, own_g3 b2, o1, o2]; omega
theorem own_HM {b0 b1 s0 s1 s2 : Int32} (h0 : own_B b0) (h1 : own_B b1) (e0 : s0 = (b0 >>> ((2 : Int32) &&& 31))) (e1 : s1 = (((b0 &&& 3) <<< ((4 : Int32) &&& 31)) ||| (b1 >>> ((4 : Int32) &&& 31)))) (e2 : s2 = ((b1 &&& 15) <<< ((2 : Int32) &&& 31))) : own_H b0 b1 0 s0 s1 s2 0 := by
  have g0 := h0; have g1 := h1; unfold own_B at g0 g1
  have z : (0 : Int32).toInt = 0 := rfl
  have a := c_ishr b0 2 2 (by decide); have m3 := c_mask b0 3 2 (by decide) (by decide +kernel); have m15 := c_mask b1 15 4 (by decide) (by decide +kernel)
  have l1 := own_sl (b0 &&& 3) 4 4 (by decide) (by omega) (by omega); have l2 := own_sl (b1 &&& 15) 2 2 (by decide) (by omega) (by omega)
  have r1 := c_ishr b1 4 4 (by decide)
  have o1 := own_orD ((b0 &&& 3) <<< ((4 : Int32) &&& 31)) (b1 >>> ((4 : Int32) &&& 31)) 4 (by omega) (by omega) (by omega)
  refine ⟨⟨h0, h1, ⟨by decide, by decide⟩⟩, ?_⟩
  rw [e0, e1, e2, o1, z]; omega
theorem own_orN {u v : Int32} (hu : 0 ≤ u.toInt ∧ u.toInt < 64) (hv : 0 ≤ v.toInt ∧ v.toInt < 64) : 0 ≤ (u ||| v).toInt ∧ (u ||| v).toInt < 64 := by
  have a := own_tn hu.1; have b := own_tn hv.1
  have e : (u ||| v).toBitVec.toNat = u.toBitVec.toNat ||| v.toBitVec.toNat := by rw [Int32.toBitVec_or, BitVec.toNat_or]
  have l : u.toBitVec.toNat ||| v.toBitVec.toNat < 2 ^ 6 := Nat.or_lt_two_pow (by omega) (by omega)
  have q : (u ||| v).toInt = (u ||| v).toBitVec.toInt := rfl
  rw [q, BitVec.toInt_eq_toNat_cond, e]
  split <;> omega
section Bits2
variable {b0 b1 b2 s0 s1 s2 s3 : Int32}
theorem own_or4 (h : own_H b0 b1 b2 s0 s1 s2 s3) : ¬ ((((s0 ||| s1) ||| s2) ||| s3) < (0 : Int32)) := by
  have q := own_s63 h
  have r := own_orN (own_orN (own_orN q.1 q.2.1) q.2.2.1) q.2.2.2
  rw [Int32.lt_iff_toInt_lt, show (0 : Int32).toInt = 0 from rfl]; omega
theorem own_d5 (h : own_H b0 b1 b2 s0 s1 s2 s3) : ((((s0 <<< ((18 : Int32) &&& 31)) ||| (s1 <<< ((12 : Int32) &&& 31))) ||| (s2 <<< ((6 : Int32) &&& 31))) ||| s3).toInt = s0.toInt * 262144 + s1.toInt * 4096 + s2.toInt * 64 + s3.toInt := by
  have q := own_s63 h
  have a := own_sl s0 18 18 (by decide) q.1.1 (by omega); have b := own_sl s1 12 12 (by decide) q.2.1.1 (by omega); have c := own_sl s2 6 6 (by decide) q.2.2.1.1 (by omega)
  have o1 := own_orD (s0 <<< ((18 : Int32) &&& 31)) (s1 <<< ((12 : Int32) &&& 31)) 18 (by omega) (by omega) (by omega)
  have o2 := own_orD ((s0 <<< ((18 : Int32) &&& 31)) ||| (s1 <<< ((12 : Int32) &&& 31))) (s2 <<< ((6 : Int32) &&& 31)) 12 (by omega) (by omega) (by omega)
  rw [own_orD _ _ 6 (by omega) (by omega) (by omega), o2, o1]; omega
theorem own_r50 (h : own_H b0 b1 b2 s0 s1 s2 s3) : ((((((s0 <<< ((18 : Int32) &&& 31)) ||| (s1 <<< ((12 : Int32) &&& 31))) ||| (s2 <<< ((6 : Int32) &&& 31))) ||| s3) >>> ((16 : Int32) &&& 31)).toInt8.toInt32).toInt8.toInt32 = b0.toInt8.toInt32 := own_b8 (by
  rw [c_ishr _ 16 16 (by decide), own_d5 h]; unfold own_H own_B at h; omega)
theorem own_r51 (h : own_H b0 b1 b2 s0 s1 s2 s3) : ((((((s0 <<< ((18 : Int32) &&& 31)) ||| (s1 <<< ((12 : Int32) &&& 31))) ||| (s2 <<< ((6 : Int32) &&& 31))) ||| s3) >>> ((8 : Int32) &&& 31)).toInt8.toInt32).toInt8.toInt32 = b1.toInt8.toInt32 := own_b8 (by
  rw [c_ishr _ 8 8 (by decide), own_d5 h]; unfold own_H own_B at h; omega)
theorem own_r52 (h : own_H b0 b1 b2 s0 s1 s2 s3) : (((((s0 <<< ((18 : Int32) &&& 31)) ||| (s1 <<< ((12 : Int32) &&& 31))) ||| (s2 <<< ((6 : Int32) &&& 31))) ||| s3).toInt8.toInt32).toInt8.toInt32 = b2.toInt8.toInt32 := own_b8 (by
  rw [own_d5 h]; unfold own_H own_B at h; omega)
end Bits2
def own_C6 (nn zl : Int32) : Prop := (nn = (0 : Int32) ∧ zl = (0 : Int32)) ∨ (nn = (1 : Int32) ∧ zl = (2 : Int32)) ∨ (nn = (2 : Int32) ∧ zl = (3 : Int32)) ∨ (nn = (3 : Int32) ∧ zl = (4 : Int32)) ∨ (nn = (4 : Int32) ∧ zl = (6 : Int32)) ∨ (nn = (5 : Int32) ∧ zl = (7 : Int32))
theorem own_case {x nn zl : Int32} (hn : nn = ((x &&& 2147483647) % (6 : Int32))) (hz : zl = ((((4 : Int32) * nn) + (2 : Int32)) / (3 : Int32))) : own_C6 nn zl := by
  have m := c_mask x 2147483647 31 (by decide) (by decide +kernel)
  have r := (c_irem (x &&& 2147483647) 6 6 rfl).1 (by omega)
  rw [← hn] at r
  have h : nn = (0 : Int32) ∨ nn = (1 : Int32) ∨ nn = (2 : Int32) ∨ nn = (3 : Int32) ∨ nn = (4 : Int32) ∨ nn = (5 : Int32) := by
    simp only [← Int32.toInt_inj, show (0 : Int32).toInt = 0 from rfl, show (1 : Int32).toInt = 1 from rfl, show (2 : Int32).toInt = 2 from rfl, show (3 : Int32).toInt = 3 from rfl, show (4 : Int32).toInt = 4 from rfl, show (5 : Int32).toInt = 5 from rfl]; omega
  clear hn r m
  unfold own_C6
  rcases h with rfl | rfl | rfl | rfl | rfl | rfl
  · exact Or.inl ⟨rfl, by rw [hz]; decide⟩
  · exact Or.inr (Or.inl ⟨rfl, by rw [hz]; decide⟩)
  · exact Or.inr (Or.inr (Or.inl ⟨rfl, by rw [hz]; decide⟩))
  · exact Or.inr (Or.inr (Or.inr (Or.inl ⟨rfl, by rw [hz]; decide⟩)))
  · exact Or.inr (Or.inr (Or.inr (Or.inr (Or.inl ⟨rfl, by rw [hz]; decide⟩))))
  · exact Or.inr (Or.inr (Or.inr (Or.inr (Or.inr ⟨rfl, by rw [hz]; decide⟩))))
theorem own_zn {nn zl : Int32} (h : own_C6 nn zl) : ¬ zl < 0 := by rcases h with ⟨-, rfl⟩ | ⟨-, rfl⟩ | ⟨-, rfl⟩ | ⟨-, rfl⟩ | ⟨-, rfl⟩ | ⟨-, rfl⟩ <;> decide
theorem own_zc {nn zl : Int32} (h : own_C6 nn zl) : zl.toNatClampNeg ≤ 8 := by rcases h with ⟨-, rfl⟩ | ⟨-, rfl⟩ | ⟨-, rfl⟩ | ⟨-, rfl⟩ | ⟨-, rfl⟩ | ⟨-, rfl⟩ <;> decide
theorem own_c1 {nn zl : Int32} (h : own_C6 nn zl) : (0 : Int32) < zl → (1 : Int32) < zl := by rcases h with ⟨-, rfl⟩ | ⟨-, rfl⟩ | ⟨-, rfl⟩ | ⟨-, rfl⟩ | ⟨-, rfl⟩ | ⟨-, rfl⟩ <;> decide
theorem own_c5 {nn zl : Int32} (h : own_C6 nn zl) : (4 : Int32) < zl → (5 : Int32) < zl := by rcases h with ⟨-, rfl⟩ | ⟨-, rfl⟩ | ⟨-, rfl⟩ | ⟨-, rfl⟩ | ⟨-, rfl⟩ | ⟨-, rfl⟩ <;> decide
theorem own_q0 {nn zl : Int32} (h : own_C6 nn zl) : ¬ ((0 : Int32) < zl) → nn = (0 : Int32) ∧ zl = (0 : Int32) := by rcases h with ⟨rfl, rfl⟩ | ⟨rfl, rfl⟩ | ⟨rfl, rfl⟩ | ⟨rfl, rfl⟩ | ⟨rfl, rfl⟩ | ⟨rfl, rfl⟩ <;> decide
theorem own_q2 {nn zl : Int32} (h : own_C6 nn zl) : (0 : Int32) < zl → ¬ ((2 : Int32) < zl) → nn = (1 : Int32) ∧ zl = (2 : Int32) := by rcases h with ⟨rfl, rfl⟩ | ⟨rfl, rfl⟩ | ⟨rfl, rfl⟩ | ⟨rfl, rfl⟩ | ⟨rfl, rfl⟩ | ⟨rfl, rfl⟩ <;> decide
theorem own_q3 {nn zl : Int32} (h : own_C6 nn zl) : (2 : Int32) < zl → ¬ ((3 : Int32) < zl) → nn = (2 : Int32) ∧ zl = (3 : Int32) := by rcases h with ⟨rfl, rfl⟩ | ⟨rfl, rfl⟩ | ⟨rfl, rfl⟩ | ⟨rfl, rfl⟩ | ⟨rfl, rfl⟩ | ⟨rfl, rfl⟩ <;> decide
theorem own_q4 {nn zl : Int32} (h : own_C6 nn zl) : (3 : Int32) < zl → ¬ ((4 : Int32) < zl) → nn = (3 : Int32) ∧ zl = (4 : Int32) := by rcases h with ⟨rfl, rfl⟩ | ⟨rfl, rfl⟩ | ⟨rfl, rfl⟩ | ⟨rfl, rfl⟩ | ⟨rfl, rfl⟩ | ⟨rfl, rfl⟩ <;> decide
theorem own_q6 {nn zl : Int32} (h : own_C6 nn zl) : (4 : Int32) < zl → ¬ ((6 : Int32) < zl) → nn = (4 : Int32) ∧ zl = (6 : Int32) := by rcases h with ⟨rfl, rfl⟩ | ⟨rfl, rfl⟩ | ⟨rfl, rfl⟩ | ⟨rfl, rfl⟩ | ⟨rfl, rfl⟩ | ⟨rfl, rfl⟩ <;> decide
theorem own_q7 {nn zl : Int32} (h : own_C6 nn zl) : (6 : Int32) < zl → nn = (5 : Int32) ∧ zl = (7 : Int32) := by rcases h with ⟨rfl, rfl⟩ | ⟨rfl, rfl⟩ | ⟨rfl, rfl⟩ | ⟨rfl, rfl⟩ | ⟨rfl, rfl⟩ | ⟨rfl, rfl⟩ <;> decide
theorem own_rk {i s : Int32} (e : i = s) (h : ¬ s < 0 ∧ s < (64 : Int32)) : ¬ i < 0 ∧ i < (64 : Int32) := e ▸ h
theorem own_rv {i s v : Int32} (e : i = s) (h : own_enc.getD s.toNatClampNeg (.int 0) = .int v) : own_enc.getD i.toNatClampNeg (.int 0) = .int v := e ▸ h

abbrev cB6 := jdk_52_method_21_code
abbrev yM6 : MethodName := ⟨"java/lang/StringUTF16", "compress", "([CI[BII)I"⟩
theorem d6_0 : own_d cB6 0 (.iconst 0) 1 := by decide +kernel
theorem d6_1 : own_d cB6 1 (.istore 5) 2 := by decide +kernel
theorem d6_3 : own_d cB6 3 (.iload 5) 2 := by decide +kernel
theorem d6_5 : own_d cB6 5 (.iload 4) 2 := by decide +kernel
theorem d6_7 : own_d cB6 7 (.if_icmp .ge 37) 3 := by decide +kernel
theorem d6_10 : own_d cB6 10 (.aload_n 0) 1 := by decide +kernel
theorem d6_11 : own_d cB6 11 (.iload_n 1) 1 := by decide +kernel
theorem d6_12 : own_d cB6 12 (.caload) 1 := by decide +kernel
theorem d6_13 : own_d cB6 13 (.istore 6) 2 := by decide +kernel
theorem d6_15 : own_d cB6 15 (.iload 6) 2 := by decide +kernel
theorem d6_17 : own_d cB6 17 (.sipush 255) 3 := by decide +kernel
theorem d6_20 : own_d cB6 20 (.if_icmp .le 6) 3 := by decide +kernel
theorem d6_26 : own_d cB6 26 (.aload_n 2) 1 := by decide +kernel
theorem d6_27 : own_d cB6 27 (.iload_n 3) 1 := by decide +kernel
theorem d6_28 : own_d cB6 28 (.iload 6) 2 := by decide +kernel
theorem d6_30 : own_d cB6 30 (.i2b) 1 := by decide +kernel
theorem d6_31 : own_d cB6 31 (.bastore) 1 := by decide +kernel
theorem d6_32 : own_d cB6 32 (.iinc 1 1) 3 := by decide +kernel
theorem d6_35 : own_d cB6 35 (.iinc 3 1) 3 := by decide +kernel
theorem d6_38 : own_d cB6 38 (.iinc 5 1) 3 := by decide +kernel
theorem d6_41 : own_d cB6 41 (.goto (-38)) 3 := by decide +kernel
theorem d6_44 : own_d cB6 44 (.iload 4) 2 := by decide +kernel
theorem d6_46 : own_d cB6 46 (.ireturn) 1 := by decide +kernel
theorem ef6RIRII (m : MethodId) (x0 : Addr) (x1 : Int32) (x2 : Addr) (x3 : Int32) (x4 : Int32) : entryFrame m #[(.ref x0), (.int x1), (.ref x2), (.int x3), (.int x4)] 7 = mkF m 0 #[r_ x0, i_ x1, r_ x2, i_ x3, i_ x4, u_, u_] [] := by first | (simp [entryFrame, mkF, argsToLocals, Value.category]; done) | rfl
def Q_comp2 (Z : State) (a : Addr) (ka : ClassId) (d : Addr) (kd : ClassId) (zl : Int32) (cv : List Int32) (h0 : Heap) (n0 : Nat) (v_ : Option Value) (h : Heap) (L_ : List Loc) : Prop := v_ = some (.int zl) ∧ Fr n0 L_ ∧ Keep h0 h [d] ∧ Arv Z h d kd .byte zl (own_fill cv cv.length) (.int 0)
theorem pn1 : plainName "java/lang/StringUTF16" = true := by first | (simp [plainName, overriddenIn]; done) | decide +kernel
set_option maxRecDepth 65536 in
set_option maxHeartbeats 40000000 in
theorem rm_comp2 (l : Launch) (Z : State) (a0 : Array Value) (hw : ∀ d ∈ tables_1, d.before a0 Z = true) (ws : List Jvm.Cond) (a : Addr) (ka : ClassId) (d : Addr) (kd : ClassId) (zl : Int32) (cv : List Int32) (h0 : Heap) (n0 : Nat) (Z0 : n0 ≤ h0.size) (O : Old Z n0 h0) (Va : Arv Z h0 a ka .char zl (cv.map Value.int) (.int 0)) (Vd : Arv Z h0 d kd .byte zl (own_fill cv 0) (.int 0)) (nad : a ≠ d) (gd : n0 ≤ d) (hcv : own_all cv) (hln : zl.toNatClampNeg = cv.length) (hm0 : ¬ zl < 0) :
    own_MF l yM6 (.code yM6 cB6 7 (some .int)) ws ⟨0, 0, 0, 0⟩ #[(.ref a), (.int 0), (.ref d), (.int 0), (.int zl)] Z h0 own_T (Q_comp2 Z a ka d kd zl cv h0 n0) := by
  refine own_in "java/lang/StringUTF16" rfl (plainFor_of_name pn1) hisR (fun m => ef6RIRII m a (0 : Int32) d (0 : Int32) zl) ?_
  intro p e s m below meth c s₁ A_ hx hby hml hown hnm hrt hlk hZ _ X0 e0 pre0
  have N0 := Fr.nil n0
  have P1 := oS (s₁.setTop (mkF m 3 #[r_ a, i_ 0, r_ d, i_ 0, i_ zl, i_ 0, u_] [])) pre0 (by
    intro _ k_
    refine XS.iconst X0.here hx rfl (hb hby d6_0) ?_
    refine is_ X0 hx hby d6_1 (l' := #[r_ a, i_ 0, r_ d, i_ 0, i_ zl, i_ 0, u_]) rfl ?_
    exact k_)
  obtain ⟨Tq_, hq_, lq_, oq_, Xq_, eq_, Oq_, Vaq_, Vdq_, Kq_, Nq_, Zq_, wq_, Pq_⟩ := own_ind (J := fun i : Int32 => ∃ T h locs o, Stand p l e ⟨0, 0, 0, 0⟩ s m #[(.ref a), (.int 0), (.ref d), (.int 0), (.int zl)] below meth c T locs 0 0 ∧ T.heap = h ∧ Old Z n0 h ∧ Arv Z h a ka .char zl (cv.map Value.int) (.int 0) ∧ Arv Z h d kd .byte zl (own_fill cv i.toNatClampNeg) (.int 0) ∧ Keep h0 h [d] ∧ Fr n0 locs ∧ n0 ≤ h.size ∧ One o ∧ own_Go p e below A_ (T.setTop (mkF m 3 #[r_ a, i_ i, r_ d, i_ i, i_ zl, i_ i, o] []))) hm0 ⟨s₁, h0, [], u_, X0, e0, O, Va, Vd, Keep.refl h0 [d], N0, Z0, One.u, P1⟩ (by
    rintro i hi ⟨Tj_, hj_, lj_, oj_, Xj_, ej_, Oj_, Vaj_, Vdj_, Kj_, Nj_, Zj_, wj_, Pj_⟩
    have P2 := oS (Tj_.setTop (mkF m 7 #[r_ a, i_ i, r_ d, i_ i, i_ zl, i_ i, oj_] [(.int zl), (.int i)])) Pj_ (by
      intro _ k_
      refine il_ Xj_ hx hby d6_3 rfl ?_
      refine il_ Xj_ hx hby d6_5 rfl ?_
      exact k_)
    have P3 := oS (Tj_.setTop (mkF m 12 #[r_ a, i_ i, r_ d, i_ i, i_ zl, i_ i, oj_] [(.int i), (.ref a)])) P2 (by
      intro _ k_
      refine XS.icmpNo Xj_.here hx rfl (hb hby d6_7) rfl (tlt hi.2).2.1 ?_
      refine aN_ Xj_ hx hby d6_10 rfl rfl ?_
      refine iN_ Xj_ hx hby d6_11 rfl ?_
      exact k_)
    obtain ⟨cl4, Ar4, q4, S4, M4, H4, G4⟩ := id Vaj_
    have hin4 := inb_of S4 hi
    have hat4 := Has.at H4 hin4 (own_mapI cv _)
    have P5 := oS (Tj_.setTop (mkF m 13 #[r_ a, i_ i, r_ d, i_ i, i_ zl, i_ i, oj_] [(.int (cv.getD i.toNatClampNeg 0))])) P3 (by
      intro _ k_
      refine Xj_.caload hx (j := i) (v := (.int (cv.getD i.toNatClampNeg 0))) (by rw [ej_]; exact Ar4.1) (State.isArrayOf_alike hZ.alike Ar4.2.1) Ar4.2.2 hin4 hat4 (g := (mkF m 12 #[r_ a, i_ i, r_ d, i_ i, i_ zl, i_ i, oj_] [(.int i), (.ref a)])) rfl rfl (hb hby d6_12) _ ?_
      exact k_)
    have P6 := oS (Tj_.setTop (mkF m 20 #[r_ a, i_ i, r_ d, i_ i, i_ zl, i_ i, i_ (cv.getD i.toNatClampNeg 0)] [(.int 255), (.int (cv.getD i.toNatClampNeg 0))])) P5 (by
      intro _ k_
      refine is_ Xj_ hx hby d6_13 (l' := #[r_ a, i_ i, r_ d, i_ i, i_ zl, i_ i, i_ (cv.getD i.toNatClampNeg 0)]) (XS.store1 rfl wj_ rfl) ?_
      refine il_ Xj_ hx hby d6_15 rfl ?_
      refine XS.sipush Xj_.here hx rfl (hb hby d6_17) ?_
      exact k_)
    have P7 := oS (Tj_.setTop (mkF m 31 #[r_ a, i_ i, r_ d, i_ i, i_ zl, i_ i, i_ (cv.getD i.toNatClampNeg 0)] [(.int ((cv.getD i.toNatClampNeg 0).toInt8.toInt32)), (.int i), (.ref d)])) P6 (by
      intro _ k_
      refine cY_ Xj_ hx hby d6_20 (pc := 20) (pc' := 26) (flt (own_allG hcv _)).2.2.2 (by decide) ?_
      refine aN_ Xj_ hx hby d6_26 rfl rfl ?_
      refine iN_ Xj_ hx hby d6_27 rfl ?_
      refine il_ Xj_ hx hby d6_28 rfl ?_
      refine XS.i2b Xj_.here hx rfl (hb hby d6_30) rfl ?_
      exact k_)
    obtain ⟨cl8, Ar8, q8, S8, M8, H8, G8⟩ := id Vdj_
    obtain ⟨T9, h9, X9, e9, W9, st9⟩ := stB Xj_ hx hZ ej_ Ar8 (j := i) (inb_of S8 hi) (g := (mkF m 31 #[r_ a, i_ i, r_ d, i_ i, i_ zl, i_ i, i_ (cv.getD i.toNatClampNeg 0)] [(.int ((cv.getD i.toNatClampNeg 0).toInt8.toInt32)), (.int i), (.ref d)])) rfl rfl (hb hby d6_31)
    have f10 := Oj_.wr W9 gd
    have f11 := Vaj_.other W9 nad
    have f13 := Kj_.wr W9 (Or.inl (List.mem_of_getElem? (i := 0) rfl))
    have Z14 : n0 ≤ h9.size := Nat.le_trans Zj_ (Keep.of_wr W9).1
    have V9 : Arv Z h9 d kd .byte zl ((own_fill cv i.toNatClampNeg).set i.toNatClampNeg (.int ((cv.getD i.toNatClampNeg 0).toInt8.toInt32).toInt8.toInt32)) (.int 0) := Arv.set Ar8 q8 S8 M8 H8 G8 (fits_nar_byte _) W9 i.toNatClampNeg rfl (own_fillI hln hi)
    have N9 := Fr.snoc X9 Nj_ gd
    have P15 := oS (T9.setTop (mkF m 32 #[r_ a, i_ i, r_ d, i_ i, i_ zl, i_ i, i_ (cv.getD i.toNatClampNeg 0)] [])) P7 (fun t_ k_ => st9 t_ k_)
    have P16 := oS (T9.setTop (mkF m 3 #[r_ a, i_ (i + (1 : Int32)), r_ d, i_ (i + (1 : Int32)), i_ zl, i_ (i + (1 : Int32)), i_ (cv.getD i.toNatClampNeg 0)] [])) P15 (by
      intro _ k_
      refine XS.iinc X9.here hx rfl (hb hby d6_32) rfl (l' := #[r_ a, i_ (i + (1 : Int32)), r_ d, i_ i, i_ zl, i_ i, i_ (cv.getD i.toNatClampNeg 0)]) rfl ?_
      refine XS.iinc X9.here hx rfl (hb hby d6_35) rfl (l' := #[r_ a, i_ (i + (1 : Int32)), r_ d, i_ (i + (1 : Int32)), i_ zl, i_ i, i_ (cv.getD i.toNatClampNeg 0)]) rfl ?_
      refine XS.iinc X9.here hx rfl (hb hby d6_38) rfl (l' := #[r_ a, i_ (i + (1 : Int32)), r_ d, i_ (i + (1 : Int32)), i_ zl, i_ (i + (1 : Int32)), i_ (cv.getD i.toNatClampNeg 0)]) rfl ?_
      refine gt_ X9 hx hby d6_41 (pc := 41) (pc' := 3) (by decide) ?_
      exact k_)
    exact ⟨_, _, _, _, X9, e9, f10, f11, (by rw [own_ntc hi]; exact V9), f13, N9, Z14, One.val rfl, P16⟩)
  have P17 := oS (Tq_.setTop (mkF m 7 #[r_ a, i_ zl, r_ d, i_ zl, i_ zl, i_ zl, oq_] [(.int zl), (.int zl)])) Pq_ (by
    intro _ k_
    refine il_ Xq_ hx hby d6_3 rfl ?_
    refine il_ Xq_ hx hby d6_5 rfl ?_
    exact k_)
  have P18 := oS (Tq_.setTop (mkF m 46 #[r_ a, i_ zl, r_ d, i_ zl, i_ zl, i_ zl, oq_] [(.int zl)])) P17 (by
    intro _ k_
    refine cY_ Xq_ hx hby d6_7 (pc := 7) (pc' := 44) (flt (Int32.lt_irrefl (a := zl))).2.1 (by decide) ?_
    refine il_ Xq_ hx hby d6_44 rfl ?_
    exact k_)
  exact own_out Xq_ hlk (v := some (.int zl)) (own_hv hrt) P18 (fun _ q_ => retI Xq_ hx hrt (hb hby d6_46) q_) eq_ ⟨rfl, Nq_, Kq_, (by rw [hln] at Vdq_; exact Vdq_)⟩ (by decide)
theorem pd0 : parseMethodDescriptor "([CI[BII)I" = some ⟨[(.array .char), .int, (.array .byte), .int, .int], some .int⟩ := by decide +kernel
abbrev cB5 := jdk_52_method_16_code
abbrev yM5 : MethodName := ⟨"java/lang/StringUTF16", "compress", "([CII)[B"⟩
theorem d5_0 : own_d cB5 0 (.iload_n 2) 1 := by decide +kernel
theorem d5_1 : own_d cB5 1 (.newarray .byte) 2 := by decide +kernel
theorem d5_3 : own_d cB5 3 (.astore_n 3) 1 := by decide +kernel
theorem d5_4 : own_d cB5 4 (.aload_n 0) 1 := by decide +kernel
theorem d5_5 : own_d cB5 5 (.iload_n 1) 1 := by decide +kernel
theorem d5_6 : own_d cB5 6 (.aload_n 3) 1 := by decide +kernel
theorem d5_7 : own_d cB5 7 (.iconst 0) 1 := by decide +kernel
theorem d5_8 : own_d cB5 8 (.iload_n 2) 1 := by decide +kernel
theorem d5_9 : own_d cB5 9 (.invokestatic 115) 3 := by decide +kernel
theorem d5_12 : own_d cB5 12 (.istore 4) 2 := by decide +kernel
theorem d5_14 : own_d cB5 14 (.iload 4) 2 := by decide +kernel
theorem d5_16 : own_d cB5 16 (.iload_n 2) 1 := by decide +kernel
theorem d5_17 : own_d cB5 17 (.if_icmp .eq 40) 3 := by decide +kernel
theorem d5_57 : own_d cB5 57 (.aload_n 3) 1 := by decide +kernel
theorem d5_58 : own_d cB5 58 (.areturn) 1 := by decide +kernel
theorem ef5RII (m : MethodId) (x0 : Addr) (x1 : Int32) (x2 : Int32) : entryFrame m #[(.ref x0), (.int x1), (.int x2)] 6 = mkF m 0 #[r_ x0, i_ x1, i_ x2, u_, u_, u_] [] := by first | (simp [entryFrame, mkF, argsToLocals, Value.category]; done) | rfl
def Q_comp (Z : State) (a : Addr) (ka : ClassId) (zl : Int32) (cv : List Int32) (h0 : Heap) (n0 : Nat) (v_ : Option Value) (h : Heap) (L_ : List Loc) : Prop := ∃ (x : Addr) (kk : ClassId), v_ = some (.ref x) ∧ Fr n0 L_ ∧ Keep h0 h [] ∧ h0.size ≤ x ∧ Arv Z h x kk .byte zl (own_fill cv cv.length) (.int 0) ∧ Exa Z h x "[B"
set_option maxRecDepth 65536 in
set_option maxHeartbeats 40000000 in
theorem rm_comp (l : Launch) (Z : State) (a0 : Array Value) (hw : ∀ d ∈ tables_1, d.before a0 Z = true) (ws : List Jvm.Cond) (a : Addr) (ka : ClassId) (zl : Int32) (cv : List Int32) (h0 : Heap) (n0 : Nat) (Z0 : n0 ≤ h0.size) (O : Old Z n0 h0) (Va : Arv Z h0 a ka .char zl (cv.map Value.int) (.int 0)) (hcv : own_all cv) (hln : zl.toNatClampNeg = cv.length) (hm0 : ¬ zl < 0) (hzl : zl.toNatClampNeg ≤ 8) :
    own_MF l yM5 (.code yM5 cB5 6 (some (.array .byte))) ws ⟨1, 1, 8, 18⟩ #[(.ref a), (.int 0), (.int zl)] Z h0 own_T (Q_comp Z a ka zl cv h0 n0) := by
  refine own_in "java/lang/StringUTF16" rfl (plainFor_of_name pn1) hisR (fun m => ef5RII m a (0 : Int32) zl) ?_
  intro p e s m below meth c s₁ A_ hx hby hml hown hnm hrt hlk hZ _ X0 e0 pre0
  have N0 := Fr.nil n0
  have P1 := oS (s₁.setTop (mkF m 1 #[r_ a, i_ 0, i_ zl, u_, u_, u_] [(.int zl)])) pre0 (by
    intro _ k_
    refine iN_ X0 hx hby d5_0 rfl ?_
    exact k_)
  obtain ⟨T2, h2, k2, X2, e2, E2, A2, EA2, st2⟩ := newPE X0 hx hZ (own_w hw 26 rfl) e0 (g := (mkF m 1 #[r_ a, i_ 0, i_ zl, u_, u_, u_] [(.int zl)])) rfl (hb hby d5_1) rfl hm0 (cap := 8) hzl (by decide) (by decide) (by decide) (ad := "[B") (by decide +kernel)
  obtain ⟨b2, g2⟩ : ∃ z, z = h0.size := ⟨_, rfl⟩
  rw [← g2] at A2 EA2 st2
  have ne_a_b2 : a ≠ b2 := Nat.ne_of_lt (Nat.lt_of_lt_of_le Va.lt (Nat.le_of_eq g2.symm))
  have g_b2 : n0 ≤ b2 := Nat.le_trans Z0 (Nat.le_of_eq g2.symm)
  have sz_b2 : h0.size ≤ b2 := Nat.le_trans (Keep.refl h0 []).1 (Nat.le_of_eq g2.symm)
  have f3 := O.ext E2
  have f4 := (Keep.refl h0 []).ext E2
  have f5 := Va.ext E2
  have Z6 : n0 ≤ h2.size := Nat.le_trans Z0 E2.1
  have V2 : Arv Z h2 b2 k2 .byte zl [] (.int 0) := Arv.new A2 hm0
  have P7 := oS (T2.setTop (mkF m 3 #[r_ a, i_ 0, i_ zl, u_, u_, u_] [(.ref b2)])) P1 (fun t_ k_ => st2 t_ k_)
  have V2p : Arv Z h2 b2 k2 .byte zl (own_fill cv 0) (.int 0) := V2.pad (pad_rep [] _ cv.length)
  have P8 := oS (T2.setTop (mkF m 9 #[r_ a, i_ 0, i_ zl, r_ b2, u_, u_] [(.int zl), (.int 0), (.ref b2), (.int 0), (.ref a)])) P7 (by
    intro _ k_
    refine XS.astoreN X2.here hx rfl (hb hby d5_3) rfl rfl (l' := #[r_ a, i_ 0, i_ zl, r_ b2, u_, u_]) rfl ?_
    refine aN_ X2 hx hby d5_4 rfl rfl ?_
    refine iN_ X2 hx hby d5_5 rfl ?_
    refine aN_ X2 hx hby d5_6 rfl rfl ?_
    refine XS.iconst X2.here hx rfl (hb hby d5_7) ?_
    refine iN_ X2 hx hby d5_8 rfl ?_
    exact k_)
  obtain ⟨_, T9, L9, X9, hQ9, P9c⟩ := own_cS (W := 0) (rm_comp2 l Z a0 hw [] a ka b2 k2 zl cv h2 n0 Z6 f3 f5 V2p ne_a_b2 g_b2 hcv hln hm0) X2 hx hZ (fun _ _ => trivial) hown (own_w hw 27 rfl) (own_w hw 28 rfl) (own_w hw 24 rfl) (own_w hw 29 rfl) (by decide) P8 hml rfl [(.ref a), (.int 0), (.ref b2), (.int 0), (.int zl)] [] rfl rfl rfl pd0 rfl (hb hby d5_9) e2 (by decide)
  obtain ⟨rfl, N9q, K9, f10⟩ := hQ9
  have N9 := Fr.app N0 N9q
  have f12 := f4.trans K9 (allS (Or.inr sz_b2) all0)
  have f15 := EA2.keep K9
  have P17 := own_to (C := T9.setTop (mkF m 12 #[r_ a, i_ 0, i_ zl, r_ b2, u_, u_] [(.int zl)])) P9c
  have P18 := oS (T9.setTop (mkF m 17 #[r_ a, i_ 0, i_ zl, r_ b2, i_ zl, u_] [(.int zl), (.int zl)])) P17 (by
    intro _ k_
    refine is_ X9 hx hby d5_12 (l' := #[r_ a, i_ 0, i_ zl, r_ b2, i_ zl, u_]) rfl ?_
    refine il_ X9 hx hby d5_14 rfl ?_
    refine iN_ X9 hx hby d5_16 rfl ?_
    exact k_)
  have P19 := oS (T9.setTop (mkF m 58 #[r_ a, i_ 0, i_ zl, r_ b2, i_ zl, u_] [(.ref b2)])) P18 (by
    intro _ k_
    refine cY_ X9 hx hby d5_17 (pc := 17) (pc' := 57) (teq (rfl : zl = zl)).1 (by decide) ?_
    refine aN_ X9 hx hby d5_57 rfl rfl ?_
    exact k_)
  exact own_out X9 hlk (v := some (.ref b2)) (own_hv hrt) P19 (fun _ q_ => retOut X9 hx hrt rfl (Or.inr (Or.inr (Or.inr (Or.inr ⟨rfl, rfl, rfl⟩)))) (hb hby d5_58) q_) (rfl : T9.heap = _) ⟨b2, k2, rfl, N9, f12, sz_b2, f10, f15⟩ (by decide)
abbrev cB7 := jdk_52_method_15_code
abbrev yM7 : MethodName := ⟨"java/lang/StringUTF16", "coderFromArrayLen", "([BI)B"⟩
theorem d7_0 : own_d cB7 0 (.iload_n 1) 1 := by decide +kernel
theorem d7_1 : own_d cB7 1 (.aload_n 0) 1 := by decide +kernel
theorem d7_2 : own_d cB7 2 (.arraylength) 1 := by decide +kernel
theorem d7_3 : own_d cB7 3 (.isub) 1 := by decide +kernel
theorem d7_4 : own_d cB7 4 (.bipush 31) 2 := by decide +kernel
theorem d7_6 : own_d cB7 6 (.iushr) 1 := by decide +kernel
theorem d7_7 : own_d cB7 7 (.i2b) 1 := by decide +kernel
theorem d7_8 : own_d cB7 8 (.ireturn) 1 := by decide +kernel
theorem ef7RI (m : MethodId) (x0 : Addr) (x1 : Int32) : entryFrame m #[(.ref x0), (.int x1)] 2 = mkF m 0 #[r_ x0, i_ x1] [] := by first | (simp [entryFrame, mkF, argsToLocals, Value.category]; done) | rfl
def Q_cfa (Z : State) (b : Addr) (k : ClassId) (zz : Int32) (vs : List Value) (nq : Int32) (rq : Int32) (h0 : Heap) (n0 : Nat) (v_ : Option Value) (h : Heap) (L_ : List Loc) : Prop := v_ = some (.int rq) ∧ Fr n0 L_ ∧ h = h0
set_option maxRecDepth 65536 in
set_option maxHeartbeats 40000000 in
theorem rm_cfa (l : Launch) (Z : State) (a0 : Array Value) (hw : ∀ d ∈ tables_1, d.before a0 Z = true) (ws : List Jvm.Cond) (b : Addr) (k : ClassId) (zz : Int32) (vs : List Value) (nq : Int32) (rq : Int32) (h0 : Heap) (n0 : Nat) (Z0 : n0 ≤ h0.size) (Vb : Arv Z h0 b k .byte zz vs (.int 0)) (hrq : nar .byte (((nq - zz).toUInt32 >>> ((31 : Int32) &&& 31).toUInt32).toInt32).toInt8.toInt32 = rq) :
    own_MF l yM7 (.code yM7 cB7 2 (some .byte)) ws ⟨0, 0, 0, 0⟩ #[(.ref b), (.int nq)] Z h0 own_T (Q_cfa Z b k zz vs nq rq h0 n0) := by
  refine own_in "java/lang/StringUTF16" rfl (plainFor_of_name pn1) hisR (fun m => ef7RI m b nq) ?_
  intro p e s m below meth c s₁ A_ hx hby hml hown hnm hrt hlk hZ _ X0 e0 pre0
  have N0 := Fr.nil n0
  have P1 := oS (s₁.setTop (mkF m 2 #[r_ b, i_ nq] [(.ref b), (.int nq)])) pre0 (by
    intro _ k_
    refine iN_ X0 hx hby d7_0 rfl ?_
    refine aN_ X0 hx hby d7_1 rfl rfl ?_
    exact k_)
  obtain ⟨cl2, Ar2, q2, S2, M2, H2, G2⟩ := id Vb
  have P3 := oS (s₁.setTop (mkF m 3 #[r_ b, i_ nq] [(.int zz), (.int nq)])) P1 (by
    intro _ k_
    refine X0.arraylength hx (by rw [e0]; exact Ar2.1) (State.isArrayOf_alike hZ.alike Ar2.2.1) (g := (mkF m 2 #[r_ b, i_ nq] [(.ref b), (.int nq)])) rfl rfl (hb hby d7_2) _ ?_
    rw [len_of S2 M2]
    exact k_)
  have P4 := oS (s₁.setTop (mkF m 8 #[r_ b, i_ nq] [(.int ((((nq - zz).toUInt32 >>> ((31 : Int32) &&& 31).toUInt32).toInt32).toInt8.toInt32))])) P3 (by
    intro _ k_
    refine XS.isub X0.here hx rfl (hb hby d7_3) rfl ?_
    refine XS.bipush X0.here hx rfl (hb hby d7_4) ?_
    refine XS.iushr X0.here hx rfl (hb hby d7_6) rfl ?_
    refine XS.i2b X0.here hx rfl (hb hby d7_7) rfl ?_
    exact k_)
  exact own_out X0 hlk (v := some (.int (nar .byte ((((nq - zz).toUInt32 >>> ((31 : Int32) &&& 31).toUInt32).toInt32).toInt8.toInt32)))) (own_hv hrt) P4 (fun _ q_ => retN X0 hx (t := .byte) hrt (by simp) (hb hby d7_8) q_) e0 ⟨by rw [hrq], N0, rfl⟩ (by decide)
theorem pd1 : parseMethodDescriptor "([CII)[B" = some ⟨[(.array .char), .int, .int], some (.array .byte)⟩ := by decide +kernel
theorem pd2 : parseMethodDescriptor "([BI)B" = some ⟨[(.array .byte), .int], some .byte⟩ := by decide +kernel
abbrev cB3 := jdk_42_method_149_code
abbrev yM3 : MethodName := ⟨"java/lang/String", "<init>", "([CIILjava/lang/Void;)V"⟩
theorem d3_0 : own_d cB3 0 (.aload_n 0) 1 := by decide +kernel
theorem d3_1 : own_d cB3 1 (.invokespecial 1) 3 := by decide +kernel
theorem d3_4 : own_d cB3 4 (.iload_n 3) 1 := by decide +kernel
theorem d3_5 : own_d cB3 5 (.ifCond .ne 22) 3 := by decide +kernel
theorem d3_27 : own_d cB3 27 (.getstatic 38) 3 := by decide +kernel
theorem d3_30 : own_d cB3 30 (.ifCond .eq 28) 3 := by decide +kernel
theorem d3_33 : own_d cB3 33 (.aload_n 1) 1 := by decide +kernel
theorem d3_34 : own_d cB3 34 (.iload_n 2) 1 := by decide +kernel
theorem d3_35 : own_d cB3 35 (.iload_n 3) 1 := by decide +kernel
theorem d3_36 : own_d cB3 36 (.invokestatic 177) 3 := by decide +kernel
theorem d3_39 : own_d cB3 39 (.astore 5) 2 := by decide +kernel
theorem d3_41 : own_d cB3 41 (.aload_n 0) 1 := by decide +kernel
theorem d3_42 : own_d cB3 42 (.aload 5) 2 := by decide +kernel
theorem d3_44 : own_d cB3 44 (.iload_n 3) 1 := by decide +kernel
theorem d3_45 : own_d cB3 45 (.invokestatic 47) 3 := by decide +kernel
theorem d3_48 : own_d cB3 48 (.putfield 15) 3 := by decide +kernel
theorem d3_51 : own_d cB3 51 (.aload_n 0) 1 := by decide +kernel
theorem d3_52 : own_d cB3 52 (.aload 5) 2 := by decide +kernel
theorem d3_54 : own_d cB3 54 (.putfield 9) 3 := by decide +kernel
theorem d3_57 : own_d cB3 57 (.return_) 1 := by decide +kernel
theorem ef3RRIIn (m : MethodId) (x0 : Addr) (x1 : Addr) (x2 : Int32) (x3 : Int32) : entryFrame m #[(.ref x0), (.ref x1), (.int x2), (.int x3), .null] 6 = mkF m 0 #[r_ x0, r_ x1, i_ x2, i_ x3, .val .null, u_] [] := by first | (simp [entryFrame, mkF, argsToLocals, Value.category]; done) | rfl
def Q_initV (Z : State) (a : Addr) (ca : Addr) (ka : ClassId) (zl : Int32) (cv : List Int32) (cs : Int32) (h0 : Heap) (n0 : Nat) (v_ : Option Value) (h : Heap) (L_ : List Loc) : Prop := ∃ (x : Addr) (kk : ClassId), v_ = none ∧ Fr n0 L_ ∧ Keep h0 h [a] ∧ Exa Z h a "java/lang/String" ∧ Fld Z h a "java/lang/String" "coder" "B" (.int 0) ∧ Fld Z h a "java/lang/String" "value" "[B" (.ref x) ∧ Arv Z h x kk .byte zl (own_fill cv cv.length) (.int 0) ∧ h0.size ≤ x ∧ Exa Z h x "[B"
theorem pn2 : plainName "java/lang/String" = true := by first | (simp [plainName, overriddenIn]; done) | decide +kernel
set_option maxRecDepth 65536 in
set_option maxHeartbeats 40000000 in
theorem rm_initV (l : Launch) (Z : State) (a0 : Array Value) (hw : ∀ d ∈ tables_1, d.before a0 Z = true) (ws : List Jvm.Cond) (a : Addr) (ca : Addr) (ka : ClassId) (zl : Int32) (cv : List Int32) (cs : Int32) (h0 : Heap) (n0 : Nat) (Z0 : n0 ≤ h0.size) (O : Old Z n0 h0) (Scs : Sta Z Z.heap "java/lang/String" "COMPACT_STRINGS" "Z" (.int cs)) (hcs : ¬ (cs = (0 : Int32))) (Ea : Exa Z h0 a "java/lang/String") (Fv : Fld Z h0 a "java/lang/String" "value" "[B" .null) (Fc : Fld Z h0 a "java/lang/String" "coder" "B" (.int 0)) (ga : n0 ≤ a) (Vs : Arv Z h0 ca ka .char zl (cv.map Value.int) (.int 0)) (hcv : own_all cv) (hln : zl.toNatClampNeg = cv.length) (hm0 : ¬ zl < 0) (hzl : zl.toNatClampNeg ≤ 8) (hz0 : ¬ (zl = (0 : Int32))) (hrq : nar .byte (((zl - zl).toUInt32 >>> ((31 : Int32) &&& 31).toUInt32).toInt32).toInt8.toInt32 = (0 : Int32)) :
    own_MF l yM3 (.code yM3 cB3 6 none) ws ⟨2, 1, 8, 35⟩ #[(.ref a), (.ref ca), (.int 0), (.int zl), .null] Z h0 own_T (Q_initV Z a ca ka zl cv cs h0 n0) := by
  refine own_in "java/lang/String" rfl (plainFor_of_name pn2) hisR (fun m => ef3RRIIn m a ca (0 : Int32) zl) ?_
  intro p e s m below meth c s₁ A_ hx hby hml hown hnm hrt hlk hZ _ X0 e0 pre0
  have N0 := Fr.nil n0
  obtain ⟨clV, ArV, -⟩ := id Vs
  have P1 := oS (s₁.setTop (mkF m 1 #[r_ a, r_ ca, i_ 0, i_ zl, .val .null, u_] [(.ref a)])) pre0 (by
    intro _ k_
    refine aN_ X0 hx hby d3_0 rfl rfl ?_
    exact k_)
  obtain ⟨T2, X2, e2, st2⟩ := initO X0 hx hZ hown (own_w hw 18 rfl) (own_w hw 19 rfl) (own_w hw 20 rfl) e0 (g := (mkF m 1 #[r_ a, r_ ca, i_ 0, i_ zl, .val .null, u_] [(.ref a)])) rfl (by rw [hml]; rfl) rfl (hb hby d3_1) (by decide) (W := 0) (by show 2 * 0 + _ ≤ _; exact Nat.le_of_eq rfl) (by decide)
  have P3 := oS (T2.setTop (mkF m 4 #[r_ a, r_ ca, i_ 0, i_ zl, .val .null, u_] [])) P1 (fun t_ k_ => st2 t_ k_)
  have P4 := oS (T2.setTop (mkF m 5 #[r_ a, r_ ca, i_ 0, i_ zl, .val .null, u_] [(.int zl)])) P3 (by
    intro _ k_
    refine iN_ X2 hx hby d3_4 rfl ?_
    exact k_)
  have P5 := oS (T2.setTop (mkF m 27 #[r_ a, r_ ca, i_ 0, i_ zl, .val .null, u_] [])) P4 (by
    intro _ k_
    refine fY_ X2 hx hby d3_5 (pc := 5) (pc' := 27) ((if0 _ _).trans (feq hz0).2) (by decide) ?_
    exact k_)
  obtain ⟨T6, X6, e6, st6⟩ := getS2 X2 hx hZ hown (host := "") (Or.inl (own_w hw 21 rfl)) Via.refl e2 (Scs.ext O.2) (g := (mkF m 27 #[r_ a, r_ ca, i_ 0, i_ zl, .val .null, u_] [])) rfl (hb hby d3_27)
  have P7 := oS (T6.setTop (mkF m 30 #[r_ a, r_ ca, i_ 0, i_ zl, .val .null, u_] [(.int cs)])) P5 (fun t_ k_ => st6 t_ k_)
  have P8 := oS (T6.setTop (mkF m 36 #[r_ a, r_ ca, i_ 0, i_ zl, .val .null, u_] [(.int zl), (.int 0), (.ref ca)])) P7 (by
    intro _ k_
    refine XS.ifNo X6.here hx rfl (hb hby d3_30) rfl ((if0 _ _).trans (feq hcs).1) ?_
    refine aN_ X6 hx hby d3_33 rfl rfl ?_
    refine iN_ X6 hx hby d3_34 rfl ?_
    refine iN_ X6 hx hby d3_35 rfl ?_
    exact k_)
  obtain ⟨_, T9, L9, X9, hQ9, P9c⟩ := own_cS (W := 0) (rm_comp l Z a0 hw [] ca ka zl cv h0 n0 Z0 O Vs hcv hln hm0 hzl) X6 hx hZ (fun _ _ => trivial) hown (own_w hw 22 rfl) (own_w hw 23 rfl) (own_w hw 24 rfl) (own_w hw 25 rfl) (by decide) P8 hml rfl [(.ref ca), (.int 0), (.int zl)] [] rfl rfl rfl pd1 rfl (hb hby d3_36) e6 (by decide)
  obtain ⟨x9, kk9, rfl, N9q, K9, f10, f11, f12⟩ := hQ9
  have N9 := Fr.app N0 N9q
  have ne_a_x9 : a ≠ x9 := Nat.ne_of_lt (Nat.lt_of_lt_of_le Ea.lt f10)
  have sz_x9 : h0.size ≤ x9 := Nat.le_trans (Keep.refl h0 [a]).1 f10
  have f14 := Ea.keep K9
  have f15 := Fc.keep K9 nin0
  have f16 := Fv.keep K9 nin0
  have f17 := (Keep.refl h0 [a]).trans K9 all0
  have Z19 : n0 ≤ T9.heap.size := Nat.le_trans Z0 K9.1
  have P20 := own_to (C := T9.setTop (mkF m 39 #[r_ a, r_ ca, i_ 0, i_ zl, .val .null, u_] [(.ref x9)])) P9c
  have P21 := oS (T9.setTop (mkF m 45 #[r_ a, r_ ca, i_ 0, i_ zl, .val .null, r_ x9] [(.int zl), (.ref x9), (.ref a)])) P20 (by
    intro _ k_
    refine XS.astore X9.here hx rfl (hb hby d3_39) rfl rfl (l' := #[r_ a, r_ ca, i_ 0, i_ zl, .val .null, r_ x9]) rfl ?_
    refine aN_ X9 hx hby d3_41 rfl rfl ?_
    refine a_ X9 hx hby d3_42 rfl rfl ?_
    refine iN_ X9 hx hby d3_44 rfl ?_
    exact k_)
  obtain ⟨_, T22, L22, X22, hQ22, P22c⟩ := own_cS (W := 1) (rm_cfa l Z a0 hw [] x9 kk9 zl _ zl (0 : Int32) T9.heap n0 Z19 f11 hrq) X9 hx hZ (fun _ _ => trivial) hown (own_w hw 30 rfl) (own_w hw 31 rfl) (own_w hw 24 rfl) (own_w hw 32 rfl) (by decide) P21 hml rfl [(.ref x9), (.int zl)] [(.ref a)] rfl rfl rfl pd2 rfl (hb hby d3_45) (rfl : T9.heap = _) (by decide)
  obtain ⟨rfl, N22q, e22⟩ := hQ22
  have N22 := Fr.app N9 N22q
  have P23 := own_to (C := T22.setTop (mkF m 48 #[r_ a, r_ ca, i_ 0, i_ zl, .val .null, r_ x9] [(.int 0), (.ref a)])) P22c
  obtain ⟨T24, h24, X24, e24, W24, st24⟩ := putFN X22 hx hZ hown (own_w hw 33 rfl) Via.refl e22 f15 f14 (Or.inr ⟨(own_w hw 34 rfl), rfl, hnm⟩) (own_w hw 9 rfl) (ty := .byte) (v' := (.int (0 : Int32).toInt8.toInt32)) (by decide) rfl (fits_nar_byte _) (g := (mkF m 48 #[r_ a, r_ ca, i_ 0, i_ zl, .val .null, r_ x9] [(.int 0), (.ref a)])) rfl rfl (hb hby d3_48)
  have f26 := f14.wr W24
  have f27 := f15.same W24
  have f28 := f16.other W24 (Or.inr (slot_ne (Or.inr (own_w hw 36 rfl)) (Or.inr (own_w hw 34 rfl)) (by decide) (t := (.array .byte)) (t' := .byte) (by decide) (by decide)))
  have f29 := f17.wr W24 (Or.inl (List.mem_of_getElem? (i := 0) rfl))
  have f31 := f11.other W24 (Ne.symm ne_a_x9)
  have f32 := f12.wr W24
  have N24 := Fr.snoc X24 N22 ga
  have P34 := oS (T24.setTop (mkF m 51 #[r_ a, r_ ca, i_ 0, i_ zl, .val .null, r_ x9] [])) P23 (fun t_ k_ => st24 t_ k_)
  have P35 := oS (T24.setTop (mkF m 54 #[r_ a, r_ ca, i_ 0, i_ zl, .val .null, r_ x9] [(.ref x9), (.ref a)])) P34 (by
    intro _ k_
    refine aN_ X24 hx hby d3_51 rfl rfl ?_
    refine a_ X24 hx hby d3_52 rfl rfl ?_
    exact k_)
  obtain ⟨T36, h36, X36, e36, W36, st36⟩ := putF X24 hx hZ hown (host := "") (Or.inl (own_w hw 35 rfl)) Via.refl e24 f28 f26 (Or.inr ⟨(own_w hw 36 rfl), rfl, hnm⟩) (own_w hw 9 rfl) (ty := (.array .byte)) (by decide) rfl rfl (g := (mkF m 54 #[r_ a, r_ ca, i_ 0, i_ zl, .val .null, r_ x9] [(.ref x9), (.ref a)])) rfl rfl (hb hby d3_54)
  have f38 := f26.wr W36
  have f39 := f27.other W36 (Or.inr (slot_ne (Or.inr (own_w hw 34 rfl)) (Or.inr (own_w hw 36 rfl)) (by decide) (t := .byte) (t' := (.array .byte)) (by decide) (by decide)))
  have f40 := f28.same W36
  have f41 := f29.wr W36 (Or.inl (List.mem_of_getElem? (i := 0) rfl))
  have f43 := f31.other W36 (Ne.symm ne_a_x9)
  have f44 := f32.wr W36
  have N36 := Fr.snoc X36 N24 ga
  have P46 := oS (T36.setTop (mkF m 57 #[r_ a, r_ ca, i_ 0, i_ zl, .val .null, r_ x9] [])) P35 (fun t_ k_ => st36 t_ k_)
  exact own_out X36 hlk (v := none) (fun _ => rfl) P46 (fun _ q_ => X36.returnOut hx hrt (hb hby d3_57) q_) e36 ⟨x9, kk9, rfl, N36, f41, f38, f39, f40, f43, sz_x9, f44⟩ (by decide)
theorem pd3 : parseMethodDescriptor "([CIILjava/lang/Void;)V" = some ⟨[(.array .char), .int, .int, (.object "java/lang/Void")], none⟩ := by decide +kernel
abbrev cB2 := jdk_42_method_3_code
abbrev yM2 : MethodName := ⟨"java/lang/String", "<init>", "([C)V"⟩
theorem d2_0 : own_d cB2 0 (.aload_n 0) 1 := by decide +kernel
theorem d2_1 : own_d cB2 1 (.aload_n 1) 1 := by decide +kernel
theorem d2_2 : own_d cB2 2 (.iconst 0) 1 := by decide +kernel
theorem d2_3 : own_d cB2 3 (.aload_n 1) 1 := by decide +kernel
theorem d2_4 : own_d cB2 4 (.arraylength) 1 := by decide +kernel
theorem d2_5 : own_d cB2 5 (.aconst_null) 1 := by decide +kernel
theorem d2_6 : own_d cB2 6 (.invokespecial 27) 3 := by decide +kernel
theorem d2_9 : own_d cB2 9 (.return_) 1 := by decide +kernel
theorem ef2RR (m : MethodId) (x0 : Addr) (x1 : Addr) : entryFrame m #[(.ref x0), (.ref x1)] 2 = mkF m 0 #[r_ x0, r_ x1] [] := by first | (simp [entryFrame, mkF, argsToLocals, Value.category]; done) | rfl
def Q_initC (Z : State) (a : Addr) (ca : Addr) (ka : ClassId) (zl : Int32) (cv : List Int32) (cs : Int32) (h0 : Heap) (n0 : Nat) (v_ : Option Value) (h : Heap) (L_ : List Loc) : Prop := ∃ (x : Addr) (kk : ClassId), v_ = none ∧ Fr n0 L_ ∧ Keep h0 h [a] ∧ Exa Z h a "java/lang/String" ∧ Fld Z h a "java/lang/String" "coder" "B" (.int 0) ∧ Fld Z h a "java/lang/String" "value" "[B" (.ref x) ∧ Arv Z h x kk .byte zl (own_fill cv cv.length) (.int 0) ∧ h0.size ≤ x ∧ Exa Z h x "[B"
set_option maxRecDepth 65536 in
set_option maxHeartbeats 40000000 in
theorem rm_initC (l : Launch) (Z : State) (a0 : Array Value) (hw : ∀ d ∈ tables_1, d.before a0 Z = true) (ws : List Jvm.Cond) (a : Addr) (ca : Addr) (ka : ClassId) (zl : Int32) (cv : List Int32) (cs : Int32) (h0 : Heap) (n0 : Nat) (Z0 : n0 ≤ h0.size) (O : Old Z n0 h0) (Scs : Sta Z Z.heap "java/lang/String" "COMPACT_STRINGS" "Z" (.int cs)) (hcs : ¬ (cs = (0 : Int32))) (Ea : Exa Z h0 a "java/lang/String") (Fv : Fld Z h0 a "java/lang/String" "value" "[B" .null) (Fc : Fld Z h0 a "java/lang/String" "coder" "B" (.int 0)) (ga : n0 ≤ a) (Vs : Arv Z h0 ca ka .char zl (cv.map Value.int) (.int 0)) (hcv : own_all cv) (hln : zl.toNatClampNeg = cv.length) (hm0 : ¬ zl < 0) (hzl : zl.toNatClampNeg ≤ 8) (hz0 : ¬ (zl = (0 : Int32))) (hrq : nar .byte (((zl - zl).toUInt32 >>> ((31 : Int32) &&& 31).toUInt32).toInt32).toInt8.toInt32 = (0 : Int32)) :
    own_MF l yM2 (.code yM2 cB2 2 none) ws ⟨3, 1, 8, 52⟩ #[(.ref a), (.ref ca)] Z h0 own_T (Q_initC Z a ca ka zl cv cs h0 n0) := by
  refine own_in "java/lang/String" rfl (plainFor_of_name pn2) hisR (fun m => ef2RR m a ca) ?_
  intro p e s m below meth c s₁ A_ hx hby hml hown hnm hrt hlk hZ _ X0 e0 pre0
  have N0 := Fr.nil n0
  obtain ⟨clV, ArV, -⟩ := id Vs
  have P1 := oS (s₁.setTop (mkF m 4 #[r_ a, r_ ca] [(.ref ca), (.int 0), (.ref ca), (.ref a)])) pre0 (by
    intro _ k_
    refine aN_ X0 hx hby d2_0 rfl rfl ?_
    refine aN_ X0 hx hby d2_1 rfl rfl ?_
    refine XS.iconst X0.here hx rfl (hb hby d2_2) ?_
    refine aN_ X0 hx hby d2_3 rfl rfl ?_
    exact k_)
  obtain ⟨cl2, Ar2, q2, S2, M2, H2, G2⟩ := id Vs
  have P3 := oS (s₁.setTop (mkF m 5 #[r_ a, r_ ca] [(.int zl), (.int 0), (.ref ca), (.ref a)])) P1 (by
    intro _ k_
    refine X0.arraylength hx (by rw [e0]; exact Ar2.1) (State.isArrayOf_alike hZ.alike Ar2.2.1) (g := (mkF m 4 #[r_ a, r_ ca] [(.ref ca), (.int 0), (.ref ca), (.ref a)])) rfl rfl (hb hby d2_4) _ ?_
    rw [len_of S2 M2]
    exact k_)
  have P4 := oS (s₁.setTop (mkF m 6 #[r_ a, r_ ca] [.null, (.int zl), (.int 0), (.ref ca), (.ref a)])) P3 (by
    intro _ k_
    refine XS.aconstNull X0.here hx rfl (hb hby d2_5) ?_
    exact k_)
  obtain ⟨_, T5, L5, X5, hQ5, P5c⟩ := own_cI (W := 0) (rm_initV l Z a0 hw [] a ca ka zl cv cs h0 n0 Z0 O Scs hcs Ea Fv Fc ga Vs hcv hln hm0 hzl hz0 hrq) X0 hx hZ (fun _ _ => trivial) hown rfl (own_w hw 14 rfl) (own_w hw 15 rfl) (own_w hw 10 rfl) (own_w hw 17 rfl) (by decide) P4 hml rfl [(.ref ca), (.int 0), (.int zl), .null] [] rfl rfl rfl pd3 rfl (hb hby d2_6) e0 (by decide)
  obtain ⟨x5, kk5, rfl, N5q, K5, f6, f7, f8, f9, f10, f11⟩ := hQ5
  have N5 := Fr.app N0 N5q
  have f16 := (Keep.refl h0 [a]).trans K5 (allS (Or.inl (List.mem_of_getElem? (i := 0) rfl)) all0)
  have P19 := own_to (C := T5.setTop (mkF m 9 #[r_ a, r_ ca] [])) P5c
  exact own_out X5 hlk (v := none) (fun _ => rfl) P19 (fun _ q_ => X5.returnOut hx hrt (hb hby d2_9) q_) (rfl : T5.heap = _) ⟨x5, kk5, rfl, N5, f16, f6, f7, f8, f9, f10, f11⟩ (by decide)
theorem own_vne {Z : State} {h : Heap} {a b : Addr} (F : Fld Z h a "java/lang/String" "value" "[B" (.ref b)) (G : Fld Z h a "java/lang/String" "value" "[B" .null) : False := Fld.ne F G (by simp) rfl
theorem d3_8 : own_d cB3 8 (.aload_n 0) 1 := by decide +kernel
theorem d3_9 : own_d cB3 9 (.ldc 7) 2 := by decide +kernel
theorem d3_11 : own_d cB3 11 (.getfield 9) 3 := by decide +kernel
theorem d3_14 : own_d cB3 14 (.putfield 9) 3 := by decide +kernel
theorem d3_17 : own_d cB3 17 (.aload_n 0) 1 := by decide +kernel
theorem d3_18 : own_d cB3 18 (.ldc 7) 2 := by decide +kernel
theorem d3_20 : own_d cB3 20 (.getfield 15) 3 := by decide +kernel
theorem d3_23 : own_d cB3 23 (.putfield 15) 3 := by decide +kernel
theorem d3_26 : own_d cB3 26 (.return_) 1 := by decide +kernel
def Q_zV0 (Z : State) (a : Addr) (ca : Addr) (cs : Int32) (la : Addr) (h0 : Heap) (n0 : Nat) (v_ : Option Value) (h : Heap) (L_ : List Loc) : Prop := ∃ (lb : Addr) (kl : ClassId), v_ = none ∧ Fr n0 L_ ∧ Keep h0 h [a] ∧ Exa Z h a "java/lang/String" ∧ Fld Z h a "java/lang/String" "coder" "B" (.int 0) ∧ Fld Z h a "java/lang/String" "value" "[B" (.ref lb) ∧ Arv Z h lb kl .byte (0 : Int32) [] (.int 0) ∧ Exa Z h lb "[B" ∧ Fld Z h la "java/lang/String" "value" "[B" (.ref lb) ∧ Fld Z h la "java/lang/String" "coder" "B" (.int 0)
set_option maxRecDepth 65536 in
set_option maxHeartbeats 40000000 in
theorem rm_zV0 (l : Launch) (Z : State) (a0 : Array Value) (hw : ∀ d ∈ tables_1, d.before a0 Z = true) (ws : List Jvm.Cond) (a : Addr) (ca : Addr) (cs : Int32) (h0 : Heap) (n0 : Nat) (Z0 : n0 ≤ h0.size) (O : Old Z n0 h0) (Scs : Sta Z Z.heap "java/lang/String" "COMPACT_STRINGS" "Z" (.int cs)) (hcs : ¬ (cs = (0 : Int32))) (hheld : Jvm.Lit.constHeld Z "java/lang/String" 7) (hcw : Jvm.Lit.compactW.before a0 Z = true) (Ea : Exa Z h0 a "java/lang/String") (Fv : Fld Z h0 a "java/lang/String" "value" "[B" .null) (Fc : Fld Z h0 a "java/lang/String" "coder" "B" (.int 0)) (ga : n0 ≤ a) :
    MetFree l (⟨"java/lang/String", "<init>", "([CIILjava/lang/Void;)V"⟩ : MethodName) (head1 (Jvm.Cond.code (⟨"java/lang/String", "<init>", "([CIILjava/lang/Void;)V"⟩ : MethodName) jdk_42_method_149_code 6 none :: ws) ({ frames := 1, cells := 2, slots := 4, locals := 12 } : Room)) (fun a_ U_ => a_ = #[(.ref a), (.ref ca), (.int 0), (.int 0), .null] ∧ Z.Warmed39 U_.vm ∧ U_.heap = h0 ∧ IB Z U_.vm []) (fun _ _ _ _ _ => True) (fun _ U_ o_ V_ => ∃ v_ L_ la, o_ = .returned v_ ∧ Q_zV0 Z a ca cs la h0 n0 v_ V_.heap L_ ∧ Lit V_ "java/lang/String" 7 la ∧ ReturnedEndW U_ o_ V_ L_ ({ frames := 1, cells := 2, slots := 4, locals := 12 } : Room).cells ({ frames := 1, cells := 2, slots := 4, locals := 12 } : Room).slots) := by
  refine MetFree.of_bodySF (plainFor_of_name pn2) hisR ?_
  intro p e s m args below meth c s₁ Bd hml0 hP hK
  obtain ⟨rfl, hZ, hh, hIB⟩ := hP
  have hx := Bd.exec
  have hby := Bd.bytes
  have hml : c.maxLocals = 6 := hml0
  have hown : s.vm.findClass "java/lang/String" = some m.cls := findClass_of_methodNamed Bd.named
  have hnm := (name_of_methodNamed Bd.named Bd.method).1
  have X0 : Stand p l e ({ frames := 1, cells := 2, slots := 4, locals := 12 } : Room) s m #[(.ref a), (.ref ca), (.int 0), (.int 0), .null] below meth c s₁ [] 0 0 := Stand.of_body Bd
  have e0 : s₁.heap = h0 := by rw [← hh, Bd.state]; rfl
  have N0 := Fr.nil n0
  have pre0 : own_Go p e below (s₁.setTop (entryFrame m #[(.ref a), (.ref ca), (.int 0), (.int 0), .null] 6)) (s₁.setTop (mkF m 0 #[r_ a, r_ ca, i_ 0, i_ 0, .val .null, u_] [])) := fun t_ k_ => castTop (ef3RRIIn m a ca (0 : Int32) (0 : Int32)) k_
  have P1 := oS (s₁.setTop (mkF m 1 #[r_ a, r_ ca, i_ 0, i_ 0, .val .null, u_] [(.ref a)])) pre0 (by
    intro _ k_
    refine aN_ X0 hx hby d3_0 rfl rfl ?_
    exact k_)
  obtain ⟨T2, X2, e2, st2⟩ := initO X0 hx hZ hown (own_w hw 18 rfl) (own_w hw 19 rfl) (own_w hw 20 rfl) e0 (g := (mkF m 1 #[r_ a, r_ ca, i_ 0, i_ 0, .val .null, u_] [(.ref a)])) rfl (by rw [hml]; rfl) rfl (hb hby d3_1) (by decide) (W := 0) (by show 2 * 0 + _ ≤ _; exact Nat.le_of_eq rfl) (by decide)
  have P3 := oS (T2.setTop (mkF m 4 #[r_ a, r_ ca, i_ 0, i_ 0, .val .null, u_] [])) P1 (fun t_ k_ => st2 t_ k_)
  have P4 := oS (T2.setTop (mkF m 5 #[r_ a, r_ ca, i_ 0, i_ 0, .val .null, u_] [(.int 0)])) P3 (by
    intro _ k_
    refine iN_ X2 hx hby d3_4 rfl ?_
    exact k_)
  have P5 := oS (T2.setTop (mkF m 9 #[r_ a, r_ ca, i_ 0, i_ 0, .val .null, u_] [(.ref a)])) P4 (by
    intro _ k_
    refine XS.ifNo X2.here hx rfl (hb hby d3_5) rfl ((if0 _ _).trans (teq (by decide : (0 : Int32) = (0 : Int32))).2) ?_
    refine aN_ X2 hx hby d3_8 rfl rfl ?_
    exact k_)
  obtain ⟨H6, EW6⟩ := own_chv hheld (own_w hw 185 rfl) (text := "") (by decide +kernel) hcw (own_w hw 26 rfl) (own_w hw 9 rfl) hIB hZ O
  obtain ⟨b6, T6, h6, k6, bv6, kc6, X6, e6, E6, S6, kz6, hZ6, hown6, A6, Fc6, Fv6, V6, -, -, C6, Lt6, -, st6⟩ := ldcCH (s := s) (vm0 := s.vm) X2 hx hZ hown (own_w hw 185 rfl) (fun d hd => hw d (own_wS d hd)) e2 ((State.WarmedH.refl s).since 0) (Nat.zero_le _) EW6 (List.mem_singleton_self _) H6 (vs := []) (z := (0 : Int32)) ⟨by decide +kernel, by rfl⟩ (by decide) rfl (g := (mkF m 9 #[r_ a, r_ ca, i_ 0, i_ 0, .val .null, u_] [(.ref a)])) rfl (hb hby d3_9) (n := 0) (by decide +kernel) (by decide) (by decide) (by decide)
  have f8 := Ea.ext E6
  have f9 := Fc.ext E6
  have f10 := Fv.ext E6
  have f11 := (Keep.refl h0 [a]).ext E6
  have EB6 := own_exB C6.1 hZ6 (own_w hw 185 rfl) Lt6 Fv6
  have P13 := oS (T6.setTop (mkF m 11 #[r_ a, r_ ca, i_ 0, i_ 0, .val .null, u_] [(.ref b6), (.ref a)])) P5 (fun t_ k_ => st6 t_ k_)
  obtain ⟨clV, ArV, -⟩ := id V6
  have ne_bv_a : bv6 ≠ a := Ne.symm (ne_arr f8 (own_w hw 9 rfl) ArV)
  have ne_x_a : b6 ≠ a := fun q => by rw [q] at Fv6; exact own_vne Fv6 f10
  obtain ⟨T14, X14, e14, st14⟩ := getF X6 hx hZ6 hown6 (host := "") (Or.inl (own_w hw 35 rfl)) Via.refl e6 Fv6 (g := (mkF m 11 #[r_ a, r_ ca, i_ 0, i_ 0, .val .null, u_] [(.ref b6), (.ref a)])) rfl rfl (hb hby d3_11)
  have P15 := oS (T14.setTop (mkF m 14 #[r_ a, r_ ca, i_ 0, i_ 0, .val .null, u_] [(.ref bv6), (.ref a)])) P13 (fun t_ k_ => st14 t_ k_)
  obtain ⟨T16, h16, X16, e16, W16, st16⟩ := putF X14 hx hZ6 hown6 (host := "") (Or.inl (own_w hw 35 rfl)) Via.refl e14 f10 f8 (Or.inr ⟨(own_w hw 36 rfl), rfl, hnm⟩) (own_w hw 9 rfl) (ty := (.array .byte)) (by decide) rfl rfl (g := (mkF m 14 #[r_ a, r_ ca, i_ 0, i_ 0, .val .null, u_] [(.ref bv6), (.ref a)])) rfl rfl (hb hby d3_14)
  have f18 := f8.wr W16
  have f19 := f9.other W16 (Or.inr (slot_ne (Or.inr (own_w hw 34 rfl)) (Or.inr (own_w hw 36 rfl)) (by decide) (t := .byte) (t' := (.array .byte)) (by decide) (by decide)))
  have f20 := f10.same W16
  have f21 := f11.wr W16 (Or.inl (List.mem_of_getElem? (i := 0) rfl))
  have f23 := Fc6.other W16 (Or.inl ne_x_a)
  have f24 := Fv6.other W16 (Or.inl ne_x_a)
  have f25 := V6.other W16 ne_bv_a
  have f26 := EB6.wr W16
  have kz28 := Nat.le_trans kz6 (Keep.of_wr W16).1
  have N16 := Fr.snoc X16 N0 ga
  have P29 := oS (T16.setTop (mkF m 17 #[r_ a, r_ ca, i_ 0, i_ 0, .val .null, u_] [])) P15 (fun t_ k_ => st16 t_ k_)
  have P30 := oS (T16.setTop (mkF m 18 #[r_ a, r_ ca, i_ 0, i_ 0, .val .null, u_] [(.ref a)])) P29 (by
    intro _ k_
    refine aN_ X16 hx hby d3_17 rfl rfl ?_
    exact k_)
  have P31 := oS (T16.setTop (mkF m 20 #[r_ a, r_ ca, i_ 0, i_ 0, .val .null, u_] [(.ref b6), (.ref a)])) P30 (by
    intro _ k_
    refine ldcAgain (s := s) (vm0 := T6.vm) X16 hx hZ6 hown6 (own_w hw 185 rfl) Lt6 (g := (mkF m 18 #[r_ a, r_ ca, i_ 0, i_ 0, .val .null, u_] [(.ref a)])) rfl (hb hby d3_18) _ ?_
    exact k_)
  obtain ⟨T32, X32, e32, st32⟩ := getF X16 hx hZ6 hown6 (host := "") (Or.inl (own_w hw 33 rfl)) Via.refl e16 f23 (g := (mkF m 20 #[r_ a, r_ ca, i_ 0, i_ 0, .val .null, u_] [(.ref b6), (.ref a)])) rfl rfl (hb hby d3_20)
  have P33 := oS (T32.setTop (mkF m 23 #[r_ a, r_ ca, i_ 0, i_ 0, .val .null, u_] [(.int 0), (.ref a)])) P31 (fun t_ k_ => st32 t_ k_)
  obtain ⟨T34, h34, X34, e34, W34, st34⟩ := putFN X32 hx hZ6 hown6 (own_w hw 33 rfl) Via.refl e32 f19 f18 (Or.inr ⟨(own_w hw 34 rfl), rfl, hnm⟩) (own_w hw 9 rfl) (ty := .byte) (v' := (.int (0 : Int32).toInt8.toInt32)) (by decide) rfl (fits_nar_byte _) (g := (mkF m 23 #[r_ a, r_ ca, i_ 0, i_ 0, .val .null, u_] [(.int 0), (.ref a)])) rfl rfl (hb hby d3_23)
  have f36 := f18.wr W34
  have f37 := f19.same W34
  have f38 := f20.other W34 (Or.inr (slot_ne (Or.inr (own_w hw 36 rfl)) (Or.inr (own_w hw 34 rfl)) (by decide) (t := (.array .byte)) (t' := .byte) (by decide) (by decide)))
  have f39 := f21.wr W34 (Or.inl (List.mem_of_getElem? (i := 0) rfl))
  have f41 := f23.other W34 (Or.inl ne_x_a)
  have f42 := f24.other W34 (Or.inl ne_x_a)
  have f43 := f25.other W34 ne_bv_a
  have f44 := f26.wr W34
  have kz46 := Nat.le_trans kz28 (Keep.of_wr W34).1
  have N34 := Fr.snoc X34 N16 ga
  have P47 := oS (T34.setTop (mkF m 26 #[r_ a, r_ ca, i_ 0, i_ 0, .val .null, u_] [])) P33 (fun t_ k_ => st34 t_ k_)
  obtain ⟨fs, hr, hrun, hended, hW⟩ := X34.leaveW S6 (by rw [e34]; exact kz46) (v := none) (fun _ => rfl)
  refine ⟨_, _, P47 _ ?_, hrun, hended, _, _, b6, rfl, ?_, own_litU Lt6 X34.warmed, ⟨hW.1, hW.2.1, hW.2.2.1, hW.2.2.2.mono (by decide) (by decide)⟩⟩
  · exact X34.returnOut hx Bd.returns (hb hby d3_26) hr
  · show Q_zV0 Z _ _ _ _ h0 n0 _ T34.heap _
    rw [e34]
    exact ⟨bv6, kc6, rfl, N34, f39, f36, f37, f38, f43, f44, f42, f41⟩
def Q_zC0 (Z : State) (a : Addr) (ca : Addr) (ka : ClassId) (cs : Int32) (la : Addr) (h0 : Heap) (n0 : Nat) (v_ : Option Value) (h : Heap) (L_ : List Loc) : Prop := ∃ (lb : Addr) (kl : ClassId), v_ = none ∧ Fr n0 L_ ∧ Keep h0 h [a] ∧ Exa Z h a "java/lang/String" ∧ Fld Z h a "java/lang/String" "coder" "B" (.int 0) ∧ Fld Z h a "java/lang/String" "value" "[B" (.ref lb) ∧ Arv Z h lb kl .byte (0 : Int32) [] (.int 0) ∧ Exa Z h lb "[B" ∧ Fld Z h la "java/lang/String" "value" "[B" (.ref lb) ∧ Fld Z h la "java/lang/String" "coder" "B" (.int 0)
set_option maxRecDepth 65536 in
set_option maxHeartbeats 40000000 in
theorem rm_zC0 (l : Launch) (Z : State) (a0 : Array Value) (hw : ∀ d ∈ tables_1, d.before a0 Z = true) (ws : List Jvm.Cond) (a : Addr) (ca : Addr) (ka : ClassId) (cs : Int32) (h0 : Heap) (n0 : Nat) (Z0 : n0 ≤ h0.size) (O : Old Z n0 h0) (Scs : Sta Z Z.heap "java/lang/String" "COMPACT_STRINGS" "Z" (.int cs)) (hcs : ¬ (cs = (0 : Int32))) (hheld : Jvm.Lit.constHeld Z "java/lang/String" 7) (hcw : Jvm.Lit.compactW.before a0 Z = true) (Ea : Exa Z h0 a "java/lang/String") (Fv : Fld Z h0 a "java/lang/String" "value" "[B" .null) (Fc : Fld Z h0 a "java/lang/String" "coder" "B" (.int 0)) (ga : n0 ≤ a) (Vs : Arv Z h0 ca ka .char (0 : Int32) [] (.int 0)) :
    MetFree l (⟨"java/lang/String", "<init>", "([C)V"⟩ : MethodName) (head1 (Jvm.Cond.code (⟨"java/lang/String", "<init>", "([C)V"⟩ : MethodName) jdk_42_method_3_code 2 none :: ws) ({ frames := 2, cells := 2, slots := 4, locals := 29 } : Room)) (fun a_ U_ => a_ = #[(.ref a), (.ref ca)] ∧ Z.Warmed39 U_.vm ∧ U_.heap = h0 ∧ IB Z U_.vm []) (fun _ _ _ _ _ => True) (fun _ U_ o_ V_ => ∃ v_ L_ la, o_ = .returned v_ ∧ Q_zC0 Z a ca ka cs la h0 n0 v_ V_.heap L_ ∧ Lit V_ "java/lang/String" 7 la ∧ ReturnedEndW U_ o_ V_ L_ ({ frames := 2, cells := 2, slots := 4, locals := 29 } : Room).cells ({ frames := 2, cells := 2, slots := 4, locals := 29 } : Room).slots) := by
  refine MetFree.of_bodySF (plainFor_of_name pn2) hisR ?_
  intro p e s m args below meth c s₁ Bd hml0 hP hK
  obtain ⟨rfl, hZ, hh, hIB⟩ := hP
  have hx := Bd.exec
  have hby := Bd.bytes
  have hml : c.maxLocals = 2 := hml0
  have hown : s.vm.findClass "java/lang/String" = some m.cls := findClass_of_methodNamed Bd.named
  have hnm := (name_of_methodNamed Bd.named Bd.method).1
  have X0 : Stand p l e ({ frames := 2, cells := 2, slots := 4, locals := 29 } : Room) s m #[(.ref a), (.ref ca)] below meth c s₁ [] 0 0 := Stand.of_body Bd
  have e0 : s₁.heap = h0 := by rw [← hh, Bd.state]; rfl
  have N0 := Fr.nil n0
  have pre0 : own_Go p e below (s₁.setTop (entryFrame m #[(.ref a), (.ref ca)] 2)) (s₁.setTop (mkF m 0 #[r_ a, r_ ca] [])) := fun t_ k_ => castTop (ef2RR m a ca) k_
  obtain ⟨clV, ArV, -⟩ := id Vs
  have P1 := oS (s₁.setTop (mkF m 4 #[r_ a, r_ ca] [(.ref ca), (.int 0), (.ref ca), (.ref a)])) pre0 (by
    intro _ k_
    refine aN_ X0 hx hby d2_0 rfl rfl ?_
    refine aN_ X0 hx hby d2_1 rfl rfl ?_
    refine XS.iconst X0.here hx rfl (hb hby d2_2) ?_
    refine aN_ X0 hx hby d2_3 rfl rfl ?_
    exact k_)
  obtain ⟨cl2, Ar2, q2, S2, M2, H2, G2⟩ := id Vs
  have P3 := oS (s₁.setTop (mkF m 5 #[r_ a, r_ ca] [(.int 0), (.int 0), (.ref ca), (.ref a)])) P1 (by
    intro _ k_
    refine X0.arraylength hx (by rw [e0]; exact Ar2.1) (State.isArrayOf_alike hZ.alike Ar2.2.1) (g := (mkF m 4 #[r_ a, r_ ca] [(.ref ca), (.int 0), (.ref ca), (.ref a)])) rfl rfl (hb hby d2_4) _ ?_
    rw [len_of S2 M2]
    exact k_)
  have P4 := oS (s₁.setTop (mkF m 6 #[r_ a, r_ ca] [.null, (.int 0), (.int 0), (.ref ca), (.ref a)])) P3 (by
    intro _ k_
    refine XS.aconstNull X0.here hx rfl (hb hby d2_5) ?_
    exact k_)
  obtain ⟨_, _, ⟨T5, L5, k5, n5⟩, -, X5, hS5, hgr5, ⟨Lc5, la5, hQ5, hLt5, l5, y5, z5⟩, st5⟩ := X0.specialBackS hx (y := (⟨"java/lang/String", "<init>", "([CIILjava/lang/Void;)V"⟩ : MethodName)) rfl hown (mvT hZ (own_w hw 14 rfl)) (mvT hZ (own_w hw 15 rfl)) (mvT hZ (own_w hw 17 rfl)) (by decide) (own_backI2 (W := 0) (rm_zV0 l Z a0 hw [] a ca cs h0 n0 Z0 O Scs hcs hheld hcw Ea Fv Fc ga) hZ hIB (own_w hw 17 rfl) (own_w hw 10 rfl) (by decide) (by decide)) (g := (mkF m 6 #[r_ a, r_ ca] [.null, (.int 0), (.int 0), (.ref ca), (.ref a)])) rfl (by rw [hml]; rfl) (Steps.refl _) (a := a) (argsL := [(.ref ca), (.int 0), (.int 0), .null]) (rest := []) (lenOf pd3 rfl) rfl (by show 2 * 0 + _ ≤ _; exact Nat.le_of_eq rfl) (hb hby d2_6) (fun _ _ => ⟨rfl, e0, (by decide : 0 + 2 ≤ _), (by decide : 0 + 4 ≤ _)⟩)
  dsimp only [Pt.U, Pt.locs, Pt.cells, Pt.slots] at X5 l5 y5 z5 st5 hQ5 hS5 hgr5
  subst l5 y5 z5
  have hZw5 : Z.Warmed39 T5.vm := State.Warmed39.trans (t := s) hZ hS5.1
  have hownw5 : T5.vm.findClass "java/lang/String" = some m.cls := by rw [hS5.1.alike.findClass]; exact hown
  obtain ⟨lb5, kl5, rfl, N5q, K5, f6, f7, f8, f9, f10, f11, f12⟩ := hQ5
  have N5 := Fr.app N0 N5q
  have f17 := (Keep.refl h0 [a]).trans K5 (allS (Or.inl (List.mem_of_getElem? (i := 0) rfl)) all0)
  have P20 := oS (T5.setTop (mkF m 9 #[r_ a, r_ ca] [])) P4 (fun t_ k_ => st5.trans k_)
  obtain ⟨fs, hr, hrun, hended, hW⟩ := X5.leaveW hS5 (Nat.le_refl T5.heap.size) (v := none) (fun _ => rfl)
  refine ⟨_, _, P20 _ ?_, hrun, hended, _, _, la5, rfl, ?_, hLt5, ⟨hW.1, hW.2.1, hW.2.2.1, hW.2.2.2.mono (by decide) (by decide)⟩⟩
  · exact X5.returnOut hx Bd.returns (hb hby d2_9) hr
  · show Q_zC0 Z _ _ _ _ _ h0 n0 _ T5.heap _
    exact ⟨lb5, kl5, rfl, N5, f17, f6, f7, f8, f9, f10, f11, f12⟩
abbrev cB13 := jdk_42_method_27_code
abbrev yM13 : MethodName := ⟨"java/lang/String", "encode8859_1", "(B[BZ)[B"⟩
theorem d13_0 : own_d cB13 0 (.iload_n 0) 1 := by decide +kernel
theorem d13_1 : own_d cB13 1 (.ifCond .ne 11) 3 := by decide +kernel
theorem d13_4 : own_d cB13 4 (.aload_n 1) 1 := by decide +kernel
theorem d13_5 : own_d cB13 5 (.invokevirtual 279) 3 := by decide +kernel
theorem d13_8 : own_d cB13 8 (.checkcast 280) 3 := by decide +kernel
theorem d13_11 : own_d cB13 11 (.areturn) 1 := by decide +kernel
theorem ef13IRI (m : MethodId) (x0 : Int32) (x1 : Addr) (x2 : Int32) : entryFrame m #[(.int x0), (.ref x1), (.int x2)] 10 = mkF m 0 #[i_ x0, r_ x1, i_ x2, u_, u_, u_, u_, u_, u_, u_] [] := by first | (simp [entryFrame, mkF, argsToLocals, Value.category]; done) | rfl
def Q_e3 (Z : State) (b : Addr) (k : ClassId) (zl : Int32) (vs : List Value) (h0 : Heap) (n0 : Nat) (v_ : Option Value) (h : Heap) (L_ : List Loc) : Prop := ∃ (xq : Addr), v_ = some (.ref xq) ∧ Fr n0 L_ ∧ Keep h0 h [] ∧ h0.size ≤ xq ∧ Arv Z h xq k .byte zl vs (.int 0) ∧ Exa Z h xq "[B"
set_option maxRecDepth 65536 in
set_option maxHeartbeats 40000000 in
theorem rm_e3 (l : Launch) (Z : State) (a0 : Array Value) (hw : ∀ d ∈ tables_1, d.before a0 Z = true) (ws : List Jvm.Cond) (b : Addr) (k : ClassId) (zl : Int32) (vs : List Value) (h0 : Heap) (n0 : Nat) (Z0 : n0 ≤ h0.size) (O : Old Z n0 h0) (Vb : Arv Z h0 b k .byte zl vs (.int 0)) (Eb : Exa Z h0 b "[B") (hzl : zl.toNatClampNeg ≤ 8) :
    own_MF l yM13 (.code yM13 cB13 10 (some (.array .byte))) ws ⟨1, 1, 8, 14⟩ #[(.int 0), (.ref b), (.int 1)] Z h0 own_T (Q_e3 Z b k zl vs h0 n0) := by
  refine own_in "java/lang/String" rfl (plainFor_of_name pn2) hisR (fun m => ef13IRI m (0 : Int32) b (1 : Int32)) ?_
  intro p e s m below meth c s₁ A_ hx hby hml hown hnm hrt hlk hZ _ X0 e0 pre0
  have N0 := Fr.nil n0
  have P1 := oS (s₁.setTop (mkF m 1 #[i_ 0, r_ b, i_ 1, u_, u_, u_, u_, u_, u_, u_] [(.int 0)])) pre0 (by
    intro _ k_
    refine iN_ X0 hx hby d13_0 rfl ?_
    exact k_)
  have P2 := oS (s₁.setTop (mkF m 5 #[i_ 0, r_ b, i_ 1, u_, u_, u_, u_, u_, u_, u_] [(.ref b)])) P1 (by
    intro _ k_
    refine XS.ifNo X0.here hx rfl (hb hby d13_1) rfl ((if0 _ _).trans (teq (by decide : (0 : Int32) = (0 : Int32))).2) ?_
    refine aN_ X0 hx hby d13_4 rfl rfl ?_
    exact k_)
  obtain ⟨T3, h3, X3, e3, E3, V3, EA3, st3⟩ := cloneH X0 hx hZ hown (own_w hw 73 rfl) (own_w hw 74 rfl) (own_w hw 78 rfl) (own_w hw 76 rfl) (own_w hw 77 rfl) (own_w hw 79 rfl) e0 (Arv.arh Vb) Eb (g := (mkF m 5 #[i_ 0, r_ b, i_ 1, u_, u_, u_, u_, u_, u_, u_] [(.ref b)])) rfl (by rw [hml]; rfl) rfl (hb hby d13_5) (by decide) (W := 0) (cap := 8) (by show 2 * 0 + _ ≤ _; exact Nat.le_of_eq rfl) (by decide) hzl (by decide) (by decide)
  obtain ⟨b3, g3⟩ : ∃ z, z = h0.size := ⟨_, rfl⟩
  rw [← g3] at V3 EA3 st3
  have sz_b3 : h0.size ≤ b3 := Nat.le_trans (Keep.refl h0 []).1 (Nat.le_of_eq g3.symm)
  have f5 := (Keep.refl h0 []).ext E3
  have V3v : Arv Z h3 b3 k .byte zl vs (.int 0) := V3
  have P9 := oS (T3.setTop (mkF m 8 #[i_ 0, r_ b, i_ 1, u_, u_, u_, u_, u_, u_, u_] [(.ref b3)])) P2 (fun t_ k_ => st3 t_ k_)
  obtain ⟨T10, X10, e10, st10⟩ := castY X3 hx hZ hown (own_w hw 80 rfl) e3 (Ins.self EA3) (g := (mkF m 8 #[i_ 0, r_ b, i_ 1, u_, u_, u_, u_, u_, u_, u_] [(.ref b3)])) rfl rfl (hb hby d13_8)
  have P11 := oS (T10.setTop (mkF m 11 #[i_ 0, r_ b, i_ 1, u_, u_, u_, u_, u_, u_, u_] [(.ref b3)])) P9 (fun t_ k_ => st10 t_ k_)
  exact own_out X10 hlk (v := some (.ref b3)) (own_hv hrt) P11 (fun _ q_ => retOut X10 hx hrt rfl (Or.inr (Or.inr (Or.inr (Or.inr ⟨rfl, rfl, rfl⟩)))) (hb hby d13_11) q_) e10 ⟨b3, rfl, N0, f5, sz_b3, V3v, EA3⟩ (by decide)
theorem pd4 : parseMethodDescriptor "(B[BZ)[B" = some ⟨[.byte, (.array .byte), .boolean], some (.array .byte)⟩ := by decide +kernel
abbrev cB12 := jdk_42_method_26_code
abbrev yM12 : MethodName := ⟨"java/lang/String", "encode8859_1", "(B[B)[B"⟩
theorem d12_0 : own_d cB12 0 (.iload_n 0) 1 := by decide +kernel
theorem d12_1 : own_d cB12 1 (.aload_n 1) 1 := by decide +kernel
theorem d12_2 : own_d cB12 2 (.iconst 1) 1 := by decide +kernel
theorem d12_3 : own_d cB12 3 (.invokestatic 351) 3 := by decide +kernel
theorem d12_6 : own_d cB12 6 (.areturn) 1 := by decide +kernel
theorem ef12IR (m : MethodId) (x0 : Int32) (x1 : Addr) : entryFrame m #[(.int x0), (.ref x1)] 2 = mkF m 0 #[i_ x0, r_ x1] [] := by first | (simp [entryFrame, mkF, argsToLocals, Value.category]; done) | rfl
def Q_e2 (Z : State) (b : Addr) (k : ClassId) (zl : Int32) (vs : List Value) (h0 : Heap) (n0 : Nat) (v_ : Option Value) (h : Heap) (L_ : List Loc) : Prop := ∃ (xq : Addr), v_ = some (.ref xq) ∧ Fr n0 L_ ∧ Keep h0 h [] ∧ h0.size ≤ xq ∧ Arv Z h xq k .byte zl vs (.int 0) ∧ Exa Z h xq "[B"
set_option maxRecDepth 65536 in
set_option maxHeartbeats 40000000 in
theorem rm_e2 (l : Launch) (Z : State) (a0 : Array Value) (hw : ∀ d ∈ tables_1, d.before a0 Z = true) (ws : List Jvm.Cond) (b : Addr) (k : ClassId) (zl : Int32) (vs : List Value) (h0 : Heap) (n0 : Nat) (Z0 : n0 ≤ h0.size) (O : Old Z n0 h0) (Vb : Arv Z h0 b k .byte zl vs (.int 0)) (Eb : Exa Z h0 b "[B") (hzl : zl.toNatClampNeg ≤ 8) :
    own_MF l yM12 (.code yM12 cB12 2 (some (.array .byte))) ws ⟨2, 1, 8, 35⟩ #[(.int 0), (.ref b)] Z h0 own_T (Q_e2 Z b k zl vs h0 n0) := by
  refine own_in "java/lang/String" rfl (plainFor_of_name pn2) hisR (fun m => ef12IR m (0 : Int32) b) ?_
  intro p e s m below meth c s₁ A_ hx hby hml hown hnm hrt hlk hZ _ X0 e0 pre0
  have N0 := Fr.nil n0
  have P1 := oS (s₁.setTop (mkF m 3 #[i_ 0, r_ b] [(.int 1), (.ref b), (.int 0)])) pre0 (by
    intro _ k_
    refine iN_ X0 hx hby d12_0 rfl ?_
    refine aN_ X0 hx hby d12_1 rfl rfl ?_
    refine XS.iconst X0.here hx rfl (hb hby d12_2) ?_
    exact k_)
  obtain ⟨_, T2, L2, X2, hQ2, P2c⟩ := own_cS (W := 0) (rm_e3 l Z a0 hw [] b k zl vs h0 n0 Z0 O Vb Eb hzl) X0 hx hZ (fun _ _ => trivial) hown (own_w hw 70 rfl) (own_w hw 71 rfl) (own_w hw 10 rfl) (own_w hw 72 rfl) (by decide) P1 hml rfl [(.int 0), (.ref b), (.int 1)] [] rfl rfl rfl pd4 rfl (hb hby d12_3) e0 (by decide)
  obtain ⟨xq2, rfl, N2q, K2, f3, f4, f5⟩ := hQ2
  have N2 := Fr.app N0 N2q
  have sz_xq2 : h0.size ≤ xq2 := Nat.le_trans (Keep.refl h0 []).1 f3
  have f7 := (Keep.refl h0 []).trans K2 all0
  have P11 := own_to (C := T2.setTop (mkF m 6 #[i_ 0, r_ b] [(.ref xq2)])) P2c
  exact own_out X2 hlk (v := some (.ref xq2)) (own_hv hrt) P11 (fun _ q_ => retOut X2 hx hrt rfl (Or.inr (Or.inr (Or.inr (Or.inr ⟨rfl, rfl, rfl⟩)))) (hb hby d12_6) q_) (rfl : T2.heap = _) ⟨xq2, rfl, N2, f7, sz_xq2, f4, f5⟩ (by decide)
theorem pd5 : parseMethodDescriptor "(B[B)[B" = some ⟨[.byte, (.array .byte)], some (.array .byte)⟩ := by decide +kernel
abbrev cB11 := jdk_42_method_18_code
abbrev yM11 : MethodName := ⟨"java/lang/String", "encode", "(Ljava/nio/charset/Charset;B[B)[B"⟩
theorem d11_0 : own_d cB11 0 (.aload_n 0) 1 := by decide +kernel
theorem d11_1 : own_d cB11 1 (.getstatic 86) 3 := by decide +kernel
theorem d11_4 : own_d cB11 4 (.if_acmp .ne 10) 3 := by decide +kernel
theorem d11_14 : own_d cB11 14 (.aload_n 0) 1 := by decide +kernel
theorem d11_15 : own_d cB11 15 (.getstatic 116) 3 := by decide +kernel
theorem d11_18 : own_d cB11 18 (.if_acmp .ne 9) 3 := by decide +kernel
theorem d11_21 : own_d cB11 21 (.iload_n 1) 1 := by decide +kernel
theorem d11_22 : own_d cB11 22 (.aload_n 2) 1 := by decide +kernel
theorem d11_23 : own_d cB11 23 (.invokestatic 256) 3 := by decide +kernel
theorem d11_26 : own_d cB11 26 (.areturn) 1 := by decide +kernel
theorem ef11RIR (m : MethodId) (x0 : Addr) (x1 : Int32) (x2 : Addr) : entryFrame m #[(.ref x0), (.int x1), (.ref x2)] 3 = mkF m 0 #[r_ x0, i_ x1, r_ x2] [] := by first | (simp [entryFrame, mkF, argsToLocals, Value.category]; done) | rfl
def Q_e1 (Z : State) (b : Addr) (k : ClassId) (zl : Int32) (vs : List Value) (riso : Addr) (rutf : Addr) (h0 : Heap) (n0 : Nat) (v_ : Option Value) (h : Heap) (L_ : List Loc) : Prop := ∃ (xq : Addr), v_ = some (.ref xq) ∧ Fr n0 L_ ∧ Keep h0 h [] ∧ h0.size ≤ xq ∧ Arv Z h xq k .byte zl vs (.int 0) ∧ Exa Z h xq "[B"
set_option maxRecDepth 65536 in
set_option maxHeartbeats 40000000 in
theorem rm_e1 (l : Launch) (Z : State) (a0 : Array Value) (hw : ∀ d ∈ tables_1, d.before a0 Z = true) (ws : List Jvm.Cond) (b : Addr) (k : ClassId) (zl : Int32) (vs : List Value) (riso : Addr) (rutf : Addr) (h0 : Heap) (n0 : Nat) (Z0 : n0 ≤ h0.size) (O : Old Z n0 h0) (Siso : Sta Z Z.heap "sun/nio/cs/ISO_8859_1" "INSTANCE" "Lsun/nio/cs/ISO_8859_1;" (.ref riso)) (Sutf : Sta Z Z.heap "sun/nio/cs/UTF_8" "INSTANCE" "Lsun/nio/cs/UTF_8;" (.ref rutf)) (nci : riso ≠ rutf) (Vb : Arv Z h0 b k .byte zl vs (.int 0)) (Eb : Exa Z h0 b "[B") (hzl : zl.toNatClampNeg ≤ 8) :
    own_MF l yM11 (.code yM11 cB11 3 (some (.array .byte))) ws ⟨3, 1, 8, 48⟩ #[(.ref riso), (.int 0), (.ref b)] Z h0 own_T (Q_e1 Z b k zl vs riso rutf h0 n0) := by
  refine own_in "java/lang/String" rfl (plainFor_of_name pn2) hisR (fun m => ef11RIR m riso (0 : Int32) b) ?_
  intro p e s m below meth c s₁ A_ hx hby hml hown hnm hrt hlk hZ _ X0 e0 pre0
  have N0 := Fr.nil n0
  have P1 := oS (s₁.setTop (mkF m 1 #[r_ riso, i_ 0, r_ b] [(.ref riso)])) pre0 (by
    intro _ k_
    refine aN_ X0 hx hby d11_0 rfl rfl ?_
    exact k_)
  obtain ⟨T2, X2, e2, st2⟩ := getS2 X0 hx hZ hown (host := "") (Or.inl (own_w hw 64 rfl)) Via.refl e0 (Sutf.ext O.2) (g := (mkF m 1 #[r_ riso, i_ 0, r_ b] [(.ref riso)])) rfl (hb hby d11_1)
  have P3 := oS (T2.setTop (mkF m 4 #[r_ riso, i_ 0, r_ b] [(.ref rutf), (.ref riso)])) P1 (fun t_ k_ => st2 t_ k_)
  have P4 := oS (T2.setTop (mkF m 14 #[r_ riso, i_ 0, r_ b] [])) P3 (by
    intro _ k_
    refine Jvm.RoadKit.acmp (g := (mkF m 4 #[r_ riso, i_ 0, r_ b] [(.ref rutf), (.ref riso)])) X2 hx rfl rfl rfl (pc0 := 4) (pc' := 14) (same := false) rfl (hb hby d11_4) rfl (decide_eq_false fun q => nci (Value.ref.inj q)) (by decide) (by decide) ?_
    exact k_)
  have P5 := oS (T2.setTop (mkF m 15 #[r_ riso, i_ 0, r_ b] [(.ref riso)])) P4 (by
    intro _ k_
    refine aN_ X2 hx hby d11_14 rfl rfl ?_
    exact k_)
  obtain ⟨T6, X6, e6, st6⟩ := getS2 X2 hx hZ hown (host := "") (Or.inl (own_w hw 66 rfl)) Via.refl e2 (Siso.ext O.2) (g := (mkF m 15 #[r_ riso, i_ 0, r_ b] [(.ref riso)])) rfl (hb hby d11_15)
  have P7 := oS (T6.setTop (mkF m 18 #[r_ riso, i_ 0, r_ b] [(.ref riso), (.ref riso)])) P5 (fun t_ k_ => st6 t_ k_)
  have P8 := oS (T6.setTop (mkF m 21 #[r_ riso, i_ 0, r_ b] [])) P7 (by
    intro _ k_
    refine Jvm.RoadKit.acmp (g := (mkF m 18 #[r_ riso, i_ 0, r_ b] [(.ref riso), (.ref riso)])) X6 hx rfl rfl rfl (pc0 := 18) (pc' := 21) (same := true) rfl (hb hby d11_18) rfl (decide_eq_true (congrArg Value.ref (rfl : riso = riso))) (by decide) (by decide) ?_
    exact k_)
  have P9 := oS (T6.setTop (mkF m 23 #[r_ riso, i_ 0, r_ b] [(.ref b), (.int 0)])) P8 (by
    intro _ k_
    refine iN_ X6 hx hby d11_21 rfl ?_
    refine aN_ X6 hx hby d11_22 rfl rfl ?_
    exact k_)
  obtain ⟨_, T10, L10, X10, hQ10, P10c⟩ := own_cS (W := 0) (rm_e2 l Z a0 hw [] b k zl vs h0 n0 Z0 O Vb Eb hzl) X6 hx hZ (fun _ _ => trivial) hown (own_w hw 67 rfl) (own_w hw 68 rfl) (own_w hw 10 rfl) (own_w hw 69 rfl) (by decide) P9 hml rfl [(.int 0), (.ref b)] [] rfl rfl rfl pd5 rfl (hb hby d11_23) e6 (by decide)
  obtain ⟨xq10, rfl, N10q, K10, f11, f12, f13⟩ := hQ10
  have N10 := Fr.app N0 N10q
  have sz_xq10 : h0.size ≤ xq10 := Nat.le_trans (Keep.refl h0 []).1 f11
  have f15 := (Keep.refl h0 []).trans K10 all0
  have P19 := own_to (C := T10.setTop (mkF m 26 #[r_ riso, i_ 0, r_ b] [(.ref xq10)])) P10c
  exact own_out X10 hlk (v := some (.ref xq10)) (own_hv hrt) P19 (fun _ q_ => retOut X10 hx hrt rfl (Or.inr (Or.inr (Or.inr (Or.inr ⟨rfl, rfl, rfl⟩)))) (hb hby d11_26) q_) (rfl : T10.heap = _) ⟨xq10, rfl, N10, f15, sz_xq10, f12, f13⟩ (by decide)
abbrev cB10 := jdk_42_method_152_code
abbrev yM10 : MethodName := ⟨"java/lang/String", "coder", "()B"⟩
theorem d10_0 : own_d cB10 0 (.getstatic 38) 3 := by decide +kernel
theorem d10_3 : own_d cB10 3 (.ifCond .eq 10) 3 := by decide +kernel
theorem d10_6 : own_d cB10 6 (.aload_n 0) 1 := by decide +kernel
theorem d10_7 : own_d cB10 7 (.getfield 15) 3 := by decide +kernel
theorem d10_10 : own_d cB10 10 (.goto 4) 3 := by decide +kernel
theorem d10_14 : own_d cB10 14 (.ireturn) 1 := by decide +kernel
theorem ef10R (m : MethodId) (x0 : Addr) : entryFrame m #[(.ref x0)] 1 = mkF m 0 #[r_ x0] [] := by first | (simp [entryFrame, mkF, argsToLocals, Value.category]; done) | rfl
def Q_coder0 (Z : State) (a : Addr) (cs : Int32) (h0 : Heap) (n0 : Nat) (v_ : Option Value) (h : Heap) (L_ : List Loc) : Prop := v_ = some (.int 0) ∧ Fr n0 L_ ∧ h = h0
set_option maxRecDepth 65536 in
set_option maxHeartbeats 40000000 in
theorem rm_coder0 (l : Launch) (Z : State) (a0 : Array Value) (hw : ∀ d ∈ tables_1, d.before a0 Z = true) (ws : List Jvm.Cond) (a : Addr) (cs : Int32) (h0 : Heap) (n0 : Nat) (Z0 : n0 ≤ h0.size) (O : Old Z n0 h0) (Scs : Sta Z Z.heap "java/lang/String" "COMPACT_STRINGS" "Z" (.int cs)) (hcs : ¬ (cs = (0 : Int32))) (Fc : Fld Z h0 a "java/lang/String" "coder" "B" (.int 0)) :
    own_MF l yM10 (.code yM10 cB10 1 (some .byte)) ws ⟨0, 0, 0, 0⟩ #[(.ref a)] Z h0 own_T (Q_coder0 Z a cs h0 n0) := by
  refine own_in "java/lang/String" rfl (plainFor_of_name pn2) hisR (fun m => ef10R m a) ?_
  intro p e s m below meth c s₁ A_ hx hby hml hown hnm hrt hlk hZ _ X0 e0 pre0
  have N0 := Fr.nil n0
  obtain ⟨T1, X1, e1, st1⟩ := getS2 X0 hx hZ hown (host := "") (Or.inl (own_w hw 21 rfl)) Via.refl e0 (Scs.ext O.2) (g := (mkF m 0 #[r_ a] [])) rfl (hb hby d10_0)
  have P2 := oS (T1.setTop (mkF m 3 #[r_ a] [(.int cs)])) pre0 (fun t_ k_ => st1 t_ k_)
  have P3 := oS (T1.setTop (mkF m 7 #[r_ a] [(.ref a)])) P2 (by
    intro _ k_
    refine XS.ifNo X1.here hx rfl (hb hby d10_3) rfl ((if0 _ _).trans (feq hcs).1) ?_
    refine aN_ X1 hx hby d10_6 rfl rfl ?_
    exact k_)
  obtain ⟨T4, X4, e4, st4⟩ := getF X1 hx hZ hown (host := "") (Or.inl (own_w hw 33 rfl)) Via.refl e1 Fc (g := (mkF m 7 #[r_ a] [(.ref a)])) rfl rfl (hb hby d10_7)
  have P5 := oS (T4.setTop (mkF m 10 #[r_ a] [(.int 0)])) P3 (fun t_ k_ => st4 t_ k_)
  have P6 := oS (T4.setTop (mkF m 14 #[r_ a] [(.int 0)])) P5 (by
    intro _ k_
    refine gt_ X4 hx hby d10_10 (pc := 10) (pc' := 14) (by decide) ?_
    exact k_)
  exact own_out X4 hlk (v := some (.int 0)) (own_hv hrt) P6 (fun _ q_ => retN X4 hx (t := .byte) hrt (by simp) (hb hby d10_14) q_) e4 ⟨rfl, N0, rfl⟩ (by decide)
theorem pd6 : parseMethodDescriptor "()B" = some ⟨[], some .byte⟩ := by decide +kernel
theorem pd7 : parseMethodDescriptor "(Ljava/nio/charset/Charset;B[B)[B" = some ⟨[(.object "java/nio/charset/Charset"), .byte, (.array .byte)], some (.array .byte)⟩ := by decide +kernel
abbrev cB9 := jdk_42_method_64_code
abbrev yM9 : MethodName := ⟨"java/lang/String", "getBytes", "(Ljava/nio/charset/Charset;)[B"⟩
theorem d9_0 : own_d cB9 0 (.aload_n 1) 1 := by decide +kernel
theorem d9_1 : own_d cB9 1 (.ifnonnull 11) 3 := by decide +kernel
theorem d9_12 : own_d cB9 12 (.aload_n 1) 1 := by decide +kernel
theorem d9_13 : own_d cB9 13 (.aload_n 0) 1 := by decide +kernel
theorem d9_14 : own_d cB9 14 (.invokevirtual 335) 3 := by decide +kernel
theorem d9_17 : own_d cB9 17 (.aload_n 0) 1 := by decide +kernel
theorem d9_18 : own_d cB9 18 (.getfield 9) 3 := by decide +kernel
theorem d9_21 : own_d cB9 21 (.invokestatic 535) 3 := by decide +kernel
theorem d9_24 : own_d cB9 24 (.areturn) 1 := by decide +kernel
theorem ef9RR (m : MethodId) (x0 : Addr) (x1 : Addr) : entryFrame m #[(.ref x0), (.ref x1)] 2 = mkF m 0 #[r_ x0, r_ x1] [] := by first | (simp [entryFrame, mkF, argsToLocals, Value.category]; done) | rfl
def Q_getB (Z : State) (a : Addr) (b : Addr) (k : ClassId) (zl : Int32) (vs : List Value) (riso : Addr) (rutf : Addr) (cs : Int32) (h0 : Heap) (n0 : Nat) (v_ : Option Value) (h : Heap) (L_ : List Loc) : Prop := ∃ (xq : Addr), v_ = some (.ref xq) ∧ Fr n0 L_ ∧ Keep h0 h [] ∧ h0.size ≤ xq ∧ Arv Z h xq k .byte zl vs (.int 0) ∧ Exa Z h xq "[B"
set_option maxRecDepth 65536 in
set_option maxHeartbeats 40000000 in
theorem rm_getB (l : Launch) (Z : State) (a0 : Array Value) (hw : ∀ d ∈ tables_1, d.before a0 Z = true) (ws : List Jvm.Cond) (a : Addr) (b : Addr) (k : ClassId) (zl : Int32) (vs : List Value) (riso : Addr) (rutf : Addr) (cs : Int32) (h0 : Heap) (n0 : Nat) (Z0 : n0 ≤ h0.size) (O : Old Z n0 h0) (Scs : Sta Z Z.heap "java/lang/String" "COMPACT_STRINGS" "Z" (.int cs)) (hcs : ¬ (cs = (0 : Int32))) (Siso : Sta Z Z.heap "sun/nio/cs/ISO_8859_1" "INSTANCE" "Lsun/nio/cs/ISO_8859_1;" (.ref riso)) (Sutf : Sta Z Z.heap "sun/nio/cs/UTF_8" "INSTANCE" "Lsun/nio/cs/UTF_8;" (.ref rutf)) (nci : riso ≠ rutf) (Ea : Exa Z h0 a "java/lang/String") (Fc : Fld Z h0 a "java/lang/String" "coder" "B" (.int 0)) (Fv : Fld Z h0 a "java/lang/String" "value" "[B" (.ref b)) (Vb : Arv Z h0 b k .byte zl vs (.int 0)) (Eb : Exa Z h0 b "[B") (hzl : zl.toNatClampNeg ≤ 8) :
    own_MF l yM9 (.code yM9 cB9 2 (some (.array .byte))) ws ⟨4, 1, 8, 62⟩ #[(.ref a), (.ref riso)] Z h0 own_T (Q_getB Z a b k zl vs riso rutf cs h0 n0) := by
  refine own_in "java/lang/String" rfl (plainFor_of_name pn2) hisR (fun m => ef9RR m a riso) ?_
  intro p e s m below meth c s₁ A_ hx hby hml hown hnm hrt hlk hZ _ X0 e0 pre0
  have N0 := Fr.nil n0
  have P1 := oS (s₁.setTop (mkF m 1 #[r_ a, r_ riso] [(.ref riso)])) pre0 (by
    intro _ k_
    refine aN_ X0 hx hby d9_0 rfl rfl ?_
    exact k_)
  have P2 := oS (s₁.setTop (mkF m 12 #[r_ a, r_ riso] [])) P1 (by
    intro _ k_
    refine XS.ifnonnullYes X0.here hx rfl (pc0 := 1) (pc' := 12) rfl (hb hby d9_1) rfl (by decide) (by decide) ?_
    exact k_)
  have P3 := oS (s₁.setTop (mkF m 14 #[r_ a, r_ riso] [(.ref a), (.ref riso)])) P2 (by
    intro _ k_
    refine aN_ X0 hx hby d9_12 rfl rfl ?_
    refine aN_ X0 hx hby d9_13 rfl rfl ?_
    exact k_)
  obtain ⟨_, T4, L4, X4, hQ4, P4c⟩ := own_cV (W := 1) (rm_coder0 l Z a0 hw [] a cs h0 n0 Z0 O Scs hcs Fc) X0 hx hZ (fun _ _ => trivial) hown Ea (own_w hw 56 rfl) (own_w hw 57 rfl) (own_w hw 59 rfl) (own_w hw 58 rfl) (own_w hw 10 rfl) (own_w hw 60 rfl) (by decide) P3 hml rfl [] [(.ref riso)] rfl rfl rfl pd6 rfl (hb hby d9_14) e0 (by decide)
  obtain ⟨rfl, N4q, e4⟩ := hQ4
  have N4 := Fr.app N0 N4q
  have P5 := own_to (C := T4.setTop (mkF m 17 #[r_ a, r_ riso] [(.int 0), (.ref riso)])) P4c
  have P6 := oS (T4.setTop (mkF m 18 #[r_ a, r_ riso] [(.ref a), (.int 0), (.ref riso)])) P5 (by
    intro _ k_
    refine aN_ X4 hx hby d9_17 rfl rfl ?_
    exact k_)
  obtain ⟨T7, X7, e7, st7⟩ := getF X4 hx hZ hown (host := "") (Or.inl (own_w hw 35 rfl)) Via.refl e4 Fv (g := (mkF m 18 #[r_ a, r_ riso] [(.ref a), (.int 0), (.ref riso)])) rfl rfl (hb hby d9_18)
  have P8 := oS (T7.setTop (mkF m 21 #[r_ a, r_ riso] [(.ref b), (.int 0), (.ref riso)])) P6 (fun t_ k_ => st7 t_ k_)
  obtain ⟨_, T9, L9, X9, hQ9, P9c⟩ := own_cS (W := 0) (rm_e1 l Z a0 hw [] b k zl vs riso rutf h0 n0 Z0 O Siso Sutf nci Vb Eb hzl) X7 hx hZ (fun _ _ => trivial) hown (own_w hw 61 rfl) (own_w hw 62 rfl) (own_w hw 10 rfl) (own_w hw 63 rfl) (by decide) P8 hml rfl [(.ref riso), (.int 0), (.ref b)] [] rfl rfl rfl pd7 rfl (hb hby d9_21) e7 (by decide)
  obtain ⟨xq9, rfl, N9q, K9, f10, f11, f12⟩ := hQ9
  have N9 := Fr.app N4 N9q
  have sz_xq9 : h0.size ≤ xq9 := Nat.le_trans (Keep.refl h0 []).1 f10
  have f14 := (Keep.refl h0 []).trans K9 all0
  have P21 := own_to (C := T9.setTop (mkF m 24 #[r_ a, r_ riso] [(.ref xq9)])) P9c
  exact own_out X9 hlk (v := some (.ref xq9)) (own_hv hrt) P21 (fun _ q_ => retOut X9 hx hrt rfl (Or.inr (Or.inr (Or.inr (Or.inr ⟨rfl, rfl, rfl⟩)))) (hb hby d9_24) q_) (rfl : T9.heap = _) ⟨xq9, rfl, N9, f14, sz_xq9, f11, f12⟩ (by decide)
def own_dolF (zl : Int32) : Int32 := (if (zl - (0 : Int32)) = (0 : Int32) then (0 : Int32) else (if ((zl - (0 : Int32)) &&& 3) = (0 : Int32) then (((3 : Int32) * (((((zl - (0 : Int32)).toInt64) + (3 : Int64)) / (4 : Int64)).toInt32)) - (0 : Int32)) else (((3 : Int32) * (((((zl - (0 : Int32)).toInt64) + (3 : Int64)) / (4 : Int64)).toInt32)) - ((4 : Int32) - ((zl - (0 : Int32)) &&& 3)))))
abbrev cB15 := jdk_2450_method_7_code
abbrev yM15 : MethodName := ⟨"java/util/Base64$Decoder", "decodedOutLength", "([BII)I"⟩
theorem d15_0 : own_d cB15 0 (.aload_n 0) 1 := by decide +kernel
theorem d15_1 : own_d cB15 1 (.getfield 7) 3 := by decide +kernel
theorem d15_4 : own_d cB15 4 (.ifCond .eq 9) 3 := by decide +kernel
theorem d15_7 : own_d cB15 7 (.getstatic 95) 3 := by decide +kernel
theorem d15_10 : own_d cB15 10 (.goto 6) 3 := by decide +kernel
theorem d15_16 : own_d cB15 16 (.astore 4) 2 := by decide +kernel
theorem d15_18 : own_d cB15 18 (.iconst 0) 1 := by decide +kernel
theorem d15_19 : own_d cB15 19 (.istore 5) 2 := by decide +kernel
theorem d15_21 : own_d cB15 21 (.iload_n 3) 1 := by decide +kernel
theorem d15_22 : own_d cB15 22 (.iload_n 2) 1 := by decide +kernel
theorem d15_23 : own_d cB15 23 (.isub) 1 := by decide +kernel
theorem d15_24 : own_d cB15 24 (.istore 6) 2 := by decide +kernel
theorem d15_26 : own_d cB15 26 (.iload 6) 2 := by decide +kernel
theorem d15_28 : own_d cB15 28 (.ifCond .ne 5) 3 := by decide +kernel
theorem d15_31 : own_d cB15 31 (.iconst 0) 1 := by decide +kernel
theorem d15_32 : own_d cB15 32 (.ireturn) 1 := by decide +kernel
theorem d15_33 : own_d cB15 33 (.iload 6) 2 := by decide +kernel
theorem d15_35 : own_d cB15 35 (.iconst 2) 1 := by decide +kernel
theorem d15_36 : own_d cB15 36 (.if_icmp .ge 30) 3 := by decide +kernel
theorem d15_66 : own_d cB15 66 (.aload_n 0) 1 := by decide +kernel
theorem d15_67 : own_d cB15 67 (.getfield 13) 3 := by decide +kernel
theorem d15_70 : own_d cB15 70 (.ifCond .eq 71) 3 := by decide +kernel
theorem d15_141 : own_d cB15 141 (.aload_n 1) 1 := by decide +kernel
theorem d15_142 : own_d cB15 142 (.iload_n 3) 1 := by decide +kernel
theorem d15_143 : own_d cB15 143 (.iconst 1) 1 := by decide +kernel
theorem d15_144 : own_d cB15 144 (.isub) 1 := by decide +kernel
theorem d15_145 : own_d cB15 145 (.baload) 1 := by decide +kernel
theorem d15_146 : own_d cB15 146 (.bipush 61) 2 := by decide +kernel
theorem d15_148 : own_d cB15 148 (.if_icmp .ne 19) 3 := by decide +kernel
theorem d15_167 : own_d cB15 167 (.iload 5) 2 := by decide +kernel
theorem d15_169 : own_d cB15 169 (.ifCond .ne 18) 3 := by decide +kernel
theorem d15_172 : own_d cB15 172 (.iload 6) 2 := by decide +kernel
theorem d15_174 : own_d cB15 174 (.iconst 3) 1 := by decide +kernel
theorem d15_175 : own_d cB15 175 (.iand) 1 := by decide +kernel
theorem d15_176 : own_d cB15 176 (.ifCond .eq 11) 3 := by decide +kernel
theorem d15_179 : own_d cB15 179 (.iconst 4) 1 := by decide +kernel
theorem d15_180 : own_d cB15 180 (.iload 6) 2 := by decide +kernel
theorem d15_182 : own_d cB15 182 (.iconst 3) 1 := by decide +kernel
theorem d15_183 : own_d cB15 183 (.iand) 1 := by decide +kernel
theorem d15_184 : own_d cB15 184 (.isub) 1 := by decide +kernel
theorem d15_185 : own_d cB15 185 (.istore 5) 2 := by decide +kernel
theorem d15_187 : own_d cB15 187 (.iconst 3) 1 := by decide +kernel
theorem d15_188 : own_d cB15 188 (.iload 6) 2 := by decide +kernel
theorem d15_190 : own_d cB15 190 (.i2l) 1 := by decide +kernel
theorem d15_191 : own_d cB15 191 (.ldc2_w 107) 3 := by decide +kernel
theorem d15_194 : own_d cB15 194 (.ladd) 1 := by decide +kernel
theorem d15_195 : own_d cB15 195 (.ldc2_w 109) 3 := by decide +kernel
theorem d15_198 : own_d cB15 198 (.ldiv) 1 := by decide +kernel
theorem d15_199 : own_d cB15 199 (.l2i) 1 := by decide +kernel
theorem d15_200 : own_d cB15 200 (.imul) 1 := by decide +kernel
theorem d15_201 : own_d cB15 201 (.iload 5) 2 := by decide +kernel
theorem d15_203 : own_d cB15 203 (.isub) 1 := by decide +kernel
theorem d15_204 : own_d cB15 204 (.ireturn) 1 := by decide +kernel
theorem ef15RRII (m : MethodId) (x0 : Addr) (x1 : Addr) (x2 : Int32) (x3 : Int32) : entryFrame m #[(.ref x0), (.ref x1), (.int x2), (.int x3)] 9 = mkF m 0 #[r_ x0, r_ x1, i_ x2, i_ x3, u_, u_, u_, u_, u_] [] := by first | (simp [entryFrame, mkF, argsToLocals, Value.category]; done) | rfl
def Q_dol (Z : State) (de : Addr) (b : Addr) (k : ClassId) (zl : Int32) (zk : Int32) (vs : List Value) (rdt : Addr) (h0 : Heap) (n0 : Nat) (v_ : Option Value) (h : Heap) (L_ : List Loc) : Prop := v_ = some (.int zk) ∧ Fr n0 L_ ∧ h = h0
theorem pn3 : plainName "java/util/Base64$Decoder" = true := by first | (simp [plainName, overriddenIn]; done) | decide +kernel
set_option maxRecDepth 65536 in
set_option maxHeartbeats 40000000 in
theorem rm_dol (l : Launch) (Z : State) (a0 : Array Value) (hw : ∀ d ∈ tables_1, d.before a0 Z = true) (ws : List Jvm.Cond) (de : Addr) (b : Addr) (k : ClassId) (zl : Int32) (zk : Int32) (vs : List Value) (rdt : Addr) (h0 : Heap) (n0 : Nat) (Z0 : n0 ≤ h0.size) (O : Old Z n0 h0) (Sdt : Sta Z Z.heap "java/util/Base64$Decoder" "fromBase64URL" "[I" (.ref rdt)) (Fu : Fld Z h0 de "java/util/Base64$Decoder" "isURL" "Z" (.int 1)) (Fm : Fld Z h0 de "java/util/Base64$Decoder" "isMIME" "Z" (.int 0)) (Vb : Arv Z h0 b k .byte zl vs (.int 0)) (hz : own_dz zl vs) (hk : own_dolF zl = zk) :
    own_MF l yM15 (.code yM15 cB15 9 (some .int)) ws ⟨0, 0, 0, 0⟩ #[(.ref de), (.ref b), (.int 0), (.int zl)] Z h0 own_T (Q_dol Z de b k zl zk vs rdt h0 n0) := by
  refine own_in "java/util/Base64$Decoder" rfl (plainFor_of_name pn3) hisR (fun m => ef15RRII m de b (0 : Int32) zl) ?_
  intro p e s m below meth c s₁ A_ hx hby hml hown hnm hrt hlk hZ _ X0 e0 pre0
  have N0 := Fr.nil n0
  have P1 := oS (s₁.setTop (mkF m 1 #[r_ de, r_ b, i_ 0, i_ zl, u_, u_, u_, u_, u_] [(.ref de)])) pre0 (by
    intro _ k_
    refine aN_ X0 hx hby d15_0 rfl rfl ?_
    exact k_)
  obtain ⟨T2, X2, e2, st2⟩ := getF X0 hx hZ hown (host := "") (Or.inl (own_w hw 92 rfl)) Via.refl e0 Fu (g := (mkF m 1 #[r_ de, r_ b, i_ 0, i_ zl, u_, u_, u_, u_, u_] [(.ref de)])) rfl rfl (hb hby d15_1)
  have P3 := oS (T2.setTop (mkF m 4 #[r_ de, r_ b, i_ 0, i_ zl, u_, u_, u_, u_, u_] [(.int 1)])) P1 (fun t_ k_ => st2 t_ k_)
  have P4 := oS (T2.setTop (mkF m 7 #[r_ de, r_ b, i_ 0, i_ zl, u_, u_, u_, u_, u_] [])) P3 (by
    intro _ k_
    refine XS.ifNo X2.here hx rfl (hb hby d15_4) rfl ((if0 _ _).trans (feq (by decide : ¬ ((1 : Int32) = (0 : Int32)))).1) ?_
    exact k_)
  obtain ⟨T5, X5, e5, st5⟩ := getS2 X2 hx hZ hown (host := "") (Or.inl (own_w hw 94 rfl)) Via.refl e2 (Sdt.ext O.2) (g := (mkF m 7 #[r_ de, r_ b, i_ 0, i_ zl, u_, u_, u_, u_, u_] [])) rfl (hb hby d15_7)
  have P6 := oS (T5.setTop (mkF m 10 #[r_ de, r_ b, i_ 0, i_ zl, u_, u_, u_, u_, u_] [(.ref rdt)])) P4 (fun t_ k_ => st5 t_ k_)
  have P7 := oS (T5.setTop (mkF m 28 #[r_ de, r_ b, i_ 0, i_ zl, r_ rdt, i_ 0, i_ (zl - (0 : Int32)), u_, u_] [(.int (zl - (0 : Int32)))])) P6 (by
    intro _ k_
    refine gt_ X5 hx hby d15_10 (pc := 10) (pc' := 16) (by decide) ?_
    refine XS.astore X5.here hx rfl (hb hby d15_16) rfl rfl (l' := #[r_ de, r_ b, i_ 0, i_ zl, r_ rdt, u_, u_, u_, u_]) rfl ?_
    refine XS.iconst X5.here hx rfl (hb hby d15_18) ?_
    refine is_ X5 hx hby d15_19 (l' := #[r_ de, r_ b, i_ 0, i_ zl, r_ rdt, i_ 0, u_, u_, u_]) rfl ?_
    refine iN_ X5 hx hby d15_21 rfl ?_
    refine iN_ X5 hx hby d15_22 rfl ?_
    refine XS.isub X5.here hx rfl (hb hby d15_23) rfl ?_
    refine is_ X5 hx hby d15_24 (l' := #[r_ de, r_ b, i_ 0, i_ zl, r_ rdt, i_ 0, i_ (zl - (0 : Int32)), u_, u_]) rfl ?_
    refine il_ X5 hx hby d15_26 rfl ?_
    exact k_)
  by_cases c8 : (zl - (0 : Int32)) = (0 : Int32)
  · have P9 := oS (T5.setTop (mkF m 32 #[r_ de, r_ b, i_ 0, i_ zl, r_ rdt, i_ 0, i_ (zl - (0 : Int32)), u_, u_] [(.int 0)])) P7 (by
      intro _ k_
      refine XS.ifNo X5.here hx rfl (hb hby d15_28) rfl ((if0 _ _).trans (teq c8).2) ?_
      refine XS.iconst X5.here hx rfl (hb hby d15_31) ?_
      exact k_)
    exact own_out X5 hlk (v := some (.int 0)) (own_hv hrt) P9 (fun _ q_ => retI X5 hx hrt (hb hby d15_32) q_) e5 ⟨(by rw [← hk]; unfold own_dolF; rw [if_pos c8]), N0, rfl⟩ (by decide)
  · have P11 := oS (T5.setTop (mkF m 36 #[r_ de, r_ b, i_ 0, i_ zl, r_ rdt, i_ 0, i_ (zl - (0 : Int32)), u_, u_] [(.int 2), (.int (zl - (0 : Int32)))])) P7 (by
      intro _ k_
      refine fY_ X5 hx hby d15_28 (pc := 28) (pc' := 33) ((if0 _ _).trans (feq c8).2) (by decide) ?_
      refine il_ X5 hx hby d15_33 rfl ?_
      refine XS.iconst X5.here hx rfl (hb hby d15_35) ?_
      exact k_)
    obtain ⟨h2_, hix_, xl, hvl_, h61_⟩ := hz c8
    have P12 := oS (T5.setTop (mkF m 67 #[r_ de, r_ b, i_ 0, i_ zl, r_ rdt, i_ 0, i_ (zl - (0 : Int32)), u_, u_] [(.ref de)])) P11 (by
      intro _ k_
      refine cY_ X5 hx hby d15_36 (pc := 36) (pc' := 66) (flt h2_).2.1 (by decide) ?_
      refine aN_ X5 hx hby d15_66 rfl rfl ?_
      exact k_)
    obtain ⟨T13, X13, e13, st13⟩ := getF X5 hx hZ hown (host := "") (Or.inl (own_w hw 95 rfl)) Via.refl e5 Fm (g := (mkF m 67 #[r_ de, r_ b, i_ 0, i_ zl, r_ rdt, i_ 0, i_ (zl - (0 : Int32)), u_, u_] [(.ref de)])) rfl rfl (hb hby d15_67)
    have P14 := oS (T13.setTop (mkF m 70 #[r_ de, r_ b, i_ 0, i_ zl, r_ rdt, i_ 0, i_ (zl - (0 : Int32)), u_, u_] [(.int 0)])) P12 (fun t_ k_ => st13 t_ k_)
    have P15 := oS (T13.setTop (mkF m 145 #[r_ de, r_ b, i_ 0, i_ zl, r_ rdt, i_ 0, i_ (zl - (0 : Int32)), u_, u_] [(.int (zl - (1 : Int32))), (.ref b)])) P14 (by
      intro _ k_
      refine fY_ X13 hx hby d15_70 (pc := 70) (pc' := 141) ((if0 _ _).trans (teq (by decide : (0 : Int32) = (0 : Int32))).1) (by decide) ?_
      refine aN_ X13 hx hby d15_141 rfl rfl ?_
      refine iN_ X13 hx hby d15_142 rfl ?_
      refine XS.iconst X13.here hx rfl (hb hby d15_143) ?_
      refine XS.isub X13.here hx rfl (hb hby d15_144) rfl ?_
      exact k_)
    obtain ⟨cl16, Ar16, q16, S16, M16, H16, G16⟩ := id Vb
    have hin16 := inb_of S16 hix_
    have hat16 := Has.at H16 hin16 hvl_
    have P17 := oS (T13.setTop (mkF m 146 #[r_ de, r_ b, i_ 0, i_ zl, r_ rdt, i_ 0, i_ (zl - (0 : Int32)), u_, u_] [(.int xl)])) P15 (by
      intro _ k_
      refine X13.baloadBytes hx (j := (zl - (1 : Int32))) (v := (.int xl)) (by rw [e13]; exact Ar16.1) (State.isArrayOf_alike hZ.alike Ar16.2.1) Ar16.2.2 hin16 hat16 (g := (mkF m 145 #[r_ de, r_ b, i_ 0, i_ zl, r_ rdt, i_ 0, i_ (zl - (0 : Int32)), u_, u_] [(.int (zl - (1 : Int32))), (.ref b)])) rfl rfl (hb hby d15_145) _ ?_
      exact k_)
    have P18 := oS (T13.setTop (mkF m 148 #[r_ de, r_ b, i_ 0, i_ zl, r_ rdt, i_ 0, i_ (zl - (0 : Int32)), u_, u_] [(.int 61), (.int xl)])) P17 (by
      intro _ k_
      refine XS.bipush X13.here hx rfl (hb hby d15_146) ?_
      exact k_)
    have P19 := oS (T13.setTop (mkF m 169 #[r_ de, r_ b, i_ 0, i_ zl, r_ rdt, i_ 0, i_ (zl - (0 : Int32)), u_, u_] [(.int 0)])) P18 (by
      intro _ k_
      refine cY_ X13 hx hby d15_148 (pc := 148) (pc' := 167) (feq h61_).2 (by decide) ?_
      refine il_ X13 hx hby d15_167 rfl ?_
      exact k_)
    have P20 := oS (T13.setTop (mkF m 176 #[r_ de, r_ b, i_ 0, i_ zl, r_ rdt, i_ 0, i_ (zl - (0 : Int32)), u_, u_] [(.int ((zl - (0 : Int32)) &&& 3))])) P19 (by
      intro _ k_
      refine XS.ifNo X13.here hx rfl (hb hby d15_169) rfl ((if0 _ _).trans (teq (by decide : (0 : Int32) = (0 : Int32))).2) ?_
      refine il_ X13 hx hby d15_172 rfl ?_
      refine XS.iconst X13.here hx rfl (hb hby d15_174) ?_
      refine XS.iand X13.here hx rfl (hb hby d15_175) rfl ?_
      exact k_)
    by_cases c21 : ((zl - (0 : Int32)) &&& 3) = (0 : Int32)
    · have P22 := oS (T13.setTop (mkF m 204 #[r_ de, r_ b, i_ 0, i_ zl, r_ rdt, i_ 0, i_ (zl - (0 : Int32)), u_, u_] [(.int (((3 : Int32) * (((((zl - (0 : Int32)).toInt64) + (3 : Int64)) / (4 : Int64)).toInt32)) - (0 : Int32)))])) P20 (by
        intro _ k_
        refine fY_ X13 hx hby d15_176 (pc := 176) (pc' := 187) ((if0 _ _).trans (teq c21).1) (by decide) ?_
        refine XS.iconst X13.here hx rfl (hb hby d15_187) ?_
        refine il_ X13 hx hby d15_188 rfl ?_
        refine XS.i2l X13.here hx rfl (hb hby d15_190) rfl ?_
        refine X13.ldc2Long hx hown (mvT hZ (own_w hw 97 rfl)) (g := (mkF m 191 #[r_ de, r_ b, i_ 0, i_ zl, r_ rdt, i_ 0, i_ (zl - (0 : Int32)), u_, u_] [(.long ((zl - (0 : Int32)).toInt64)), (.int 3)])) rfl (hb hby d15_191) _ ?_
        refine XS.ladd X13.here hx rfl (hb hby d15_194) rfl ?_
        refine X13.ldc2Long hx hown (mvT hZ (own_w hw 98 rfl)) (g := (mkF m 195 #[r_ de, r_ b, i_ 0, i_ zl, r_ rdt, i_ 0, i_ (zl - (0 : Int32)), u_, u_] [(.long (((zl - (0 : Int32)).toInt64) + (3 : Int64))), (.int 3)])) rfl (hb hby d15_195) _ ?_
        refine XS.ldiv X13.here hx rfl (hb hby d15_198) rfl (by decide) ?_
        refine XS.l2i X13.here hx rfl (hb hby d15_199) rfl ?_
        refine XS.imul X13.here hx rfl (hb hby d15_200) rfl ?_
        refine il_ X13 hx hby d15_201 rfl ?_
        refine XS.isub X13.here hx rfl (hb hby d15_203) rfl ?_
        exact k_)
      exact own_out X13 hlk (v := some (.int (((3 : Int32) * (((((zl - (0 : Int32)).toInt64) + (3 : Int64)) / (4 : Int64)).toInt32)) - (0 : Int32)))) (own_hv hrt) P22 (fun _ q_ => retI X13 hx hrt (hb hby d15_204) q_) e13 ⟨(by rw [← hk]; unfold own_dolF; rw [if_neg c8, if_pos c21]), N0, rfl⟩ (by decide)
    · have P24 := oS (T13.setTop (mkF m 204 #[r_ de, r_ b, i_ 0, i_ zl, r_ rdt, i_ ((4 : Int32) - ((zl - (0 : Int32)) &&& 3)), i_ (zl - (0 : Int32)), u_, u_] [(.int (((3 : Int32) * (((((zl - (0 : Int32)).toInt64) + (3 : Int64)) / (4 : Int64)).toInt32)) - ((4 : Int32) - ((zl - (0 : Int32)) &&& 3))))])) P20 (by
        intro _ k_
        refine XS.ifNo X13.here hx rfl (hb hby d15_176) rfl ((if0 _ _).trans (feq c21).1) ?_
        refine XS.iconst X13.here hx rfl (hb hby d15_179) ?_
        refine il_ X13 hx hby d15_180 rfl ?_
        refine XS.iconst X13.here hx rfl (hb hby d15_182) ?_
        refine XS.iand X13.here hx rfl (hb hby d15_183) rfl ?_
        refine XS.isub X13.here hx rfl (hb hby d15_184) rfl ?_
        refine is_ X13 hx hby d15_185 (l' := #[r_ de, r_ b, i_ 0, i_ zl, r_ rdt, i_ ((4 : Int32) - ((zl - (0 : Int32)) &&& 3)), i_ (zl - (0 : Int32)), u_, u_]) rfl ?_
        refine XS.iconst X13.here hx rfl (hb hby d15_187) ?_
        refine il_ X13 hx hby d15_188 rfl ?_
        refine XS.i2l X13.here hx rfl (hb hby d15_190) rfl ?_
        refine X13.ldc2Long hx hown (mvT hZ (own_w hw 97 rfl)) (g := (mkF m 191 #[r_ de, r_ b, i_ 0, i_ zl, r_ rdt, i_ ((4 : Int32) - ((zl - (0 : Int32)) &&& 3)), i_ (zl - (0 : Int32)), u_, u_] [(.long ((zl - (0 : Int32)).toInt64)), (.int 3)])) rfl (hb hby d15_191) _ ?_
        refine XS.ladd X13.here hx rfl (hb hby d15_194) rfl ?_
        refine X13.ldc2Long hx hown (mvT hZ (own_w hw 98 rfl)) (g := (mkF m 195 #[r_ de, r_ b, i_ 0, i_ zl, r_ rdt, i_ ((4 : Int32) - ((zl - (0 : Int32)) &&& 3)), i_ (zl - (0 : Int32)), u_, u_] [(.long (((zl - (0 : Int32)).toInt64) + (3 : Int64))), (.int 3)])) rfl (hb hby d15_195) _ ?_
        refine XS.ldiv X13.here hx rfl (hb hby d15_198) rfl (by decide) ?_
        refine XS.l2i X13.here hx rfl (hb hby d15_199) rfl ?_
        refine XS.imul X13.here hx rfl (hb hby d15_200) rfl ?_
        refine il_ X13 hx hby d15_201 rfl ?_
        refine XS.isub X13.here hx rfl (hb hby d15_203) rfl ?_
        exact k_)
      exact own_out X13 hlk (v := some (.int (((3 : Int32) * (((((zl - (0 : Int32)).toInt64) + (3 : Int64)) / (4 : Int64)).toInt32)) - ((4 : Int32) - ((zl - (0 : Int32)) &&& 3))))) (own_hv hrt) P24 (fun _ q_ => retI X13 hx hrt (hb hby d15_204) q_) e13 ⟨(by rw [← hk]; unfold own_dolF; rw [if_neg c8, if_neg c21]), N0, rfl⟩ (by decide)
theorem pd8 : parseMethodDescriptor "([BII)I" = some ⟨[(.array .byte), .int, .int], some .int⟩ := by decide +kernel
theorem pd9 : parseMethodDescriptor "([BII[B)I" = some ⟨[(.array .byte), .int, .int, (.array .byte)], some .int⟩ := by decide +kernel
abbrev cB14 := jdk_2450_method_2_code
abbrev yM14 : MethodName := ⟨"java/util/Base64$Decoder", "decode", "([B)[B"⟩
theorem d14_0 : own_d cB14 0 (.aload_n 0) 1 := by decide +kernel
theorem d14_1 : own_d cB14 1 (.aload_n 1) 1 := by decide +kernel
theorem d14_2 : own_d cB14 2 (.iconst 0) 1 := by decide +kernel
theorem d14_3 : own_d cB14 3 (.aload_n 1) 1 := by decide +kernel
theorem d14_4 : own_d cB14 4 (.arraylength) 1 := by decide +kernel
theorem d14_5 : own_d cB14 5 (.invokevirtual 16) 3 := by decide +kernel
theorem d14_8 : own_d cB14 8 (.newarray .byte) 2 := by decide +kernel
theorem d14_10 : own_d cB14 10 (.astore_n 2) 1 := by decide +kernel
theorem d14_11 : own_d cB14 11 (.aload_n 0) 1 := by decide +kernel
theorem d14_12 : own_d cB14 12 (.aload_n 1) 1 := by decide +kernel
theorem d14_13 : own_d cB14 13 (.iconst 0) 1 := by decide +kernel
theorem d14_14 : own_d cB14 14 (.aload_n 1) 1 := by decide +kernel
theorem d14_15 : own_d cB14 15 (.arraylength) 1 := by decide +kernel
theorem d14_16 : own_d cB14 16 (.aload_n 2) 1 := by decide +kernel
theorem d14_17 : own_d cB14 17 (.invokevirtual 20) 3 := by decide +kernel
theorem d14_20 : own_d cB14 20 (.istore_n 3) 1 := by decide +kernel
theorem d14_21 : own_d cB14 21 (.iload_n 3) 1 := by decide +kernel
theorem d14_22 : own_d cB14 22 (.aload_n 2) 1 := by decide +kernel
theorem d14_23 : own_d cB14 23 (.arraylength) 1 := by decide +kernel
theorem d14_24 : own_d cB14 24 (.if_icmp .eq 9) 3 := by decide +kernel
theorem d14_33 : own_d cB14 33 (.aload_n 2) 1 := by decide +kernel
theorem d14_34 : own_d cB14 34 (.areturn) 1 := by decide +kernel
theorem ef14RR (m : MethodId) (x0 : Addr) (x1 : Addr) : entryFrame m #[(.ref x0), (.ref x1)] 4 = mkF m 0 #[r_ x0, r_ x1, u_, u_] [] := by first | (simp [entryFrame, mkF, argsToLocals, Value.category]; done) | rfl
def Q_decB (Z : State) (de : Addr) (b : Addr) (k : ClassId) (zl : Int32) (zk : Int32) (vs : List Value) (ys : List Value) (rdt : Addr) (h0 : Heap) (n0 : Nat) (v_ : Option Value) (h : Heap) (L_ : List Loc) : Prop := ∃ (xq : Addr) (kk : ClassId), v_ = some (.ref xq) ∧ Fr n0 L_ ∧ Keep h0 h [] ∧ h0.size ≤ xq ∧ Arv Z h xq kk .byte zk ys (.int 0) ∧ Exa Z h xq "[B"
set_option maxRecDepth 65536 in
set_option maxHeartbeats 40000000 in
theorem rm_decB (l : Launch) (Z : State) (a0 : Array Value) (hw : ∀ d ∈ tables_1, d.before a0 Z = true) (ws : List Jvm.Cond) (de : Addr) (b : Addr) (k : ClassId) (zl : Int32) (zk : Int32) (vs : List Value) (ys : List Value) (rdt : Addr) (h0 : Heap) (n0 : Nat) (Z0 : n0 ≤ h0.size) (O : Old Z n0 h0) (Sdt : Sta Z Z.heap "java/util/Base64$Decoder" "fromBase64URL" "[I" (.ref rdt)) (Ed : Exa Z h0 de "java/util/Base64$Decoder") (Fu : Fld Z h0 de "java/util/Base64$Decoder" "isURL" "Z" (.int 1)) (Fm : Fld Z h0 de "java/util/Base64$Decoder" "isMIME" "Z" (.int 0)) (Vb : Arv Z h0 b k .byte zl vs (.int 0)) (hz : own_dz zl vs) (hk : own_dolF zl = zk) (hn0 : ¬ zk < 0) (hcp : zk.toNatClampNeg ≤ 8) (Hd0 : HD0 l Z zl zk vs ys) :
    own_MF l yM14 (.code yM14 cB14 4 (some (.array .byte))) ws ⟨2, 1, 8, 62⟩ #[(.ref de), (.ref b)] Z h0 own_T (Q_decB Z de b k zl zk vs ys rdt h0 n0) := by
  refine own_in "java/util/Base64$Decoder" rfl (plainFor_of_name pn3) hisR (fun m => ef14RR m de b) ?_
  intro p e s m below meth c s₁ A_ hx hby hml hown hnm hrt hlk hZ _ X0 e0 pre0
  have N0 := Fr.nil n0
  have P1 := oS (s₁.setTop (mkF m 4 #[r_ de, r_ b, u_, u_] [(.ref b), (.int 0), (.ref b), (.ref de)])) pre0 (by
    intro _ k_
    refine aN_ X0 hx hby d14_0 rfl rfl ?_
    refine aN_ X0 hx hby d14_1 rfl rfl ?_
    refine XS.iconst X0.here hx rfl (hb hby d14_2) ?_
    refine aN_ X0 hx hby d14_3 rfl rfl ?_
    exact k_)
  obtain ⟨cl2, Ar2, q2, S2, M2, H2, G2⟩ := id Vb
  have P3 := oS (s₁.setTop (mkF m 5 #[r_ de, r_ b, u_, u_] [(.int zl), (.int 0), (.ref b), (.ref de)])) P1 (by
    intro _ k_
    refine X0.arraylength hx (by rw [e0]; exact Ar2.1) (State.isArrayOf_alike hZ.alike Ar2.2.1) (g := (mkF m 4 #[r_ de, r_ b, u_, u_] [(.ref b), (.int 0), (.ref b), (.ref de)])) rfl rfl (hb hby d14_4) _ ?_
    rw [len_of S2 M2]
    exact k_)
  obtain ⟨_, T4, L4, X4, hQ4, P4c⟩ := own_cP (W := 0) (rm_dol l Z a0 hw [] de b k zl zk vs rdt h0 n0 Z0 O Sdt Fu Fm Vb hz hk) X0 hx hZ (fun _ _ => trivial) hown Ed (own_w hw 87 rfl) (own_w hw 89 rfl) (own_w hw 90 rfl) (own_w hw 88 rfl) (own_w hw 47 rfl) (own_w hw 91 rfl) (by decide) P3 hml rfl [(.ref b), (.int 0), (.int zl)] [] rfl rfl rfl pd8 rfl (hb hby d14_5) e0 (by decide)
  obtain ⟨rfl, N4q, e4⟩ := hQ4
  have N4 := Fr.app N0 N4q
  have P5 := own_to (C := T4.setTop (mkF m 8 #[r_ de, r_ b, u_, u_] [(.int zk)])) P4c
  obtain ⟨T6, h6, k6, X6, e6, E6, A6, EA6, st6⟩ := newPE X4 hx hZ (own_w hw 26 rfl) e4 (g := (mkF m 8 #[r_ de, r_ b, u_, u_] [(.int zk)])) rfl (hb hby d14_8) rfl hn0 (cap := 8) hcp (by decide) (by decide) (by decide) (ad := "[B") (by decide +kernel)
  obtain ⟨b6, g6⟩ : ∃ z, z = h0.size := ⟨_, rfl⟩
  rw [← g6] at A6 EA6 st6
  have ne_de_b6 : de ≠ b6 := Nat.ne_of_lt (Nat.lt_of_lt_of_le Fu.lt (Nat.le_of_eq g6.symm))
  have ne_b_b6 : b ≠ b6 := Nat.ne_of_lt (Nat.lt_of_lt_of_le Vb.lt (Nat.le_of_eq g6.symm))
  have g_b6 : n0 ≤ b6 := Nat.le_trans Z0 (Nat.le_of_eq g6.symm)
  have sz_b6 : h0.size ≤ b6 := Nat.le_trans (Keep.refl h0 []).1 (Nat.le_of_eq g6.symm)
  have f7 := O.ext E6
  have f8 := Fu.ext E6
  have f9 := Fm.ext E6
  have f10 := (Keep.refl h0 []).ext E6
  have f11 := Vb.ext E6
  have f12 := Ed.ext E6
  have Z13 : n0 ≤ h6.size := Nat.le_trans Z0 E6.1
  have V6 : Arv Z h6 b6 k6 .byte zk [] (.int 0) := Arv.new A6 hn0
  have P14 := oS (T6.setTop (mkF m 10 #[r_ de, r_ b, u_, u_] [(.ref b6)])) P5 (fun t_ k_ => st6 t_ k_)
  have P15 := oS (T6.setTop (mkF m 15 #[r_ de, r_ b, r_ b6, u_] [(.ref b), (.int 0), (.ref b), (.ref de)])) P14 (by
    intro _ k_
    refine XS.astoreN X6.here hx rfl (hb hby d14_10) rfl rfl (l' := #[r_ de, r_ b, r_ b6, u_]) rfl ?_
    refine aN_ X6 hx hby d14_11 rfl rfl ?_
    refine aN_ X6 hx hby d14_12 rfl rfl ?_
    refine XS.iconst X6.here hx rfl (hb hby d14_13) ?_
    refine aN_ X6 hx hby d14_14 rfl rfl ?_
    exact k_)
  obtain ⟨cl16, Ar16, q16, S16, M16, H16, G16⟩ := id f11
  have P17 := oS (T6.setTop (mkF m 16 #[r_ de, r_ b, r_ b6, u_] [(.int zl), (.int 0), (.ref b), (.ref de)])) P15 (by
    intro _ k_
    refine X6.arraylength hx (by rw [e6]; exact Ar16.1) (State.isArrayOf_alike hZ.alike Ar16.2.1) (g := (mkF m 15 #[r_ de, r_ b, r_ b6, u_] [(.ref b), (.int 0), (.ref b), (.ref de)])) rfl rfl (hb hby d14_15) _ ?_
    rw [len_of S16 M16]
    exact k_)
  have P18 := oS (T6.setTop (mkF m 17 #[r_ de, r_ b, r_ b6, u_] [(.ref b6), (.int zl), (.int 0), (.ref b), (.ref de)])) P17 (by
    intro _ k_
    refine aN_ X6 hx hby d14_16 rfl rfl ?_
    exact k_)
  obtain ⟨_, T19, L19, X19, hQ19, P19c⟩ := own_cP (W := 0) (Hd0 de b k b6 k6 h6 n0 Z13 f7 f8 f9 f12 f11 V6 ne_b_b6 g_b6 ne_de_b6) X6 hx hZ (fun _ _ => trivial) hown f12 (own_w hw 99 rfl) (own_w hw 101 rfl) (own_w hw 102 rfl) (own_w hw 100 rfl) (own_w hw 47 rfl) (own_w hw 103 rfl) (by decide) P18 hml rfl [(.ref b), (.int 0), (.int zl), (.ref b6)] [] rfl rfl rfl pd9 rfl (hb hby d14_17) e6 (by decide)
  obtain ⟨rfl, N19q, K19, f20⟩ := hQ19
  have N19 := Fr.app N4 N19q
  have f24 := f10.trans K19 (allS (Or.inr sz_b6) all0)
  have f28 := EA6.keep K19
  have P30 := own_to (C := T19.setTop (mkF m 20 #[r_ de, r_ b, r_ b6, u_] [(.int zk)])) P19c
  have P31 := oS (T19.setTop (mkF m 23 #[r_ de, r_ b, r_ b6, i_ zk] [(.ref b6), (.int zk)])) P30 (by
    intro _ k_
    refine XS.istoreN X19.here hx rfl (hb hby d14_20) rfl (l' := #[r_ de, r_ b, r_ b6, i_ zk]) rfl ?_
    refine iN_ X19 hx hby d14_21 rfl ?_
    refine aN_ X19 hx hby d14_22 rfl rfl ?_
    exact k_)
  obtain ⟨cl32, Ar32, q32, S32, M32, H32, G32⟩ := id f20
  have P33 := oS (T19.setTop (mkF m 24 #[r_ de, r_ b, r_ b6, i_ zk] [(.int zk), (.int zk)])) P31 (by
    intro _ k_
    refine X19.arraylength hx Ar32.1 (State.isArrayOf_alike hZ.alike Ar32.2.1) (g := (mkF m 23 #[r_ de, r_ b, r_ b6, i_ zk] [(.ref b6), (.int zk)])) rfl rfl (hb hby d14_23) _ ?_
    rw [len_of S32 M32]
    exact k_)
  have P34 := oS (T19.setTop (mkF m 34 #[r_ de, r_ b, r_ b6, i_ zk] [(.ref b6)])) P33 (by
    intro _ k_
    refine cY_ X19 hx hby d14_24 (pc := 24) (pc' := 33) (teq (rfl : zk = zk)).1 (by decide) ?_
    refine aN_ X19 hx hby d14_33 rfl rfl ?_
    exact k_)
  exact own_out X19 hlk (v := some (.ref b6)) (own_hv hrt) P34 (fun _ q_ => retOut X19 hx hrt rfl (Or.inr (Or.inr (Or.inr (Or.inr ⟨rfl, rfl, rfl⟩)))) (hb hby d14_34) q_) (rfl : T19.heap = _) ⟨b6, k6, rfl, N19, f24, sz_b6, f20, f28⟩ (by decide)
theorem pd10 : parseMethodDescriptor "(Ljava/nio/charset/Charset;)[B" = some ⟨[(.object "java/nio/charset/Charset")], some (.array .byte)⟩ := by decide +kernel
theorem pd11 : parseMethodDescriptor "([B)[B" = some ⟨[(.array .byte)], some (.array .byte)⟩ := by decide +kernel
abbrev cB8 := jdk_2450_method_3_code
abbrev yM8 : MethodName := ⟨"java/util/Base64$Decoder", "decode", "(Ljava/lang/String;)[B"⟩
theorem d8_0 : own_d cB8 0 (.aload_n 0) 1 := by decide +kernel
theorem d8_1 : own_d cB8 1 (.aload_n 1) 1 := by decide +kernel
theorem d8_2 : own_d cB8 2 (.getstatic 30) 3 := by decide +kernel
theorem d8_5 : own_d cB8 5 (.invokevirtual 36) 3 := by decide +kernel
theorem d8_8 : own_d cB8 8 (.invokevirtual 42) 3 := by decide +kernel
theorem d8_11 : own_d cB8 11 (.areturn) 1 := by decide +kernel
theorem ef8RR (m : MethodId) (x0 : Addr) (x1 : Addr) : entryFrame m #[(.ref x0), (.ref x1)] 2 = mkF m 0 #[r_ x0, r_ x1] [] := by first | (simp [entryFrame, mkF, argsToLocals, Value.category]; done) | rfl
def Q_decS (Z : State) (a : Addr) (de : Addr) (b : Addr) (k : ClassId) (zl : Int32) (zk : Int32) (vs : List Value) (ys : List Value) (rdt : Addr) (riso : Addr) (rutf : Addr) (cs : Int32) (h0 : Heap) (n0 : Nat) (v_ : Option Value) (h : Heap) (L_ : List Loc) : Prop := ∃ (xq : Addr) (kk : ClassId), v_ = some (.ref xq) ∧ Fr n0 L_ ∧ Keep h0 h [] ∧ h0.size ≤ xq ∧ Arv Z h xq kk .byte zk ys (.int 0) ∧ Exa Z h xq "[B"
set_option maxRecDepth 65536 in
set_option maxHeartbeats 40000000 in
theorem rm_decS (l : Launch) (Z : State) (a0 : Array Value) (hw : ∀ d ∈ tables_1, d.before a0 Z = true) (ws : List Jvm.Cond) (a : Addr) (de : Addr) (b : Addr) (k : ClassId) (zl : Int32) (zk : Int32) (vs : List Value) (ys : List Value) (rdt : Addr) (riso : Addr) (rutf : Addr) (cs : Int32) (h0 : Heap) (n0 : Nat) (Z0 : n0 ≤ h0.size) (O : Old Z n0 h0) (Scs : Sta Z Z.heap "java/lang/String" "COMPACT_STRINGS" "Z" (.int cs)) (hcs : ¬ (cs = (0 : Int32))) (Siso : Sta Z Z.heap "sun/nio/cs/ISO_8859_1" "INSTANCE" "Lsun/nio/cs/ISO_8859_1;" (.ref riso)) (Sutf : Sta Z Z.heap "sun/nio/cs/UTF_8" "INSTANCE" "Lsun/nio/cs/UTF_8;" (.ref rutf)) (nci : riso ≠ rutf) (Sdt : Sta Z Z.heap "java/util/Base64$Decoder" "fromBase64URL" "[I" (.ref rdt)) (Ed : Exa Z h0 de "java/util/Base64$Decoder") (Fu : Fld Z h0 de "java/util/Base64$Decoder" "isURL" "Z" (.int 1)) (Fm : Fld Z h0 de "java/util/Base64$Decoder" "isMIME" "Z" (.int 0)) (Ea : Exa Z h0 a "java/lang/String") (Fc : Fld Z h0 a "java/lang/String" "coder" "B" (.int 0)) (Fv : Fld Z h0 a "java/lang/String" "value" "[B" (.ref b)) (Vb : Arv Z h0 b k .byte zl vs (.int 0)) (Eb : Exa Z h0 b "[B") (hzl : zl.toNatClampNeg ≤ 8) (hz : own_dz zl vs) (hk : own_dolF zl = zk) (hn0 : ¬ zk < 0) (hcp : zk.toNatClampNeg ≤ 8) (Hd0 : HD0 l Z zl zk vs ys) :
    own_MF l yM8 (.code yM8 cB8 2 (some (.array .byte))) ws ⟨5, 2, 16, 77⟩ #[(.ref de), (.ref a)] Z h0 own_T (Q_decS Z a de b k zl zk vs ys rdt riso rutf cs h0 n0) := by
  refine own_in "java/util/Base64$Decoder" rfl (plainFor_of_name pn3) hisR (fun m => ef8RR m de a) ?_
  intro p e s m below meth c s₁ A_ hx hby hml hown hnm hrt hlk hZ _ X0 e0 pre0
  have N0 := Fr.nil n0
  have P1 := oS (s₁.setTop (mkF m 2 #[r_ de, r_ a] [(.ref a), (.ref de)])) pre0 (by
    intro _ k_
    refine aN_ X0 hx hby d8_0 rfl rfl ?_
    refine aN_ X0 hx hby d8_1 rfl rfl ?_
    exact k_)
  obtain ⟨T2, X2, e2, st2⟩ := getS2 X0 hx hZ hown (host := "") (Or.inl (own_w hw 49 rfl)) Via.refl e0 (Siso.ext O.2) (g := (mkF m 2 #[r_ de, r_ a] [(.ref a), (.ref de)])) rfl (hb hby d8_2)
  have P3 := oS (T2.setTop (mkF m 5 #[r_ de, r_ a] [(.ref riso), (.ref a), (.ref de)])) P1 (fun t_ k_ => st2 t_ k_)
  obtain ⟨_, T4, L4, X4, hQ4, P4c⟩ := own_cV (W := 1) (rm_getB l Z a0 hw [] a b k zl vs riso rutf cs h0 n0 Z0 O Scs hcs Siso Sutf nci Ea Fc Fv Vb Eb hzl) X2 hx hZ (fun _ _ => trivial) hown Ea (own_w hw 51 rfl) (own_w hw 52 rfl) (own_w hw 54 rfl) (own_w hw 53 rfl) (own_w hw 10 rfl) (own_w hw 55 rfl) (by decide) P3 hml rfl [(.ref riso)] [(.ref de)] rfl rfl rfl pd10 rfl (hb hby d8_5) e2 (by decide)
  obtain ⟨xq4, rfl, N4q, K4, f5, f6, f7⟩ := hQ4
  have N4 := Fr.app N0 N4q
  have f8 := O.keep K4 all0
  have f9 := Fu.keep K4 nin0
  have f10 := Fm.keep K4 nin0
  have f11 := (Keep.refl h0 []).trans K4 all0
  have f17 := Ed.keep K4
  have Z18 : n0 ≤ T4.heap.size := Nat.le_trans Z0 K4.1
  have P19 := own_to (C := T4.setTop (mkF m 8 #[r_ de, r_ a] [(.ref xq4), (.ref de)])) P4c
  obtain ⟨_, T20, L20, X20, hQ20, P20c⟩ := own_cV (W := 0) (rm_decB l Z a0 hw [] de xq4 k zl zk vs ys rdt T4.heap n0 Z18 f8 Sdt f17 f9 f10 f6 hz hk hn0 hcp Hd0) X4 hx hZ (fun _ _ => trivial) hown f17 (own_w hw 82 rfl) (own_w hw 83 rfl) (own_w hw 85 rfl) (own_w hw 84 rfl) (own_w hw 47 rfl) (own_w hw 86 rfl) (by decide) P19 hml rfl [(.ref xq4)] [] rfl rfl rfl pd11 rfl (hb hby d8_8) (rfl : T4.heap = _) (by decide)
  obtain ⟨xq20, kk20, rfl, N20q, K20, f21, f22, f23⟩ := hQ20
  have N20 := Fr.app N4 N20q
  have sz_xq20 : h0.size ≤ xq20 := Nat.le_trans f11.1 f21
  have f27 := f11.trans K20 all0
  have P37 := own_to (C := T20.setTop (mkF m 11 #[r_ de, r_ a] [(.ref xq20)])) P20c
  exact own_out X20 hlk (v := some (.ref xq20)) (own_hv hrt) P37 (fun _ q_ => retOut X20 hx hrt rfl (Or.inr (Or.inr (Or.inr (Or.inr ⟨rfl, rfl, rfl⟩)))) (hb hby d8_11) q_) (rfl : T20.heap = _) ⟨xq20, kk20, rfl, N20, f27, sz_xq20, f22, f23⟩ (by decide)
abbrev cB20 := jdk_29_method_28_code
abbrev yM20 : MethodName := ⟨"java/lang/Math", "multiplyExact", "(II)I"⟩
theorem d20_0 : own_d cB20 0 (.iload_n 0) 1 := by decide +kernel
theorem d20_1 : own_d cB20 1 (.i2l) 1 := by decide +kernel
theorem d20_2 : own_d cB20 2 (.iload_n 1) 1 := by decide +kernel
theorem d20_3 : own_d cB20 3 (.i2l) 1 := by decide +kernel
theorem d20_4 : own_d cB20 4 (.lmul) 1 := by decide +kernel
theorem d20_5 : own_d cB20 5 (.lstore_n 2) 1 := by decide +kernel
theorem d20_6 : own_d cB20 6 (.lload_n 2) 1 := by decide +kernel
theorem d20_7 : own_d cB20 7 (.l2i) 1 := by decide +kernel
theorem d20_8 : own_d cB20 8 (.i2l) 1 := by decide +kernel
theorem d20_9 : own_d cB20 9 (.lload_n 2) 1 := by decide +kernel
theorem d20_10 : own_d cB20 10 (.lcmp) 1 := by decide +kernel
theorem d20_11 : own_d cB20 11 (.ifCond .eq 13) 3 := by decide +kernel
theorem d20_24 : own_d cB20 24 (.lload_n 2) 1 := by decide +kernel
theorem d20_25 : own_d cB20 25 (.l2i) 1 := by decide +kernel
theorem d20_26 : own_d cB20 26 (.ireturn) 1 := by decide +kernel
theorem ef20II (m : MethodId) (x0 : Int32) (x1 : Int32) : entryFrame m #[(.int x0), (.int x1)] 4 = mkF m 0 #[i_ x0, i_ x1, u_, u_] [] := by first | (simp [entryFrame, mkF, argsToLocals, Value.category]; done) | rfl
def Q_mulx (Z : State) (u : Int32) (v : Int32) (r : Int32) (h0 : Heap) (n0 : Nat) (v_ : Option Value) (h : Heap) (L_ : List Loc) : Prop := v_ = some (.int r) ∧ Fr n0 L_ ∧ h = h0
set_option maxRecDepth 65536 in
set_option maxHeartbeats 40000000 in
theorem rm_mulx (l : Launch) (Z : State) (a0 : Array Value) (hw : ∀ d ∈ tables_1, d.before a0 Z = true) (ws : List Jvm.Cond) (u : Int32) (v : Int32) (r : Int32) (h0 : Heap) (n0 : Nat) (Z0 : n0 ≤ h0.size) (hme : (((u.toInt64) * (v.toInt64)).toInt32).toInt64 = ((u.toInt64) * (v.toInt64))) (hmr : ((u.toInt64) * (v.toInt64)).toInt32 = r) :
    own_MF l yM20 (.code yM20 cB20 4 (some .int)) ws ⟨0, 0, 0, 0⟩ #[(.int u), (.int v)] Z h0 own_T (Q_mulx Z u v r h0 n0) := by
  refine own_in "java/lang/Math" rfl (Jvm.Free.JP.mathPlain rfl (by decide +kernel)) hisR (fun m => ef20II m u v) ?_
  intro p e s m below meth c s₁ A_ hx hby hml hown hnm hrt hlk hZ _ X0 e0 pre0
  have N0 := Fr.nil n0
  have P1 := oS (s₁.setTop (mkF m 11 #[i_ u, i_ v, .val (.long ((u.toInt64) * (v.toInt64))), .second] [(.int (lcmpW ((((u.toInt64) * (v.toInt64)).toInt32).toInt64) ((u.toInt64) * (v.toInt64))))])) pre0 (by
    intro _ k_
    refine iN_ X0 hx hby d20_0 rfl ?_
    refine XS.i2l X0.here hx rfl (hb hby d20_1) rfl ?_
    refine iN_ X0 hx hby d20_2 rfl ?_
    refine XS.i2l X0.here hx rfl (hb hby d20_3) rfl ?_
    refine XS.lmul X0.here hx rfl (hb hby d20_4) rfl ?_
    refine XS.lstoreN X0.here hx rfl (hb hby d20_5) rfl (l' := #[i_ u, i_ v, .val (.long ((u.toInt64) * (v.toInt64))), .second]) rfl ?_
    refine XS.lloadN X0.here hx rfl (hb hby d20_6) rfl ?_
    refine XS.l2i X0.here hx rfl (hb hby d20_7) rfl ?_
    refine XS.i2l X0.here hx rfl (hb hby d20_8) rfl ?_
    refine XS.lloadN X0.here hx rfl (hb hby d20_9) rfl ?_
    refine XS.lcmp X0.here hx rfl (hb hby d20_10) rfl ?_
    exact k_)
  have P2 := oS (s₁.setTop (mkF m 26 #[i_ u, i_ v, .val (.long ((u.toInt64) * (v.toInt64))), .second] [(.int (((u.toInt64) * (v.toInt64)).toInt32))])) P1 (by
    intro _ k_
    refine fY_ X0 hx hby d20_11 (pc := 11) (pc' := 24) ((if0 _ _).trans (teq ((lw_eq _ _).mpr hme)).1) (by decide) ?_
    refine XS.lloadN X0.here hx rfl (hb hby d20_24) rfl ?_
    refine XS.l2i X0.here hx rfl (hb hby d20_25) rfl ?_
    exact k_)
  exact own_out X0 hlk (v := some (.int (((u.toInt64) * (v.toInt64)).toInt32))) (own_hv hrt) P2 (fun _ q_ => retI X0 hx hrt (hb hby d20_26) q_) e0 ⟨(by rw [hmr]), N0, rfl⟩ (by decide)
abbrev cB21 := jdk_29_method_24_code
abbrev yM21 : MethodName := ⟨"java/lang/Math", "addExact", "(II)I"⟩
theorem d21_0 : own_d cB21 0 (.iload_n 0) 1 := by decide +kernel
theorem d21_1 : own_d cB21 1 (.iload_n 1) 1 := by decide +kernel
theorem d21_2 : own_d cB21 2 (.iadd) 1 := by decide +kernel
theorem d21_3 : own_d cB21 3 (.istore_n 2) 1 := by decide +kernel
theorem d21_4 : own_d cB21 4 (.iload_n 0) 1 := by decide +kernel
theorem d21_5 : own_d cB21 5 (.iload_n 2) 1 := by decide +kernel
theorem d21_6 : own_d cB21 6 (.ixor) 1 := by decide +kernel
theorem d21_7 : own_d cB21 7 (.iload_n 1) 1 := by decide +kernel
theorem d21_8 : own_d cB21 8 (.iload_n 2) 1 := by decide +kernel
theorem d21_9 : own_d cB21 9 (.ixor) 1 := by decide +kernel
theorem d21_10 : own_d cB21 10 (.iand) 1 := by decide +kernel
theorem d21_11 : own_d cB21 11 (.ifCond .ge 13) 3 := by decide +kernel
theorem d21_24 : own_d cB21 24 (.iload_n 2) 1 := by decide +kernel
theorem d21_25 : own_d cB21 25 (.ireturn) 1 := by decide +kernel
theorem ef21II (m : MethodId) (x0 : Int32) (x1 : Int32) : entryFrame m #[(.int x0), (.int x1)] 3 = mkF m 0 #[i_ x0, i_ x1, u_] [] := by first | (simp [entryFrame, mkF, argsToLocals, Value.category]; done) | rfl
def Q_addx (Z : State) (u : Int32) (v : Int32) (r : Int32) (h0 : Heap) (n0 : Nat) (v_ : Option Value) (h : Heap) (L_ : List Loc) : Prop := v_ = some (.int r) ∧ Fr n0 L_ ∧ h = h0
set_option maxRecDepth 65536 in
set_option maxHeartbeats 40000000 in
theorem rm_addx (l : Launch) (Z : State) (a0 : Array Value) (hw : ∀ d ∈ tables_1, d.before a0 Z = true) (ws : List Jvm.Cond) (u : Int32) (v : Int32) (r : Int32) (h0 : Heap) (n0 : Nat) (Z0 : n0 ≤ h0.size) (had : ¬ (((u ^^^ (u + v)) &&& (v ^^^ (u + v))) < (0 : Int32))) (har : (u + v) = r) :
    own_MF l yM21 (.code yM21 cB21 3 (some .int)) ws ⟨0, 0, 0, 0⟩ #[(.int u), (.int v)] Z h0 own_T (Q_addx Z u v r h0 n0) := by
  refine own_in "java/lang/Math" rfl (Jvm.Free.JP.mathPlain rfl (by decide +kernel)) hisR (fun m => ef21II m u v) ?_
  intro p e s m below meth c s₁ A_ hx hby hml hown hnm hrt hlk hZ _ X0 e0 pre0
  have N0 := Fr.nil n0
  have P1 := oS (s₁.setTop (mkF m 11 #[i_ u, i_ v, i_ (u + v)] [(.int ((u ^^^ (u + v)) &&& (v ^^^ (u + v))))])) pre0 (by
    intro _ k_
    refine iN_ X0 hx hby d21_0 rfl ?_
    refine iN_ X0 hx hby d21_1 rfl ?_
    refine XS.iadd X0.here hx rfl (hb hby d21_2) rfl ?_
    refine XS.istoreN X0.here hx rfl (hb hby d21_3) rfl (l' := #[i_ u, i_ v, i_ (u + v)]) rfl ?_
    refine iN_ X0 hx hby d21_4 rfl ?_
    refine iN_ X0 hx hby d21_5 rfl ?_
    refine XS.ixor X0.here hx rfl (hb hby d21_6) rfl ?_
    refine iN_ X0 hx hby d21_7 rfl ?_
    refine iN_ X0 hx hby d21_8 rfl ?_
    refine XS.ixor X0.here hx rfl (hb hby d21_9) rfl ?_
    refine XS.iand X0.here hx rfl (hb hby d21_10) rfl ?_
    exact k_)
  have P2 := oS (s₁.setTop (mkF m 25 #[i_ u, i_ v, i_ (u + v)] [(.int (u + v))])) P1 (by
    intro _ k_
    refine fY_ X0 hx hby d21_11 (pc := 11) (pc' := 24) ((if0 _ _).trans (flt had).2.1) (by decide) ?_
    refine iN_ X0 hx hby d21_24 rfl ?_
    exact k_)
  exact own_out X0 hlk (v := some (.int (u + v))) (own_hv hrt) P2 (fun _ q_ => retI X0 hx hrt (hb hby d21_25) q_) e0 ⟨(by rw [har]), N0, rfl⟩ (by decide)
theorem pd12 : parseMethodDescriptor "(II)I" = some ⟨[.int, .int], some .int⟩ := by decide +kernel
abbrev cB33 := jdk_2452_method_2_code
abbrev yM33 : MethodName := ⟨"java/util/Base64$Encoder", "encodedOutLength", "(IZ)I"⟩
theorem d33_0 : own_d cB33 0 (.iconst 0) 1 := by decide +kernel
theorem d33_1 : own_d cB33 1 (.istore_n 3) 1 := by decide +kernel
theorem d33_2 : own_d cB33 2 (.aload_n 0) 1 := by decide +kernel
theorem d33_3 : own_d cB33 3 (.getfield 21) 3 := by decide +kernel
theorem d33_6 : own_d cB33 6 (.ifCond .eq 18) 3 := by decide +kernel
theorem d33_24 : own_d cB33 24 (.iload_n 1) 1 := by decide +kernel
theorem d33_25 : own_d cB33 25 (.iconst 3) 1 := by decide +kernel
theorem d33_26 : own_d cB33 26 (.irem) 1 := by decide +kernel
theorem d33_27 : own_d cB33 27 (.istore 4) 2 := by decide +kernel
theorem d33_29 : own_d cB33 29 (.iconst 4) 1 := by decide +kernel
theorem d33_30 : own_d cB33 30 (.iload_n 1) 1 := by decide +kernel
theorem d33_31 : own_d cB33 31 (.iconst 3) 1 := by decide +kernel
theorem d33_32 : own_d cB33 32 (.idiv) 1 := by decide +kernel
theorem d33_33 : own_d cB33 33 (.invokestatic 30) 3 := by decide +kernel
theorem d33_36 : own_d cB33 36 (.iload 4) 2 := by decide +kernel
theorem d33_38 : own_d cB33 38 (.ifCond .ne 7) 3 := by decide +kernel
theorem d33_41 : own_d cB33 41 (.iconst 0) 1 := by decide +kernel
theorem d33_42 : own_d cB33 42 (.goto 7) 3 := by decide +kernel
theorem d33_45 : own_d cB33 45 (.iload 4) 2 := by decide +kernel
theorem d33_47 : own_d cB33 47 (.iconst 1) 1 := by decide +kernel
theorem d33_48 : own_d cB33 48 (.iadd) 1 := by decide +kernel
theorem d33_49 : own_d cB33 49 (.invokestatic 24) 3 := by decide +kernel
theorem d33_52 : own_d cB33 52 (.istore_n 3) 1 := by decide +kernel
theorem d33_53 : own_d cB33 53 (.aload_n 0) 1 := by decide +kernel
theorem d33_54 : own_d cB33 54 (.getfield 17) 3 := by decide +kernel
theorem d33_57 : own_d cB33 57 (.ifCond .le 22) 3 := by decide +kernel
theorem d33_79 : own_d cB33 79 (.goto 21) 3 := by decide +kernel
theorem d33_100 : own_d cB33 100 (.iload_n 3) 1 := by decide +kernel
theorem d33_101 : own_d cB33 101 (.ireturn) 1 := by decide +kernel
theorem ef33RII (m : MethodId) (x0 : Addr) (x1 : Int32) (x2 : Int32) : entryFrame m #[(.ref x0), (.int x1), (.int x2)] 5 = mkF m 0 #[r_ x0, i_ x1, i_ x2, u_, u_] [] := by first | (simp [entryFrame, mkF, argsToLocals, Value.category]; done) | rfl
def Q_eol (Z : State) (en : Addr) (zk : Int32) (zl : Int32) (m4 : Int32) (h0 : Heap) (n0 : Nat) (v_ : Option Value) (h : Heap) (L_ : List Loc) : Prop := v_ = some (.int zl) ∧ Fr n0 L_ ∧ h = h0
theorem pn4 : plainName "java/util/Base64$Encoder" = true := by first | (simp [plainName, overriddenIn]; done) | decide +kernel
set_option maxRecDepth 65536 in
set_option maxHeartbeats 40000000 in
theorem rm_eol (l : Launch) (Z : State) (a0 : Array Value) (hw : ∀ d ∈ tables_1, d.before a0 Z = true) (ws : List Jvm.Cond) (en : Addr) (zk : Int32) (zl : Int32) (m4 : Int32) (h0 : Heap) (n0 : Nat) (Z0 : n0 ≤ h0.size) (O : Old Z n0 h0) (Fp : Fld Z h0 en "java/util/Base64$Encoder" "doPadding" "Z" (.int 0)) (Fl : Fld Z h0 en "java/util/Base64$Encoder" "linemax" "I" (.int (-1 : Int32))) (Fe : Fld Z h0 en "java/util/Base64$Encoder" "isURL" "Z" (.int 1)) (hez : own_ez zk zl m4) :
    own_MF l yM33 (.codeWith yM33 cB33 5 (some .int) [(2, 79, 82, 33)]) ws ⟨1, 0, 0, 15⟩ #[(.ref en), (.int zk), (.int 1)] Z h0 own_T (Q_eol Z en zk zl m4 h0 n0) := by
  refine own_in "java/util/Base64$Encoder" rfl (plainFor_of_name pn4) hisWith (fun m => ef33RII m en zk (1 : Int32)) ?_
  intro p e s m below meth c s₁ A_ hx hby hml hown hnm hrt hlk hZ _ X0 e0 pre0
  have N0 := Fr.nil n0
  have P1 := oS (s₁.setTop (mkF m 3 #[r_ en, i_ zk, i_ 1, i_ 0, u_] [(.ref en)])) pre0 (by
    intro _ k_
    refine XS.iconst X0.here hx rfl (hb hby d33_0) ?_
    refine XS.istoreN X0.here hx rfl (hb hby d33_1) rfl (l' := #[r_ en, i_ zk, i_ 1, i_ 0, u_]) rfl ?_
    refine aN_ X0 hx hby d33_2 rfl rfl ?_
    exact k_)
  obtain ⟨T2, X2, e2, st2⟩ := getF X0 hx hZ hown (host := "") (Or.inl (own_w hw 125 rfl)) Via.refl e0 Fp (g := (mkF m 3 #[r_ en, i_ zk, i_ 1, i_ 0, u_] [(.ref en)])) rfl rfl (hb hby d33_3)
  have P3 := oS (T2.setTop (mkF m 6 #[r_ en, i_ zk, i_ 1, i_ 0, u_] [(.int 0)])) P1 (fun t_ k_ => st2 t_ k_)
  have P4 := oS (T2.setTop (mkF m 33 #[r_ en, i_ zk, i_ 1, i_ 0, i_ (zk % (3 : Int32))] [(.int (zk / (3 : Int32))), (.int 4)])) P3 (by
    intro _ k_
    refine fY_ X2 hx hby d33_6 (pc := 6) (pc' := 24) ((if0 _ _).trans (teq (by decide : (0 : Int32) = (0 : Int32))).1) (by decide) ?_
    refine iN_ X2 hx hby d33_24 rfl ?_
    refine XS.iconst X2.here hx rfl (hb hby d33_25) ?_
    refine iremM X2 hx rfl (hb hby d33_26) rfl (by decide) ?_
    refine is_ X2 hx hby d33_27 (l' := #[r_ en, i_ zk, i_ 1, i_ 0, i_ (zk % (3 : Int32))]) rfl ?_
    refine XS.iconst X2.here hx rfl (hb hby d33_29) ?_
    refine iN_ X2 hx hby d33_30 rfl ?_
    refine XS.iconst X2.here hx rfl (hb hby d33_31) ?_
    refine XS.idiv X2.here hx rfl (hb hby d33_32) rfl (by decide) ?_
    exact k_)
  obtain ⟨_, T5, L5, X5, hQ5, P5c⟩ := own_cS (W := 0) (rm_mulx l Z a0 hw [] (4 : Int32) (zk / (3 : Int32)) m4 h0 n0 Z0 hez.1.1 hez.1.2) X2 hx hZ (fun _ _ => trivial) hown (own_w hw 127 rfl) (own_w hw 128 rfl) (own_w hw 129 rfl) (own_w hw 130 rfl) (by decide) P4 hml rfl [(.int 4), (.int (zk / (3 : Int32)))] [] rfl rfl rfl pd12 rfl (hb hby d33_33) e2 (by decide)
  obtain ⟨rfl, N5q, e5⟩ := hQ5
  have N5 := Fr.app N0 N5q
  have P6 := own_to (C := T5.setTop (mkF m 36 #[r_ en, i_ zk, i_ 1, i_ 0, i_ (zk % (3 : Int32))] [(.int m4)])) P5c
  have P7 := oS (T5.setTop (mkF m 38 #[r_ en, i_ zk, i_ 1, i_ 0, i_ (zk % (3 : Int32))] [(.int (zk % (3 : Int32))), (.int m4)])) P6 (by
    intro _ k_
    refine il_ X5 hx hby d33_36 rfl ?_
    exact k_)
  by_cases c8 : (zk % (3 : Int32)) = (0 : Int32)
  · have P9 := oS (T5.setTop (mkF m 49 #[r_ en, i_ zk, i_ 1, i_ 0, i_ (zk % (3 : Int32))] [(.int 0), (.int m4)])) P7 (by
      intro _ k_
      refine XS.ifNo X5.here hx rfl (hb hby d33_38) rfl ((if0 _ _).trans (teq c8).2) ?_
      refine XS.iconst X5.here hx rfl (hb hby d33_41) ?_
      refine gt_ X5 hx hby d33_42 (pc := 42) (pc' := 49) (by decide) ?_
      exact k_)
    obtain ⟨_, T10, L10, X10, hQ10, P10c⟩ := own_cS (W := 0) (rm_addx l Z a0 hw [] m4 (0 : Int32) zl h0 n0 Z0 (hez.2.1 c8).1 (hez.2.1 c8).2) X5 hx hZ (fun _ _ => trivial) hown (own_w hw 131 rfl) (own_w hw 132 rfl) (own_w hw 129 rfl) (own_w hw 133 rfl) (by decide) P9 hml rfl [(.int m4), (.int 0)] [] rfl rfl rfl pd12 rfl (hb hby d33_49) e5 (by decide)
    obtain ⟨rfl, N10q, e10⟩ := hQ10
    have N10 := Fr.app N5 N10q
    have P11 := own_to (C := T10.setTop (mkF m 52 #[r_ en, i_ zk, i_ 1, i_ 0, i_ (zk % (3 : Int32))] [(.int zl)])) P10c
    have P12 := oS (T10.setTop (mkF m 54 #[r_ en, i_ zk, i_ 1, i_ zl, i_ (zk % (3 : Int32))] [(.ref en)])) P11 (by
      intro _ k_
      refine XS.istoreN X10.here hx rfl (hb hby d33_52) rfl (l' := #[r_ en, i_ zk, i_ 1, i_ zl, i_ (zk % (3 : Int32))]) rfl ?_
      refine aN_ X10 hx hby d33_53 rfl rfl ?_
      exact k_)
    obtain ⟨T13, X13, e13, st13⟩ := getF X10 hx hZ hown (host := "") (Or.inl (own_w hw 134 rfl)) Via.refl e10 Fl (g := (mkF m 54 #[r_ en, i_ zk, i_ 1, i_ zl, i_ (zk % (3 : Int32))] [(.ref en)])) rfl rfl (hb hby d33_54)
    have P14 := oS (T13.setTop (mkF m 57 #[r_ en, i_ zk, i_ 1, i_ zl, i_ (zk % (3 : Int32))] [(.int (-1 : Int32))])) P12 (fun t_ k_ => st13 t_ k_)
    have P15 := oS (T13.setTop (mkF m 101 #[r_ en, i_ zk, i_ 1, i_ zl, i_ (zk % (3 : Int32))] [(.int zl)])) P14 (by
      intro _ k_
      refine fY_ X13 hx hby d33_57 (pc := 57) (pc' := 79) ((if0 _ _).trans (flt (by decide : ¬ ((0 : Int32) < (-1 : Int32)))).2.2.2) (by decide) ?_
      refine gt_ X13 hx hby d33_79 (pc := 79) (pc' := 100) (by decide) ?_
      refine iN_ X13 hx hby d33_100 rfl ?_
      exact k_)
    exact own_out X13 hlk (v := some (.int zl)) (own_hv hrt) P15 (fun _ q_ => retI X13 hx hrt (hb hby d33_101) q_) e13 ⟨rfl, N10, rfl⟩ (by decide)
  · have P17 := oS (T5.setTop (mkF m 49 #[r_ en, i_ zk, i_ 1, i_ 0, i_ (zk % (3 : Int32))] [(.int ((zk % (3 : Int32)) + (1 : Int32))), (.int m4)])) P7 (by
      intro _ k_
      refine fY_ X5 hx hby d33_38 (pc := 38) (pc' := 45) ((if0 _ _).trans (feq c8).2) (by decide) ?_
      refine il_ X5 hx hby d33_45 rfl ?_
      refine XS.iconst X5.here hx rfl (hb hby d33_47) ?_
      refine XS.iadd X5.here hx rfl (hb hby d33_48) rfl ?_
      exact k_)
    obtain ⟨_, T18, L18, X18, hQ18, P18c⟩ := own_cS (W := 0) (rm_addx l Z a0 hw [] m4 ((zk % (3 : Int32)) + (1 : Int32)) zl h0 n0 Z0 (hez.2.2 c8).1 (hez.2.2 c8).2) X5 hx hZ (fun _ _ => trivial) hown (own_w hw 131 rfl) (own_w hw 132 rfl) (own_w hw 129 rfl) (own_w hw 133 rfl) (by decide) P17 hml rfl [(.int m4), (.int ((zk % (3 : Int32)) + (1 : Int32)))] [] rfl rfl rfl pd12 rfl (hb hby d33_49) e5 (by decide)
    obtain ⟨rfl, N18q, e18⟩ := hQ18
    have N18 := Fr.app N5 N18q
    have P19 := own_to (C := T18.setTop (mkF m 52 #[r_ en, i_ zk, i_ 1, i_ 0, i_ (zk % (3 : Int32))] [(.int zl)])) P18c
    have P20 := oS (T18.setTop (mkF m 54 #[r_ en, i_ zk, i_ 1, i_ zl, i_ (zk % (3 : Int32))] [(.ref en)])) P19 (by
      intro _ k_
      refine XS.istoreN X18.here hx rfl (hb hby d33_52) rfl (l' := #[r_ en, i_ zk, i_ 1, i_ zl, i_ (zk % (3 : Int32))]) rfl ?_
      refine aN_ X18 hx hby d33_53 rfl rfl ?_
      exact k_)
    obtain ⟨T21, X21, e21, st21⟩ := getF X18 hx hZ hown (host := "") (Or.inl (own_w hw 134 rfl)) Via.refl e18 Fl (g := (mkF m 54 #[r_ en, i_ zk, i_ 1, i_ zl, i_ (zk % (3 : Int32))] [(.ref en)])) rfl rfl (hb hby d33_54)
    have P22 := oS (T21.setTop (mkF m 57 #[r_ en, i_ zk, i_ 1, i_ zl, i_ (zk % (3 : Int32))] [(.int (-1 : Int32))])) P20 (fun t_ k_ => st21 t_ k_)
    have P23 := oS (T21.setTop (mkF m 101 #[r_ en, i_ zk, i_ 1, i_ zl, i_ (zk % (3 : Int32))] [(.int zl)])) P22 (by
      intro _ k_
      refine fY_ X21 hx hby d33_57 (pc := 57) (pc' := 79) ((if0 _ _).trans (flt (by decide : ¬ ((0 : Int32) < (-1 : Int32)))).2.2.2) (by decide) ?_
      refine gt_ X21 hx hby d33_79 (pc := 79) (pc' := 100) (by decide) ?_
      refine iN_ X21 hx hby d33_100 rfl ?_
      exact k_)
    exact own_out X21 hlk (v := some (.int zl)) (own_hv hrt) P23 (fun _ q_ => retI X21 hx hrt (hb hby d33_101) q_) e21 ⟨rfl, N18, rfl⟩ (by decide)
theorem pd13 : parseMethodDescriptor "(IZ)I" = some ⟨[.int, .boolean], some .int⟩ := by decide +kernel
abbrev cB19 := jdk_2452_method_3_code
abbrev yM19 : MethodName := ⟨"java/util/Base64$Encoder", "encode", "([B)[B"⟩
theorem d19_0 : own_d cB19 0 (.aload_n 0) 1 := by decide +kernel
theorem d19_1 : own_d cB19 1 (.aload_n 1) 1 := by decide +kernel
theorem d19_2 : own_d cB19 2 (.arraylength) 1 := by decide +kernel
theorem d19_3 : own_d cB19 3 (.iconst 1) 1 := by decide +kernel
theorem d19_4 : own_d cB19 4 (.invokevirtual 42) 3 := by decide +kernel
theorem d19_7 : own_d cB19 7 (.istore_n 2) 1 := by decide +kernel
theorem d19_8 : own_d cB19 8 (.iload_n 2) 1 := by decide +kernel
theorem d19_9 : own_d cB19 9 (.newarray .byte) 2 := by decide +kernel
theorem d19_11 : own_d cB19 11 (.astore_n 3) 1 := by decide +kernel
theorem d19_12 : own_d cB19 12 (.aload_n 0) 1 := by decide +kernel
theorem d19_13 : own_d cB19 13 (.aload_n 1) 1 := by decide +kernel
theorem d19_14 : own_d cB19 14 (.iconst 0) 1 := by decide +kernel
theorem d19_15 : own_d cB19 15 (.aload_n 1) 1 := by decide +kernel
theorem d19_16 : own_d cB19 16 (.arraylength) 1 := by decide +kernel
theorem d19_17 : own_d cB19 17 (.aload_n 3) 1 := by decide +kernel
theorem d19_18 : own_d cB19 18 (.invokevirtual 46) 3 := by decide +kernel
theorem d19_21 : own_d cB19 21 (.istore 4) 2 := by decide +kernel
theorem d19_23 : own_d cB19 23 (.iload 4) 2 := by decide +kernel
theorem d19_25 : own_d cB19 25 (.aload_n 3) 1 := by decide +kernel
theorem d19_26 : own_d cB19 26 (.arraylength) 1 := by decide +kernel
theorem d19_27 : own_d cB19 27 (.if_icmp .eq 10) 3 := by decide +kernel
theorem d19_37 : own_d cB19 37 (.aload_n 3) 1 := by decide +kernel
theorem d19_38 : own_d cB19 38 (.areturn) 1 := by decide +kernel
theorem ef19RR (m : MethodId) (x0 : Addr) (x1 : Addr) : entryFrame m #[(.ref x0), (.ref x1)] 5 = mkF m 0 #[r_ x0, r_ x1, u_, u_, u_] [] := by first | (simp [entryFrame, mkF, argsToLocals, Value.category]; done) | rfl
def Q_enc (Z : State) (en : Addr) (b : Addr) (k : ClassId) (zk : Int32) (zl : Int32) (m4 : Int32) (ys : List Value) (vs : List Value) (h0 : Heap) (n0 : Nat) (v_ : Option Value) (h : Heap) (L_ : List Loc) : Prop := ∃ (xq : Addr) (kk : ClassId), v_ = some (.ref xq) ∧ Fr n0 L_ ∧ Keep h0 h [] ∧ h0.size ≤ xq ∧ Arv Z h xq kk .byte zl vs (.int 0) ∧ Exa Z h xq "[B"
set_option maxRecDepth 65536 in
set_option maxHeartbeats 40000000 in
theorem rm_enc (l : Launch) (Z : State) (a0 : Array Value) (hw : ∀ d ∈ tables_1, d.before a0 Z = true) (ws : List Jvm.Cond) (en : Addr) (b : Addr) (k : ClassId) (zk : Int32) (zl : Int32) (m4 : Int32) (ys : List Value) (vs : List Value) (h0 : Heap) (n0 : Nat) (Z0 : n0 ≤ h0.size) (O : Old Z n0 h0) (Ee : Exa Z h0 en "java/util/Base64$Encoder") (Fp : Fld Z h0 en "java/util/Base64$Encoder" "doPadding" "Z" (.int 0)) (Fl : Fld Z h0 en "java/util/Base64$Encoder" "linemax" "I" (.int (-1 : Int32))) (Fe : Fld Z h0 en "java/util/Base64$Encoder" "isURL" "Z" (.int 1)) (Vb : Arv Z h0 b k .byte zk ys (.int 0)) (hez : own_ez zk zl m4) (hm0 : ¬ zl < 0) (hzl : zl.toNatClampNeg ≤ 8) (He0 : HE0 l Z zk zl ys vs) :
    own_MF l yM19 (.code yM19 cB19 5 (some (.array .byte))) ws ⟨2, 1, 8, 67⟩ #[(.ref en), (.ref b)] Z h0 own_T (Q_enc Z en b k zk zl m4 ys vs h0 n0) := by
  refine own_in "java/util/Base64$Encoder" rfl (plainFor_of_name pn4) hisR (fun m => ef19RR m en b) ?_
  intro p e s m below meth c s₁ A_ hx hby hml hown hnm hrt hlk hZ _ X0 e0 pre0
  have N0 := Fr.nil n0
  have P1 := oS (s₁.setTop (mkF m 2 #[r_ en, r_ b, u_, u_, u_] [(.ref b), (.ref en)])) pre0 (by
    intro _ k_
    refine aN_ X0 hx hby d19_0 rfl rfl ?_
    refine aN_ X0 hx hby d19_1 rfl rfl ?_
    exact k_)
  obtain ⟨cl2, Ar2, q2, S2, M2, H2, G2⟩ := id Vb
  have P3 := oS (s₁.setTop (mkF m 3 #[r_ en, r_ b, u_, u_, u_] [(.int zk), (.ref en)])) P1 (by
    intro _ k_
    refine X0.arraylength hx (by rw [e0]; exact Ar2.1) (State.isArrayOf_alike hZ.alike Ar2.2.1) (g := (mkF m 2 #[r_ en, r_ b, u_, u_, u_] [(.ref b), (.ref en)])) rfl rfl (hb hby d19_2) _ ?_
    rw [len_of S2 M2]
    exact k_)
  have P4 := oS (s₁.setTop (mkF m 4 #[r_ en, r_ b, u_, u_, u_] [(.int 1), (.int zk), (.ref en)])) P3 (by
    intro _ k_
    refine XS.iconst X0.here hx rfl (hb hby d19_3) ?_
    exact k_)
  obtain ⟨_, T5, L5, X5, hQ5, P5c⟩ := own_cPH (W := 0) (rm_eol l Z a0 hw [] en zk zl m4 h0 n0 Z0 O Fp Fl Fe hez) X0 hx hZ (fun _ _ => trivial) hown Ee (own_w hw 120 rfl) (own_w hw 122 rfl) (own_w hw 123 rfl) (own_w hw 121 rfl) (own_w hw 113 rfl) (own_w hw 124 rfl) (by decide) P4 hml rfl [(.int zk), (.int 1)] [] rfl rfl rfl pd13 rfl (hb hby d19_4) e0 (by decide)
  obtain ⟨rfl, N5q, e5⟩ := hQ5
  have N5 := Fr.app N0 N5q
  have P6 := own_to (C := T5.setTop (mkF m 7 #[r_ en, r_ b, u_, u_, u_] [(.int zl)])) P5c
  have P7 := oS (T5.setTop (mkF m 9 #[r_ en, r_ b, i_ zl, u_, u_] [(.int zl)])) P6 (by
    intro _ k_
    refine XS.istoreN X5.here hx rfl (hb hby d19_7) rfl (l' := #[r_ en, r_ b, i_ zl, u_, u_]) rfl ?_
    refine iN_ X5 hx hby d19_8 rfl ?_
    exact k_)
  obtain ⟨T8, h8, k8, X8, e8, E8, A8, EA8, st8⟩ := newPE X5 hx hZ (own_w hw 26 rfl) e5 (g := (mkF m 9 #[r_ en, r_ b, i_ zl, u_, u_] [(.int zl)])) rfl (hb hby d19_9) rfl hm0 (cap := 8) hzl (by decide) (by decide) (by decide) (ad := "[B") (by decide +kernel)
  obtain ⟨b8, g8⟩ : ∃ z, z = h0.size := ⟨_, rfl⟩
  rw [← g8] at A8 EA8 st8
  have ne_en_b8 : en ≠ b8 := Nat.ne_of_lt (Nat.lt_of_lt_of_le Fp.lt (Nat.le_of_eq g8.symm))
  have ne_b_b8 : b ≠ b8 := Nat.ne_of_lt (Nat.lt_of_lt_of_le Vb.lt (Nat.le_of_eq g8.symm))
  have g_b8 : n0 ≤ b8 := Nat.le_trans Z0 (Nat.le_of_eq g8.symm)
  have sz_b8 : h0.size ≤ b8 := Nat.le_trans (Keep.refl h0 []).1 (Nat.le_of_eq g8.symm)
  have f9 := O.ext E8
  have f10 := Fp.ext E8
  have f11 := Fl.ext E8
  have f12 := Fe.ext E8
  have f13 := (Keep.refl h0 []).ext E8
  have f14 := Vb.ext E8
  have f15 := Ee.ext E8
  have Z16 : n0 ≤ h8.size := Nat.le_trans Z0 E8.1
  have V8 : Arv Z h8 b8 k8 .byte zl [] (.int 0) := Arv.new A8 hm0
  have P17 := oS (T8.setTop (mkF m 11 #[r_ en, r_ b, i_ zl, u_, u_] [(.ref b8)])) P7 (fun t_ k_ => st8 t_ k_)
  have P18 := oS (T8.setTop (mkF m 16 #[r_ en, r_ b, i_ zl, r_ b8, u_] [(.ref b), (.int 0), (.ref b), (.ref en)])) P17 (by
    intro _ k_
    refine XS.astoreN X8.here hx rfl (hb hby d19_11) rfl rfl (l' := #[r_ en, r_ b, i_ zl, r_ b8, u_]) rfl ?_
    refine aN_ X8 hx hby d19_12 rfl rfl ?_
    refine aN_ X8 hx hby d19_13 rfl rfl ?_
    refine XS.iconst X8.here hx rfl (hb hby d19_14) ?_
    refine aN_ X8 hx hby d19_15 rfl rfl ?_
    exact k_)
  obtain ⟨cl19, Ar19, q19, S19, M19, H19, G19⟩ := id f14
  have P20 := oS (T8.setTop (mkF m 17 #[r_ en, r_ b, i_ zl, r_ b8, u_] [(.int zk), (.int 0), (.ref b), (.ref en)])) P18 (by
    intro _ k_
    refine X8.arraylength hx (by rw [e8]; exact Ar19.1) (State.isArrayOf_alike hZ.alike Ar19.2.1) (g := (mkF m 16 #[r_ en, r_ b, i_ zl, r_ b8, u_] [(.ref b), (.int 0), (.ref b), (.ref en)])) rfl rfl (hb hby d19_16) _ ?_
    rw [len_of S19 M19]
    exact k_)
  have P21 := oS (T8.setTop (mkF m 18 #[r_ en, r_ b, i_ zl, r_ b8, u_] [(.ref b8), (.int zk), (.int 0), (.ref b), (.ref en)])) P20 (by
    intro _ k_
    refine aN_ X8 hx hby d19_17 rfl rfl ?_
    exact k_)
  obtain ⟨_, T22, L22, X22, hQ22, P22c⟩ := own_cP (W := 0) (He0 en b k b8 k8 h8 n0 Z16 f9 f10 f11 f12 f15 f14 V8 ne_b_b8 g_b8 ne_en_b8) X8 hx hZ (fun _ _ => trivial) hown f15 (own_w hw 136 rfl) (own_w hw 138 rfl) (own_w hw 139 rfl) (own_w hw 137 rfl) (own_w hw 113 rfl) (own_w hw 140 rfl) (by decide) P21 hml rfl [(.ref b), (.int 0), (.int zk), (.ref b8)] [] rfl rfl rfl pd9 rfl (hb hby d19_18) e8 (by decide)
  obtain ⟨rfl, N22q, K22, f23⟩ := hQ22
  have N22 := Fr.app N5 N22q
  have f28 := f13.trans K22 (allS (Or.inr sz_b8) all0)
  have f32 := EA8.keep K22
  have P34 := own_to (C := T22.setTop (mkF m 21 #[r_ en, r_ b, i_ zl, r_ b8, u_] [(.int zl)])) P22c
  have P35 := oS (T22.setTop (mkF m 26 #[r_ en, r_ b, i_ zl, r_ b8, i_ zl] [(.ref b8), (.int zl)])) P34 (by
    intro _ k_
    refine is_ X22 hx hby d19_21 (l' := #[r_ en, r_ b, i_ zl, r_ b8, i_ zl]) rfl ?_
    refine il_ X22 hx hby d19_23 rfl ?_
    refine aN_ X22 hx hby d19_25 rfl rfl ?_
    exact k_)
  obtain ⟨cl36, Ar36, q36, S36, M36, H36, G36⟩ := id f23
  have P37 := oS (T22.setTop (mkF m 27 #[r_ en, r_ b, i_ zl, r_ b8, i_ zl] [(.int zl), (.int zl)])) P35 (by
    intro _ k_
    refine X22.arraylength hx Ar36.1 (State.isArrayOf_alike hZ.alike Ar36.2.1) (g := (mkF m 26 #[r_ en, r_ b, i_ zl, r_ b8, i_ zl] [(.ref b8), (.int zl)])) rfl rfl (hb hby d19_26) _ ?_
    rw [len_of S36 M36]
    exact k_)
  have P38 := oS (T22.setTop (mkF m 38 #[r_ en, r_ b, i_ zl, r_ b8, i_ zl] [(.ref b8)])) P37 (by
    intro _ k_
    refine cY_ X22 hx hby d19_27 (pc := 27) (pc' := 37) (teq (rfl : zl = zl)).1 (by decide) ?_
    refine aN_ X22 hx hby d19_37 rfl rfl ?_
    exact k_)
  exact own_out X22 hlk (v := some (.ref b8)) (own_hv hrt) P38 (fun _ q_ => retOut X22 hx hrt rfl (Or.inr (Or.inr (Or.inr (Or.inr ⟨rfl, rfl, rfl⟩)))) (hb hby d19_38) q_) (rfl : T22.heap = _) ⟨b8, k8, rfl, N22, f28, sz_b8, f23, f32⟩ (by decide)
abbrev cB25 := jdk_41_method_13_code
abbrev yM25 : MethodName := ⟨"jdk/internal/util/Preconditions", "checkFromIndexSize", "(IIILjava/util/function/BiFunction;)I"⟩
theorem d25_0 : own_d cB25 0 (.iload_n 2) 1 := by decide +kernel
theorem d25_1 : own_d cB25 1 (.iload_n 0) 1 := by decide +kernel
theorem d25_2 : own_d cB25 2 (.ior) 1 := by decide +kernel
theorem d25_3 : own_d cB25 3 (.iload_n 1) 1 := by decide +kernel
theorem d25_4 : own_d cB25 4 (.ior) 1 := by decide +kernel
theorem d25_5 : own_d cB25 5 (.ifCond .lt 10) 3 := by decide +kernel
theorem d25_8 : own_d cB25 8 (.iload_n 1) 1 := by decide +kernel
theorem d25_9 : own_d cB25 9 (.iload_n 2) 1 := by decide +kernel
theorem d25_10 : own_d cB25 10 (.iload_n 0) 1 := by decide +kernel
theorem d25_11 : own_d cB25 11 (.isub) 1 := by decide +kernel
theorem d25_12 : own_d cB25 12 (.if_icmp .le 11) 3 := by decide +kernel
theorem d25_23 : own_d cB25 23 (.iload_n 0) 1 := by decide +kernel
theorem d25_24 : own_d cB25 24 (.ireturn) 1 := by decide +kernel
theorem ef25IIIRV (m : MethodId) (x0 : Int32) (x1 : Int32) (x2 : Int32) (x3 : Value) (hx3 : x3.category = 1) : entryFrame m #[(.int x0), (.int x1), (.int x2), x3] 4 = mkF m 0 #[i_ x0, i_ x1, i_ x2, .val x3] [] := by cases x3 <;> first | (exfalso; simp [Value.category] at hx3; done) | (first | (simp [entryFrame, mkF, argsToLocals, Value.category]; done) | rfl)
def Q_cfs (Z : State) (zl : Int32) (fm : Value) (h0 : Heap) (n0 : Nat) (v_ : Option Value) (h : Heap) (L_ : List Loc) : Prop := v_ = some (.int 0) ∧ Fr n0 L_ ∧ h = h0
theorem pn5 : plainName "jdk/internal/util/Preconditions" = true := by first | (simp [plainName, overriddenIn]; done) | decide +kernel
set_option maxRecDepth 65536 in
set_option maxHeartbeats 40000000 in
theorem rm_cfs (l : Launch) (Z : State) (a0 : Array Value) (hw : ∀ d ∈ tables_1, d.before a0 Z = true) (ws : List Jvm.Cond) (zl : Int32) (fm : Value) (h0 : Heap) (n0 : Nat) (Z0 : n0 ≤ h0.size) (hfm : fm.category = 1) (hz1 : ¬ (((zl ||| 0) ||| zl) < (0 : Int32))) (hz2 : ¬ ((zl - (0 : Int32)) < zl)) :
    own_MF l yM25 (.code yM25 cB25 4 (some .int)) ws ⟨0, 0, 0, 0⟩ #[(.int 0), (.int zl), (.int zl), fm] Z h0 own_T (Q_cfs Z zl fm h0 n0) := by
  refine own_in "jdk/internal/util/Preconditions" rfl (plainFor_of_name pn5) hisR (fun m => ef25IIIRV m (0 : Int32) zl zl fm hfm) ?_
  intro p e s m below meth c s₁ A_ hx hby hml hown hnm hrt hlk hZ _ X0 e0 pre0
  have N0 := Fr.nil n0
  have P1 := oS (s₁.setTop (mkF m 5 #[i_ 0, i_ zl, i_ zl, .val fm] [(.int ((zl ||| 0) ||| zl))])) pre0 (by
    intro _ k_
    refine iN_ X0 hx hby d25_0 rfl ?_
    refine iN_ X0 hx hby d25_1 rfl ?_
    refine XS.ior X0.here hx rfl (hb hby d25_2) rfl ?_
    refine iN_ X0 hx hby d25_3 rfl ?_
    refine XS.ior X0.here hx rfl (hb hby d25_4) rfl ?_
    exact k_)
  have P2 := oS (s₁.setTop (mkF m 12 #[i_ 0, i_ zl, i_ zl, .val fm] [(.int (zl - (0 : Int32))), (.int zl)])) P1 (by
    intro _ k_
    refine XS.ifNo X0.here hx rfl (hb hby d25_5) rfl ((if0 _ _).trans (flt hz1).1) ?_
    refine iN_ X0 hx hby d25_8 rfl ?_
    refine iN_ X0 hx hby d25_9 rfl ?_
    refine iN_ X0 hx hby d25_10 rfl ?_
    refine XS.isub X0.here hx rfl (hb hby d25_11) rfl ?_
    exact k_)
  have P3 := oS (s₁.setTop (mkF m 24 #[i_ 0, i_ zl, i_ zl, .val fm] [(.int 0)])) P2 (by
    intro _ k_
    refine cY_ X0 hx hby d25_12 (pc := 12) (pc' := 23) (flt hz2).2.2.2 (by decide) ?_
    refine iN_ X0 hx hby d25_23 rfl ?_
    exact k_)
  exact own_out X0 hlk (v := some (.int 0)) (own_hv hrt) P3 (fun _ q_ => retI X0 hx hrt (hb hby d25_24) q_) e0 ⟨rfl, N0, rfl⟩ (by decide)
theorem pd14 : parseMethodDescriptor "(IIILjava/util/function/BiFunction;)I" = some ⟨[.int, .int, .int, (.object "java/util/function/BiFunction")], some .int⟩ := by decide +kernel
abbrev cB24 := jdk_42_method_157_code
abbrev yM24 : MethodName := ⟨"java/lang/String", "checkBoundsOffCount", "(III)I"⟩
theorem d24_0 : own_d cB24 0 (.iload_n 0) 1 := by decide +kernel
theorem d24_1 : own_d cB24 1 (.iload_n 1) 1 := by decide +kernel
theorem d24_2 : own_d cB24 2 (.iload_n 2) 1 := by decide +kernel
theorem d24_3 : own_d cB24 3 (.getstatic 1053) 3 := by decide +kernel
theorem d24_6 : own_d cB24 6 (.invokestatic 1065) 3 := by decide +kernel
theorem d24_9 : own_d cB24 9 (.ireturn) 1 := by decide +kernel
theorem ef24III (m : MethodId) (x0 : Int32) (x1 : Int32) (x2 : Int32) : entryFrame m #[(.int x0), (.int x1), (.int x2)] 3 = mkF m 0 #[i_ x0, i_ x1, i_ x2] [] := by first | (simp [entryFrame, mkF, argsToLocals, Value.category]; done) | rfl
def Q_cbo (Z : State) (zl : Int32) (fm : Value) (h0 : Heap) (n0 : Nat) (v_ : Option Value) (h : Heap) (L_ : List Loc) : Prop := v_ = some (.int 0) ∧ Fr n0 L_ ∧ h = h0
set_option maxRecDepth 65536 in
set_option maxHeartbeats 40000000 in
theorem rm_cbo (l : Launch) (Z : State) (a0 : Array Value) (hw : ∀ d ∈ tables_1, d.before a0 Z = true) (ws : List Jvm.Cond) (zl : Int32) (fm : Value) (h0 : Heap) (n0 : Nat) (Z0 : n0 ≤ h0.size) (O : Old Z n0 h0) (Sfm : Sta Z Z.heap "jdk/internal/util/Preconditions" "SIOOBE_FORMATTER" "Ljava/util/function/BiFunction;" fm) (hfm : fm.category = 1) (hz1 : ¬ (((zl ||| 0) ||| zl) < (0 : Int32))) (hz2 : ¬ ((zl - (0 : Int32)) < zl)) :
    own_MF l yM24 (.code yM24 cB24 3 (some .int)) ws ⟨1, 0, 0, 15⟩ #[(.int 0), (.int zl), (.int zl)] Z h0 own_T (Q_cbo Z zl fm h0 n0) := by
  refine own_in "java/lang/String" rfl (plainFor_of_name pn2) hisR (fun m => ef24III m (0 : Int32) zl zl) ?_
  intro p e s m below meth c s₁ A_ hx hby hml hown hnm hrt hlk hZ _ X0 e0 pre0
  have N0 := Fr.nil n0
  have P1 := oS (s₁.setTop (mkF m 3 #[i_ 0, i_ zl, i_ zl] [(.int zl), (.int zl), (.int 0)])) pre0 (by
    intro _ k_
    refine iN_ X0 hx hby d24_0 rfl ?_
    refine iN_ X0 hx hby d24_1 rfl ?_
    refine iN_ X0 hx hby d24_2 rfl ?_
    exact k_)
  obtain ⟨T2, X2, e2, st2⟩ := getS2 X0 hx hZ hown (host := "") (Or.inl (own_w hw 151 rfl)) Via.refl e0 (Sfm.ext O.2) (g := (mkF m 3 #[i_ 0, i_ zl, i_ zl] [(.int zl), (.int zl), (.int 0)])) rfl (hb hby d24_3)
  have P3 := oS (T2.setTop (mkF m 6 #[i_ 0, i_ zl, i_ zl] [fm, (.int zl), (.int zl), (.int 0)])) P1 (fun t_ k_ => st2 t_ k_)
  obtain ⟨_, T4, L4, X4, hQ4, P4c⟩ := own_cS (W := 0) (rm_cfs l Z a0 hw [] zl fm h0 n0 Z0 hfm hz1 hz2) X2 hx hZ (fun _ _ => trivial) hown (own_w hw 153 rfl) (own_w hw 154 rfl) (own_w hw 152 rfl) (own_w hw 155 rfl) (by decide) P3 hml rfl [(.int 0), (.int zl), (.int zl), fm] [] rfl rfl rfl pd14 rfl (hb hby d24_6) e2 (by decide)
  obtain ⟨rfl, N4q, e4⟩ := hQ4
  have N4 := Fr.app N0 N4q
  have P5 := own_to (C := T4.setTop (mkF m 9 #[i_ 0, i_ zl, i_ zl] [(.int 0)])) P4c
  exact own_out X4 hlk (v := some (.int 0)) (own_hv hrt) P5 (fun _ q_ => retI X4 hx hrt (hb hby d24_9) q_) e4 ⟨rfl, N4, rfl⟩ (by decide)
abbrev cB26 := jdk_65_method_132_code
abbrev yM26 : MethodName := ⟨"java/util/Arrays", "copyOfRange", "([BII)[B"⟩
theorem d26_0 : own_d cB26 0 (.iload_n 1) 1 := by decide +kernel
theorem d26_1 : own_d cB26 1 (.ifCond .ne 9) 3 := by decide +kernel
theorem d26_4 : own_d cB26 4 (.iload_n 2) 1 := by decide +kernel
theorem d26_5 : own_d cB26 5 (.aload_n 0) 1 := by decide +kernel
theorem d26_6 : own_d cB26 6 (.arraylength) 1 := by decide +kernel
theorem d26_7 : own_d cB26 7 (.if_icmp .eq 10) 3 := by decide +kernel
theorem d26_17 : own_d cB26 17 (.aload_n 0) 1 := by decide +kernel
theorem d26_18 : own_d cB26 18 (.invokevirtual 310) 3 := by decide +kernel
theorem d26_21 : own_d cB26 21 (.checkcast 311) 3 := by decide +kernel
theorem d26_24 : own_d cB26 24 (.areturn) 1 := by decide +kernel
theorem ef26RII (m : MethodId) (x0 : Addr) (x1 : Int32) (x2 : Int32) : entryFrame m #[(.ref x0), (.int x1), (.int x2)] 3 = mkF m 0 #[r_ x0, i_ x1, i_ x2] [] := by first | (simp [entryFrame, mkF, argsToLocals, Value.category]; done) | rfl
def Q_cor (Z : State) (b : Addr) (k : ClassId) (zl : Int32) (vs : List Value) (h0 : Heap) (n0 : Nat) (v_ : Option Value) (h : Heap) (L_ : List Loc) : Prop := ∃ (xq : Addr), v_ = some (.ref xq) ∧ Fr n0 L_ ∧ Keep h0 h [] ∧ h0.size ≤ xq ∧ Arv Z h xq k .byte zl vs (.int 0) ∧ Exa Z h xq "[B"
theorem pn6 : plainName "java/util/Arrays" = true := by first | (simp [plainName, overriddenIn]; done) | decide +kernel
set_option maxRecDepth 65536 in
set_option maxHeartbeats 40000000 in
theorem rm_cor (l : Launch) (Z : State) (a0 : Array Value) (hw : ∀ d ∈ tables_1, d.before a0 Z = true) (ws : List Jvm.Cond) (b : Addr) (k : ClassId) (zl : Int32) (vs : List Value) (h0 : Heap) (n0 : Nat) (Z0 : n0 ≤ h0.size) (O : Old Z n0 h0) (Vb : Arv Z h0 b k .byte zl vs (.int 0)) (Eb : Exa Z h0 b "[B") (hzl : zl.toNatClampNeg ≤ 8) (hz3 : ((0 : Int32) + zl) = zl) :
    own_MF l yM26 (.code yM26 cB26 3 (some (.array .byte))) ws ⟨1, 1, 8, 14⟩ #[(.ref b), (.int 0), (.int ((0 : Int32) + zl))] Z h0 own_T (Q_cor Z b k zl vs h0 n0) := by
  refine own_in "java/util/Arrays" rfl (plainFor_of_name pn6) hisR (fun m => ef26RII m b (0 : Int32) ((0 : Int32) + zl)) ?_
  intro p e s m below meth c s₁ A_ hx hby hml hown hnm hrt hlk hZ _ X0 e0 pre0
  have N0 := Fr.nil n0
  have P1 := oS (s₁.setTop (mkF m 1 #[r_ b, i_ 0, i_ ((0 : Int32) + zl)] [(.int 0)])) pre0 (by
    intro _ k_
    refine iN_ X0 hx hby d26_0 rfl ?_
    exact k_)
  have P2 := oS (s₁.setTop (mkF m 6 #[r_ b, i_ 0, i_ ((0 : Int32) + zl)] [(.ref b), (.int ((0 : Int32) + zl))])) P1 (by
    intro _ k_
    refine XS.ifNo X0.here hx rfl (hb hby d26_1) rfl ((if0 _ _).trans (teq (by decide : (0 : Int32) = (0 : Int32))).2) ?_
    refine iN_ X0 hx hby d26_4 rfl ?_
    refine aN_ X0 hx hby d26_5 rfl rfl ?_
    exact k_)
  obtain ⟨cl3, Ar3, q3, S3, M3, H3, G3⟩ := id Vb
  have P4 := oS (s₁.setTop (mkF m 7 #[r_ b, i_ 0, i_ ((0 : Int32) + zl)] [(.int zl), (.int ((0 : Int32) + zl))])) P2 (by
    intro _ k_
    refine X0.arraylength hx (by rw [e0]; exact Ar3.1) (State.isArrayOf_alike hZ.alike Ar3.2.1) (g := (mkF m 6 #[r_ b, i_ 0, i_ ((0 : Int32) + zl)] [(.ref b), (.int ((0 : Int32) + zl))])) rfl rfl (hb hby d26_6) _ ?_
    rw [len_of S3 M3]
    exact k_)
  have P5 := oS (s₁.setTop (mkF m 18 #[r_ b, i_ 0, i_ ((0 : Int32) + zl)] [(.ref b)])) P4 (by
    intro _ k_
    refine cY_ X0 hx hby d26_7 (pc := 7) (pc' := 17) (teq hz3).1 (by decide) ?_
    refine aN_ X0 hx hby d26_17 rfl rfl ?_
    exact k_)
  obtain ⟨T6, h6, X6, e6, E6, V6, EA6, st6⟩ := cloneH X0 hx hZ hown (own_w hw 160 rfl) (own_w hw 74 rfl) (own_w hw 78 rfl) (own_w hw 76 rfl) (own_w hw 77 rfl) (own_w hw 79 rfl) e0 (Arv.arh Vb) Eb (g := (mkF m 18 #[r_ b, i_ 0, i_ ((0 : Int32) + zl)] [(.ref b)])) rfl (by rw [hml]; rfl) rfl (hb hby d26_18) (by decide) (W := 0) (cap := 8) (by show 2 * 0 + _ ≤ _; exact Nat.le_of_eq rfl) (by decide) hzl (by decide) (by decide)
  obtain ⟨b6, g6⟩ : ∃ z, z = h0.size := ⟨_, rfl⟩
  rw [← g6] at V6 EA6 st6
  have sz_b6 : h0.size ≤ b6 := Nat.le_trans (Keep.refl h0 []).1 (Nat.le_of_eq g6.symm)
  have f8 := (Keep.refl h0 []).ext E6
  have V6v : Arv Z h6 b6 k .byte zl vs (.int 0) := V6
  have P12 := oS (T6.setTop (mkF m 21 #[r_ b, i_ 0, i_ ((0 : Int32) + zl)] [(.ref b6)])) P5 (fun t_ k_ => st6 t_ k_)
  obtain ⟨T13, X13, e13, st13⟩ := castY X6 hx hZ hown (own_w hw 161 rfl) e6 (Ins.self EA6) (g := (mkF m 21 #[r_ b, i_ 0, i_ ((0 : Int32) + zl)] [(.ref b6)])) rfl rfl (hb hby d26_21)
  have P14 := oS (T13.setTop (mkF m 24 #[r_ b, i_ 0, i_ ((0 : Int32) + zl)] [(.ref b6)])) P12 (fun t_ k_ => st13 t_ k_)
  exact own_out X13 hlk (v := some (.ref b6)) (own_hv hrt) P14 (fun _ q_ => retOut X13 hx hrt rfl (Or.inr (Or.inr (Or.inr (Or.inr ⟨rfl, rfl, rfl⟩)))) (hb hby d26_24) q_) e13 ⟨b6, rfl, N0, f8, sz_b6, V6v, EA6⟩ (by decide)
theorem pd15 : parseMethodDescriptor "(III)I" = some ⟨[.int, .int, .int], some .int⟩ := by decide +kernel
theorem pd16 : parseMethodDescriptor "([BII)[B" = some ⟨[(.array .byte), .int, .int], some (.array .byte)⟩ := by decide +kernel
abbrev cB23 := jdk_42_method_7_code
abbrev yM23 : MethodName := ⟨"java/lang/String", "<init>", "([BIII)V"⟩
theorem d23_0 : own_d cB23 0 (.aload_n 0) 1 := by decide +kernel
theorem d23_1 : own_d cB23 1 (.invokespecial 1) 3 := by decide +kernel
theorem d23_4 : own_d cB23 4 (.iload_n 3) 1 := by decide +kernel
theorem d23_5 : own_d cB23 5 (.iload 4) 2 := by decide +kernel
theorem d23_7 : own_d cB23 7 (.aload_n 1) 1 := by decide +kernel
theorem d23_8 : own_d cB23 8 (.arraylength) 1 := by decide +kernel
theorem d23_9 : own_d cB23 9 (.invokestatic 34) 3 := by decide +kernel
theorem d23_12 : own_d cB23 12 (.pop) 1 := by decide +kernel
theorem d23_13 : own_d cB23 13 (.iload 4) 2 := by decide +kernel
theorem d23_15 : own_d cB23 15 (.ifCond .ne 22) 3 := by decide +kernel
theorem d23_37 : own_d cB23 37 (.getstatic 38) 3 := by decide +kernel
theorem d23_40 : own_d cB23 40 (.ifCond .eq 29) 3 := by decide +kernel
theorem d23_43 : own_d cB23 43 (.iload_n 2) 1 := by decide +kernel
theorem d23_44 : own_d cB23 44 (.i2b) 1 := by decide +kernel
theorem d23_45 : own_d cB23 45 (.ifCond .ne 24) 3 := by decide +kernel
theorem d23_48 : own_d cB23 48 (.aload_n 0) 1 := by decide +kernel
theorem d23_49 : own_d cB23 49 (.aload_n 1) 1 := by decide +kernel
theorem d23_50 : own_d cB23 50 (.iload_n 3) 1 := by decide +kernel
theorem d23_51 : own_d cB23 51 (.iload_n 3) 1 := by decide +kernel
theorem d23_52 : own_d cB23 52 (.iload 4) 2 := by decide +kernel
theorem d23_54 : own_d cB23 54 (.iadd) 1 := by decide +kernel
theorem d23_55 : own_d cB23 55 (.invokestatic 54) 3 := by decide +kernel
theorem d23_58 : own_d cB23 58 (.putfield 9) 3 := by decide +kernel
theorem d23_61 : own_d cB23 61 (.aload_n 0) 1 := by decide +kernel
theorem d23_62 : own_d cB23 62 (.iconst 0) 1 := by decide +kernel
theorem d23_63 : own_d cB23 63 (.putfield 15) 3 := by decide +kernel
theorem d23_66 : own_d cB23 66 (.goto 61) 3 := by decide +kernel
theorem d23_127 : own_d cB23 127 (.return_) 1 := by decide +kernel
theorem ef23RRIII (m : MethodId) (x0 : Addr) (x1 : Addr) (x2 : Int32) (x3 : Int32) (x4 : Int32) : entryFrame m #[(.ref x0), (.ref x1), (.int x2), (.int x3), (.int x4)] 7 = mkF m 0 #[r_ x0, r_ x1, i_ x2, i_ x3, i_ x4, u_, u_] [] := by first | (simp [entryFrame, mkF, argsToLocals, Value.category]; done) | rfl
def Q_initB_0 (Z : State) (a : Addr) (b : Addr) (k : ClassId) (vs : List Value) (fm : Value) (cs : Int32) (zl : Int32) (h0 : Heap) (n0 : Nat) (v_ : Option Value) (h : Heap) (L_ : List Loc) : Prop := ∃ (xq : Addr), v_ = none ∧ Fr n0 L_ ∧ Keep h0 h [a] ∧ Exa Z h a "java/lang/String" ∧ Fld Z h a "java/lang/String" "coder" "B" (.int 0) ∧ Fld Z h a "java/lang/String" "value" "[B" (.ref xq) ∧ Arv Z h xq k .byte zl vs (.int 0) ∧ h0.size ≤ xq
set_option maxRecDepth 65536 in
set_option maxHeartbeats 40000000 in
theorem rm_initB_0 (l : Launch) (Z : State) (a0 : Array Value) (hw : ∀ d ∈ tables_1, d.before a0 Z = true) (ws : List Jvm.Cond) (a : Addr) (b : Addr) (k : ClassId) (vs : List Value) (fm : Value) (cs : Int32) (zl : Int32) (h0 : Heap) (n0 : Nat) (Z0 : n0 ≤ h0.size) (O : Old Z n0 h0) (Scs : Sta Z Z.heap "java/lang/String" "COMPACT_STRINGS" "Z" (.int cs)) (hcs : ¬ (cs = (0 : Int32))) (Sfm : Sta Z Z.heap "jdk/internal/util/Preconditions" "SIOOBE_FORMATTER" "Ljava/util/function/BiFunction;" fm) (hfm : fm.category = 1) (Ea : Exa Z h0 a "java/lang/String") (Fv : Fld Z h0 a "java/lang/String" "value" "[B" .null) (Fc : Fld Z h0 a "java/lang/String" "coder" "B" (.int 0)) (ga : n0 ≤ a) (Vb : Arv Z h0 b k .byte zl vs (.int 0)) (Eb : Exa Z h0 b "[B") (hzl : zl.toNatClampNeg ≤ 8) (hz0 : ¬ (zl = (0 : Int32))) (hz1 : ¬ (((zl ||| 0) ||| zl) < (0 : Int32))) (hz2 : ¬ ((zl - (0 : Int32)) < zl)) (hz3 : ((0 : Int32) + zl) = zl) :
    own_MF l yM23 (.code yM23 cB23 7 none) ws ⟨2, 1, 8, 29⟩ #[(.ref a), (.ref b), (.int 0), (.int 0), (.int zl)] Z h0 own_T (Q_initB_0 Z a b k vs fm cs zl h0 n0) := by
  refine own_in "java/lang/String" rfl (plainFor_of_name pn2) hisR (fun m => ef23RRIII m a b (0 : Int32) (0 : Int32) zl) ?_
  intro p e s m below meth c s₁ A_ hx hby hml hown hnm hrt hlk hZ _ X0 e0 pre0
  have N0 := Fr.nil n0
  obtain ⟨clV, ArV, -⟩ := id Vb
  have P1 := oS (s₁.setTop (mkF m 1 #[r_ a, r_ b, i_ 0, i_ 0, i_ zl, u_, u_] [(.ref a)])) pre0 (by
    intro _ k_
    refine aN_ X0 hx hby d23_0 rfl rfl ?_
    exact k_)
  obtain ⟨T2, X2, e2, st2⟩ := initO X0 hx hZ hown (own_w hw 18 rfl) (own_w hw 19 rfl) (own_w hw 20 rfl) e0 (g := (mkF m 1 #[r_ a, r_ b, i_ 0, i_ 0, i_ zl, u_, u_] [(.ref a)])) rfl (by rw [hml]; rfl) rfl (hb hby d23_1) (by decide) (W := 0) (by show 2 * 0 + _ ≤ _; exact Nat.le_of_eq rfl) (by decide)
  have P3 := oS (T2.setTop (mkF m 4 #[r_ a, r_ b, i_ 0, i_ 0, i_ zl, u_, u_] [])) P1 (fun t_ k_ => st2 t_ k_)
  have P4 := oS (T2.setTop (mkF m 8 #[r_ a, r_ b, i_ 0, i_ 0, i_ zl, u_, u_] [(.ref b), (.int zl), (.int 0)])) P3 (by
    intro _ k_
    refine iN_ X2 hx hby d23_4 rfl ?_
    refine il_ X2 hx hby d23_5 rfl ?_
    refine aN_ X2 hx hby d23_7 rfl rfl ?_
    exact k_)
  obtain ⟨cl5, Ar5, q5, S5, M5, H5, G5⟩ := id Vb
  have P6 := oS (T2.setTop (mkF m 9 #[r_ a, r_ b, i_ 0, i_ 0, i_ zl, u_, u_] [(.int zl), (.int zl), (.int 0)])) P4 (by
    intro _ k_
    refine X2.arraylength hx (by rw [e2]; exact Ar5.1) (State.isArrayOf_alike hZ.alike Ar5.2.1) (g := (mkF m 8 #[r_ a, r_ b, i_ 0, i_ 0, i_ zl, u_, u_] [(.ref b), (.int zl), (.int 0)])) rfl rfl (hb hby d23_8) _ ?_
    rw [len_of S5 M5]
    exact k_)
  obtain ⟨_, T7, L7, X7, hQ7, P7c⟩ := own_cS (W := 0) (rm_cbo l Z a0 hw [] zl fm h0 n0 Z0 O Sfm hfm hz1 hz2) X2 hx hZ (fun _ _ => trivial) hown (own_w hw 148 rfl) (own_w hw 149 rfl) (own_w hw 10 rfl) (own_w hw 150 rfl) (by decide) P6 hml rfl [(.int 0), (.int zl), (.int zl)] [] rfl rfl rfl pd15 rfl (hb hby d23_9) e2 (by decide)
  obtain ⟨rfl, N7q, e7⟩ := hQ7
  have N7 := Fr.app N0 N7q
  have P8 := own_to (C := T7.setTop (mkF m 12 #[r_ a, r_ b, i_ 0, i_ 0, i_ zl, u_, u_] [(.int 0)])) P7c
  have P9 := oS (T7.setTop (mkF m 15 #[r_ a, r_ b, i_ 0, i_ 0, i_ zl, u_, u_] [(.int zl)])) P8 (by
    intro _ k_
    refine XS.pop X7.here hx rfl (hb hby d23_12) rfl rfl ?_
    refine il_ X7 hx hby d23_13 rfl ?_
    exact k_)
  have P10 := oS (T7.setTop (mkF m 37 #[r_ a, r_ b, i_ 0, i_ 0, i_ zl, u_, u_] [])) P9 (by
    intro _ k_
    refine fY_ X7 hx hby d23_15 (pc := 15) (pc' := 37) ((if0 _ _).trans (feq hz0).2) (by decide) ?_
    exact k_)
  obtain ⟨T11, X11, e11, st11⟩ := getS2 X7 hx hZ hown (host := "") (Or.inl (own_w hw 21 rfl)) Via.refl e7 (Scs.ext O.2) (g := (mkF m 37 #[r_ a, r_ b, i_ 0, i_ 0, i_ zl, u_, u_] [])) rfl (hb hby d23_37)
  have P12 := oS (T11.setTop (mkF m 40 #[r_ a, r_ b, i_ 0, i_ 0, i_ zl, u_, u_] [(.int cs)])) P10 (fun t_ k_ => st11 t_ k_)
  have P13 := oS (T11.setTop (mkF m 45 #[r_ a, r_ b, i_ 0, i_ 0, i_ zl, u_, u_] [(.int ((0 : Int32).toInt8.toInt32))])) P12 (by
    intro _ k_
    refine XS.ifNo X11.here hx rfl (hb hby d23_40) rfl ((if0 _ _).trans (feq hcs).1) ?_
    refine iN_ X11 hx hby d23_43 rfl ?_
    refine XS.i2b X11.here hx rfl (hb hby d23_44) rfl ?_
    exact k_)
  have P14 := oS (T11.setTop (mkF m 55 #[r_ a, r_ b, i_ 0, i_ 0, i_ zl, u_, u_] [(.int ((0 : Int32) + zl)), (.int 0), (.ref b), (.ref a)])) P13 (by
    intro _ k_
    refine XS.ifNo X11.here hx rfl (hb hby d23_45) rfl ((if0 _ _).trans (teq (by decide : ((0 : Int32).toInt8.toInt32) = (0 : Int32))).2) ?_
    refine aN_ X11 hx hby d23_48 rfl rfl ?_
    refine aN_ X11 hx hby d23_49 rfl rfl ?_
    refine iN_ X11 hx hby d23_50 rfl ?_
    refine iN_ X11 hx hby d23_51 rfl ?_
    refine il_ X11 hx hby d23_52 rfl ?_
    refine XS.iadd X11.here hx rfl (hb hby d23_54) rfl ?_
    exact k_)
  obtain ⟨_, T15, L15, X15, hQ15, P15c⟩ := own_cS (W := 1) (rm_cor l Z a0 hw [] b k zl vs h0 n0 Z0 O Vb Eb hzl hz3) X11 hx hZ (fun _ _ => trivial) hown (own_w hw 156 rfl) (own_w hw 157 rfl) (own_w hw 158 rfl) (own_w hw 159 rfl) (by decide) P14 hml rfl [(.ref b), (.int 0), (.int ((0 : Int32) + zl))] [(.ref a)] rfl rfl rfl pd16 rfl (hb hby d23_55) e11 (by decide)
  obtain ⟨xq15, rfl, N15q, K15, f16, f17, f18⟩ := hQ15
  have N15 := Fr.app N7 N15q
  have ne_a_xq15 : a ≠ xq15 := Nat.ne_of_lt (Nat.lt_of_lt_of_le Ea.lt f16)
  have sz_xq15 : h0.size ≤ xq15 := Nat.le_trans (Keep.refl h0 [a]).1 f16
  have f20 := Ea.keep K15
  have f21 := Fc.keep K15 nin0
  have f22 := Fv.keep K15 nin0
  have f23 := (Keep.refl h0 [a]).trans K15 all0
  have P27 := own_to (C := T15.setTop (mkF m 58 #[r_ a, r_ b, i_ 0, i_ 0, i_ zl, u_, u_] [(.ref xq15), (.ref a)])) P15c
  obtain ⟨T28, h28, X28, e28, W28, st28⟩ := putF X15 hx hZ hown (host := "") (Or.inl (own_w hw 35 rfl)) Via.refl rfl f22 f20 (Or.inr ⟨(own_w hw 36 rfl), rfl, hnm⟩) (own_w hw 9 rfl) (ty := (.array .byte)) (by decide) rfl rfl (g := (mkF m 58 #[r_ a, r_ b, i_ 0, i_ 0, i_ zl, u_, u_] [(.ref xq15), (.ref a)])) rfl rfl (hb hby d23_58)
  have f30 := f20.wr W28
  have f31 := f21.other W28 (Or.inr (slot_ne (Or.inr (own_w hw 34 rfl)) (Or.inr (own_w hw 36 rfl)) (by decide) (t := .byte) (t' := (.array .byte)) (by decide) (by decide)))
  have f32 := f22.same W28
  have f33 := f23.wr W28 (Or.inl (List.mem_of_getElem? (i := 0) rfl))
  have f36 := f17.other W28 (Ne.symm ne_a_xq15)
  have N28 := Fr.snoc X28 N15 ga
  have P39 := oS (T28.setTop (mkF m 61 #[r_ a, r_ b, i_ 0, i_ 0, i_ zl, u_, u_] [])) P27 (fun t_ k_ => st28 t_ k_)
  have P40 := oS (T28.setTop (mkF m 63 #[r_ a, r_ b, i_ 0, i_ 0, i_ zl, u_, u_] [(.int 0), (.ref a)])) P39 (by
    intro _ k_
    refine aN_ X28 hx hby d23_61 rfl rfl ?_
    refine XS.iconst X28.here hx rfl (hb hby d23_62) ?_
    exact k_)
  obtain ⟨T41, h41, X41, e41, W41, st41⟩ := putFN X28 hx hZ hown (own_w hw 33 rfl) Via.refl e28 f31 f30 (Or.inr ⟨(own_w hw 34 rfl), rfl, hnm⟩) (own_w hw 9 rfl) (ty := .byte) (v' := (.int (0 : Int32).toInt8.toInt32)) (by decide) rfl (fits_nar_byte _) (g := (mkF m 63 #[r_ a, r_ b, i_ 0, i_ 0, i_ zl, u_, u_] [(.int 0), (.ref a)])) rfl rfl (hb hby d23_63)
  have f43 := f30.wr W41
  have f44 := f31.same W41
  have f45 := f32.other W41 (Or.inr (slot_ne (Or.inr (own_w hw 36 rfl)) (Or.inr (own_w hw 34 rfl)) (by decide) (t := (.array .byte)) (t' := .byte) (by decide) (by decide)))
  have f46 := f33.wr W41 (Or.inl (List.mem_of_getElem? (i := 0) rfl))
  have f49 := f36.other W41 (Ne.symm ne_a_xq15)
  have N41 := Fr.snoc X41 N28 ga
  have P52 := oS (T41.setTop (mkF m 66 #[r_ a, r_ b, i_ 0, i_ 0, i_ zl, u_, u_] [])) P40 (fun t_ k_ => st41 t_ k_)
  have P53 := oS (T41.setTop (mkF m 127 #[r_ a, r_ b, i_ 0, i_ 0, i_ zl, u_, u_] [])) P52 (by
    intro _ k_
    refine gt_ X41 hx hby d23_66 (pc := 66) (pc' := 127) (by decide) ?_
    exact k_)
  exact own_out X41 hlk (v := none) (fun _ => rfl) P53 (fun _ q_ => X41.returnOut hx hrt (hb hby d23_127) q_) e41 ⟨xq15, rfl, N41, f46, f43, f44, f45, f49, sz_xq15⟩ (by decide)
theorem pd17 : parseMethodDescriptor "([BIII)V" = some ⟨[(.array .byte), .int, .int, .int], none⟩ := by decide +kernel
abbrev cB18 := jdk_2452_method_5_code
abbrev yM18 : MethodName := ⟨"java/util/Base64$Encoder", "encodeToString", "([B)Ljava/lang/String;"⟩
theorem d18_0 : own_d cB18 0 (.aload_n 0) 1 := by decide +kernel
theorem d18_1 : own_d cB18 1 (.aload_n 1) 1 := by decide +kernel
theorem d18_2 : own_d cB18 2 (.invokevirtual 61) 3 := by decide +kernel
theorem d18_5 : own_d cB18 5 (.astore_n 2) 1 := by decide +kernel
theorem d18_6 : own_d cB18 6 (.new 65) 3 := by decide +kernel
theorem d18_9 : own_d cB18 9 (.dup) 1 := by decide +kernel
theorem d18_10 : own_d cB18 10 (.aload_n 2) 1 := by decide +kernel
theorem d18_11 : own_d cB18 11 (.iconst 0) 1 := by decide +kernel
theorem d18_12 : own_d cB18 12 (.iconst 0) 1 := by decide +kernel
theorem d18_13 : own_d cB18 13 (.aload_n 2) 1 := by decide +kernel
theorem d18_14 : own_d cB18 14 (.arraylength) 1 := by decide +kernel
theorem d18_15 : own_d cB18 15 (.invokespecial 67) 3 := by decide +kernel
theorem d18_18 : own_d cB18 18 (.areturn) 1 := by decide +kernel
theorem ef18RR (m : MethodId) (x0 : Addr) (x1 : Addr) : entryFrame m #[(.ref x0), (.ref x1)] 3 = mkF m 0 #[r_ x0, r_ x1, u_] [] := by first | (simp [entryFrame, mkF, argsToLocals, Value.category]; done) | rfl
def Q_eStr_0 (Z : State) (en : Addr) (b : Addr) (k : ClassId) (zk : Int32) (zl : Int32) (m4 : Int32) (ys : List Value) (vs : List Value) (fm : Value) (cs : Int32) (h0 : Heap) (n0 : Nat) (v_ : Option Value) (h : Heap) (L_ : List Loc) : Prop := ∃ (rs : Addr) (rv : Addr) (kr : ClassId), v_ = some (.ref rs) ∧ Fr n0 L_ ∧ Keep h0 h [] ∧ h0.size ≤ rs ∧ Exa Z h rs "java/lang/String" ∧ Fld Z h rs "java/lang/String" "coder" "B" (.int 0) ∧ Fld Z h rs "java/lang/String" "value" "[B" (.ref rv) ∧ Arv Z h rv kr .byte zl vs (.int 0) ∧ h0.size ≤ rv
set_option maxRecDepth 65536 in
set_option maxHeartbeats 40000000 in
theorem rm_eStr_0 (l : Launch) (Z : State) (a0 : Array Value) (hw : ∀ d ∈ tables_1, d.before a0 Z = true) (ws : List Jvm.Cond) (en : Addr) (b : Addr) (k : ClassId) (zk : Int32) (zl : Int32) (m4 : Int32) (ys : List Value) (vs : List Value) (fm : Value) (cs : Int32) (h0 : Heap) (n0 : Nat) (Z0 : n0 ≤ h0.size) (O : Old Z n0 h0) (Scs : Sta Z Z.heap "java/lang/String" "COMPACT_STRINGS" "Z" (.int cs)) (hcs : ¬ (cs = (0 : Int32))) (Sfm : Sta Z Z.heap "jdk/internal/util/Preconditions" "SIOOBE_FORMATTER" "Ljava/util/function/BiFunction;" fm) (hfm : fm.category = 1) (Ee : Exa Z h0 en "java/util/Base64$Encoder") (Fp : Fld Z h0 en "java/util/Base64$Encoder" "doPadding" "Z" (.int 0)) (Fl : Fld Z h0 en "java/util/Base64$Encoder" "linemax" "I" (.int (-1 : Int32))) (Fe : Fld Z h0 en "java/util/Base64$Encoder" "isURL" "Z" (.int 1)) (Vb : Arv Z h0 b k .byte zk ys (.int 0)) (hez : own_ez zk zl m4) (hm0 : ¬ zl < 0) (hzl : zl.toNatClampNeg ≤ 8) (He0 : HE0 l Z zk zl ys vs) (hz0 : ¬ (zl = (0 : Int32))) (hz1 : ¬ (((zl ||| 0) ||| zl) < (0 : Int32))) (hz2 : ¬ ((zl - (0 : Int32)) < zl)) (hz3 : ((0 : Int32) + zl) = zl) :
    own_MF l yM18 (.code yM18 cB18 3 (some (.object "java/lang/String"))) ws ⟨3, 3, 20, 83⟩ #[(.ref en), (.ref b)] Z h0 own_T (Q_eStr_0 Z en b k zk zl m4 ys vs fm cs h0 n0) := by
  refine own_in "java/util/Base64$Encoder" rfl (plainFor_of_name pn4) hisR (fun m => ef18RR m en b) ?_
  intro p e s m below meth c s₁ A_ hx hby hml hown hnm hrt hlk hZ _ X0 e0 pre0
  have N0 := Fr.nil n0
  have P1 := oS (s₁.setTop (mkF m 2 #[r_ en, r_ b, u_] [(.ref b), (.ref en)])) pre0 (by
    intro _ k_
    refine aN_ X0 hx hby d18_0 rfl rfl ?_
    refine aN_ X0 hx hby d18_1 rfl rfl ?_
    exact k_)
  obtain ⟨_, T2, L2, X2, hQ2, P2c⟩ := own_cV (W := 0) (rm_enc l Z a0 hw [] en b k zk zl m4 ys vs h0 n0 Z0 O Ee Fp Fl Fe Vb hez hm0 hzl He0) X0 hx hZ (fun _ _ => trivial) hown Ee (own_w hw 115 rfl) (own_w hw 116 rfl) (own_w hw 118 rfl) (own_w hw 117 rfl) (own_w hw 113 rfl) (own_w hw 119 rfl) (by decide) P1 hml rfl [(.ref b)] [] rfl rfl rfl pd11 rfl (hb hby d18_2) e0 (by decide)
  obtain ⟨xq2, kk2, rfl, N2q, K2, f3, f4, f5⟩ := hQ2
  have N2 := Fr.app N0 N2q
  have f6 := O.keep K2 all0
  have f10 := (Keep.refl h0 []).trans K2 all0
  have Z13 : n0 ≤ T2.heap.size := Nat.le_trans Z0 K2.1
  have P14 := own_to (C := T2.setTop (mkF m 5 #[r_ en, r_ b, u_] [(.ref xq2)])) P2c
  have P15 := oS (T2.setTop (mkF m 6 #[r_ en, r_ b, r_ xq2] [])) P14 (by
    intro _ k_
    refine XS.astoreN X2.here hx rfl (hb hby d18_5) rfl rfl (l' := #[r_ en, r_ b, r_ xq2]) rfl ?_
    exact k_)
  obtain ⟨T16, h16, X16, e16, E16, A16, D16, -, st16⟩ := newO X2 hx hZ hown (own_w hw 144 rfl) (own_w hw 9 rfl) (own_w hw 10 rfl) rfl (g := (mkF m 6 #[r_ en, r_ b, r_ xq2] [])) rfl (hb hby d18_6) (by decide) (by decide)
  obtain ⟨b16, g16⟩ : ∃ z, z = T2.heap.size := ⟨_, rfl⟩
  rw [← g16] at A16 D16 st16
  have g_b16 : n0 ≤ b16 := Nat.le_trans Z13 (Nat.le_of_eq g16.symm)
  have sz_b16 : h0.size ≤ b16 := Nat.le_trans f10.1 (Nat.le_of_eq g16.symm)
  have f17 := f6.ext E16
  have f21 := f10.ext E16
  have f24 := f4.ext E16
  have f25 := f5.ext E16
  have Z26 : n0 ≤ h16.size := Nat.le_trans Z13 E16.1
  have f27 : Fld Z h16 b16 "java/lang/String" "coder" "B" (.int 0) := D16 (Or.inr (own_w hw 34 rfl)) (ty := .byte) (by decide)
  have f28 : Fld Z h16 b16 "java/lang/String" "value" "[B" .null := D16 (Or.inr (own_w hw 36 rfl)) (ty := (.array .byte)) (by decide)
  have P29 := oS (T16.setTop (mkF m 9 #[r_ en, r_ b, r_ xq2] [(.ref b16)])) P15 (fun t_ k_ => st16 t_ k_)
  have P30 := oS (T16.setTop (mkF m 14 #[r_ en, r_ b, r_ xq2] [(.ref xq2), (.int 0), (.int 0), (.ref xq2), (.ref b16), (.ref b16)])) P29 (by
    intro _ k_
    refine XS.dup X16.here hx rfl (hb hby d18_9) rfl rfl ?_
    refine aN_ X16 hx hby d18_10 rfl rfl ?_
    refine XS.iconst X16.here hx rfl (hb hby d18_11) ?_
    refine XS.iconst X16.here hx rfl (hb hby d18_12) ?_
    refine aN_ X16 hx hby d18_13 rfl rfl ?_
    exact k_)
  obtain ⟨cl31, Ar31, q31, S31, M31, H31, G31⟩ := id f24
  have P32 := oS (T16.setTop (mkF m 15 #[r_ en, r_ b, r_ xq2] [(.int zl), (.int 0), (.int 0), (.ref xq2), (.ref b16), (.ref b16)])) P30 (by
    intro _ k_
    refine X16.arraylength hx (by rw [e16]; exact Ar31.1) (State.isArrayOf_alike hZ.alike Ar31.2.1) (g := (mkF m 14 #[r_ en, r_ b, r_ xq2] [(.ref xq2), (.int 0), (.int 0), (.ref xq2), (.ref b16), (.ref b16)])) rfl rfl (hb hby d18_14) _ ?_
    rw [len_of S31 M31]
    exact k_)
  obtain ⟨_, T33, L33, X33, hQ33, P33c⟩ := own_cI (W := 1) (rm_initB_0 l Z a0 hw [] b16 xq2 kk2 vs fm cs zl h16 n0 Z26 f17 Scs hcs Sfm hfm A16 f28 f27 g_b16 f24 f25 hzl hz0 hz1 hz2 hz3) X16 hx hZ (fun _ _ => trivial) hown rfl (own_w hw 145 rfl) (own_w hw 146 rfl) (own_w hw 10 rfl) (own_w hw 147 rfl) (by decide) P32 hml rfl [(.ref xq2), (.int 0), (.int 0), (.int zl)] [(.ref b16)] rfl rfl rfl pd17 rfl (hb hby d18_15) e16 (by decide)
  obtain ⟨xq33, rfl, N33q, K33, f34, f35, f36, f37, f38⟩ := hQ33
  have N33 := Fr.app N2 N33q
  have sz_xq33 : h0.size ≤ xq33 := Nat.le_trans f21.1 f38
  have f43 := f21.trans K33 (allS (Or.inr sz_b16) all0)
  have P52 := own_to (C := T33.setTop (mkF m 18 #[r_ en, r_ b, r_ xq2] [(.ref b16)])) P33c
  exact own_out X33 hlk (v := some (.ref b16)) (own_hv hrt) P52 (fun _ q_ => retOut X33 hx hrt rfl (Or.inr (Or.inr (Or.inr (Or.inr ⟨rfl, rfl, rfl⟩)))) (hb hby d18_18) q_) (rfl : T33.heap = _) ⟨b16, xq33, kk2, rfl, N33, f43, sz_b16, f34, f35, f36, f37, sz_xq33⟩ (by decide)
theorem pd18 : parseMethodDescriptor "([B)Ljava/lang/String;" = some ⟨[(.array .byte)], some (.object "java/lang/String")⟩ := by decide +kernel
abbrev cB17 := prog_16_method_2_code
abbrev yM17 : MethodName := ⟨"com/example/verified_health_identity/verifiedhealthidentity/jose/Base64url", "encode", "([B)Ljava/lang/String;"⟩
theorem d17_0 : own_d cB17 0 (.getstatic 7) 3 := by decide +kernel
theorem d17_3 : own_d cB17 3 (.aload_n 0) 1 := by decide +kernel
theorem d17_4 : own_d cB17 4 (.invokevirtual 13) 3 := by decide +kernel
theorem d17_7 : own_d cB17 7 (.areturn) 1 := by decide +kernel
theorem ef17R (m : MethodId) (x0 : Addr) : entryFrame m #[(.ref x0)] 1 = mkF m 0 #[r_ x0] [] := by first | (simp [entryFrame, mkF, argsToLocals, Value.category]; done) | rfl
def Q_buE_0 (Z : State) (en : Addr) (b : Addr) (k : ClassId) (zk : Int32) (zl : Int32) (m4 : Int32) (ys : List Value) (vs : List Value) (fm : Value) (cs : Int32) (h0 : Heap) (n0 : Nat) (v_ : Option Value) (h : Heap) (L_ : List Loc) : Prop := ∃ (rs : Addr) (rv : Addr) (kr : ClassId), v_ = some (.ref rs) ∧ Fr n0 L_ ∧ Keep h0 h [] ∧ h0.size ≤ rs ∧ Exa Z h rs "java/lang/String" ∧ Fld Z h rs "java/lang/String" "coder" "B" (.int 0) ∧ Fld Z h rs "java/lang/String" "value" "[B" (.ref rv) ∧ Arv Z h rv kr .byte zl vs (.int 0) ∧ h0.size ≤ rv
theorem pn7 : plainName "com/example/verified_health_identity/verifiedhealthidentity/jose/Base64url" = true := by first | (simp [plainName, overriddenIn]; done) | decide +kernel
set_option maxRecDepth 65536 in
set_option maxHeartbeats 40000000 in
theorem rm_buE_0 (l : Launch) (Z : State) (a0 : Array Value) (hw : ∀ d ∈ tables_1, d.before a0 Z = true) (ws : List Jvm.Cond) (en : Addr) (b : Addr) (k : ClassId) (zk : Int32) (zl : Int32) (m4 : Int32) (ys : List Value) (vs : List Value) (fm : Value) (cs : Int32) (h0 : Heap) (n0 : Nat) (Z0 : n0 ≤ h0.size) (O : Old Z n0 h0) (Scs : Sta Z Z.heap "java/lang/String" "COMPACT_STRINGS" "Z" (.int cs)) (hcs : ¬ (cs = (0 : Int32))) (Sfm : Sta Z Z.heap "jdk/internal/util/Preconditions" "SIOOBE_FORMATTER" "Ljava/util/function/BiFunction;" fm) (hfm : fm.category = 1) (Ee : Exa Z h0 en "java/util/Base64$Encoder") (Fp : Fld Z h0 en "java/util/Base64$Encoder" "doPadding" "Z" (.int 0)) (Fl : Fld Z h0 en "java/util/Base64$Encoder" "linemax" "I" (.int (-1 : Int32))) (Fe : Fld Z h0 en "java/util/Base64$Encoder" "isURL" "Z" (.int 1)) (Vb : Arv Z h0 b k .byte zk ys (.int 0)) (hez : own_ez zk zl m4) (hm0 : ¬ zl < 0) (hzl : zl.toNatClampNeg ≤ 8) (He0 : HE0 l Z zk zl ys vs) (hz0 : ¬ (zl = (0 : Int32))) (hz1 : ¬ (((zl ||| 0) ||| zl) < (0 : Int32))) (hz2 : ¬ ((zl - (0 : Int32)) < zl)) (hz3 : ((0 : Int32) + zl) = zl) (Senc : Sta Z Z.heap "com/example/verified_health_identity/verifiedhealthidentity/jose/Base64url" "ENCODER" "Ljava/util/Base64$Encoder;" (.ref en)) :
    own_MF l yM17 (.code yM17 cB17 1 (some (.object "java/lang/String"))) ws ⟨4, 3, 20, 97⟩ #[(.ref b)] Z h0 own_T (Q_buE_0 Z en b k zk zl m4 ys vs fm cs h0 n0) := by
  refine own_in "com/example/verified_health_identity/verifiedhealthidentity/jose/Base64url" rfl (plainFor_of_name pn7) hisR (fun m => ef17R m b) ?_
  intro p e s m below meth c s₁ A_ hx hby hml hown hnm hrt hlk hZ _ X0 e0 pre0
  have N0 := Fr.nil n0
  obtain ⟨T1, X1, e1, st1⟩ := getS2 X0 hx hZ hown (host := "") (Or.inl (own_w hw 107 rfl)) Via.refl e0 (Senc.ext O.2) (g := (mkF m 0 #[r_ b] [])) rfl (hb hby d17_0)
  have P2 := oS (T1.setTop (mkF m 3 #[r_ b] [(.ref en)])) pre0 (fun t_ k_ => st1 t_ k_)
  have P3 := oS (T1.setTop (mkF m 4 #[r_ b] [(.ref b), (.ref en)])) P2 (by
    intro _ k_
    refine aN_ X1 hx hby d17_3 rfl rfl ?_
    exact k_)
  obtain ⟨_, T4, L4, X4, hQ4, P4c⟩ := own_cV (W := 0) (rm_eStr_0 l Z a0 hw [] en b k zk zl m4 ys vs fm cs h0 n0 Z0 O Scs hcs Sfm hfm Ee Fp Fl Fe Vb hez hm0 hzl He0 hz0 hz1 hz2 hz3) X1 hx hZ (fun _ _ => trivial) hown Ee (own_w hw 109 rfl) (own_w hw 110 rfl) (own_w hw 112 rfl) (own_w hw 111 rfl) (own_w hw 113 rfl) (own_w hw 114 rfl) (by decide) P3 hml rfl [(.ref b)] [] rfl rfl rfl pd18 rfl (hb hby d17_4) e1 (by decide)
  obtain ⟨rs4, rv4, kr4, rfl, N4q, K4, f5, f6, f7, f8, f9, f10⟩ := hQ4
  have N4 := Fr.app N0 N4q
  have sz_rs4 : h0.size ≤ rs4 := Nat.le_trans (Keep.refl h0 []).1 f5
  have sz_rv4 : h0.size ≤ rv4 := Nat.le_trans (Keep.refl h0 []).1 f10
  have f15 := (Keep.refl h0 []).trans K4 all0
  have P19 := own_to (C := T4.setTop (mkF m 7 #[r_ b] [(.ref rs4)])) P4c
  exact own_out X4 hlk (v := some (.ref rs4)) (own_hv hrt) P19 (fun _ q_ => retOut X4 hx hrt rfl (Or.inr (Or.inr (Or.inr (Or.inr ⟨rfl, rfl, rfl⟩)))) (hb hby d17_7) q_) (rfl : T4.heap = _) ⟨rs4, rv4, kr4, rfl, N4, f15, sz_rs4, f6, f7, f8, f9, sz_rv4⟩ (by decide)
abbrev cB28 := jdk_43_method_13_code
abbrev yM28 : MethodName := ⟨"java/lang/StringLatin1", "equals", "([B[B)Z"⟩
theorem d28_0 : own_d cB28 0 (.aload_n 0) 1 := by decide +kernel
theorem d28_1 : own_d cB28 1 (.arraylength) 1 := by decide +kernel
theorem d28_2 : own_d cB28 2 (.aload_n 1) 1 := by decide +kernel
theorem d28_3 : own_d cB28 3 (.arraylength) 1 := by decide +kernel
theorem d28_4 : own_d cB28 4 (.if_icmp .ne 30) 3 := by decide +kernel
theorem d28_7 : own_d cB28 7 (.iconst 0) 1 := by decide +kernel
theorem d28_8 : own_d cB28 8 (.istore_n 2) 1 := by decide +kernel
theorem d28_9 : own_d cB28 9 (.iload_n 2) 1 := by decide +kernel
theorem d28_10 : own_d cB28 10 (.aload_n 0) 1 := by decide +kernel
theorem d28_11 : own_d cB28 11 (.arraylength) 1 := by decide +kernel
theorem d28_12 : own_d cB28 12 (.if_icmp .ge 20) 3 := by decide +kernel
theorem d28_15 : own_d cB28 15 (.aload_n 0) 1 := by decide +kernel
theorem d28_16 : own_d cB28 16 (.iload_n 2) 1 := by decide +kernel
theorem d28_17 : own_d cB28 17 (.baload) 1 := by decide +kernel
theorem d28_18 : own_d cB28 18 (.aload_n 1) 1 := by decide +kernel
theorem d28_19 : own_d cB28 19 (.iload_n 2) 1 := by decide +kernel
theorem d28_20 : own_d cB28 20 (.baload) 1 := by decide +kernel
theorem d28_21 : own_d cB28 21 (.if_icmp .eq 5) 3 := by decide +kernel
theorem d28_26 : own_d cB28 26 (.iinc 2 1) 3 := by decide +kernel
theorem d28_29 : own_d cB28 29 (.goto (-20)) 3 := by decide +kernel
theorem d28_32 : own_d cB28 32 (.iconst 1) 1 := by decide +kernel
theorem d28_33 : own_d cB28 33 (.ireturn) 1 := by decide +kernel
theorem ef28RR (m : MethodId) (x0 : Addr) (x1 : Addr) : entryFrame m #[(.ref x0), (.ref x1)] 3 = mkF m 0 #[r_ x0, r_ x1, u_] [] := by first | (simp [entryFrame, mkF, argsToLocals, Value.category]; done) | rfl
def Q_eqL (Z : State) (b : Addr) (k : ClassId) (d : Addr) (kd : ClassId) (zl : Int32) (xs : List Int32) (h0 : Heap) (n0 : Nat) (v_ : Option Value) (h : Heap) (L_ : List Loc) : Prop := v_ = some (.int 1) ∧ Fr n0 L_ ∧ h = h0
theorem pn8 : plainName "java/lang/StringLatin1" = true := by first | (simp [plainName, overriddenIn]; done) | decide +kernel
set_option maxRecDepth 65536 in
set_option maxHeartbeats 40000000 in
theorem rm_eqL (l : Launch) (Z : State) (a0 : Array Value) (hw : ∀ d ∈ tables_1, d.before a0 Z = true) (ws : List Jvm.Cond) (b : Addr) (k : ClassId) (d : Addr) (kd : ClassId) (zl : Int32) (xs : List Int32) (h0 : Heap) (n0 : Nat) (Z0 : n0 ≤ h0.size) (Vb : Arv Z h0 b k .byte zl (xs.map Value.int) (.int 0)) (Vd : Arv Z h0 d kd .byte zl (xs.map Value.int) (.int 0)) (hm0 : ¬ zl < 0) :
    own_MF l yM28 (.code yM28 cB28 3 (some .boolean)) ws ⟨0, 0, 0, 0⟩ #[(.ref b), (.ref d)] Z h0 own_T (Q_eqL Z b k d kd zl xs h0 n0) := by
  refine own_in "java/lang/StringLatin1" rfl (plainFor_of_name pn8) hisR (fun m => ef28RR m b d) ?_
  intro p e s m below meth c s₁ A_ hx hby hml hown hnm hrt hlk hZ _ X0 e0 pre0
  have N0 := Fr.nil n0
  have P1 := oS (s₁.setTop (mkF m 1 #[r_ b, r_ d, u_] [(.ref b)])) pre0 (by
    intro _ k_
    refine aN_ X0 hx hby d28_0 rfl rfl ?_
    exact k_)
  obtain ⟨cl2, Ar2, q2, S2, M2, H2, G2⟩ := id Vb
  have P3 := oS (s₁.setTop (mkF m 2 #[r_ b, r_ d, u_] [(.int zl)])) P1 (by
    intro _ k_
    refine X0.arraylength hx (by rw [e0]; exact Ar2.1) (State.isArrayOf_alike hZ.alike Ar2.2.1) (g := (mkF m 1 #[r_ b, r_ d, u_] [(.ref b)])) rfl rfl (hb hby d28_1) _ ?_
    rw [len_of S2 M2]
    exact k_)
  have P4 := oS (s₁.setTop (mkF m 3 #[r_ b, r_ d, u_] [(.ref d), (.int zl)])) P3 (by
    intro _ k_
    refine aN_ X0 hx hby d28_2 rfl rfl ?_
    exact k_)
  obtain ⟨cl5, Ar5, q5, S5, M5, H5, G5⟩ := id Vd
  have P6 := oS (s₁.setTop (mkF m 4 #[r_ b, r_ d, u_] [(.int zl), (.int zl)])) P4 (by
    intro _ k_
    refine X0.arraylength hx (by rw [e0]; exact Ar5.1) (State.isArrayOf_alike hZ.alike Ar5.2.1) (g := (mkF m 3 #[r_ b, r_ d, u_] [(.ref d), (.int zl)])) rfl rfl (hb hby d28_3) _ ?_
    rw [len_of S5 M5]
    exact k_)
  have P7 := oS (s₁.setTop (mkF m 9 #[r_ b, r_ d, i_ 0] [])) P6 (by
    intro _ k_
    refine XS.icmpNo X0.here hx rfl (hb hby d28_4) rfl (teq (rfl : zl = zl)).2 ?_
    refine XS.iconst X0.here hx rfl (hb hby d28_7) ?_
    refine XS.istoreN X0.here hx rfl (hb hby d28_8) rfl (l' := #[r_ b, r_ d, i_ 0]) rfl ?_
    exact k_)
  have Pl := own_ind (J := fun i : Int32 => own_Go p e below A_ (s₁.setTop (mkF m 9 #[r_ b, r_ d, i_ i] []))) hm0 P7 (by
    intro i hi Pj
    have P8 := oS (s₁.setTop (mkF m 11 #[r_ b, r_ d, i_ i] [(.ref b), (.int i)])) Pj (by
      intro _ k_
      refine iN_ X0 hx hby d28_9 rfl ?_
      refine aN_ X0 hx hby d28_10 rfl rfl ?_
      exact k_)
    obtain ⟨cl9, Ar9, q9, S9, M9, H9, G9⟩ := id Vb
    have P10 := oS (s₁.setTop (mkF m 12 #[r_ b, r_ d, i_ i] [(.int zl), (.int i)])) P8 (by
      intro _ k_
      refine X0.arraylength hx (by rw [e0]; exact Ar9.1) (State.isArrayOf_alike hZ.alike Ar9.2.1) (g := (mkF m 11 #[r_ b, r_ d, i_ i] [(.ref b), (.int i)])) rfl rfl (hb hby d28_11) _ ?_
      rw [len_of S9 M9]
      exact k_)
    have P11 := oS (s₁.setTop (mkF m 17 #[r_ b, r_ d, i_ i] [(.int i), (.ref b)])) P10 (by
      intro _ k_
      refine XS.icmpNo X0.here hx rfl (hb hby d28_12) rfl (tlt hi.2).2.1 ?_
      refine aN_ X0 hx hby d28_15 rfl rfl ?_
      refine iN_ X0 hx hby d28_16 rfl ?_
      exact k_)
    obtain ⟨cl12, Ar12, q12, S12, M12, H12, G12⟩ := id Vb
    have hin12 := inb_of S12 hi
    have hat12 := Has.at H12 hin12 (own_mapI xs _)
    have P13 := oS (s₁.setTop (mkF m 18 #[r_ b, r_ d, i_ i] [(.int (xs.getD i.toNatClampNeg 0))])) P11 (by
      intro _ k_
      refine X0.baloadBytes hx (j := i) (v := (.int (xs.getD i.toNatClampNeg 0))) (by rw [e0]; exact Ar12.1) (State.isArrayOf_alike hZ.alike Ar12.2.1) Ar12.2.2 hin12 hat12 (g := (mkF m 17 #[r_ b, r_ d, i_ i] [(.int i), (.ref b)])) rfl rfl (hb hby d28_17) _ ?_
      exact k_)
    have P14 := oS (s₁.setTop (mkF m 20 #[r_ b, r_ d, i_ i] [(.int i), (.ref d), (.int (xs.getD i.toNatClampNeg 0))])) P13 (by
      intro _ k_
      refine aN_ X0 hx hby d28_18 rfl rfl ?_
      refine iN_ X0 hx hby d28_19 rfl ?_
      exact k_)
    obtain ⟨cl15, Ar15, q15, S15, M15, H15, G15⟩ := id Vd
    have hin15 := inb_of S15 hi
    have hat15 := Has.at H15 hin15 (own_mapI xs _)
    have P16 := oS (s₁.setTop (mkF m 21 #[r_ b, r_ d, i_ i] [(.int (xs.getD i.toNatClampNeg 0)), (.int (xs.getD i.toNatClampNeg 0))])) P14 (by
      intro _ k_
      refine X0.baloadBytes hx (j := i) (v := (.int (xs.getD i.toNatClampNeg 0))) (by rw [e0]; exact Ar15.1) (State.isArrayOf_alike hZ.alike Ar15.2.1) Ar15.2.2 hin15 hat15 (g := (mkF m 20 #[r_ b, r_ d, i_ i] [(.int i), (.ref d), (.int (xs.getD i.toNatClampNeg 0))])) rfl rfl (hb hby d28_20) _ ?_
      exact k_)
    have P17 := oS (s₁.setTop (mkF m 9 #[r_ b, r_ d, i_ (i + (1 : Int32))] [])) P16 (by
      intro _ k_
      refine cY_ X0 hx hby d28_21 (pc := 21) (pc' := 26) (teq (rfl : (xs.getD i.toNatClampNeg 0) = (xs.getD i.toNatClampNeg 0))).1 (by decide) ?_
      refine XS.iinc X0.here hx rfl (hb hby d28_26) rfl (l' := #[r_ b, r_ d, i_ (i + (1 : Int32))]) rfl ?_
      refine gt_ X0 hx hby d28_29 (pc := 29) (pc' := 9) (by decide) ?_
      exact k_)
    exact P17)
  have P18 := oS (s₁.setTop (mkF m 11 #[r_ b, r_ d, i_ zl] [(.ref b), (.int zl)])) Pl (by
    intro _ k_
    refine iN_ X0 hx hby d28_9 rfl ?_
    refine aN_ X0 hx hby d28_10 rfl rfl ?_
    exact k_)
  obtain ⟨cl19, Ar19, q19, S19, M19, H19, G19⟩ := id Vb
  have P20 := oS (s₁.setTop (mkF m 12 #[r_ b, r_ d, i_ zl] [(.int zl), (.int zl)])) P18 (by
    intro _ k_
    refine X0.arraylength hx (by rw [e0]; exact Ar19.1) (State.isArrayOf_alike hZ.alike Ar19.2.1) (g := (mkF m 11 #[r_ b, r_ d, i_ zl] [(.ref b), (.int zl)])) rfl rfl (hb hby d28_11) _ ?_
    rw [len_of S19 M19]
    exact k_)
  have P21 := oS (s₁.setTop (mkF m 33 #[r_ b, r_ d, i_ zl] [(.int 1)])) P20 (by
    intro _ k_
    refine cY_ X0 hx hby d28_12 (pc := 12) (pc' := 32) (flt (Int32.lt_irrefl (a := zl))).2.1 (by decide) ?_
    refine XS.iconst X0.here hx rfl (hb hby d28_32) ?_
    exact k_)
  exact own_out X0 hlk (v := some (.int 1)) (own_hv hrt) P21 (fun _ q_ => retN X0 hx (t := .boolean) hrt (by simp) (hb hby d28_33) q_) e0 ⟨rfl, N0, rfl⟩ (by decide)
theorem pd19 : parseMethodDescriptor "([B[B)Z" = some ⟨[(.array .byte), (.array .byte)], some .boolean⟩ := by decide +kernel
abbrev cB27 := jdk_42_method_66_code
abbrev yM27 : MethodName := ⟨"java/lang/String", "equals", "(Ljava/lang/Object;)Z"⟩
theorem d27_0 : own_d cB27 0 (.aload_n 0) 1 := by decide +kernel
theorem d27_1 : own_d cB27 1 (.aload_n 1) 1 := by decide +kernel
theorem d27_2 : own_d cB27 2 (.if_acmp .ne 5) 3 := by decide +kernel
theorem d27_7 : own_d cB27 7 (.aload_n 1) 1 := by decide +kernel
theorem d27_8 : own_d cB27 8 (.instanceof 10) 3 := by decide +kernel
theorem d27_11 : own_d cB27 11 (.ifCond .eq 43) 3 := by decide +kernel
theorem d27_14 : own_d cB27 14 (.aload_n 1) 1 := by decide +kernel
theorem d27_15 : own_d cB27 15 (.checkcast 10) 3 := by decide +kernel
theorem d27_18 : own_d cB27 18 (.astore_n 2) 1 := by decide +kernel
theorem d27_19 : own_d cB27 19 (.getstatic 38) 3 := by decide +kernel
theorem d27_22 : own_d cB27 22 (.ifCond .eq 14) 3 := by decide +kernel
theorem d27_25 : own_d cB27 25 (.aload_n 0) 1 := by decide +kernel
theorem d27_26 : own_d cB27 26 (.getfield 15) 3 := by decide +kernel
theorem d27_29 : own_d cB27 29 (.aload_n 2) 1 := by decide +kernel
theorem d27_30 : own_d cB27 30 (.getfield 15) 3 := by decide +kernel
theorem d27_33 : own_d cB27 33 (.if_icmp .ne 21) 3 := by decide +kernel
theorem d27_36 : own_d cB27 36 (.aload_n 0) 1 := by decide +kernel
theorem d27_37 : own_d cB27 37 (.getfield 9) 3 := by decide +kernel
theorem d27_40 : own_d cB27 40 (.aload_n 2) 1 := by decide +kernel
theorem d27_41 : own_d cB27 41 (.getfield 9) 3 := by decide +kernel
theorem d27_44 : own_d cB27 44 (.invokestatic 541) 3 := by decide +kernel
theorem d27_47 : own_d cB27 47 (.ifCond .eq 7) 3 := by decide +kernel
theorem d27_50 : own_d cB27 50 (.iconst 1) 1 := by decide +kernel
theorem d27_51 : own_d cB27 51 (.goto 4) 3 := by decide +kernel
theorem d27_55 : own_d cB27 55 (.ireturn) 1 := by decide +kernel
theorem ef27RR (m : MethodId) (x0 : Addr) (x1 : Addr) : entryFrame m #[(.ref x0), (.ref x1)] 3 = mkF m 0 #[r_ x0, r_ x1, u_] [] := by first | (simp [entryFrame, mkF, argsToLocals, Value.category]; done) | rfl
def Q_eqS (Z : State) (a : Addr) (a2 : Addr) (b : Addr) (k : ClassId) (d : Addr) (kd : ClassId) (zl : Int32) (xs : List Int32) (cs : Int32) (h0 : Heap) (n0 : Nat) (v_ : Option Value) (h : Heap) (L_ : List Loc) : Prop := v_ = some (.int 1) ∧ Fr n0 L_ ∧ h = h0
set_option maxRecDepth 65536 in
set_option maxHeartbeats 40000000 in
theorem rm_eqS (l : Launch) (Z : State) (a0 : Array Value) (hw : ∀ d ∈ tables_1, d.before a0 Z = true) (ws : List Jvm.Cond) (a : Addr) (a2 : Addr) (b : Addr) (k : ClassId) (d : Addr) (kd : ClassId) (zl : Int32) (xs : List Int32) (cs : Int32) (h0 : Heap) (n0 : Nat) (Z0 : n0 ≤ h0.size) (O : Old Z n0 h0) (Scs : Sta Z Z.heap "java/lang/String" "COMPACT_STRINGS" "Z" (.int cs)) (hcs : ¬ (cs = (0 : Int32))) (naa : a ≠ a2) (Ea : Exa Z h0 a "java/lang/String") (Fc : Fld Z h0 a "java/lang/String" "coder" "B" (.int 0)) (Fv : Fld Z h0 a "java/lang/String" "value" "[B" (.ref b)) (Ea2 : Exa Z h0 a2 "java/lang/String") (Fc2 : Fld Z h0 a2 "java/lang/String" "coder" "B" (.int 0)) (Fv2 : Fld Z h0 a2 "java/lang/String" "value" "[B" (.ref d)) (Vb : Arv Z h0 b k .byte zl (xs.map Value.int) (.int 0)) (Vd : Arv Z h0 d kd .byte zl (xs.map Value.int) (.int 0)) (hm0 : ¬ zl < 0) :
    own_MF l yM27 (.code yM27 cB27 3 (some .boolean)) ws ⟨1, 0, 0, 14⟩ #[(.ref a), (.ref a2)] Z h0 own_T (Q_eqS Z a a2 b k d kd zl xs cs h0 n0) := by
  refine own_in "java/lang/String" rfl (plainFor_of_name pn2) hisR (fun m => ef27RR m a a2) ?_
  intro p e s m below meth c s₁ A_ hx hby hml hown hnm hrt hlk hZ _ X0 e0 pre0
  have N0 := Fr.nil n0
  have P1 := oS (s₁.setTop (mkF m 2 #[r_ a, r_ a2, u_] [(.ref a2), (.ref a)])) pre0 (by
    intro _ k_
    refine aN_ X0 hx hby d27_0 rfl rfl ?_
    refine aN_ X0 hx hby d27_1 rfl rfl ?_
    exact k_)
  have P2 := oS (s₁.setTop (mkF m 7 #[r_ a, r_ a2, u_] [])) P1 (by
    intro _ k_
    refine Jvm.RoadKit.acmp (g := (mkF m 2 #[r_ a, r_ a2, u_] [(.ref a2), (.ref a)])) X0 hx rfl rfl rfl (pc0 := 2) (pc' := 7) (same := false) rfl (hb hby d27_2) rfl (decide_eq_false fun q => naa (Value.ref.inj q)) (by decide) (by decide) ?_
    exact k_)
  have P3 := oS (s₁.setTop (mkF m 8 #[r_ a, r_ a2, u_] [(.ref a2)])) P2 (by
    intro _ k_
    refine aN_ X0 hx hby d27_7 rfl rfl ?_
    exact k_)
  obtain ⟨T4, X4, e4, st4⟩ := instY X0 hx hZ hown (own_w hw 167 rfl) e0 (Ins.self Ea2) (g := (mkF m 8 #[r_ a, r_ a2, u_] [(.ref a2)])) rfl rfl (hb hby d27_8)
  have P5 := oS (T4.setTop (mkF m 11 #[r_ a, r_ a2, u_] [(.int 1)])) P3 (fun t_ k_ => st4 t_ k_)
  have P6 := oS (T4.setTop (mkF m 15 #[r_ a, r_ a2, u_] [(.ref a2)])) P5 (by
    intro _ k_
    refine XS.ifNo X4.here hx rfl (hb hby d27_11) rfl ((if0 _ _).trans (feq (by decide : ¬ ((1 : Int32) = (0 : Int32)))).1) ?_
    refine aN_ X4 hx hby d27_14 rfl rfl ?_
    exact k_)
  obtain ⟨T7, X7, e7, st7⟩ := castY X4 hx hZ hown (own_w hw 167 rfl) e4 (Ins.self Ea2) (g := (mkF m 15 #[r_ a, r_ a2, u_] [(.ref a2)])) rfl rfl (hb hby d27_15)
  have P8 := oS (T7.setTop (mkF m 18 #[r_ a, r_ a2, u_] [(.ref a2)])) P6 (fun t_ k_ => st7 t_ k_)
  have P9 := oS (T7.setTop (mkF m 19 #[r_ a, r_ a2, r_ a2] [])) P8 (by
    intro _ k_
    refine XS.astoreN X7.here hx rfl (hb hby d27_18) rfl rfl (l' := #[r_ a, r_ a2, r_ a2]) rfl ?_
    exact k_)
  obtain ⟨T10, X10, e10, st10⟩ := getS2 X7 hx hZ hown (host := "") (Or.inl (own_w hw 21 rfl)) Via.refl e7 (Scs.ext O.2) (g := (mkF m 19 #[r_ a, r_ a2, r_ a2] [])) rfl (hb hby d27_19)
  have P11 := oS (T10.setTop (mkF m 22 #[r_ a, r_ a2, r_ a2] [(.int cs)])) P9 (fun t_ k_ => st10 t_ k_)
  have P12 := oS (T10.setTop (mkF m 26 #[r_ a, r_ a2, r_ a2] [(.ref a)])) P11 (by
    intro _ k_
    refine XS.ifNo X10.here hx rfl (hb hby d27_22) rfl ((if0 _ _).trans (feq hcs).1) ?_
    refine aN_ X10 hx hby d27_25 rfl rfl ?_
    exact k_)
  obtain ⟨T13, X13, e13, st13⟩ := getF X10 hx hZ hown (host := "") (Or.inl (own_w hw 33 rfl)) Via.refl e10 Fc (g := (mkF m 26 #[r_ a, r_ a2, r_ a2] [(.ref a)])) rfl rfl (hb hby d27_26)
  have P14 := oS (T13.setTop (mkF m 29 #[r_ a, r_ a2, r_ a2] [(.int 0)])) P12 (fun t_ k_ => st13 t_ k_)
  have P15 := oS (T13.setTop (mkF m 30 #[r_ a, r_ a2, r_ a2] [(.ref a2), (.int 0)])) P14 (by
    intro _ k_
    refine aN_ X13 hx hby d27_29 rfl rfl ?_
    exact k_)
  obtain ⟨T16, X16, e16, st16⟩ := getF X13 hx hZ hown (host := "") (Or.inl (own_w hw 33 rfl)) Via.refl e13 Fc2 (g := (mkF m 30 #[r_ a, r_ a2, r_ a2] [(.ref a2), (.int 0)])) rfl rfl (hb hby d27_30)
  have P17 := oS (T16.setTop (mkF m 33 #[r_ a, r_ a2, r_ a2] [(.int 0), (.int 0)])) P15 (fun t_ k_ => st16 t_ k_)
  have P18 := oS (T16.setTop (mkF m 37 #[r_ a, r_ a2, r_ a2] [(.ref a)])) P17 (by
    intro _ k_
    refine XS.icmpNo X16.here hx rfl (hb hby d27_33) rfl (teq (by decide : (0 : Int32) = (0 : Int32))).2 ?_
    refine aN_ X16 hx hby d27_36 rfl rfl ?_
    exact k_)
  obtain ⟨T19, X19, e19, st19⟩ := getF X16 hx hZ hown (host := "") (Or.inl (own_w hw 35 rfl)) Via.refl e16 Fv (g := (mkF m 37 #[r_ a, r_ a2, r_ a2] [(.ref a)])) rfl rfl (hb hby d27_37)
  have P20 := oS (T19.setTop (mkF m 40 #[r_ a, r_ a2, r_ a2] [(.ref b)])) P18 (fun t_ k_ => st19 t_ k_)
  have P21 := oS (T19.setTop (mkF m 41 #[r_ a, r_ a2, r_ a2] [(.ref a2), (.ref b)])) P20 (by
    intro _ k_
    refine aN_ X19 hx hby d27_40 rfl rfl ?_
    exact k_)
  obtain ⟨T22, X22, e22, st22⟩ := getF X19 hx hZ hown (host := "") (Or.inl (own_w hw 35 rfl)) Via.refl e19 Fv2 (g := (mkF m 41 #[r_ a, r_ a2, r_ a2] [(.ref a2), (.ref b)])) rfl rfl (hb hby d27_41)
  have P23 := oS (T22.setTop (mkF m 44 #[r_ a, r_ a2, r_ a2] [(.ref d), (.ref b)])) P21 (fun t_ k_ => st22 t_ k_)
  obtain ⟨_, T24, L24, X24, hQ24, P24c⟩ := own_cS (W := 0) (rm_eqL l Z a0 hw [] b k d kd zl xs h0 n0 Z0 Vb Vd hm0) X22 hx hZ (fun _ _ => trivial) hown (own_w hw 168 rfl) (own_w hw 169 rfl) (own_w hw 170 rfl) (own_w hw 171 rfl) (by decide) P23 hml rfl [(.ref b), (.ref d)] [] rfl rfl rfl pd19 rfl (hb hby d27_44) e22 (by decide)
  obtain ⟨rfl, N24q, e24⟩ := hQ24
  have N24 := Fr.app N0 N24q
  have P25 := own_to (C := T24.setTop (mkF m 47 #[r_ a, r_ a2, r_ a2] [(.int 1)])) P24c
  have P26 := oS (T24.setTop (mkF m 55 #[r_ a, r_ a2, r_ a2] [(.int 1)])) P25 (by
    intro _ k_
    refine XS.ifNo X24.here hx rfl (hb hby d27_47) rfl ((if0 _ _).trans (feq (by decide : ¬ ((1 : Int32) = (0 : Int32)))).1) ?_
    refine XS.iconst X24.here hx rfl (hb hby d27_50) ?_
    refine gt_ X24 hx hby d27_51 (pc := 51) (pc' := 55) (by decide) ?_
    exact k_)
  exact own_out X24 hlk (v := some (.int 1)) (own_hv hrt) P26 (fun _ q_ => retN X24 hx (t := .boolean) hrt (by simp) (hb hby d27_55) q_) e24 ⟨rfl, N24, rfl⟩ (by decide)
theorem pd20 : parseMethodDescriptor "(Ljava/lang/String;)[B" = some ⟨[(.object "java/lang/String")], some (.array .byte)⟩ := by decide +kernel
theorem pd21 : parseMethodDescriptor "(Ljava/lang/Object;)Z" = some ⟨[(.object "java/lang/Object")], some .boolean⟩ := by decide +kernel
abbrev cB32 := prog_16_method_3_code
abbrev yM32 : MethodName := ⟨"com/example/verified_health_identity/verifiedhealthidentity/jose/Base64url", "decode", "(Ljava/lang/String;)[B"⟩
theorem d32_0 : own_d cB32 0 (.getstatic 19) 3 := by decide +kernel
theorem d32_3 : own_d cB32 3 (.aload_n 0) 1 := by decide +kernel
theorem d32_4 : own_d cB32 4 (.invokevirtual 23) 3 := by decide +kernel
theorem d32_7 : own_d cB32 7 (.astore_n 1) 1 := by decide +kernel
theorem d32_8 : own_d cB32 8 (.goto 15) 3 := by decide +kernel
theorem d32_23 : own_d cB32 23 (.aload_n 1) 1 := by decide +kernel
theorem d32_24 : own_d cB32 24 (.invokestatic 38) 3 := by decide +kernel
theorem d32_27 : own_d cB32 27 (.aload_n 0) 1 := by decide +kernel
theorem d32_28 : own_d cB32 28 (.invokevirtual 41) 3 := by decide +kernel
theorem d32_31 : own_d cB32 31 (.ifCond .ne 13) 3 := by decide +kernel
theorem d32_44 : own_d cB32 44 (.aload_n 1) 1 := by decide +kernel
theorem d32_45 : own_d cB32 45 (.areturn) 1 := by decide +kernel
theorem ef32R (m : MethodId) (x0 : Addr) : entryFrame m #[(.ref x0)] 3 = mkF m 0 #[r_ x0, u_, u_] [] := by first | (simp [entryFrame, mkF, argsToLocals, Value.category]; done) | rfl
def Q_buD_0 (Z : State) (a : Addr) (de : Addr) (b : Addr) (k : ClassId) (zl : Int32) (zk : Int32) (xs : List Int32) (ys : List Value) (rdt : Addr) (riso : Addr) (rutf : Addr) (cs : Int32) (en : Addr) (m4 : Int32) (fm : Value) (h0 : Heap) (n0 : Nat) (v_ : Option Value) (h : Heap) (L_ : List Loc) : Prop := ∃ (xq : Addr) (kk : ClassId), v_ = some (.ref xq) ∧ Fr n0 L_ ∧ Keep h0 h [] ∧ h0.size ≤ xq ∧ Arv Z h xq kk .byte zk ys (.int 0)
set_option maxRecDepth 65536 in
set_option maxHeartbeats 40000000 in
theorem rm_buD_0 (l : Launch) (Z : State) (a0 : Array Value) (hw : ∀ d ∈ tables_1, d.before a0 Z = true) (ws : List Jvm.Cond) (a : Addr) (de : Addr) (b : Addr) (k : ClassId) (zl : Int32) (zk : Int32) (xs : List Int32) (ys : List Value) (rdt : Addr) (riso : Addr) (rutf : Addr) (cs : Int32) (en : Addr) (m4 : Int32) (fm : Value) (h0 : Heap) (n0 : Nat) (Z0 : n0 ≤ h0.size) (O : Old Z n0 h0) (Scs : Sta Z Z.heap "java/lang/String" "COMPACT_STRINGS" "Z" (.int cs)) (hcs : ¬ (cs = (0 : Int32))) (Siso : Sta Z Z.heap "sun/nio/cs/ISO_8859_1" "INSTANCE" "Lsun/nio/cs/ISO_8859_1;" (.ref riso)) (Sutf : Sta Z Z.heap "sun/nio/cs/UTF_8" "INSTANCE" "Lsun/nio/cs/UTF_8;" (.ref rutf)) (nci : riso ≠ rutf) (Sdt : Sta Z Z.heap "java/util/Base64$Decoder" "fromBase64URL" "[I" (.ref rdt)) (Ed : Exa Z h0 de "java/util/Base64$Decoder") (Fu : Fld Z h0 de "java/util/Base64$Decoder" "isURL" "Z" (.int 1)) (Fm : Fld Z h0 de "java/util/Base64$Decoder" "isMIME" "Z" (.int 0)) (Ea : Exa Z h0 a "java/lang/String") (Fc : Fld Z h0 a "java/lang/String" "coder" "B" (.int 0)) (Fv : Fld Z h0 a "java/lang/String" "value" "[B" (.ref b)) (Vb : Arv Z h0 b k .byte zl (xs.map Value.int) (.int 0)) (Eb : Exa Z h0 b "[B") (hzl : zl.toNatClampNeg ≤ 8) (hz : own_dz zl (xs.map Value.int)) (hk : own_dolF zl = zk) (hn0 : ¬ zk < 0) (hcp : zk.toNatClampNeg ≤ 8) (Hd0 : HD0 l Z zl zk (xs.map Value.int) ys) (Sfm : Sta Z Z.heap "jdk/internal/util/Preconditions" "SIOOBE_FORMATTER" "Ljava/util/function/BiFunction;" fm) (hfm : fm.category = 1) (Ee : Exa Z h0 en "java/util/Base64$Encoder") (Fp : Fld Z h0 en "java/util/Base64$Encoder" "doPadding" "Z" (.int 0)) (Fl : Fld Z h0 en "java/util/Base64$Encoder" "linemax" "I" (.int (-1 : Int32))) (Fe : Fld Z h0 en "java/util/Base64$Encoder" "isURL" "Z" (.int 1)) (hez : own_ez zk zl m4) (hm0 : ¬ zl < 0) (He0 : HE0 l Z zk zl ys (xs.map Value.int)) (hz0 : ¬ (zl = (0 : Int32))) (hz1 : ¬ (((zl ||| 0) ||| zl) < (0 : Int32))) (hz2 : ¬ ((zl - (0 : Int32)) < zl)) (hz3 : ((0 : Int32) + zl) = zl) (Senc : Sta Z Z.heap "com/example/verified_health_identity/verifiedhealthidentity/jose/Base64url" "ENCODER" "Ljava/util/Base64$Encoder;" (.ref en)) (Sdec : Sta Z Z.heap "com/example/verified_health_identity/verifiedhealthidentity/jose/Base64url" "DECODER" "Ljava/util/Base64$Decoder;" (.ref de)) :
    own_MF l yM32 (.codeWith yM32 cB32 3 (some (.array .byte)) [(0, 8, 11, 29)]) ws ⟨6, 5, 36, 109⟩ #[(.ref a)] Z h0 own_T (Q_buD_0 Z a de b k zl zk xs ys rdt riso rutf cs en m4 fm h0 n0) := by
  refine own_in "com/example/verified_health_identity/verifiedhealthidentity/jose/Base64url" rfl (plainFor_of_name pn7) hisWith (fun m => ef32R m a) ?_
  intro p e s m below meth c s₁ A_ hx hby hml hown hnm hrt hlk hZ _ X0 e0 pre0
  have N0 := Fr.nil n0
  obtain ⟨T1, X1, e1, st1⟩ := getS2 X0 hx hZ hown (host := "") (Or.inl (own_w hw 41 rfl)) Via.refl e0 (Sdec.ext O.2) (g := (mkF m 0 #[r_ a, u_, u_] [])) rfl (hb hby d32_0)
  have P2 := oS (T1.setTop (mkF m 3 #[r_ a, u_, u_] [(.ref de)])) pre0 (fun t_ k_ => st1 t_ k_)
  have P3 := oS (T1.setTop (mkF m 4 #[r_ a, u_, u_] [(.ref a), (.ref de)])) P2 (by
    intro _ k_
    refine aN_ X1 hx hby d32_3 rfl rfl ?_
    exact k_)
  obtain ⟨_, T4, L4, X4, hQ4, P4c⟩ := own_cV (W := 0) (rm_decS l Z a0 hw [] a de b k zl zk (xs.map Value.int) ys rdt riso rutf cs h0 n0 Z0 O Scs hcs Siso Sutf nci Sdt Ed Fu Fm Ea Fc Fv Vb Eb hzl hz hk hn0 hcp Hd0) X1 hx hZ (fun _ _ => trivial) hown Ed (own_w hw 43 rfl) (own_w hw 44 rfl) (own_w hw 46 rfl) (own_w hw 45 rfl) (own_w hw 47 rfl) (own_w hw 48 rfl) (by decide) P3 hml rfl [(.ref a)] [] rfl rfl rfl pd20 rfl (hb hby d32_4) e1 (by decide)
  obtain ⟨xq4, kk4, rfl, N4q, K4, f5, f6, f7⟩ := hQ4
  have N4 := Fr.app N0 N4q
  have sz_xq4 : h0.size ≤ xq4 := Nat.le_trans (Keep.refl h0 []).1 f5
  have f8 := O.keep K4 all0
  have f11 := Fp.keep K4 nin0
  have f12 := Fl.keep K4 nin0
  have f13 := Fe.keep K4 nin0
  have f14 := (Keep.refl h0 []).trans K4 all0
  have f15 := Ee.keep K4
  have f16 := Ea.keep K4
  have f17 := Fc.keep K4 nin0
  have f18 := Fv.keep K4 nin0
  have f19 := Vb.keep K4 nin0
  have Z22 : n0 ≤ T4.heap.size := Nat.le_trans Z0 K4.1
  have P23 := own_to (C := T4.setTop (mkF m 7 #[r_ a, u_, u_] [(.ref xq4)])) P4c
  have P24 := oS (T4.setTop (mkF m 24 #[r_ a, r_ xq4, u_] [(.ref xq4)])) P23 (by
    intro _ k_
    refine XS.astoreN X4.here hx rfl (hb hby d32_7) rfl rfl (l' := #[r_ a, r_ xq4, u_]) rfl ?_
    refine gt_ X4 hx hby d32_8 (pc := 8) (pc' := 23) (by decide) ?_
    refine aN_ X4 hx hby d32_23 rfl rfl ?_
    exact k_)
  obtain ⟨_, T25, L25, X25, hQ25, P25c⟩ := own_cS (W := 0) (rm_buE_0 l Z a0 hw [] en xq4 kk4 zk zl m4 ys (xs.map Value.int) fm cs T4.heap n0 Z22 f8 Scs hcs Sfm hfm f15 f11 f12 f13 f6 hez hm0 hzl He0 hz0 hz1 hz2 hz3 Senc) X4 hx hZ (fun _ _ => trivial) hown (own_w hw 104 rfl) (own_w hw 105 rfl) (own_w hw 39 rfl) (own_w hw 106 rfl) (by decide) P24 hml rfl [(.ref xq4)] [] rfl rfl rfl pd18 rfl (hb hby d32_24) (rfl : T4.heap = _) (by decide)
  obtain ⟨rs25, rv25, kr25, rfl, N25q, K25, f26, f27, f28, f29, f30, f31⟩ := hQ25
  have N25 := Fr.app N4 N25q
  have ne_a_rs25 : a ≠ rs25 := Nat.ne_of_lt (Nat.lt_of_lt_of_le f16.lt f26)
  have f32 := f8.keep K25 all0
  have f38 := f14.trans K25 all0
  have f40 := f16.keep K25
  have f41 := f17.keep K25 nin0
  have f42 := f18.keep K25 nin0
  have f43 := f19.keep K25 nin0
  have f46 := f6.keep K25 nin0
  have Z48 : n0 ≤ T25.heap.size := Nat.le_trans Z22 K25.1
  have P49 := own_to (C := T25.setTop (mkF m 27 #[r_ a, r_ xq4, u_] [(.ref rs25)])) P25c
  have P50 := oS (T25.setTop (mkF m 28 #[r_ a, r_ xq4, u_] [(.ref a), (.ref rs25)])) P49 (by
    intro _ k_
    refine aN_ X25 hx hby d32_27 rfl rfl ?_
    exact k_)
  obtain ⟨_, T51, L51, X51, hQ51, P51c⟩ := own_cV (W := 0) (rm_eqS l Z a0 hw [] rs25 a rv25 kr25 b k zl xs cs T25.heap n0 Z48 f32 Scs hcs (Ne.symm ne_a_rs25) f27 f28 f29 f40 f41 f42 f30 f43 hm0) X25 hx hZ (fun _ _ => trivial) hown f27 (own_w hw 162 rfl) (own_w hw 163 rfl) (own_w hw 165 rfl) (own_w hw 164 rfl) (own_w hw 10 rfl) (own_w hw 166 rfl) (by decide) P50 hml rfl [(.ref a)] [] rfl rfl rfl pd21 rfl (hb hby d32_28) (rfl : T25.heap = _) (by decide)
  obtain ⟨rfl, N51q, e51⟩ := hQ51
  have N51 := Fr.app N25 N51q
  have P52 := own_to (C := T51.setTop (mkF m 31 #[r_ a, r_ xq4, u_] [(.int 1)])) P51c
  have P53 := oS (T51.setTop (mkF m 45 #[r_ a, r_ xq4, u_] [(.ref xq4)])) P52 (by
    intro _ k_
    refine fY_ X51 hx hby d32_31 (pc := 31) (pc' := 44) ((if0 _ _).trans (feq (by decide : ¬ ((1 : Int32) = (0 : Int32)))).2) (by decide) ?_
    refine aN_ X51 hx hby d32_44 rfl rfl ?_
    exact k_)
  exact own_out X51 hlk (v := some (.ref xq4)) (own_hv hrt) P53 (fun _ q_ => retOut X51 hx hrt rfl (Or.inr (Or.inr (Or.inr (Or.inr ⟨rfl, rfl, rfl⟩)))) (hb hby d32_45) q_) e51 ⟨xq4, kk4, rfl, N51, f38, sz_xq4, f46⟩ (by decide)
theorem d23_18 : own_d cB23 18 (.aload_n 0) 1 := by decide +kernel
theorem d23_19 : own_d cB23 19 (.ldc 7) 2 := by decide +kernel
theorem d23_21 : own_d cB23 21 (.getfield 9) 3 := by decide +kernel
theorem d23_24 : own_d cB23 24 (.putfield 9) 3 := by decide +kernel
theorem d23_27 : own_d cB23 27 (.aload_n 0) 1 := by decide +kernel
theorem d23_28 : own_d cB23 28 (.ldc 7) 2 := by decide +kernel
theorem d23_30 : own_d cB23 30 (.getfield 15) 3 := by decide +kernel
theorem d23_33 : own_d cB23 33 (.putfield 15) 3 := by decide +kernel
theorem d23_36 : own_d cB23 36 (.return_) 1 := by decide +kernel
def Q_initB_1 (Z : State) (a : Addr) (b : Addr) (k : ClassId) (vs : List Value) (fm : Value) (cs : Int32) (la : Addr) (lb : Addr) (kl : ClassId) (h0 : Heap) (n0 : Nat) (v_ : Option Value) (h : Heap) (L_ : List Loc) : Prop := v_ = none ∧ Fr n0 L_ ∧ Keep h0 h [a] ∧ Exa Z h a "java/lang/String" ∧ Fld Z h a "java/lang/String" "coder" "B" (.int 0) ∧ Fld Z h a "java/lang/String" "value" "[B" (.ref lb)
set_option maxRecDepth 65536 in
set_option maxHeartbeats 40000000 in
theorem rm_initB_1 (l : Launch) (Z : State) (a0 : Array Value) (hw : ∀ d ∈ tables_1, d.before a0 Z = true) (ws : List Jvm.Cond) (a : Addr) (b : Addr) (k : ClassId) (vs : List Value) (fm : Value) (cs : Int32) (la : Addr) (lb : Addr) (kl : ClassId) (h0 : Heap) (n0 : Nat) (Z0 : n0 ≤ h0.size) (O : Old Z n0 h0) (Scs : Sta Z Z.heap "java/lang/String" "COMPACT_STRINGS" "Z" (.int cs)) (hcs : ¬ (cs = (0 : Int32))) (Sfm : Sta Z Z.heap "jdk/internal/util/Preconditions" "SIOOBE_FORMATTER" "Ljava/util/function/BiFunction;" fm) (hfm : fm.category = 1) (Ea : Exa Z h0 a "java/lang/String") (Fv : Fld Z h0 a "java/lang/String" "value" "[B" .null) (Fc : Fld Z h0 a "java/lang/String" "coder" "B" (.int 0)) (ga : n0 ≤ a) (Vb : Arv Z h0 b k .byte (0 : Int32) vs (.int 0)) (Eb : Exa Z h0 b "[B") (Lv : Fld Z h0 la "java/lang/String" "value" "[B" (.ref lb)) (Lc : Fld Z h0 la "java/lang/String" "coder" "B" (.int 0)) (Vl : Arv Z h0 lb kl .byte (0 : Int32) [] (.int 0)) (El : Exa Z h0 lb "[B") (nla : la ≠ a) :
    own_MF l yM23 (.code yM23 cB23 7 none) ws ⟨2, 0, 0, 29⟩ #[(.ref a), (.ref b), (.int 0), (.int 0), (.int 0)] Z h0 (fun U_ => Lit U_ "java/lang/String" 7 la) (Q_initB_1 Z a b k vs fm cs la lb kl h0 n0) := by
  refine own_in "java/lang/String" rfl (plainFor_of_name pn2) hisR (fun m => ef23RRIII m a b (0 : Int32) (0 : Int32) (0 : Int32)) ?_
  intro p e s m below meth c s₁ A_ hx hby hml hown hnm hrt hlk hZ hLit X0 e0 pre0
  have N0 := Fr.nil n0
  obtain ⟨clV, ArV, -⟩ := id Vb
  obtain ⟨clW, ArW, -⟩ := id Vl
  have P1 := oS (s₁.setTop (mkF m 1 #[r_ a, r_ b, i_ 0, i_ 0, i_ 0, u_, u_] [(.ref a)])) pre0 (by
    intro _ k_
    refine aN_ X0 hx hby d23_0 rfl rfl ?_
    exact k_)
  obtain ⟨T2, X2, e2, st2⟩ := initO X0 hx hZ hown (own_w hw 18 rfl) (own_w hw 19 rfl) (own_w hw 20 rfl) e0 (g := (mkF m 1 #[r_ a, r_ b, i_ 0, i_ 0, i_ 0, u_, u_] [(.ref a)])) rfl (by rw [hml]; rfl) rfl (hb hby d23_1) (by decide) (W := 0) (by show 2 * 0 + _ ≤ _; exact Nat.le_of_eq rfl) (by decide)
  have P3 := oS (T2.setTop (mkF m 4 #[r_ a, r_ b, i_ 0, i_ 0, i_ 0, u_, u_] [])) P1 (fun t_ k_ => st2 t_ k_)
  have P4 := oS (T2.setTop (mkF m 8 #[r_ a, r_ b, i_ 0, i_ 0, i_ 0, u_, u_] [(.ref b), (.int 0), (.int 0)])) P3 (by
    intro _ k_
    refine iN_ X2 hx hby d23_4 rfl ?_
    refine il_ X2 hx hby d23_5 rfl ?_
    refine aN_ X2 hx hby d23_7 rfl rfl ?_
    exact k_)
  obtain ⟨cl5, Ar5, q5, S5, M5, H5, G5⟩ := id Vb
  have P6 := oS (T2.setTop (mkF m 9 #[r_ a, r_ b, i_ 0, i_ 0, i_ 0, u_, u_] [(.int 0), (.int 0), (.int 0)])) P4 (by
    intro _ k_
    refine X2.arraylength hx (by rw [e2]; exact Ar5.1) (State.isArrayOf_alike hZ.alike Ar5.2.1) (g := (mkF m 8 #[r_ a, r_ b, i_ 0, i_ 0, i_ 0, u_, u_] [(.ref b), (.int 0), (.int 0)])) rfl rfl (hb hby d23_8) _ ?_
    rw [len_of S5 M5]
    exact k_)
  obtain ⟨_, T7, L7, X7, hQ7, P7c⟩ := own_cS (W := 0) (rm_cbo l Z a0 hw [] (0 : Int32) fm h0 n0 Z0 O Sfm hfm (by decide) (by decide)) X2 hx hZ (fun _ _ => trivial) hown (own_w hw 148 rfl) (own_w hw 149 rfl) (own_w hw 10 rfl) (own_w hw 150 rfl) (by decide) P6 hml rfl [(.int 0), (.int 0), (.int 0)] [] rfl rfl rfl pd15 rfl (hb hby d23_9) e2 (by decide)
  obtain ⟨rfl, N7q, e7⟩ := hQ7
  have N7 := Fr.app N0 N7q
  have P8 := own_to (C := T7.setTop (mkF m 12 #[r_ a, r_ b, i_ 0, i_ 0, i_ 0, u_, u_] [(.int 0)])) P7c
  have P9 := oS (T7.setTop (mkF m 15 #[r_ a, r_ b, i_ 0, i_ 0, i_ 0, u_, u_] [(.int 0)])) P8 (by
    intro _ k_
    refine XS.pop X7.here hx rfl (hb hby d23_12) rfl rfl ?_
    refine il_ X7 hx hby d23_13 rfl ?_
    exact k_)
  have P10 := oS (T7.setTop (mkF m 19 #[r_ a, r_ b, i_ 0, i_ 0, i_ 0, u_, u_] [(.ref a)])) P9 (by
    intro _ k_
    refine XS.ifNo X7.here hx rfl (hb hby d23_15) rfl ((if0 _ _).trans (teq (by decide : (0 : Int32) = (0 : Int32))).2) ?_
    refine aN_ X7 hx hby d23_18 rfl rfl ?_
    exact k_)
  have P11 := oS (T7.setTop (mkF m 21 #[r_ a, r_ b, i_ 0, i_ 0, i_ 0, u_, u_] [(.ref la), (.ref a)])) P10 (by
    intro _ k_
    refine ldcR (Z := s) (a0 := #[]) X7 hx (State.Warmed39.refl _) hown (refOfLit (mvS (s := s) (args := #[]) hZ (own_w hw 185 rfl)) hLit) hLit (g := (mkF m 19 #[r_ a, r_ b, i_ 0, i_ 0, i_ 0, u_, u_] [(.ref a)])) rfl (hb hby d23_19) _ ?_
    exact k_)
  obtain ⟨T12, X12, e12, st12⟩ := getF X7 hx hZ hown (host := "") (Or.inl (own_w hw 35 rfl)) Via.refl e7 Lv (g := (mkF m 21 #[r_ a, r_ b, i_ 0, i_ 0, i_ 0, u_, u_] [(.ref la), (.ref a)])) rfl rfl (hb hby d23_21)
  have P13 := oS (T12.setTop (mkF m 24 #[r_ a, r_ b, i_ 0, i_ 0, i_ 0, u_, u_] [(.ref lb), (.ref a)])) P11 (fun t_ k_ => st12 t_ k_)
  obtain ⟨T14, h14, X14, e14, W14, st14⟩ := putF X12 hx hZ hown (host := "") (Or.inl (own_w hw 35 rfl)) Via.refl e12 Fv Ea (Or.inr ⟨(own_w hw 36 rfl), rfl, hnm⟩) (own_w hw 9 rfl) (ty := (.array .byte)) (by decide) rfl rfl (g := (mkF m 24 #[r_ a, r_ b, i_ 0, i_ 0, i_ 0, u_, u_] [(.ref lb), (.ref a)])) rfl rfl (hb hby d23_24)
  have f16 := Ea.wr W14
  have f17 := Fc.other W14 (Or.inr (slot_ne (Or.inr (own_w hw 34 rfl)) (Or.inr (own_w hw 36 rfl)) (by decide) (t := .byte) (t' := (.array .byte)) (by decide) (by decide)))
  have f18 := Fv.same W14
  have f19 := (Keep.refl h0 [a]).wr W14 (Or.inl (List.mem_of_getElem? (i := 0) rfl))
  have f23 := Lc.other W14 (Or.inl nla)
  have N14 := Fr.snoc X14 N7 ga
  have P27 := oS (T14.setTop (mkF m 27 #[r_ a, r_ b, i_ 0, i_ 0, i_ 0, u_, u_] [])) P13 (fun t_ k_ => st14 t_ k_)
  have P28 := oS (T14.setTop (mkF m 28 #[r_ a, r_ b, i_ 0, i_ 0, i_ 0, u_, u_] [(.ref a)])) P27 (by
    intro _ k_
    refine aN_ X14 hx hby d23_27 rfl rfl ?_
    exact k_)
  have P29 := oS (T14.setTop (mkF m 30 #[r_ a, r_ b, i_ 0, i_ 0, i_ 0, u_, u_] [(.ref la), (.ref a)])) P28 (by
    intro _ k_
    refine ldcR (Z := s) (a0 := #[]) X14 hx (State.Warmed39.refl _) hown (refOfLit (mvS (s := s) (args := #[]) hZ (own_w hw 185 rfl)) hLit) hLit (g := (mkF m 28 #[r_ a, r_ b, i_ 0, i_ 0, i_ 0, u_, u_] [(.ref a)])) rfl (hb hby d23_28) _ ?_
    exact k_)
  obtain ⟨T30, X30, e30, st30⟩ := getF X14 hx hZ hown (host := "") (Or.inl (own_w hw 33 rfl)) Via.refl e14 f23 (g := (mkF m 30 #[r_ a, r_ b, i_ 0, i_ 0, i_ 0, u_, u_] [(.ref la), (.ref a)])) rfl rfl (hb hby d23_30)
  have P31 := oS (T30.setTop (mkF m 33 #[r_ a, r_ b, i_ 0, i_ 0, i_ 0, u_, u_] [(.int 0), (.ref a)])) P29 (fun t_ k_ => st30 t_ k_)
  obtain ⟨T32, h32, X32, e32, W32, st32⟩ := putFN X30 hx hZ hown (own_w hw 33 rfl) Via.refl e30 f17 f16 (Or.inr ⟨(own_w hw 34 rfl), rfl, hnm⟩) (own_w hw 9 rfl) (ty := .byte) (v' := (.int (0 : Int32).toInt8.toInt32)) (by decide) rfl (fits_nar_byte _) (g := (mkF m 33 #[r_ a, r_ b, i_ 0, i_ 0, i_ 0, u_, u_] [(.int 0), (.ref a)])) rfl rfl (hb hby d23_33)
  have f34 := f16.wr W32
  have f35 := f17.same W32
  have f36 := f18.other W32 (Or.inr (slot_ne (Or.inr (own_w hw 36 rfl)) (Or.inr (own_w hw 34 rfl)) (by decide) (t := (.array .byte)) (t' := .byte) (by decide) (by decide)))
  have f37 := f19.wr W32 (Or.inl (List.mem_of_getElem? (i := 0) rfl))
  have N32 := Fr.snoc X32 N14 ga
  have P45 := oS (T32.setTop (mkF m 36 #[r_ a, r_ b, i_ 0, i_ 0, i_ 0, u_, u_] [])) P31 (fun t_ k_ => st32 t_ k_)
  exact own_out X32 hlk (v := none) (fun _ => rfl) P45 (fun _ q_ => X32.returnOut hx hrt (hb hby d23_36) q_) e32 ⟨rfl, N32, f37, f34, f35, f36⟩ (by decide)
def Q_eStr_1 (Z : State) (en : Addr) (b : Addr) (k : ClassId) (fm : Value) (cs : Int32) (la : Addr) (lb : Addr) (kl : ClassId) (h0 : Heap) (n0 : Nat) (v_ : Option Value) (h : Heap) (L_ : List Loc) : Prop := ∃ (rs : Addr), v_ = some (.ref rs) ∧ Fr n0 L_ ∧ Keep h0 h [] ∧ h0.size ≤ rs ∧ Exa Z h rs "java/lang/String" ∧ Fld Z h rs "java/lang/String" "coder" "B" (.int 0) ∧ Fld Z h rs "java/lang/String" "value" "[B" (.ref lb)
set_option maxRecDepth 65536 in
set_option maxHeartbeats 40000000 in
theorem rm_eStr_1 (l : Launch) (Z : State) (a0 : Array Value) (hw : ∀ d ∈ tables_1, d.before a0 Z = true) (ws : List Jvm.Cond) (en : Addr) (b : Addr) (k : ClassId) (fm : Value) (cs : Int32) (la : Addr) (lb : Addr) (kl : ClassId) (h0 : Heap) (n0 : Nat) (Z0 : n0 ≤ h0.size) (O : Old Z n0 h0) (Scs : Sta Z Z.heap "java/lang/String" "COMPACT_STRINGS" "Z" (.int cs)) (hcs : ¬ (cs = (0 : Int32))) (Sfm : Sta Z Z.heap "jdk/internal/util/Preconditions" "SIOOBE_FORMATTER" "Ljava/util/function/BiFunction;" fm) (hfm : fm.category = 1) (Ee : Exa Z h0 en "java/util/Base64$Encoder") (Fp : Fld Z h0 en "java/util/Base64$Encoder" "doPadding" "Z" (.int 0)) (Fl : Fld Z h0 en "java/util/Base64$Encoder" "linemax" "I" (.int (-1 : Int32))) (Fe : Fld Z h0 en "java/util/Base64$Encoder" "isURL" "Z" (.int 1)) (Vb : Arv Z h0 b k .byte (0 : Int32) [] (.int 0)) (hez : own_ez (0 : Int32) (0 : Int32) (0 : Int32)) (hm0 : ¬ (0 : Int32) < 0) (hzl : (0 : Int32).toNatClampNeg ≤ 8) (He0 : HE0 l Z (0 : Int32) (0 : Int32) [] []) (Lv : Fld Z h0 la "java/lang/String" "value" "[B" (.ref lb)) (Lc : Fld Z h0 la "java/lang/String" "coder" "B" (.int 0)) (Vl : Arv Z h0 lb kl .byte (0 : Int32) [] (.int 0)) (El : Exa Z h0 lb "[B") :
    own_MF l yM18 (.code yM18 cB18 3 (some (.object "java/lang/String"))) ws ⟨3, 2, 12, 83⟩ #[(.ref en), (.ref b)] Z h0 (fun U_ => Lit U_ "java/lang/String" 7 la) (Q_eStr_1 Z en b k fm cs la lb kl h0 n0) := by
  refine own_in "java/util/Base64$Encoder" rfl (plainFor_of_name pn4) hisR (fun m => ef18RR m en b) ?_
  intro p e s m below meth c s₁ A_ hx hby hml hown hnm hrt hlk hZ hLit X0 e0 pre0
  have N0 := Fr.nil n0
  have P1 := oS (s₁.setTop (mkF m 2 #[r_ en, r_ b, u_] [(.ref b), (.ref en)])) pre0 (by
    intro _ k_
    refine aN_ X0 hx hby d18_0 rfl rfl ?_
    refine aN_ X0 hx hby d18_1 rfl rfl ?_
    exact k_)
  obtain ⟨_, T2, L2, X2, hQ2, P2c⟩ := own_cV (W := 0) (rm_enc l Z a0 hw [] en b k (0 : Int32) (0 : Int32) (0 : Int32) [] [] h0 n0 Z0 O Ee Fp Fl Fe Vb hez hm0 hzl He0) X0 hx hZ (fun _ _ => trivial) hown Ee (own_w hw 115 rfl) (own_w hw 116 rfl) (own_w hw 118 rfl) (own_w hw 117 rfl) (own_w hw 113 rfl) (own_w hw 119 rfl) (by decide) P1 hml rfl [(.ref b)] [] rfl rfl rfl pd11 rfl (hb hby d18_2) e0 (by decide)
  obtain ⟨xq2, kk2, rfl, N2q, K2, f3, f4, f5⟩ := hQ2
  have N2 := Fr.app N0 N2q
  have f6 := O.keep K2 all0
  have f10 := (Keep.refl h0 []).trans K2 all0
  have f13 := Lv.keep K2 nin0
  have f14 := Lc.keep K2 nin0
  have f15 := Vl.keep K2 nin0
  have f16 := El.keep K2
  have Z17 : n0 ≤ T2.heap.size := Nat.le_trans Z0 K2.1
  have P18 := own_to (C := T2.setTop (mkF m 5 #[r_ en, r_ b, u_] [(.ref xq2)])) P2c
  have P19 := oS (T2.setTop (mkF m 6 #[r_ en, r_ b, r_ xq2] [])) P18 (by
    intro _ k_
    refine XS.astoreN X2.here hx rfl (hb hby d18_5) rfl rfl (l' := #[r_ en, r_ b, r_ xq2]) rfl ?_
    exact k_)
  obtain ⟨T20, h20, X20, e20, E20, A20, D20, -, st20⟩ := newO X2 hx hZ hown (own_w hw 144 rfl) (own_w hw 9 rfl) (own_w hw 10 rfl) rfl (g := (mkF m 6 #[r_ en, r_ b, r_ xq2] [])) rfl (hb hby d18_6) (by decide) (by decide)
  obtain ⟨b20, g20⟩ : ∃ z, z = T2.heap.size := ⟨_, rfl⟩
  rw [← g20] at A20 D20 st20
  have ne_la_b20 : la ≠ b20 := Nat.ne_of_lt (Nat.lt_of_lt_of_le f13.lt (Nat.le_of_eq g20.symm))
  have g_b20 : n0 ≤ b20 := Nat.le_trans Z17 (Nat.le_of_eq g20.symm)
  have sz_b20 : h0.size ≤ b20 := Nat.le_trans f10.1 (Nat.le_of_eq g20.symm)
  have f21 := f6.ext E20
  have f25 := f10.ext E20
  have f28 := f13.ext E20
  have f29 := f14.ext E20
  have f30 := f15.ext E20
  have f31 := f16.ext E20
  have f32 := f4.ext E20
  have f33 := f5.ext E20
  have Z34 : n0 ≤ h20.size := Nat.le_trans Z17 E20.1
  have f35 : Fld Z h20 b20 "java/lang/String" "coder" "B" (.int 0) := D20 (Or.inr (own_w hw 34 rfl)) (ty := .byte) (by decide)
  have f36 : Fld Z h20 b20 "java/lang/String" "value" "[B" .null := D20 (Or.inr (own_w hw 36 rfl)) (ty := (.array .byte)) (by decide)
  have P37 := oS (T20.setTop (mkF m 9 #[r_ en, r_ b, r_ xq2] [(.ref b20)])) P19 (fun t_ k_ => st20 t_ k_)
  have P38 := oS (T20.setTop (mkF m 14 #[r_ en, r_ b, r_ xq2] [(.ref xq2), (.int 0), (.int 0), (.ref xq2), (.ref b20), (.ref b20)])) P37 (by
    intro _ k_
    refine XS.dup X20.here hx rfl (hb hby d18_9) rfl rfl ?_
    refine aN_ X20 hx hby d18_10 rfl rfl ?_
    refine XS.iconst X20.here hx rfl (hb hby d18_11) ?_
    refine XS.iconst X20.here hx rfl (hb hby d18_12) ?_
    refine aN_ X20 hx hby d18_13 rfl rfl ?_
    exact k_)
  obtain ⟨cl39, Ar39, q39, S39, M39, H39, G39⟩ := id f32
  have P40 := oS (T20.setTop (mkF m 15 #[r_ en, r_ b, r_ xq2] [(.int 0), (.int 0), (.int 0), (.ref xq2), (.ref b20), (.ref b20)])) P38 (by
    intro _ k_
    refine X20.arraylength hx (by rw [e20]; exact Ar39.1) (State.isArrayOf_alike hZ.alike Ar39.2.1) (g := (mkF m 14 #[r_ en, r_ b, r_ xq2] [(.ref xq2), (.int 0), (.int 0), (.ref xq2), (.ref b20), (.ref b20)])) rfl rfl (hb hby d18_14) _ ?_
    rw [len_of S39 M39]
    exact k_)
  obtain ⟨_, T41, L41, X41, hQ41, P41c⟩ := own_cI (W := 1) (rm_initB_1 l Z a0 hw [] b20 xq2 kk2 [] fm cs la lb kl h20 n0 Z34 f21 Scs hcs Sfm hfm A20 f36 f35 g_b20 f32 f33 f28 f29 f30 f31 ne_la_b20) X20 hx hZ (fun _ q_ => own_litU hLit q_) hown rfl (own_w hw 145 rfl) (own_w hw 146 rfl) (own_w hw 10 rfl) (own_w hw 147 rfl) (by decide) P40 hml rfl [(.ref xq2), (.int 0), (.int 0), (.int 0)] [(.ref b20)] rfl rfl rfl pd17 rfl (hb hby d18_15) e20 (by decide)
  obtain ⟨rfl, N41q, K41, f42, f43, f44⟩ := hQ41
  have N41 := Fr.app N2 N41q
  have f49 := f25.trans K41 (allS (Or.inr sz_b20) all0)
  have P62 := own_to (C := T41.setTop (mkF m 18 #[r_ en, r_ b, r_ xq2] [(.ref b20)])) P41c
  exact own_out X41 hlk (v := some (.ref b20)) (own_hv hrt) P62 (fun _ q_ => retOut X41 hx hrt rfl (Or.inr (Or.inr (Or.inr (Or.inr ⟨rfl, rfl, rfl⟩)))) (hb hby d18_18) q_) (rfl : T41.heap = _) ⟨b20, rfl, N41, f49, sz_b20, f42, f43, f44⟩ (by decide)
def Q_buE_1 (Z : State) (en : Addr) (b : Addr) (k : ClassId) (fm : Value) (cs : Int32) (la : Addr) (lb : Addr) (kl : ClassId) (h0 : Heap) (n0 : Nat) (v_ : Option Value) (h : Heap) (L_ : List Loc) : Prop := ∃ (rs : Addr), v_ = some (.ref rs) ∧ Fr n0 L_ ∧ Keep h0 h [] ∧ h0.size ≤ rs ∧ Exa Z h rs "java/lang/String" ∧ Fld Z h rs "java/lang/String" "coder" "B" (.int 0) ∧ Fld Z h rs "java/lang/String" "value" "[B" (.ref lb)
set_option maxRecDepth 65536 in
set_option maxHeartbeats 40000000 in
theorem rm_buE_1 (l : Launch) (Z : State) (a0 : Array Value) (hw : ∀ d ∈ tables_1, d.before a0 Z = true) (ws : List Jvm.Cond) (en : Addr) (b : Addr) (k : ClassId) (fm : Value) (cs : Int32) (la : Addr) (lb : Addr) (kl : ClassId) (h0 : Heap) (n0 : Nat) (Z0 : n0 ≤ h0.size) (O : Old Z n0 h0) (Scs : Sta Z Z.heap "java/lang/String" "COMPACT_STRINGS" "Z" (.int cs)) (hcs : ¬ (cs = (0 : Int32))) (Sfm : Sta Z Z.heap "jdk/internal/util/Preconditions" "SIOOBE_FORMATTER" "Ljava/util/function/BiFunction;" fm) (hfm : fm.category = 1) (Ee : Exa Z h0 en "java/util/Base64$Encoder") (Fp : Fld Z h0 en "java/util/Base64$Encoder" "doPadding" "Z" (.int 0)) (Fl : Fld Z h0 en "java/util/Base64$Encoder" "linemax" "I" (.int (-1 : Int32))) (Fe : Fld Z h0 en "java/util/Base64$Encoder" "isURL" "Z" (.int 1)) (Vb : Arv Z h0 b k .byte (0 : Int32) [] (.int 0)) (hez : own_ez (0 : Int32) (0 : Int32) (0 : Int32)) (hm0 : ¬ (0 : Int32) < 0) (hzl : (0 : Int32).toNatClampNeg ≤ 8) (He0 : HE0 l Z (0 : Int32) (0 : Int32) [] []) (Lv : Fld Z h0 la "java/lang/String" "value" "[B" (.ref lb)) (Lc : Fld Z h0 la "java/lang/String" "coder" "B" (.int 0)) (Vl : Arv Z h0 lb kl .byte (0 : Int32) [] (.int 0)) (El : Exa Z h0 lb "[B") (Senc : Sta Z Z.heap "com/example/verified_health_identity/verifiedhealthidentity/jose/Base64url" "ENCODER" "Ljava/util/Base64$Encoder;" (.ref en)) :
    own_MF l yM17 (.code yM17 cB17 1 (some (.object "java/lang/String"))) ws ⟨4, 2, 12, 97⟩ #[(.ref b)] Z h0 (fun U_ => Lit U_ "java/lang/String" 7 la) (Q_buE_1 Z en b k fm cs la lb kl h0 n0) := by
  refine own_in "com/example/verified_health_identity/verifiedhealthidentity/jose/Base64url" rfl (plainFor_of_name pn7) hisR (fun m => ef17R m b) ?_
  intro p e s m below meth c s₁ A_ hx hby hml hown hnm hrt hlk hZ hLit X0 e0 pre0
  have N0 := Fr.nil n0
  obtain ⟨T1, X1, e1, st1⟩ := getS2 X0 hx hZ hown (host := "") (Or.inl (own_w hw 107 rfl)) Via.refl e0 (Senc.ext O.2) (g := (mkF m 0 #[r_ b] [])) rfl (hb hby d17_0)
  have P2 := oS (T1.setTop (mkF m 3 #[r_ b] [(.ref en)])) pre0 (fun t_ k_ => st1 t_ k_)
  have P3 := oS (T1.setTop (mkF m 4 #[r_ b] [(.ref b), (.ref en)])) P2 (by
    intro _ k_
    refine aN_ X1 hx hby d17_3 rfl rfl ?_
    exact k_)
  obtain ⟨_, T4, L4, X4, hQ4, P4c⟩ := own_cV (W := 0) (rm_eStr_1 l Z a0 hw [] en b k fm cs la lb kl h0 n0 Z0 O Scs hcs Sfm hfm Ee Fp Fl Fe Vb hez hm0 hzl He0 Lv Lc Vl El) X1 hx hZ (fun _ q_ => own_litU hLit q_) hown Ee (own_w hw 109 rfl) (own_w hw 110 rfl) (own_w hw 112 rfl) (own_w hw 111 rfl) (own_w hw 113 rfl) (own_w hw 114 rfl) (by decide) P3 hml rfl [(.ref b)] [] rfl rfl rfl pd18 rfl (hb hby d17_4) e1 (by decide)
  obtain ⟨rs4, rfl, N4q, K4, f5, f6, f7, f8⟩ := hQ4
  have N4 := Fr.app N0 N4q
  have sz_rs4 : h0.size ≤ rs4 := Nat.le_trans (Keep.refl h0 []).1 f5
  have f13 := (Keep.refl h0 []).trans K4 all0
  have P21 := own_to (C := T4.setTop (mkF m 7 #[r_ b] [(.ref rs4)])) P4c
  exact own_out X4 hlk (v := some (.ref rs4)) (own_hv hrt) P21 (fun _ q_ => retOut X4 hx hrt rfl (Or.inr (Or.inr (Or.inr (Or.inr ⟨rfl, rfl, rfl⟩)))) (hb hby d17_7) q_) (rfl : T4.heap = _) ⟨rs4, rfl, N4, f13, sz_rs4, f6, f7, f8⟩ (by decide)
def Q_buD_1 (Z : State) (a : Addr) (de : Addr) (b : Addr) (k : ClassId) (rdt : Addr) (riso : Addr) (rutf : Addr) (cs : Int32) (en : Addr) (fm : Value) (la : Addr) (lb : Addr) (kl : ClassId) (h0 : Heap) (n0 : Nat) (v_ : Option Value) (h : Heap) (L_ : List Loc) : Prop := ∃ (xq : Addr) (kk : ClassId), v_ = some (.ref xq) ∧ Fr n0 L_ ∧ Keep h0 h [] ∧ h0.size ≤ xq ∧ Arv Z h xq kk .byte (0 : Int32) [] (.int 0)
set_option maxRecDepth 65536 in
set_option maxHeartbeats 40000000 in
theorem rm_buD_1 (l : Launch) (Z : State) (a0 : Array Value) (hw : ∀ d ∈ tables_1, d.before a0 Z = true) (ws : List Jvm.Cond) (a : Addr) (de : Addr) (b : Addr) (k : ClassId) (rdt : Addr) (riso : Addr) (rutf : Addr) (cs : Int32) (en : Addr) (fm : Value) (la : Addr) (lb : Addr) (kl : ClassId) (h0 : Heap) (n0 : Nat) (Z0 : n0 ≤ h0.size) (O : Old Z n0 h0) (Scs : Sta Z Z.heap "java/lang/String" "COMPACT_STRINGS" "Z" (.int cs)) (hcs : ¬ (cs = (0 : Int32))) (Siso : Sta Z Z.heap "sun/nio/cs/ISO_8859_1" "INSTANCE" "Lsun/nio/cs/ISO_8859_1;" (.ref riso)) (Sutf : Sta Z Z.heap "sun/nio/cs/UTF_8" "INSTANCE" "Lsun/nio/cs/UTF_8;" (.ref rutf)) (nci : riso ≠ rutf) (Sdt : Sta Z Z.heap "java/util/Base64$Decoder" "fromBase64URL" "[I" (.ref rdt)) (Ed : Exa Z h0 de "java/util/Base64$Decoder") (Fu : Fld Z h0 de "java/util/Base64$Decoder" "isURL" "Z" (.int 1)) (Fm : Fld Z h0 de "java/util/Base64$Decoder" "isMIME" "Z" (.int 0)) (Ea : Exa Z h0 a "java/lang/String") (Fc : Fld Z h0 a "java/lang/String" "coder" "B" (.int 0)) (Fv : Fld Z h0 a "java/lang/String" "value" "[B" (.ref b)) (Vb : Arv Z h0 b k .byte (0 : Int32) [] (.int 0)) (Eb : Exa Z h0 b "[B") (hzl : (0 : Int32).toNatClampNeg ≤ 8) (hz : own_dz (0 : Int32) []) (hk : own_dolF (0 : Int32) = (0 : Int32)) (hn0 : ¬ (0 : Int32) < 0) (hcp : (0 : Int32).toNatClampNeg ≤ 8) (Hd0 : HD0 l Z (0 : Int32) (0 : Int32) [] []) (Sfm : Sta Z Z.heap "jdk/internal/util/Preconditions" "SIOOBE_FORMATTER" "Ljava/util/function/BiFunction;" fm) (hfm : fm.category = 1) (Ee : Exa Z h0 en "java/util/Base64$Encoder") (Fp : Fld Z h0 en "java/util/Base64$Encoder" "doPadding" "Z" (.int 0)) (Fl : Fld Z h0 en "java/util/Base64$Encoder" "linemax" "I" (.int (-1 : Int32))) (Fe : Fld Z h0 en "java/util/Base64$Encoder" "isURL" "Z" (.int 1)) (hez : own_ez (0 : Int32) (0 : Int32) (0 : Int32)) (hm0 : ¬ (0 : Int32) < 0) (He0 : HE0 l Z (0 : Int32) (0 : Int32) [] []) (Lv : Fld Z h0 la "java/lang/String" "value" "[B" (.ref lb)) (Lc : Fld Z h0 la "java/lang/String" "coder" "B" (.int 0)) (Vl : Arv Z h0 lb kl .byte (0 : Int32) [] (.int 0)) (El : Exa Z h0 lb "[B") (Senc : Sta Z Z.heap "com/example/verified_health_identity/verifiedhealthidentity/jose/Base64url" "ENCODER" "Ljava/util/Base64$Encoder;" (.ref en)) (Sdec : Sta Z Z.heap "com/example/verified_health_identity/verifiedhealthidentity/jose/Base64url" "DECODER" "Ljava/util/Base64$Decoder;" (.ref de)) :
    own_MF l yM32 (.codeWith yM32 cB32 3 (some (.array .byte)) [(0, 8, 11, 29)]) ws ⟨6, 4, 28, 109⟩ #[(.ref a)] Z h0 (fun U_ => Lit U_ "java/lang/String" 7 la) (Q_buD_1 Z a de b k rdt riso rutf cs en fm la lb kl h0 n0) := by
  refine own_in "com/example/verified_health_identity/verifiedhealthidentity/jose/Base64url" rfl (plainFor_of_name pn7) hisWith (fun m => ef32R m a) ?_
  intro p e s m below meth c s₁ A_ hx hby hml hown hnm hrt hlk hZ hLit X0 e0 pre0
  have N0 := Fr.nil n0
  obtain ⟨T1, X1, e1, st1⟩ := getS2 X0 hx hZ hown (host := "") (Or.inl (own_w hw 41 rfl)) Via.refl e0 (Sdec.ext O.2) (g := (mkF m 0 #[r_ a, u_, u_] [])) rfl (hb hby d32_0)
  have P2 := oS (T1.setTop (mkF m 3 #[r_ a, u_, u_] [(.ref de)])) pre0 (fun t_ k_ => st1 t_ k_)
  have P3 := oS (T1.setTop (mkF m 4 #[r_ a, u_, u_] [(.ref a), (.ref de)])) P2 (by
    intro _ k_
    refine aN_ X1 hx hby d32_3 rfl rfl ?_
    exact k_)
  obtain ⟨_, T4, L4, X4, hQ4, P4c⟩ := own_cV (W := 0) (rm_decS l Z a0 hw [] a de b k (0 : Int32) (0 : Int32) [] [] rdt riso rutf cs h0 n0 Z0 O Scs hcs Siso Sutf nci Sdt Ed Fu Fm Ea Fc Fv Vb Eb hzl hz hk hn0 hcp Hd0) X1 hx hZ (fun _ _ => trivial) hown Ed (own_w hw 43 rfl) (own_w hw 44 rfl) (own_w hw 46 rfl) (own_w hw 45 rfl) (own_w hw 47 rfl) (own_w hw 48 rfl) (by decide) P3 hml rfl [(.ref a)] [] rfl rfl rfl pd20 rfl (hb hby d32_4) e1 (by decide)
  obtain ⟨xq4, kk4, rfl, N4q, K4, f5, f6, f7⟩ := hQ4
  have N4 := Fr.app N0 N4q
  have sz_xq4 : h0.size ≤ xq4 := Nat.le_trans (Keep.refl h0 []).1 f5
  have f8 := O.keep K4 all0
  have f11 := Fp.keep K4 nin0
  have f12 := Fl.keep K4 nin0
  have f13 := Fe.keep K4 nin0
  have f14 := (Keep.refl h0 []).trans K4 all0
  have f15 := Ee.keep K4
  have f16 := Ea.keep K4
  have f17 := Fc.keep K4 nin0
  have f18 := Fv.keep K4 nin0
  have f19 := Vb.keep K4 nin0
  have f22 := Lv.keep K4 nin0
  have f23 := Lc.keep K4 nin0
  have f24 := Vl.keep K4 nin0
  have f25 := El.keep K4
  have Z26 : n0 ≤ T4.heap.size := Nat.le_trans Z0 K4.1
  have P27 := own_to (C := T4.setTop (mkF m 7 #[r_ a, u_, u_] [(.ref xq4)])) P4c
  have P28 := oS (T4.setTop (mkF m 24 #[r_ a, r_ xq4, u_] [(.ref xq4)])) P27 (by
    intro _ k_
    refine XS.astoreN X4.here hx rfl (hb hby d32_7) rfl rfl (l' := #[r_ a, r_ xq4, u_]) rfl ?_
    refine gt_ X4 hx hby d32_8 (pc := 8) (pc' := 23) (by decide) ?_
    refine aN_ X4 hx hby d32_23 rfl rfl ?_
    exact k_)
  obtain ⟨_, T29, L29, X29, hQ29, P29c⟩ := own_cS (W := 0) (rm_buE_1 l Z a0 hw [] en xq4 kk4 fm cs la lb kl T4.heap n0 Z26 f8 Scs hcs Sfm hfm f15 f11 f12 f13 f6 hez hm0 hzl He0 f22 f23 f24 f25 Senc) X4 hx hZ (fun _ q_ => own_litU hLit q_) hown (own_w hw 104 rfl) (own_w hw 105 rfl) (own_w hw 39 rfl) (own_w hw 106 rfl) (by decide) P28 hml rfl [(.ref xq4)] [] rfl rfl rfl pd18 rfl (hb hby d32_24) (rfl : T4.heap = _) (by decide)
  obtain ⟨rs29, rfl, N29q, K29, f30, f31, f32, f33⟩ := hQ29
  have N29 := Fr.app N4 N29q
  have ne_a_rs29 : a ≠ rs29 := Nat.ne_of_lt (Nat.lt_of_lt_of_le f16.lt f30)
  have f34 := f8.keep K29 all0
  have f40 := f14.trans K29 all0
  have f42 := f16.keep K29
  have f43 := f17.keep K29 nin0
  have f44 := f18.keep K29 nin0
  have f45 := f19.keep K29 nin0
  have f50 := f24.keep K29 nin0
  have f52 := f6.keep K29 nin0
  have Z54 : n0 ≤ T29.heap.size := Nat.le_trans Z26 K29.1
  have P55 := own_to (C := T29.setTop (mkF m 27 #[r_ a, r_ xq4, u_] [(.ref rs29)])) P29c
  have P56 := oS (T29.setTop (mkF m 28 #[r_ a, r_ xq4, u_] [(.ref a), (.ref rs29)])) P55 (by
    intro _ k_
    refine aN_ X29 hx hby d32_27 rfl rfl ?_
    exact k_)
  obtain ⟨_, T57, L57, X57, hQ57, P57c⟩ := own_cV (W := 0) (rm_eqS l Z a0 hw [] rs29 a lb kl b k (0 : Int32) [] cs T29.heap n0 Z54 f34 Scs hcs (Ne.symm ne_a_rs29) f31 f32 f33 f42 f43 f44 f50 f45 hm0) X29 hx hZ (fun _ _ => trivial) hown f31 (own_w hw 162 rfl) (own_w hw 163 rfl) (own_w hw 165 rfl) (own_w hw 164 rfl) (own_w hw 10 rfl) (own_w hw 166 rfl) (by decide) P56 hml rfl [(.ref a)] [] rfl rfl rfl pd21 rfl (hb hby d32_28) (rfl : T29.heap = _) (by decide)
  obtain ⟨rfl, N57q, e57⟩ := hQ57
  have N57 := Fr.app N29 N57q
  have P58 := own_to (C := T57.setTop (mkF m 31 #[r_ a, r_ xq4, u_] [(.int 1)])) P57c
  have P59 := oS (T57.setTop (mkF m 45 #[r_ a, r_ xq4, u_] [(.ref xq4)])) P58 (by
    intro _ k_
    refine fY_ X57 hx hby d32_31 (pc := 31) (pc' := 44) ((if0 _ _).trans (feq (by decide : ¬ ((1 : Int32) = (0 : Int32)))).2) (by decide) ?_
    refine aN_ X57 hx hby d32_44 rfl rfl ?_
    exact k_)
  exact own_out X57 hlk (v := some (.ref xq4)) (own_hv hrt) P59 (fun _ q_ => retOut X57 hx hrt rfl (Or.inr (Or.inr (Or.inr (Or.inr ⟨rfl, rfl, rfl⟩)))) (hb hby d32_45) q_) e57 ⟨xq4, kk4, rfl, N57, f40, sz_xq4, f52⟩ (by decide)
theorem d16_90 : own_d cB16 90 (.iload_n 2) 1 := by decide +kernel
theorem d16_91 : own_d cB16 91 (.iload_n 3) 1 := by decide +kernel
theorem d16_92 : own_d cB16 92 (.if_icmp .lt 6) 3 := by decide +kernel
theorem d16_98 : own_d cB16 98 (.aload_n 1) 1 := by decide +kernel
theorem d16_99 : own_d cB16 99 (.iload_n 2) 1 := by decide +kernel
theorem d16_100 : own_d cB16 100 (.iinc 2 1) 3 := by decide +kernel
theorem d16_103 : own_d cB16 103 (.baload) 1 := by decide +kernel
theorem d16_104 : own_d cB16 104 (.sipush 255) 3 := by decide +kernel
theorem d16_107 : own_d cB16 107 (.iand) 1 := by decide +kernel
theorem d16_108 : own_d cB16 108 (.istore 9) 2 := by decide +kernel
theorem d16_110 : own_d cB16 110 (.aload 5) 2 := by decide +kernel
theorem d16_112 : own_d cB16 112 (.iload 9) 2 := by decide +kernel
theorem d16_114 : own_d cB16 114 (.iaload) 1 := by decide +kernel
theorem d16_115 : own_d cB16 115 (.dup) 1 := by decide +kernel
theorem d16_116 : own_d cB16 116 (.istore 9) 2 := by decide +kernel
theorem d16_118 : own_d cB16 118 (.ifCond .ge 96) 3 := by decide +kernel
theorem d16_214 : own_d cB16 214 (.iload 7) 2 := by decide +kernel
theorem d16_216 : own_d cB16 216 (.iload 9) 2 := by decide +kernel
theorem d16_218 : own_d cB16 218 (.iload 8) 2 := by decide +kernel
theorem d16_220 : own_d cB16 220 (.ishl) 1 := by decide +kernel
theorem d16_221 : own_d cB16 221 (.ior) 1 := by decide +kernel
theorem d16_222 : own_d cB16 222 (.istore 7) 2 := by decide +kernel
theorem d16_224 : own_d cB16 224 (.iinc 8 (-6)) 3 := by decide +kernel
set_option maxRecDepth 65536 in
set_option maxHeartbeats 40000000 in
theorem own_dt {p : Program} {l : Launch} {e : Env} {R : Jvm.Room} {s : State} {m : MethodId} {args : Array Value} {below : List Frame} {meth : Method} {c : Code} {T Z : State} {locs : List Loc} {cells slots : Nat} {h : Heap} {de b d rdt : Addr} {k kdt : ClassId} {sp zl dp bits sh xv sv : Int32} {o9 o10 : Slot} {vs : List Value} (X : Stand p l e R s m args below meth c T locs cells slots) (hx : p.tables.exec = Jvm.exec) (hby : c.code = cB16) (hZ : Z.Warmed39 s.vm) (e0 : T.heap = h) (Vb : Arv Z h b k .byte zl vs (.int 0)) (Vt : Arv Z h rdt kdt .int (256 : Int32) own_dec (.int 0)) (hi : ¬ sp < 0 ∧ sp < zl) (hu : vs.getD sp.toNatClampNeg (.int 0) = .int xv) (hj : ¬ (xv &&& 255) < 0 ∧ (xv &&& 255) < (256 : Int32)) (hd : own_dec.getD (xv &&& 255).toNatClampNeg (.int 0) = .int sv) (hs : ¬ (sv < (0 : Int32))) (w9 : One o9) : own_Go p e below (T.setTop (mkF m 90 #[r_ de, r_ b, i_ sp, i_ zl, r_ d, r_ rdt, i_ dp, i_ bits, i_ sh, o9, o10] [])) (T.setTop (mkF m 227 #[r_ de, r_ b, i_ (sp + (1 : Int32)), i_ zl, r_ d, r_ rdt, i_ dp, i_ (bits ||| (sv <<< (sh &&& 31))), i_ (sh + (-6 : Int32)), i_ sv, o10] [])) := by
  have pre0 : own_Go p e below (T.setTop (mkF m 90 #[r_ de, r_ b, i_ sp, i_ zl, r_ d, r_ rdt, i_ dp, i_ bits, i_ sh, o9, o10] [])) (T.setTop (mkF m 90 #[r_ de, r_ b, i_ sp, i_ zl, r_ d, r_ rdt, i_ dp, i_ bits, i_ sh, o9, o10] [])) := fun t_ k_ => k_
  have P1 := oS (T.setTop (mkF m 92 #[r_ de, r_ b, i_ sp, i_ zl, r_ d, r_ rdt, i_ dp, i_ bits, i_ sh, o9, o10] [(.int zl), (.int sp)])) pre0 (by
    intro _ k_
    refine iN_ X hx hby d16_90 rfl ?_
    refine iN_ X hx hby d16_91 rfl ?_
    exact k_)
  have P2 := oS (T.setTop (mkF m 103 #[r_ de, r_ b, i_ (sp + (1 : Int32)), i_ zl, r_ d, r_ rdt, i_ dp, i_ bits, i_ sh, o9, o10] [(.int sp), (.ref b)])) P1 (by
    intro _ k_
    refine cY_ X hx hby d16_92 (pc := 92) (pc' := 98) (tlt hi.2).1 (by decide) ?_
    refine aN_ X hx hby d16_98 rfl rfl ?_
    refine iN_ X hx hby d16_99 rfl ?_
    refine XS.iinc X.here hx rfl (hb hby d16_100) rfl (l' := #[r_ de, r_ b, i_ (sp + (1 : Int32)), i_ zl, r_ d, r_ rdt, i_ dp, i_ bits, i_ sh, o9, o10]) rfl ?_
    exact k_)
  obtain ⟨cl3, Ar3, q3, S3, M3, H3, G3⟩ := id Vb
  have hin3 := inb_of S3 hi
  have hat3 := Has.at H3 hin3 hu
  have P4 := oS (T.setTop (mkF m 104 #[r_ de, r_ b, i_ (sp + (1 : Int32)), i_ zl, r_ d, r_ rdt, i_ dp, i_ bits, i_ sh, o9, o10] [(.int xv)])) P2 (by
    intro _ k_
    refine X.baloadBytes hx (j := sp) (v := (.int xv)) (by rw [e0]; exact Ar3.1) (State.isArrayOf_alike hZ.alike Ar3.2.1) Ar3.2.2 hin3 hat3 (g := (mkF m 103 #[r_ de, r_ b, i_ (sp + (1 : Int32)), i_ zl, r_ d, r_ rdt, i_ dp, i_ bits, i_ sh, o9, o10] [(.int sp), (.ref b)])) rfl rfl (hb hby d16_103) _ ?_
    exact k_)
  have P5 := oS (T.setTop (mkF m 114 #[r_ de, r_ b, i_ (sp + (1 : Int32)), i_ zl, r_ d, r_ rdt, i_ dp, i_ bits, i_ sh, i_ (xv &&& 255), o10] [(.int (xv &&& 255)), (.ref rdt)])) P4 (by
    intro _ k_
    refine XS.sipush X.here hx rfl (hb hby d16_104) ?_
    refine XS.iand X.here hx rfl (hb hby d16_107) rfl ?_
    refine is_ X hx hby d16_108 (l' := #[r_ de, r_ b, i_ (sp + (1 : Int32)), i_ zl, r_ d, r_ rdt, i_ dp, i_ bits, i_ sh, i_ (xv &&& 255), o10]) (XS.store1 rfl w9 rfl) ?_
    refine a_ X hx hby d16_110 rfl rfl ?_
    refine il_ X hx hby d16_112 rfl ?_
    exact k_)
  obtain ⟨cl6, Ar6, q6, S6, M6, H6, G6⟩ := id Vt
  have hin6 := inb_of S6 hj
  have hat6 := Has.at H6 hin6 hd
  have P7 := oS (T.setTop (mkF m 115 #[r_ de, r_ b, i_ (sp + (1 : Int32)), i_ zl, r_ d, r_ rdt, i_ dp, i_ bits, i_ sh, i_ (xv &&& 255), o10] [(.int sv)])) P5 (by
    intro _ k_
    refine X.iaload hx (j := (xv &&& 255)) (v := (.int sv)) (by rw [e0]; exact Ar6.1) (State.isArrayOf_alike hZ.alike Ar6.2.1) Ar6.2.2 hin6 hat6 (g := (mkF m 114 #[r_ de, r_ b, i_ (sp + (1 : Int32)), i_ zl, r_ d, r_ rdt, i_ dp, i_ bits, i_ sh, i_ (xv &&& 255), o10] [(.int (xv &&& 255)), (.ref rdt)])) rfl rfl (hb hby d16_114) _ ?_
    exact k_)
  have P8 := oS (T.setTop (mkF m 118 #[r_ de, r_ b, i_ (sp + (1 : Int32)), i_ zl, r_ d, r_ rdt, i_ dp, i_ bits, i_ sh, i_ sv, o10] [(.int sv)])) P7 (by
    intro _ k_
    refine XS.dup X.here hx rfl (hb hby d16_115) rfl rfl ?_
    refine is_ X hx hby d16_116 (l' := #[r_ de, r_ b, i_ (sp + (1 : Int32)), i_ zl, r_ d, r_ rdt, i_ dp, i_ bits, i_ sh, i_ sv, o10]) rfl ?_
    exact k_)
  have P9 := oS (T.setTop (mkF m 227 #[r_ de, r_ b, i_ (sp + (1 : Int32)), i_ zl, r_ d, r_ rdt, i_ dp, i_ (bits ||| (sv <<< (sh &&& 31))), i_ (sh + (-6 : Int32)), i_ sv, o10] [])) P8 (by
    intro _ k_
    refine fY_ X hx hby d16_118 (pc := 118) (pc' := 214) ((if0 _ _).trans (flt hs).2.1) (by decide) ?_
    refine il_ X hx hby d16_214 rfl ?_
    refine il_ X hx hby d16_216 rfl ?_
    refine il_ X hx hby d16_218 rfl ?_
    refine XS.ishl X.here hx rfl (hb hby d16_220) rfl ?_
    refine XS.ior X.here hx rfl (hb hby d16_221) rfl ?_
    refine is_ X hx hby d16_222 (l' := #[r_ de, r_ b, i_ (sp + (1 : Int32)), i_ zl, r_ d, r_ rdt, i_ dp, i_ (bits ||| (sv <<< (sh &&& 31))), i_ sh, i_ sv, o10]) rfl ?_
    refine XS.iinc X.here hx rfl (hb hby d16_224) rfl (l' := #[r_ de, r_ b, i_ (sp + (1 : Int32)), i_ zl, r_ d, r_ rdt, i_ dp, i_ (bits ||| (sv <<< (sh &&& 31))), i_ (sh + (-6 : Int32)), i_ sv, o10]) rfl ?_
    exact k_)
  exact P9
theorem d16_0 : own_d cB16 0 (.aload_n 0) 1 := by decide +kernel
theorem d16_1 : own_d cB16 1 (.getfield 7) 3 := by decide +kernel
theorem d16_4 : own_d cB16 4 (.ifCond .eq 9) 3 := by decide +kernel
theorem d16_7 : own_d cB16 7 (.getstatic 95) 3 := by decide +kernel
theorem d16_10 : own_d cB16 10 (.goto 6) 3 := by decide +kernel
theorem d16_16 : own_d cB16 16 (.astore 5) 2 := by decide +kernel
theorem d16_18 : own_d cB16 18 (.iconst 0) 1 := by decide +kernel
theorem d16_19 : own_d cB16 19 (.istore 6) 2 := by decide +kernel
theorem d16_21 : own_d cB16 21 (.iconst 0) 1 := by decide +kernel
theorem d16_22 : own_d cB16 22 (.istore 7) 2 := by decide +kernel
theorem d16_24 : own_d cB16 24 (.bipush 18) 2 := by decide +kernel
theorem d16_26 : own_d cB16 26 (.istore 8) 2 := by decide +kernel
theorem d16_28 : own_d cB16 28 (.iload_n 2) 1 := by decide +kernel
theorem d16_29 : own_d cB16 29 (.iload_n 3) 1 := by decide +kernel
theorem d16_30 : own_d cB16 30 (.if_icmp .ge 251) 3 := by decide +kernel
theorem d16_281 : own_d cB16 281 (.iload 8) 2 := by decide +kernel
theorem d16_283 : own_d cB16 283 (.bipush 6) 2 := by decide +kernel
theorem d16_285 : own_d cB16 285 (.if_icmp .ne 20) 3 := by decide +kernel
theorem d16_305 : own_d cB16 305 (.iload 8) 2 := by decide +kernel
theorem d16_307 : own_d cB16 307 (.ifCond .ne 34) 3 := by decide +kernel
theorem d16_341 : own_d cB16 341 (.iload 8) 2 := by decide +kernel
theorem d16_343 : own_d cB16 343 (.bipush 12) 2 := by decide +kernel
theorem d16_345 : own_d cB16 345 (.if_icmp .ne 13) 3 := by decide +kernel
theorem d16_358 : own_d cB16 358 (.iload_n 2) 1 := by decide +kernel
theorem d16_359 : own_d cB16 359 (.iload_n 3) 1 := by decide +kernel
theorem d16_360 : own_d cB16 360 (.if_icmp .ge 56) 3 := by decide +kernel
theorem d16_416 : own_d cB16 416 (.iload 6) 2 := by decide +kernel
theorem d16_418 : own_d cB16 418 (.ireturn) 1 := by decide +kernel
theorem ef16RRIIR (m : MethodId) (x0 : Addr) (x1 : Addr) (x2 : Int32) (x3 : Int32) (x4 : Addr) : entryFrame m #[(.ref x0), (.ref x1), (.int x2), (.int x3), (.ref x4)] 11 = mkF m 0 #[r_ x0, r_ x1, i_ x2, i_ x3, r_ x4, u_, u_, u_, u_, u_, u_] [] := by first | (simp [entryFrame, mkF, argsToLocals, Value.category]; done) | rfl
set_option maxRecDepth 65536 in
set_option maxHeartbeats 40000000 in
theorem rm_dec0_0 (l : Launch) (Z : State) (a0 : Array Value) (hw : ∀ d ∈ tables_1, d.before a0 Z = true) (rdt : Addr) (kdt : ClassId) (Sdt : Sta Z Z.heap "java/util/Base64$Decoder" "fromBase64URL" "[I" (.ref rdt)) (Vdt : Arv Z Z.heap rdt kdt .int (256 : Int32) own_dec (.int 0)) :
    HD0 l Z (0 : Int32) (0 : Int32) [] [] := by
  intro de b k d kd h0 n0 Z0 O Fu Fm Ed Vb Vd0 nbd gd nde
  refine own_in "java/util/Base64$Decoder" rfl (plainFor_of_name pn3) hisR (fun m => ef16RRIIR m de b (0 : Int32) (0 : Int32) d) ?_
  intro p e s m below meth c s₁ A_ hx hby hml hown hnm hrt hlk hZ _ X0 e0 pre0
  have N0 := Fr.nil n0
  have Vd : Arv Z h0 d kd .byte (0 : Int32) [] (.int 0) := Vd0.pad (pad_rep [] _ 0)
  have P1 := oS (s₁.setTop (mkF m 1 #[r_ de, r_ b, i_ 0, i_ 0, r_ d, u_, u_, u_, u_, u_, u_] [(.ref de)])) pre0 (by
    intro _ k_
    refine aN_ X0 hx hby d16_0 rfl rfl ?_
    exact k_)
  obtain ⟨T2, X2, e2, st2⟩ := getF X0 hx hZ hown (host := "") (Or.inl (own_w hw 92 rfl)) Via.refl e0 Fu (g := (mkF m 1 #[r_ de, r_ b, i_ 0, i_ 0, r_ d, u_, u_, u_, u_, u_, u_] [(.ref de)])) rfl rfl (hb hby d16_1)
  have P3 := oS (T2.setTop (mkF m 4 #[r_ de, r_ b, i_ 0, i_ 0, r_ d, u_, u_, u_, u_, u_, u_] [(.int 1)])) P1 (fun t_ k_ => st2 t_ k_)
  have P4 := oS (T2.setTop (mkF m 7 #[r_ de, r_ b, i_ 0, i_ 0, r_ d, u_, u_, u_, u_, u_, u_] [])) P3 (by
    intro _ k_
    refine XS.ifNo X2.here hx rfl (hb hby d16_4) rfl ((if0 _ _).trans (feq (by decide : ¬ ((1 : Int32) = (0 : Int32)))).1) ?_
    exact k_)
  obtain ⟨T5, X5, e5, st5⟩ := getS2 X2 hx hZ hown (host := "") (Or.inl (own_w hw 94 rfl)) Via.refl e2 (Sdt.ext O.2) (g := (mkF m 7 #[r_ de, r_ b, i_ 0, i_ 0, r_ d, u_, u_, u_, u_, u_, u_] [])) rfl (hb hby d16_7)
  have P6 := oS (T5.setTop (mkF m 10 #[r_ de, r_ b, i_ 0, i_ 0, r_ d, u_, u_, u_, u_, u_, u_] [(.ref rdt)])) P4 (fun t_ k_ => st5 t_ k_)
  have P7 := oS (T5.setTop (mkF m 30 #[r_ de, r_ b, i_ 0, i_ 0, r_ d, r_ rdt, i_ 0, i_ 0, i_ 18, u_, u_] [(.int 0), (.int 0)])) P6 (by
    intro _ k_
    refine gt_ X5 hx hby d16_10 (pc := 10) (pc' := 16) (by decide) ?_
    refine XS.astore X5.here hx rfl (hb hby d16_16) rfl rfl (l' := #[r_ de, r_ b, i_ 0, i_ 0, r_ d, r_ rdt, u_, u_, u_, u_, u_]) rfl ?_
    refine XS.iconst X5.here hx rfl (hb hby d16_18) ?_
    refine is_ X5 hx hby d16_19 (l' := #[r_ de, r_ b, i_ 0, i_ 0, r_ d, r_ rdt, i_ 0, u_, u_, u_, u_]) rfl ?_
    refine XS.iconst X5.here hx rfl (hb hby d16_21) ?_
    refine is_ X5 hx hby d16_22 (l' := #[r_ de, r_ b, i_ 0, i_ 0, r_ d, r_ rdt, i_ 0, i_ 0, u_, u_, u_]) rfl ?_
    refine XS.bipush X5.here hx rfl (hb hby d16_24) ?_
    refine is_ X5 hx hby d16_26 (l' := #[r_ de, r_ b, i_ 0, i_ 0, r_ d, r_ rdt, i_ 0, i_ 0, i_ 18, u_, u_]) rfl ?_
    refine iN_ X5 hx hby d16_28 rfl ?_
    refine iN_ X5 hx hby d16_29 rfl ?_
    exact k_)
  have P8 := oS (T5.setTop (mkF m 285 #[r_ de, r_ b, i_ 0, i_ 0, r_ d, r_ rdt, i_ 0, i_ 0, i_ 18, u_, u_] [(.int 6), (.int 18)])) P7 (by
    intro _ k_
    refine cY_ X5 hx hby d16_30 (pc := 30) (pc' := 281) (flt (by decide : ¬ ((0 : Int32) < (0 : Int32)))).2.1 (by decide) ?_
    refine il_ X5 hx hby d16_281 rfl ?_
    refine XS.bipush X5.here hx rfl (hb hby d16_283) ?_
    exact k_)
  have P9 := oS (T5.setTop (mkF m 307 #[r_ de, r_ b, i_ 0, i_ 0, r_ d, r_ rdt, i_ 0, i_ 0, i_ 18, u_, u_] [(.int 18)])) P8 (by
    intro _ k_
    refine cY_ X5 hx hby d16_285 (pc := 285) (pc' := 305) (feq (by decide : ¬ ((18 : Int32) = (6 : Int32)))).2 (by decide) ?_
    refine il_ X5 hx hby d16_305 rfl ?_
    exact k_)
  have P10 := oS (T5.setTop (mkF m 345 #[r_ de, r_ b, i_ 0, i_ 0, r_ d, r_ rdt, i_ 0, i_ 0, i_ 18, u_, u_] [(.int 12), (.int 18)])) P9 (by
    intro _ k_
    refine fY_ X5 hx hby d16_307 (pc := 307) (pc' := 341) ((if0 _ _).trans (feq (by decide : ¬ ((18 : Int32) = (0 : Int32)))).2) (by decide) ?_
    refine il_ X5 hx hby d16_341 rfl ?_
    refine XS.bipush X5.here hx rfl (hb hby d16_343) ?_
    exact k_)
  have P11 := oS (T5.setTop (mkF m 360 #[r_ de, r_ b, i_ 0, i_ 0, r_ d, r_ rdt, i_ 0, i_ 0, i_ 18, u_, u_] [(.int 0), (.int 0)])) P10 (by
    intro _ k_
    refine cY_ X5 hx hby d16_345 (pc := 345) (pc' := 358) (feq (by decide : ¬ ((18 : Int32) = (12 : Int32)))).2 (by decide) ?_
    refine iN_ X5 hx hby d16_358 rfl ?_
    refine iN_ X5 hx hby d16_359 rfl ?_
    exact k_)
  have P12 := oS (T5.setTop (mkF m 418 #[r_ de, r_ b, i_ 0, i_ 0, r_ d, r_ rdt, i_ 0, i_ 0, i_ 18, u_, u_] [(.int 0)])) P11 (by
    intro _ k_
    refine cY_ X5 hx hby d16_360 (pc := 360) (pc' := 416) (flt (by decide : ¬ ((0 : Int32) < (0 : Int32)))).2.1 (by decide) ?_
    refine il_ X5 hx hby d16_416 rfl ?_
    exact k_)
  exact own_out X5 hlk (v := some (.int 0)) (own_hv hrt) P12 (fun _ q_ => retI X5 hx hrt (hb hby d16_418) q_) e5 ⟨rfl, N0, (Keep.refl h0 [d]), Vd⟩ (by decide)
theorem d16_33 : own_d cB16 33 (.iload 8) 2 := by decide +kernel
theorem d16_35 : own_d cB16 35 (.bipush 18) 2 := by decide +kernel
theorem d16_37 : own_d cB16 37 (.if_icmp .ne 53) 3 := by decide +kernel
theorem d16_40 : own_d cB16 40 (.iload_n 2) 1 := by decide +kernel
theorem d16_41 : own_d cB16 41 (.iload_n 3) 1 := by decide +kernel
theorem d16_42 : own_d cB16 42 (.iconst 4) 1 := by decide +kernel
theorem d16_43 : own_d cB16 43 (.isub) 1 := by decide +kernel
theorem d16_44 : own_d cB16 44 (.if_icmp .ge 46) 3 := by decide +kernel
theorem d16_227 : own_d cB16 227 (.iload 8) 2 := by decide +kernel
theorem d16_229 : own_d cB16 229 (.ifCond .ge 49) 3 := by decide +kernel
theorem d16_278 : own_d cB16 278 (.goto (-250)) 3 := by decide +kernel
theorem d16_288 : own_d cB16 288 (.aload 4) 2 := by decide +kernel
theorem d16_290 : own_d cB16 290 (.iload 6) 2 := by decide +kernel
theorem d16_292 : own_d cB16 292 (.iinc 6 1) 3 := by decide +kernel
theorem d16_295 : own_d cB16 295 (.iload 7) 2 := by decide +kernel
theorem d16_297 : own_d cB16 297 (.bipush 16) 2 := by decide +kernel
theorem d16_299 : own_d cB16 299 (.ishr) 1 := by decide +kernel
theorem d16_300 : own_d cB16 300 (.i2b) 1 := by decide +kernel
theorem d16_301 : own_d cB16 301 (.bastore) 1 := by decide +kernel
theorem d16_302 : own_d cB16 302 (.goto 56) 3 := by decide +kernel
set_option maxRecDepth 65536 in
set_option maxHeartbeats 40000000 in
theorem rm_dec0_2 (l : Launch) (Z : State) (a0 : Array Value) (hw : ∀ d ∈ tables_1, d.before a0 Z = true) (x0 : Int32) (x1 : Int32) (s0 : Int32) (s1 : Int32) (y0 : Int32) (rdt : Addr) (kdt : ClassId) (Sdt : Sta Z Z.heap "java/util/Base64$Decoder" "fromBase64URL" "[I" (.ref rdt)) (Vdt : Arv Z Z.heap rdt kdt .int (256 : Int32) own_dec (.int 0)) (hj0 : ¬ (x0 &&& 255) < 0 ∧ (x0 &&& 255) < (256 : Int32)) (hd0 : own_dec.getD (x0 &&& 255).toNatClampNeg (.int 0) = .int s0) (hs0 : ¬ (s0 < (0 : Int32))) (hj1 : ¬ (x1 &&& 255) < 0 ∧ (x1 &&& 255) < (256 : Int32)) (hd1 : own_dec.getD (x1 &&& 255).toNatClampNeg (.int 0) = .int s1) (hs1 : ¬ (s1 < (0 : Int32))) (hy0 : (((((0 : Int32) ||| (s0 <<< ((18 : Int32) &&& 31))) ||| (s1 <<< ((12 : Int32) &&& 31))) >>> ((16 : Int32) &&& 31)).toInt8.toInt32).toInt8.toInt32 = y0) :
    HD0 l Z (2 : Int32) (1 : Int32) [(.int x0), (.int x1)] [(.int y0)] := by
  intro de b k d kd h0 n0 Z0 O Fu Fm Ed Vb Vd0 nbd gd nde
  refine own_in "java/util/Base64$Decoder" rfl (plainFor_of_name pn3) hisR (fun m => ef16RRIIR m de b (0 : Int32) (2 : Int32) d) ?_
  intro p e s m below meth c s₁ A_ hx hby hml hown hnm hrt hlk hZ _ X0 e0 pre0
  have N0 := Fr.nil n0
  have Vd : Arv Z h0 d kd .byte (1 : Int32) [(.int 0)] (.int 0) := Vd0.pad (pad_rep [] _ 1)
  have P1 := oS (s₁.setTop (mkF m 1 #[r_ de, r_ b, i_ 0, i_ 2, r_ d, u_, u_, u_, u_, u_, u_] [(.ref de)])) pre0 (by
    intro _ k_
    refine aN_ X0 hx hby d16_0 rfl rfl ?_
    exact k_)
  obtain ⟨T2, X2, e2, st2⟩ := getF X0 hx hZ hown (host := "") (Or.inl (own_w hw 92 rfl)) Via.refl e0 Fu (g := (mkF m 1 #[r_ de, r_ b, i_ 0, i_ 2, r_ d, u_, u_, u_, u_, u_, u_] [(.ref de)])) rfl rfl (hb hby d16_1)
  have P3 := oS (T2.setTop (mkF m 4 #[r_ de, r_ b, i_ 0, i_ 2, r_ d, u_, u_, u_, u_, u_, u_] [(.int 1)])) P1 (fun t_ k_ => st2 t_ k_)
  have P4 := oS (T2.setTop (mkF m 7 #[r_ de, r_ b, i_ 0, i_ 2, r_ d, u_, u_, u_, u_, u_, u_] [])) P3 (by
    intro _ k_
    refine XS.ifNo X2.here hx rfl (hb hby d16_4) rfl ((if0 _ _).trans (feq (by decide : ¬ ((1 : Int32) = (0 : Int32)))).1) ?_
    exact k_)
  obtain ⟨T5, X5, e5, st5⟩ := getS2 X2 hx hZ hown (host := "") (Or.inl (own_w hw 94 rfl)) Via.refl e2 (Sdt.ext O.2) (g := (mkF m 7 #[r_ de, r_ b, i_ 0, i_ 2, r_ d, u_, u_, u_, u_, u_, u_] [])) rfl (hb hby d16_7)
  have P6 := oS (T5.setTop (mkF m 10 #[r_ de, r_ b, i_ 0, i_ 2, r_ d, u_, u_, u_, u_, u_, u_] [(.ref rdt)])) P4 (fun t_ k_ => st5 t_ k_)
  have P7 := oS (T5.setTop (mkF m 30 #[r_ de, r_ b, i_ 0, i_ 2, r_ d, r_ rdt, i_ 0, i_ 0, i_ 18, u_, u_] [(.int 2), (.int 0)])) P6 (by
    intro _ k_
    refine gt_ X5 hx hby d16_10 (pc := 10) (pc' := 16) (by decide) ?_
    refine XS.astore X5.here hx rfl (hb hby d16_16) rfl rfl (l' := #[r_ de, r_ b, i_ 0, i_ 2, r_ d, r_ rdt, u_, u_, u_, u_, u_]) rfl ?_
    refine XS.iconst X5.here hx rfl (hb hby d16_18) ?_
    refine is_ X5 hx hby d16_19 (l' := #[r_ de, r_ b, i_ 0, i_ 2, r_ d, r_ rdt, i_ 0, u_, u_, u_, u_]) rfl ?_
    refine XS.iconst X5.here hx rfl (hb hby d16_21) ?_
    refine is_ X5 hx hby d16_22 (l' := #[r_ de, r_ b, i_ 0, i_ 2, r_ d, r_ rdt, i_ 0, i_ 0, u_, u_, u_]) rfl ?_
    refine XS.bipush X5.here hx rfl (hb hby d16_24) ?_
    refine is_ X5 hx hby d16_26 (l' := #[r_ de, r_ b, i_ 0, i_ 2, r_ d, r_ rdt, i_ 0, i_ 0, i_ 18, u_, u_]) rfl ?_
    refine iN_ X5 hx hby d16_28 rfl ?_
    refine iN_ X5 hx hby d16_29 rfl ?_
    exact k_)
  have P8 := oS (T5.setTop (mkF m 37 #[r_ de, r_ b, i_ 0, i_ 2, r_ d, r_ rdt, i_ 0, i_ 0, i_ 18, u_, u_] [(.int 18), (.int 18)])) P7 (by
    intro _ k_
    refine XS.icmpNo X5.here hx rfl (hb hby d16_30) rfl (tlt (by decide : (0 : Int32) < (2 : Int32))).2.1 ?_
    refine il_ X5 hx hby d16_33 rfl ?_
    refine XS.bipush X5.here hx rfl (hb hby d16_35) ?_
    exact k_)
  have P9 := oS (T5.setTop (mkF m 44 #[r_ de, r_ b, i_ 0, i_ 2, r_ d, r_ rdt, i_ 0, i_ 0, i_ 18, u_, u_] [(.int (-2 : Int32)), (.int 0)])) P8 (by
    intro _ k_
    refine XS.icmpNo X5.here hx rfl (hb hby d16_37) rfl (teq (by decide : (18 : Int32) = (18 : Int32))).2 ?_
    refine iN_ X5 hx hby d16_40 rfl ?_
    refine iN_ X5 hx hby d16_41 rfl ?_
    refine XS.iconst X5.here hx rfl (hb hby d16_42) ?_
    refine XS.isub X5.here hx rfl (hb hby d16_43) rfl ?_
    exact k_)
  have P10 := oS (T5.setTop (mkF m 90 #[r_ de, r_ b, i_ 0, i_ 2, r_ d, r_ rdt, i_ 0, i_ 0, i_ 18, u_, u_] [])) P9 (by
    intro _ k_
    refine cY_ X5 hx hby d16_44 (pc := 44) (pc' := 90) (flt (by decide : ¬ ((0 : Int32) < (-2 : Int32)))).2.1 (by decide) ?_
    exact k_)
  have P11 := oS (T5.setTop (mkF m 227 #[r_ de, r_ b, i_ 1, i_ 2, r_ d, r_ rdt, i_ 0, i_ ((0 : Int32) ||| (s0 <<< ((18 : Int32) &&& 31))), i_ 12, i_ s0, u_] [])) P10 (own_dt X5 hx hby hZ e5 Vb (Vdt.ext O.2) (by decide) (by rfl) hj0 hd0 hs0 One.u)
  have P12 := oS (T5.setTop (mkF m 229 #[r_ de, r_ b, i_ 1, i_ 2, r_ d, r_ rdt, i_ 0, i_ ((0 : Int32) ||| (s0 <<< ((18 : Int32) &&& 31))), i_ 12, i_ s0, u_] [(.int 12)])) P11 (by
    intro _ k_
    refine il_ X5 hx hby d16_227 rfl ?_
    exact k_)
  have P13 := oS (T5.setTop (mkF m 30 #[r_ de, r_ b, i_ 1, i_ 2, r_ d, r_ rdt, i_ 0, i_ ((0 : Int32) ||| (s0 <<< ((18 : Int32) &&& 31))), i_ 12, i_ s0, u_] [(.int 2), (.int 1)])) P12 (by
    intro _ k_
    refine fY_ X5 hx hby d16_229 (pc := 229) (pc' := 278) ((if0 _ _).trans (flt (by decide : ¬ ((12 : Int32) < (0 : Int32)))).2.1) (by decide) ?_
    refine gt_ X5 hx hby d16_278 (pc := 278) (pc' := 28) (by decide) ?_
    refine iN_ X5 hx hby d16_28 rfl ?_
    refine iN_ X5 hx hby d16_29 rfl ?_
    exact k_)
  have P14 := oS (T5.setTop (mkF m 37 #[r_ de, r_ b, i_ 1, i_ 2, r_ d, r_ rdt, i_ 0, i_ ((0 : Int32) ||| (s0 <<< ((18 : Int32) &&& 31))), i_ 12, i_ s0, u_] [(.int 18), (.int 12)])) P13 (by
    intro _ k_
    refine XS.icmpNo X5.here hx rfl (hb hby d16_30) rfl (tlt (by decide : (1 : Int32) < (2 : Int32))).2.1 ?_
    refine il_ X5 hx hby d16_33 rfl ?_
    refine XS.bipush X5.here hx rfl (hb hby d16_35) ?_
    exact k_)
  have P15 := oS (T5.setTop (mkF m 90 #[r_ de, r_ b, i_ 1, i_ 2, r_ d, r_ rdt, i_ 0, i_ ((0 : Int32) ||| (s0 <<< ((18 : Int32) &&& 31))), i_ 12, i_ s0, u_] [])) P14 (by
    intro _ k_
    refine cY_ X5 hx hby d16_37 (pc := 37) (pc' := 90) (feq (by decide : ¬ ((12 : Int32) = (18 : Int32)))).2 (by decide) ?_
    exact k_)
  have P16 := oS (T5.setTop (mkF m 227 #[r_ de, r_ b, i_ 2, i_ 2, r_ d, r_ rdt, i_ 0, i_ (((0 : Int32) ||| (s0 <<< ((18 : Int32) &&& 31))) ||| (s1 <<< ((12 : Int32) &&& 31))), i_ 6, i_ s1, u_] [])) P15 (own_dt X5 hx hby hZ e5 Vb (Vdt.ext O.2) (by decide) (by rfl) hj1 hd1 hs1 (One.val rfl))
  have P17 := oS (T5.setTop (mkF m 229 #[r_ de, r_ b, i_ 2, i_ 2, r_ d, r_ rdt, i_ 0, i_ (((0 : Int32) ||| (s0 <<< ((18 : Int32) &&& 31))) ||| (s1 <<< ((12 : Int32) &&& 31))), i_ 6, i_ s1, u_] [(.int 6)])) P16 (by
    intro _ k_
    refine il_ X5 hx hby d16_227 rfl ?_
    exact k_)
  have P18 := oS (T5.setTop (mkF m 30 #[r_ de, r_ b, i_ 2, i_ 2, r_ d, r_ rdt, i_ 0, i_ (((0 : Int32) ||| (s0 <<< ((18 : Int32) &&& 31))) ||| (s1 <<< ((12 : Int32) &&& 31))), i_ 6, i_ s1, u_] [(.int 2), (.int 2)])) P17 (by
    intro _ k_
    refine fY_ X5 hx hby d16_229 (pc := 229) (pc' := 278) ((if0 _ _).trans (flt (by decide : ¬ ((6 : Int32) < (0 : Int32)))).2.1) (by decide) ?_
    refine gt_ X5 hx hby d16_278 (pc := 278) (pc' := 28) (by decide) ?_
    refine iN_ X5 hx hby d16_28 rfl ?_
    refine iN_ X5 hx hby d16_29 rfl ?_
    exact k_)
  have P19 := oS (T5.setTop (mkF m 285 #[r_ de, r_ b, i_ 2, i_ 2, r_ d, r_ rdt, i_ 0, i_ (((0 : Int32) ||| (s0 <<< ((18 : Int32) &&& 31))) ||| (s1 <<< ((12 : Int32) &&& 31))), i_ 6, i_ s1, u_] [(.int 6), (.int 6)])) P18 (by
    intro _ k_
    refine cY_ X5 hx hby d16_30 (pc := 30) (pc' := 281) (flt (by decide : ¬ ((2 : Int32) < (2 : Int32)))).2.1 (by decide) ?_
    refine il_ X5 hx hby d16_281 rfl ?_
    refine XS.bipush X5.here hx rfl (hb hby d16_283) ?_
    exact k_)
  have P20 := oS (T5.setTop (mkF m 301 #[r_ de, r_ b, i_ 2, i_ 2, r_ d, r_ rdt, i_ 1, i_ (((0 : Int32) ||| (s0 <<< ((18 : Int32) &&& 31))) ||| (s1 <<< ((12 : Int32) &&& 31))), i_ 6, i_ s1, u_] [(.int (((((0 : Int32) ||| (s0 <<< ((18 : Int32) &&& 31))) ||| (s1 <<< ((12 : Int32) &&& 31))) >>> ((16 : Int32) &&& 31)).toInt8.toInt32)), (.int 0), (.ref d)])) P19 (by
    intro _ k_
    refine XS.icmpNo X5.here hx rfl (hb hby d16_285) rfl (teq (by decide : (6 : Int32) = (6 : Int32))).2 ?_
    refine a_ X5 hx hby d16_288 rfl rfl ?_
    refine il_ X5 hx hby d16_290 rfl ?_
    refine XS.iinc X5.here hx rfl (hb hby d16_292) rfl (l' := #[r_ de, r_ b, i_ 2, i_ 2, r_ d, r_ rdt, i_ 1, i_ (((0 : Int32) ||| (s0 <<< ((18 : Int32) &&& 31))) ||| (s1 <<< ((12 : Int32) &&& 31))), i_ 6, i_ s1, u_]) rfl ?_
    show Steps p.tables e below (T5.setTop (mkF m 295 #[r_ de, r_ b, i_ 2, i_ 2, r_ d, r_ rdt, i_ 1, i_ (((0 : Int32) ||| (s0 <<< ((18 : Int32) &&& 31))) ||| (s1 <<< ((12 : Int32) &&& 31))), i_ 6, i_ s1, u_] [(.int 0), (.ref d)])) _
    refine il_ X5 hx hby d16_295 rfl ?_
    refine XS.bipush X5.here hx rfl (hb hby d16_297) ?_
    refine XS.ishr X5.here hx rfl (hb hby d16_299) rfl ?_
    refine XS.i2b X5.here hx rfl (hb hby d16_300) rfl ?_
    exact k_)
  obtain ⟨cl21, Ar21, q21, S21, M21, H21, G21⟩ := id Vd
  obtain ⟨T22, h22, X22, e22, W22, st22⟩ := stB X5 hx hZ e5 Ar21 (j := (0 : Int32)) (inb_of S21 (by decide : ¬ (0 : Int32) < 0 ∧ (0 : Int32) < (1 : Int32))) (g := (mkF m 301 #[r_ de, r_ b, i_ 2, i_ 2, r_ d, r_ rdt, i_ 1, i_ (((0 : Int32) ||| (s0 <<< ((18 : Int32) &&& 31))) ||| (s1 <<< ((12 : Int32) &&& 31))), i_ 6, i_ s1, u_] [(.int (((((0 : Int32) ||| (s0 <<< ((18 : Int32) &&& 31))) ||| (s1 <<< ((12 : Int32) &&& 31))) >>> ((16 : Int32) &&& 31)).toInt8.toInt32)), (.int 0), (.ref d)])) rfl rfl (hb hby d16_301)
  have f28 := (Keep.refl h0 [d]).wr W22 (Or.inl (List.mem_of_getElem? (i := 0) rfl))
  have V22 : Arv Z h22 d kd .byte (1 : Int32) [(.int (((((0 : Int32) ||| (s0 <<< ((18 : Int32) &&& 31))) ||| (s1 <<< ((12 : Int32) &&& 31))) >>> ((16 : Int32) &&& 31)).toInt8.toInt32).toInt8.toInt32)] (.int 0) := Arv.set Ar21 q21 S21 M21 H21 G21 (fits_nar_byte _) W22 0 rfl (Nat.le_of_ble_eq_true rfl)
  have N22 := Fr.snoc X22 N0 gd
  have P31 := oS (T22.setTop (mkF m 302 #[r_ de, r_ b, i_ 2, i_ 2, r_ d, r_ rdt, i_ 1, i_ (((0 : Int32) ||| (s0 <<< ((18 : Int32) &&& 31))) ||| (s1 <<< ((12 : Int32) &&& 31))), i_ 6, i_ s1, u_] [])) P20 (fun t_ k_ => st22 t_ k_)
  have P32 := oS (T22.setTop (mkF m 360 #[r_ de, r_ b, i_ 2, i_ 2, r_ d, r_ rdt, i_ 1, i_ (((0 : Int32) ||| (s0 <<< ((18 : Int32) &&& 31))) ||| (s1 <<< ((12 : Int32) &&& 31))), i_ 6, i_ s1, u_] [(.int 2), (.int 2)])) P31 (by
    intro _ k_
    refine gt_ X22 hx hby d16_302 (pc := 302) (pc' := 358) (by decide) ?_
    refine iN_ X22 hx hby d16_358 rfl ?_
    refine iN_ X22 hx hby d16_359 rfl ?_
    exact k_)
  have P33 := oS (T22.setTop (mkF m 418 #[r_ de, r_ b, i_ 2, i_ 2, r_ d, r_ rdt, i_ 1, i_ (((0 : Int32) ||| (s0 <<< ((18 : Int32) &&& 31))) ||| (s1 <<< ((12 : Int32) &&& 31))), i_ 6, i_ s1, u_] [(.int 1)])) P32 (by
    intro _ k_
    refine cY_ X22 hx hby d16_360 (pc := 360) (pc' := 416) (flt (by decide : ¬ ((2 : Int32) < (2 : Int32)))).2.1 (by decide) ?_
    refine il_ X22 hx hby d16_416 rfl ?_
    exact k_)
  rw [hy0] at V22
  exact own_out X22 hlk (v := some (.int 1)) (own_hv hrt) P33 (fun _ q_ => retI X22 hx hrt (hb hby d16_418) q_) e22 ⟨rfl, N22, f28, V22⟩ (by decide)
theorem d16_310 : own_d cB16 310 (.aload 4) 2 := by decide +kernel
theorem d16_312 : own_d cB16 312 (.iload 6) 2 := by decide +kernel
theorem d16_314 : own_d cB16 314 (.iinc 6 1) 3 := by decide +kernel
theorem d16_317 : own_d cB16 317 (.iload 7) 2 := by decide +kernel
theorem d16_319 : own_d cB16 319 (.bipush 16) 2 := by decide +kernel
theorem d16_321 : own_d cB16 321 (.ishr) 1 := by decide +kernel
theorem d16_322 : own_d cB16 322 (.i2b) 1 := by decide +kernel
theorem d16_323 : own_d cB16 323 (.bastore) 1 := by decide +kernel
theorem d16_324 : own_d cB16 324 (.aload 4) 2 := by decide +kernel
theorem d16_326 : own_d cB16 326 (.iload 6) 2 := by decide +kernel
theorem d16_328 : own_d cB16 328 (.iinc 6 1) 3 := by decide +kernel
theorem d16_331 : own_d cB16 331 (.iload 7) 2 := by decide +kernel
theorem d16_333 : own_d cB16 333 (.bipush 8) 2 := by decide +kernel
theorem d16_335 : own_d cB16 335 (.ishr) 1 := by decide +kernel
theorem d16_336 : own_d cB16 336 (.i2b) 1 := by decide +kernel
theorem d16_337 : own_d cB16 337 (.bastore) 1 := by decide +kernel
theorem d16_338 : own_d cB16 338 (.goto 20) 3 := by decide +kernel
set_option maxRecDepth 65536 in
set_option maxHeartbeats 40000000 in
theorem rm_dec0_3 (l : Launch) (Z : State) (a0 : Array Value) (hw : ∀ d ∈ tables_1, d.before a0 Z = true) (x0 : Int32) (x1 : Int32) (x2 : Int32) (s0 : Int32) (s1 : Int32) (s2 : Int32) (y0 : Int32) (y1 : Int32) (rdt : Addr) (kdt : ClassId) (Sdt : Sta Z Z.heap "java/util/Base64$Decoder" "fromBase64URL" "[I" (.ref rdt)) (Vdt : Arv Z Z.heap rdt kdt .int (256 : Int32) own_dec (.int 0)) (hj0 : ¬ (x0 &&& 255) < 0 ∧ (x0 &&& 255) < (256 : Int32)) (hd0 : own_dec.getD (x0 &&& 255).toNatClampNeg (.int 0) = .int s0) (hs0 : ¬ (s0 < (0 : Int32))) (hj1 : ¬ (x1 &&& 255) < 0 ∧ (x1 &&& 255) < (256 : Int32)) (hd1 : own_dec.getD (x1 &&& 255).toNatClampNeg (.int 0) = .int s1) (hs1 : ¬ (s1 < (0 : Int32))) (hj2 : ¬ (x2 &&& 255) < 0 ∧ (x2 &&& 255) < (256 : Int32)) (hd2 : own_dec.getD (x2 &&& 255).toNatClampNeg (.int 0) = .int s2) (hs2 : ¬ (s2 < (0 : Int32))) (hy0 : ((((((0 : Int32) ||| (s0 <<< ((18 : Int32) &&& 31))) ||| (s1 <<< ((12 : Int32) &&& 31))) ||| (s2 <<< ((6 : Int32) &&& 31))) >>> ((16 : Int32) &&& 31)).toInt8.toInt32).toInt8.toInt32 = y0) (hy1 : ((((((0 : Int32) ||| (s0 <<< ((18 : Int32) &&& 31))) ||| (s1 <<< ((12 : Int32) &&& 31))) ||| (s2 <<< ((6 : Int32) &&& 31))) >>> ((8 : Int32) &&& 31)).toInt8.toInt32).toInt8.toInt32 = y1) :
    HD0 l Z (3 : Int32) (2 : Int32) [(.int x0), (.int x1), (.int x2)] [(.int y0), (.int y1)] := by
  intro de b k d kd h0 n0 Z0 O Fu Fm Ed Vb Vd0 nbd gd nde
  refine own_in "java/util/Base64$Decoder" rfl (plainFor_of_name pn3) hisR (fun m => ef16RRIIR m de b (0 : Int32) (3 : Int32) d) ?_
  intro p e s m below meth c s₁ A_ hx hby hml hown hnm hrt hlk hZ _ X0 e0 pre0
  have N0 := Fr.nil n0
  have Vd : Arv Z h0 d kd .byte (2 : Int32) [(.int 0), (.int 0)] (.int 0) := Vd0.pad (pad_rep [] _ 2)
  have P1 := oS (s₁.setTop (mkF m 1 #[r_ de, r_ b, i_ 0, i_ 3, r_ d, u_, u_, u_, u_, u_, u_] [(.ref de)])) pre0 (by
    intro _ k_
    refine aN_ X0 hx hby d16_0 rfl rfl ?_
    exact k_)
  obtain ⟨T2, X2, e2, st2⟩ := getF X0 hx hZ hown (host := "") (Or.inl (own_w hw 92 rfl)) Via.refl e0 Fu (g := (mkF m 1 #[r_ de, r_ b, i_ 0, i_ 3, r_ d, u_, u_, u_, u_, u_, u_] [(.ref de)])) rfl rfl (hb hby d16_1)
  have P3 := oS (T2.setTop (mkF m 4 #[r_ de, r_ b, i_ 0, i_ 3, r_ d, u_, u_, u_, u_, u_, u_] [(.int 1)])) P1 (fun t_ k_ => st2 t_ k_)
  have P4 := oS (T2.setTop (mkF m 7 #[r_ de, r_ b, i_ 0, i_ 3, r_ d, u_, u_, u_, u_, u_, u_] [])) P3 (by
    intro _ k_
    refine XS.ifNo X2.here hx rfl (hb hby d16_4) rfl ((if0 _ _).trans (feq (by decide : ¬ ((1 : Int32) = (0 : Int32)))).1) ?_
    exact k_)
  obtain ⟨T5, X5, e5, st5⟩ := getS2 X2 hx hZ hown (host := "") (Or.inl (own_w hw 94 rfl)) Via.refl e2 (Sdt.ext O.2) (g := (mkF m 7 #[r_ de, r_ b, i_ 0, i_ 3, r_ d, u_, u_, u_, u_, u_, u_] [])) rfl (hb hby d16_7)
  have P6 := oS (T5.setTop (mkF m 10 #[r_ de, r_ b, i_ 0, i_ 3, r_ d, u_, u_, u_, u_, u_, u_] [(.ref rdt)])) P4 (fun t_ k_ => st5 t_ k_)
  have P7 := oS (T5.setTop (mkF m 30 #[r_ de, r_ b, i_ 0, i_ 3, r_ d, r_ rdt, i_ 0, i_ 0, i_ 18, u_, u_] [(.int 3), (.int 0)])) P6 (by
    intro _ k_
    refine gt_ X5 hx hby d16_10 (pc := 10) (pc' := 16) (by decide) ?_
    refine XS.astore X5.here hx rfl (hb hby d16_16) rfl rfl (l' := #[r_ de, r_ b, i_ 0, i_ 3, r_ d, r_ rdt, u_, u_, u_, u_, u_]) rfl ?_
    refine XS.iconst X5.here hx rfl (hb hby d16_18) ?_
    refine is_ X5 hx hby d16_19 (l' := #[r_ de, r_ b, i_ 0, i_ 3, r_ d, r_ rdt, i_ 0, u_, u_, u_, u_]) rfl ?_
    refine XS.iconst X5.here hx rfl (hb hby d16_21) ?_
    refine is_ X5 hx hby d16_22 (l' := #[r_ de, r_ b, i_ 0, i_ 3, r_ d, r_ rdt, i_ 0, i_ 0, u_, u_, u_]) rfl ?_
    refine XS.bipush X5.here hx rfl (hb hby d16_24) ?_
    refine is_ X5 hx hby d16_26 (l' := #[r_ de, r_ b, i_ 0, i_ 3, r_ d, r_ rdt, i_ 0, i_ 0, i_ 18, u_, u_]) rfl ?_
    refine iN_ X5 hx hby d16_28 rfl ?_
    refine iN_ X5 hx hby d16_29 rfl ?_
    exact k_)
  have P8 := oS (T5.setTop (mkF m 37 #[r_ de, r_ b, i_ 0, i_ 3, r_ d, r_ rdt, i_ 0, i_ 0, i_ 18, u_, u_] [(.int 18), (.int 18)])) P7 (by
    intro _ k_
    refine XS.icmpNo X5.here hx rfl (hb hby d16_30) rfl (tlt (by decide : (0 : Int32) < (3 : Int32))).2.1 ?_
    refine il_ X5 hx hby d16_33 rfl ?_
    refine XS.bipush X5.here hx rfl (hb hby d16_35) ?_
    exact k_)
  have P9 := oS (T5.setTop (mkF m 44 #[r_ de, r_ b, i_ 0, i_ 3, r_ d, r_ rdt, i_ 0, i_ 0, i_ 18, u_, u_] [(.int (-1 : Int32)), (.int 0)])) P8 (by
    intro _ k_
    refine XS.icmpNo X5.here hx rfl (hb hby d16_37) rfl (teq (by decide : (18 : Int32) = (18 : Int32))).2 ?_
    refine iN_ X5 hx hby d16_40 rfl ?_
    refine iN_ X5 hx hby d16_41 rfl ?_
    refine XS.iconst X5.here hx rfl (hb hby d16_42) ?_
    refine XS.isub X5.here hx rfl (hb hby d16_43) rfl ?_
    exact k_)
  have P10 := oS (T5.setTop (mkF m 90 #[r_ de, r_ b, i_ 0, i_ 3, r_ d, r_ rdt, i_ 0, i_ 0, i_ 18, u_, u_] [])) P9 (by
    intro _ k_
    refine cY_ X5 hx hby d16_44 (pc := 44) (pc' := 90) (flt (by decide : ¬ ((0 : Int32) < (-1 : Int32)))).2.1 (by decide) ?_
    exact k_)
  have P11 := oS (T5.setTop (mkF m 227 #[r_ de, r_ b, i_ 1, i_ 3, r_ d, r_ rdt, i_ 0, i_ ((0 : Int32) ||| (s0 <<< ((18 : Int32) &&& 31))), i_ 12, i_ s0, u_] [])) P10 (own_dt X5 hx hby hZ e5 Vb (Vdt.ext O.2) (by decide) (by rfl) hj0 hd0 hs0 One.u)
  have P12 := oS (T5.setTop (mkF m 229 #[r_ de, r_ b, i_ 1, i_ 3, r_ d, r_ rdt, i_ 0, i_ ((0 : Int32) ||| (s0 <<< ((18 : Int32) &&& 31))), i_ 12, i_ s0, u_] [(.int 12)])) P11 (by
    intro _ k_
    refine il_ X5 hx hby d16_227 rfl ?_
    exact k_)
  have P13 := oS (T5.setTop (mkF m 30 #[r_ de, r_ b, i_ 1, i_ 3, r_ d, r_ rdt, i_ 0, i_ ((0 : Int32) ||| (s0 <<< ((18 : Int32) &&& 31))), i_ 12, i_ s0, u_] [(.int 3), (.int 1)])) P12 (by
    intro _ k_
    refine fY_ X5 hx hby d16_229 (pc := 229) (pc' := 278) ((if0 _ _).trans (flt (by decide : ¬ ((12 : Int32) < (0 : Int32)))).2.1) (by decide) ?_
    refine gt_ X5 hx hby d16_278 (pc := 278) (pc' := 28) (by decide) ?_
    refine iN_ X5 hx hby d16_28 rfl ?_
    refine iN_ X5 hx hby d16_29 rfl ?_
    exact k_)
  have P14 := oS (T5.setTop (mkF m 37 #[r_ de, r_ b, i_ 1, i_ 3, r_ d, r_ rdt, i_ 0, i_ ((0 : Int32) ||| (s0 <<< ((18 : Int32) &&& 31))), i_ 12, i_ s0, u_] [(.int 18), (.int 12)])) P13 (by
    intro _ k_
    refine XS.icmpNo X5.here hx rfl (hb hby d16_30) rfl (tlt (by decide : (1 : Int32) < (3 : Int32))).2.1 ?_
    refine il_ X5 hx hby d16_33 rfl ?_
    refine XS.bipush X5.here hx rfl (hb hby d16_35) ?_
    exact k_)
  have P15 := oS (T5.setTop (mkF m 90 #[r_ de, r_ b, i_ 1, i_ 3, r_ d, r_ rdt, i_ 0, i_ ((0 : Int32) ||| (s0 <<< ((18 : Int32) &&& 31))), i_ 12, i_ s0, u_] [])) P14 (by
    intro _ k_
    refine cY_ X5 hx hby d16_37 (pc := 37) (pc' := 90) (feq (by decide : ¬ ((12 : Int32) = (18 : Int32)))).2 (by decide) ?_
    exact k_)
  have P16 := oS (T5.setTop (mkF m 227 #[r_ de, r_ b, i_ 2, i_ 3, r_ d, r_ rdt, i_ 0, i_ (((0 : Int32) ||| (s0 <<< ((18 : Int32) &&& 31))) ||| (s1 <<< ((12 : Int32) &&& 31))), i_ 6, i_ s1, u_] [])) P15 (own_dt X5 hx hby hZ e5 Vb (Vdt.ext O.2) (by decide) (by rfl) hj1 hd1 hs1 (One.val rfl))
  have P17 := oS (T5.setTop (mkF m 229 #[r_ de, r_ b, i_ 2, i_ 3, r_ d, r_ rdt, i_ 0, i_ (((0 : Int32) ||| (s0 <<< ((18 : Int32) &&& 31))) ||| (s1 <<< ((12 : Int32) &&& 31))), i_ 6, i_ s1, u_] [(.int 6)])) P16 (by
    intro _ k_
    refine il_ X5 hx hby d16_227 rfl ?_
    exact k_)
  have P18 := oS (T5.setTop (mkF m 30 #[r_ de, r_ b, i_ 2, i_ 3, r_ d, r_ rdt, i_ 0, i_ (((0 : Int32) ||| (s0 <<< ((18 : Int32) &&& 31))) ||| (s1 <<< ((12 : Int32) &&& 31))), i_ 6, i_ s1, u_] [(.int 3), (.int 2)])) P17 (by
    intro _ k_
    refine fY_ X5 hx hby d16_229 (pc := 229) (pc' := 278) ((if0 _ _).trans (flt (by decide : ¬ ((6 : Int32) < (0 : Int32)))).2.1) (by decide) ?_
    refine gt_ X5 hx hby d16_278 (pc := 278) (pc' := 28) (by decide) ?_
    refine iN_ X5 hx hby d16_28 rfl ?_
    refine iN_ X5 hx hby d16_29 rfl ?_
    exact k_)
  have P19 := oS (T5.setTop (mkF m 37 #[r_ de, r_ b, i_ 2, i_ 3, r_ d, r_ rdt, i_ 0, i_ (((0 : Int32) ||| (s0 <<< ((18 : Int32) &&& 31))) ||| (s1 <<< ((12 : Int32) &&& 31))), i_ 6, i_ s1, u_] [(.int 18), (.int 6)])) P18 (by
    intro _ k_
    refine XS.icmpNo X5.here hx rfl (hb hby d16_30) rfl (tlt (by decide : (2 : Int32) < (3 : Int32))).2.1 ?_
    refine il_ X5 hx hby d16_33 rfl ?_
    refine XS.bipush X5.here hx rfl (hb hby d16_35) ?_
    exact k_)
  have P20 := oS (T5.setTop (mkF m 90 #[r_ de, r_ b, i_ 2, i_ 3, r_ d, r_ rdt, i_ 0, i_ (((0 : Int32) ||| (s0 <<< ((18 : Int32) &&& 31))) ||| (s1 <<< ((12 : Int32) &&& 31))), i_ 6, i_ s1, u_] [])) P19 (by
    intro _ k_
    refine cY_ X5 hx hby d16_37 (pc := 37) (pc' := 90) (feq (by decide : ¬ ((6 : Int32) = (18 : Int32)))).2 (by decide) ?_
    exact k_)
  have P21 := oS (T5.setTop (mkF m 227 #[r_ de, r_ b, i_ 3, i_ 3, r_ d, r_ rdt, i_ 0, i_ ((((0 : Int32) ||| (s0 <<< ((18 : Int32) &&& 31))) ||| (s1 <<< ((12 : Int32) &&& 31))) ||| (s2 <<< ((6 : Int32) &&& 31))), i_ 0, i_ s2, u_] [])) P20 (own_dt X5 hx hby hZ e5 Vb (Vdt.ext O.2) (by decide) (by rfl) hj2 hd2 hs2 (One.val rfl))
  have P22 := oS (T5.setTop (mkF m 229 #[r_ de, r_ b, i_ 3, i_ 3, r_ d, r_ rdt, i_ 0, i_ ((((0 : Int32) ||| (s0 <<< ((18 : Int32) &&& 31))) ||| (s1 <<< ((12 : Int32) &&& 31))) ||| (s2 <<< ((6 : Int32) &&& 31))), i_ 0, i_ s2, u_] [(.int 0)])) P21 (by
    intro _ k_
    refine il_ X5 hx hby d16_227 rfl ?_
    exact k_)
  have P23 := oS (T5.setTop (mkF m 30 #[r_ de, r_ b, i_ 3, i_ 3, r_ d, r_ rdt, i_ 0, i_ ((((0 : Int32) ||| (s0 <<< ((18 : Int32) &&& 31))) ||| (s1 <<< ((12 : Int32) &&& 31))) ||| (s2 <<< ((6 : Int32) &&& 31))), i_ 0, i_ s2, u_] [(.int 3), (.int 3)])) P22 (by
    intro _ k_
    refine fY_ X5 hx hby d16_229 (pc := 229) (pc' := 278) ((if0 _ _).trans (flt (by decide : ¬ ((0 : Int32) < (0 : Int32)))).2.1) (by decide) ?_
    refine gt_ X5 hx hby d16_278 (pc := 278) (pc' := 28) (by decide) ?_
    refine iN_ X5 hx hby d16_28 rfl ?_
    refine iN_ X5 hx hby d16_29 rfl ?_
    exact k_)
  have P24 := oS (T5.setTop (mkF m 285 #[r_ de, r_ b, i_ 3, i_ 3, r_ d, r_ rdt, i_ 0, i_ ((((0 : Int32) ||| (s0 <<< ((18 : Int32) &&& 31))) ||| (s1 <<< ((12 : Int32) &&& 31))) ||| (s2 <<< ((6 : Int32) &&& 31))), i_ 0, i_ s2, u_] [(.int 6), (.int 0)])) P23 (by
    intro _ k_
    refine cY_ X5 hx hby d16_30 (pc := 30) (pc' := 281) (flt (by decide : ¬ ((3 : Int32) < (3 : Int32)))).2.1 (by decide) ?_
    refine il_ X5 hx hby d16_281 rfl ?_
    refine XS.bipush X5.here hx rfl (hb hby d16_283) ?_
    exact k_)
  have P25 := oS (T5.setTop (mkF m 307 #[r_ de, r_ b, i_ 3, i_ 3, r_ d, r_ rdt, i_ 0, i_ ((((0 : Int32) ||| (s0 <<< ((18 : Int32) &&& 31))) ||| (s1 <<< ((12 : Int32) &&& 31))) ||| (s2 <<< ((6 : Int32) &&& 31))), i_ 0, i_ s2, u_] [(.int 0)])) P24 (by
    intro _ k_
    refine cY_ X5 hx hby d16_285 (pc := 285) (pc' := 305) (feq (by decide : ¬ ((0 : Int32) = (6 : Int32)))).2 (by decide) ?_
    refine il_ X5 hx hby d16_305 rfl ?_
    exact k_)
  have P26 := oS (T5.setTop (mkF m 323 #[r_ de, r_ b, i_ 3, i_ 3, r_ d, r_ rdt, i_ 1, i_ ((((0 : Int32) ||| (s0 <<< ((18 : Int32) &&& 31))) ||| (s1 <<< ((12 : Int32) &&& 31))) ||| (s2 <<< ((6 : Int32) &&& 31))), i_ 0, i_ s2, u_] [(.int ((((((0 : Int32) ||| (s0 <<< ((18 : Int32) &&& 31))) ||| (s1 <<< ((12 : Int32) &&& 31))) ||| (s2 <<< ((6 : Int32) &&& 31))) >>> ((16 : Int32) &&& 31)).toInt8.toInt32)), (.int 0), (.ref d)])) P25 (by
    intro _ k_
    refine XS.ifNo X5.here hx rfl (hb hby d16_307) rfl ((if0 _ _).trans (teq (by decide : (0 : Int32) = (0 : Int32))).2) ?_
    refine a_ X5 hx hby d16_310 rfl rfl ?_
    refine il_ X5 hx hby d16_312 rfl ?_
    refine XS.iinc X5.here hx rfl (hb hby d16_314) rfl (l' := #[r_ de, r_ b, i_ 3, i_ 3, r_ d, r_ rdt, i_ 1, i_ ((((0 : Int32) ||| (s0 <<< ((18 : Int32) &&& 31))) ||| (s1 <<< ((12 : Int32) &&& 31))) ||| (s2 <<< ((6 : Int32) &&& 31))), i_ 0, i_ s2, u_]) rfl ?_
    show Steps p.tables e below (T5.setTop (mkF m 317 #[r_ de, r_ b, i_ 3, i_ 3, r_ d, r_ rdt, i_ 1, i_ ((((0 : Int32) ||| (s0 <<< ((18 : Int32) &&& 31))) ||| (s1 <<< ((12 : Int32) &&& 31))) ||| (s2 <<< ((6 : Int32) &&& 31))), i_ 0, i_ s2, u_] [(.int 0), (.ref d)])) _
    refine il_ X5 hx hby d16_317 rfl ?_
    refine XS.bipush X5.here hx rfl (hb hby d16_319) ?_
    refine XS.ishr X5.here hx rfl (hb hby d16_321) rfl ?_
    refine XS.i2b X5.here hx rfl (hb hby d16_322) rfl ?_
    exact k_)
  obtain ⟨cl27, Ar27, q27, S27, M27, H27, G27⟩ := id Vd
  obtain ⟨T28, h28, X28, e28, W28, st28⟩ := stB X5 hx hZ e5 Ar27 (j := (0 : Int32)) (inb_of S27 (by decide : ¬ (0 : Int32) < 0 ∧ (0 : Int32) < (2 : Int32))) (g := (mkF m 323 #[r_ de, r_ b, i_ 3, i_ 3, r_ d, r_ rdt, i_ 1, i_ ((((0 : Int32) ||| (s0 <<< ((18 : Int32) &&& 31))) ||| (s1 <<< ((12 : Int32) &&& 31))) ||| (s2 <<< ((6 : Int32) &&& 31))), i_ 0, i_ s2, u_] [(.int ((((((0 : Int32) ||| (s0 <<< ((18 : Int32) &&& 31))) ||| (s1 <<< ((12 : Int32) &&& 31))) ||| (s2 <<< ((6 : Int32) &&& 31))) >>> ((16 : Int32) &&& 31)).toInt8.toInt32)), (.int 0), (.ref d)])) rfl rfl (hb hby d16_323)
  have f34 := (Keep.refl h0 [d]).wr W28 (Or.inl (List.mem_of_getElem? (i := 0) rfl))
  have V28 : Arv Z h28 d kd .byte (2 : Int32) [(.int ((((((0 : Int32) ||| (s0 <<< ((18 : Int32) &&& 31))) ||| (s1 <<< ((12 : Int32) &&& 31))) ||| (s2 <<< ((6 : Int32) &&& 31))) >>> ((16 : Int32) &&& 31)).toInt8.toInt32).toInt8.toInt32), (.int 0)] (.int 0) := Arv.set Ar27 q27 S27 M27 H27 G27 (fits_nar_byte _) W28 0 rfl (Nat.le_of_ble_eq_true rfl)
  have N28 := Fr.snoc X28 N0 gd
  have P37 := oS (T28.setTop (mkF m 324 #[r_ de, r_ b, i_ 3, i_ 3, r_ d, r_ rdt, i_ 1, i_ ((((0 : Int32) ||| (s0 <<< ((18 : Int32) &&& 31))) ||| (s1 <<< ((12 : Int32) &&& 31))) ||| (s2 <<< ((6 : Int32) &&& 31))), i_ 0, i_ s2, u_] [])) P26 (fun t_ k_ => st28 t_ k_)
  have P38 := oS (T28.setTop (mkF m 337 #[r_ de, r_ b, i_ 3, i_ 3, r_ d, r_ rdt, i_ 2, i_ ((((0 : Int32) ||| (s0 <<< ((18 : Int32) &&& 31))) ||| (s1 <<< ((12 : Int32) &&& 31))) ||| (s2 <<< ((6 : Int32) &&& 31))), i_ 0, i_ s2, u_] [(.int ((((((0 : Int32) ||| (s0 <<< ((18 : Int32) &&& 31))) ||| (s1 <<< ((12 : Int32) &&& 31))) ||| (s2 <<< ((6 : Int32) &&& 31))) >>> ((8 : Int32) &&& 31)).toInt8.toInt32)), (.int 1), (.ref d)])) P37 (by
    intro _ k_
    refine a_ X28 hx hby d16_324 rfl rfl ?_
    refine il_ X28 hx hby d16_326 rfl ?_
    refine XS.iinc X28.here hx rfl (hb hby d16_328) rfl (l' := #[r_ de, r_ b, i_ 3, i_ 3, r_ d, r_ rdt, i_ 2, i_ ((((0 : Int32) ||| (s0 <<< ((18 : Int32) &&& 31))) ||| (s1 <<< ((12 : Int32) &&& 31))) ||| (s2 <<< ((6 : Int32) &&& 31))), i_ 0, i_ s2, u_]) rfl ?_
    show Steps p.tables e below (T28.setTop (mkF m 331 #[r_ de, r_ b, i_ 3, i_ 3, r_ d, r_ rdt, i_ 2, i_ ((((0 : Int32) ||| (s0 <<< ((18 : Int32) &&& 31))) ||| (s1 <<< ((12 : Int32) &&& 31))) ||| (s2 <<< ((6 : Int32) &&& 31))), i_ 0, i_ s2, u_] [(.int 1), (.ref d)])) _
    refine il_ X28 hx hby d16_331 rfl ?_
    refine XS.bipush X28.here hx rfl (hb hby d16_333) ?_
    refine XS.ishr X28.here hx rfl (hb hby d16_335) rfl ?_
    refine XS.i2b X28.here hx rfl (hb hby d16_336) rfl ?_
    exact k_)
  obtain ⟨cl39, Ar39, q39, S39, M39, H39, G39⟩ := id V28
  obtain ⟨T40, h40, X40, e40, W40, st40⟩ := stB X28 hx hZ e28 Ar39 (j := (1 : Int32)) (inb_of S39 (by decide : ¬ (1 : Int32) < 0 ∧ (1 : Int32) < (2 : Int32))) (g := (mkF m 337 #[r_ de, r_ b, i_ 3, i_ 3, r_ d, r_ rdt, i_ 2, i_ ((((0 : Int32) ||| (s0 <<< ((18 : Int32) &&& 31))) ||| (s1 <<< ((12 : Int32) &&& 31))) ||| (s2 <<< ((6 : Int32) &&& 31))), i_ 0, i_ s2, u_] [(.int ((((((0 : Int32) ||| (s0 <<< ((18 : Int32) &&& 31))) ||| (s1 <<< ((12 : Int32) &&& 31))) ||| (s2 <<< ((6 : Int32) &&& 31))) >>> ((8 : Int32) &&& 31)).toInt8.toInt32)), (.int 1), (.ref d)])) rfl rfl (hb hby d16_337)
  have f46 := f34.wr W40 (Or.inl (List.mem_of_getElem? (i := 0) rfl))
  have V40 : Arv Z h40 d kd .byte (2 : Int32) [(.int ((((((0 : Int32) ||| (s0 <<< ((18 : Int32) &&& 31))) ||| (s1 <<< ((12 : Int32) &&& 31))) ||| (s2 <<< ((6 : Int32) &&& 31))) >>> ((16 : Int32) &&& 31)).toInt8.toInt32).toInt8.toInt32), (.int ((((((0 : Int32) ||| (s0 <<< ((18 : Int32) &&& 31))) ||| (s1 <<< ((12 : Int32) &&& 31))) ||| (s2 <<< ((6 : Int32) &&& 31))) >>> ((8 : Int32) &&& 31)).toInt8.toInt32).toInt8.toInt32)] (.int 0) := Arv.set Ar39 q39 S39 M39 H39 G39 (fits_nar_byte _) W40 1 rfl (Nat.le_of_ble_eq_true rfl)
  have N40 := Fr.snoc X40 N28 gd
  have P49 := oS (T40.setTop (mkF m 338 #[r_ de, r_ b, i_ 3, i_ 3, r_ d, r_ rdt, i_ 2, i_ ((((0 : Int32) ||| (s0 <<< ((18 : Int32) &&& 31))) ||| (s1 <<< ((12 : Int32) &&& 31))) ||| (s2 <<< ((6 : Int32) &&& 31))), i_ 0, i_ s2, u_] [])) P38 (fun t_ k_ => st40 t_ k_)
  have P50 := oS (T40.setTop (mkF m 360 #[r_ de, r_ b, i_ 3, i_ 3, r_ d, r_ rdt, i_ 2, i_ ((((0 : Int32) ||| (s0 <<< ((18 : Int32) &&& 31))) ||| (s1 <<< ((12 : Int32) &&& 31))) ||| (s2 <<< ((6 : Int32) &&& 31))), i_ 0, i_ s2, u_] [(.int 3), (.int 3)])) P49 (by
    intro _ k_
    refine gt_ X40 hx hby d16_338 (pc := 338) (pc' := 358) (by decide) ?_
    refine iN_ X40 hx hby d16_358 rfl ?_
    refine iN_ X40 hx hby d16_359 rfl ?_
    exact k_)
  have P51 := oS (T40.setTop (mkF m 418 #[r_ de, r_ b, i_ 3, i_ 3, r_ d, r_ rdt, i_ 2, i_ ((((0 : Int32) ||| (s0 <<< ((18 : Int32) &&& 31))) ||| (s1 <<< ((12 : Int32) &&& 31))) ||| (s2 <<< ((6 : Int32) &&& 31))), i_ 0, i_ s2, u_] [(.int 2)])) P50 (by
    intro _ k_
    refine cY_ X40 hx hby d16_360 (pc := 360) (pc' := 416) (flt (by decide : ¬ ((3 : Int32) < (3 : Int32)))).2.1 (by decide) ?_
    refine il_ X40 hx hby d16_416 rfl ?_
    exact k_)
  rw [hy0, hy1] at V40
  exact own_out X40 hlk (v := some (.int 2)) (own_hv hrt) P51 (fun _ q_ => retI X40 hx hrt (hb hby d16_418) q_) e40 ⟨rfl, N40, f46, V40⟩ (by decide)
theorem d16_232 : own_d cB16 232 (.aload 4) 2 := by decide +kernel
theorem d16_234 : own_d cB16 234 (.iload 6) 2 := by decide +kernel
theorem d16_236 : own_d cB16 236 (.iinc 6 1) 3 := by decide +kernel
theorem d16_239 : own_d cB16 239 (.iload 7) 2 := by decide +kernel
theorem d16_241 : own_d cB16 241 (.bipush 16) 2 := by decide +kernel
theorem d16_243 : own_d cB16 243 (.ishr) 1 := by decide +kernel
theorem d16_244 : own_d cB16 244 (.i2b) 1 := by decide +kernel
theorem d16_245 : own_d cB16 245 (.bastore) 1 := by decide +kernel
theorem d16_246 : own_d cB16 246 (.aload 4) 2 := by decide +kernel
theorem d16_248 : own_d cB16 248 (.iload 6) 2 := by decide +kernel
theorem d16_250 : own_d cB16 250 (.iinc 6 1) 3 := by decide +kernel
theorem d16_253 : own_d cB16 253 (.iload 7) 2 := by decide +kernel
theorem d16_255 : own_d cB16 255 (.bipush 8) 2 := by decide +kernel
theorem d16_257 : own_d cB16 257 (.ishr) 1 := by decide +kernel
theorem d16_258 : own_d cB16 258 (.i2b) 1 := by decide +kernel
theorem d16_259 : own_d cB16 259 (.bastore) 1 := by decide +kernel
theorem d16_260 : own_d cB16 260 (.aload 4) 2 := by decide +kernel
theorem d16_262 : own_d cB16 262 (.iload 6) 2 := by decide +kernel
theorem d16_264 : own_d cB16 264 (.iinc 6 1) 3 := by decide +kernel
theorem d16_267 : own_d cB16 267 (.iload 7) 2 := by decide +kernel
theorem d16_269 : own_d cB16 269 (.i2b) 1 := by decide +kernel
theorem d16_270 : own_d cB16 270 (.bastore) 1 := by decide +kernel
theorem d16_271 : own_d cB16 271 (.bipush 18) 2 := by decide +kernel
theorem d16_273 : own_d cB16 273 (.istore 8) 2 := by decide +kernel
theorem d16_275 : own_d cB16 275 (.iconst 0) 1 := by decide +kernel
theorem d16_276 : own_d cB16 276 (.istore 7) 2 := by decide +kernel
set_option maxRecDepth 65536 in
set_option maxHeartbeats 40000000 in
theorem rm_dec0_4 (l : Launch) (Z : State) (a0 : Array Value) (hw : ∀ d ∈ tables_1, d.before a0 Z = true) (x0 : Int32) (x1 : Int32) (x2 : Int32) (x3 : Int32) (s0 : Int32) (s1 : Int32) (s2 : Int32) (s3 : Int32) (y0 : Int32) (y1 : Int32) (y2 : Int32) (rdt : Addr) (kdt : ClassId) (Sdt : Sta Z Z.heap "java/util/Base64$Decoder" "fromBase64URL" "[I" (.ref rdt)) (Vdt : Arv Z Z.heap rdt kdt .int (256 : Int32) own_dec (.int 0)) (hj0 : ¬ (x0 &&& 255) < 0 ∧ (x0 &&& 255) < (256 : Int32)) (hd0 : own_dec.getD (x0 &&& 255).toNatClampNeg (.int 0) = .int s0) (hs0 : ¬ (s0 < (0 : Int32))) (hj1 : ¬ (x1 &&& 255) < 0 ∧ (x1 &&& 255) < (256 : Int32)) (hd1 : own_dec.getD (x1 &&& 255).toNatClampNeg (.int 0) = .int s1) (hs1 : ¬ (s1 < (0 : Int32))) (hj2 : ¬ (x2 &&& 255) < 0 ∧ (x2 &&& 255) < (256 : Int32)) (hd2 : own_dec.getD (x2 &&& 255).toNatClampNeg (.int 0) = .int s2) (hs2 : ¬ (s2 < (0 : Int32))) (hj3 : ¬ (x3 &&& 255) < 0 ∧ (x3 &&& 255) < (256 : Int32)) (hd3 : own_dec.getD (x3 &&& 255).toNatClampNeg (.int 0) = .int s3) (hs3 : ¬ (s3 < (0 : Int32))) (hy0 : (((((((0 : Int32) ||| (s0 <<< ((18 : Int32) &&& 31))) ||| (s1 <<< ((12 : Int32) &&& 31))) ||| (s2 <<< ((6 : Int32) &&& 31))) ||| (s3 <<< ((0 : Int32) &&& 31))) >>> ((16 : Int32) &&& 31)).toInt8.toInt32).toInt8.toInt32 = y0) (hy1 : (((((((0 : Int32) ||| (s0 <<< ((18 : Int32) &&& 31))) ||| (s1 <<< ((12 : Int32) &&& 31))) ||| (s2 <<< ((6 : Int32) &&& 31))) ||| (s3 <<< ((0 : Int32) &&& 31))) >>> ((8 : Int32) &&& 31)).toInt8.toInt32).toInt8.toInt32 = y1) (hy2 : ((((((0 : Int32) ||| (s0 <<< ((18 : Int32) &&& 31))) ||| (s1 <<< ((12 : Int32) &&& 31))) ||| (s2 <<< ((6 : Int32) &&& 31))) ||| (s3 <<< ((0 : Int32) &&& 31))).toInt8.toInt32).toInt8.toInt32 = y2) :
    HD0 l Z (4 : Int32) (3 : Int32) [(.int x0), (.int x1), (.int x2), (.int x3)] [(.int y0), (.int y1), (.int y2)] := by
  intro de b k d kd h0 n0 Z0 O Fu Fm Ed Vb Vd0 nbd gd nde
  refine own_in "java/util/Base64$Decoder" rfl (plainFor_of_name pn3) hisR (fun m => ef16RRIIR m de b (0 : Int32) (4 : Int32) d) ?_
  intro p e s m below meth c s₁ A_ hx hby hml hown hnm hrt hlk hZ _ X0 e0 pre0
  have N0 := Fr.nil n0
  have Vd : Arv Z h0 d kd .byte (3 : Int32) [(.int 0), (.int 0), (.int 0)] (.int 0) := Vd0.pad (pad_rep [] _ 3)
  have P1 := oS (s₁.setTop (mkF m 1 #[r_ de, r_ b, i_ 0, i_ 4, r_ d, u_, u_, u_, u_, u_, u_] [(.ref de)])) pre0 (by
    intro _ k_
    refine aN_ X0 hx hby d16_0 rfl rfl ?_
    exact k_)
  obtain ⟨T2, X2, e2, st2⟩ := getF X0 hx hZ hown (host := "") (Or.inl (own_w hw 92 rfl)) Via.refl e0 Fu (g := (mkF m 1 #[r_ de, r_ b, i_ 0, i_ 4, r_ d, u_, u_, u_, u_, u_, u_] [(.ref de)])) rfl rfl (hb hby d16_1)
  have P3 := oS (T2.setTop (mkF m 4 #[r_ de, r_ b, i_ 0, i_ 4, r_ d, u_, u_, u_, u_, u_, u_] [(.int 1)])) P1 (fun t_ k_ => st2 t_ k_)
  have P4 := oS (T2.setTop (mkF m 7 #[r_ de, r_ b, i_ 0, i_ 4, r_ d, u_, u_, u_, u_, u_, u_] [])) P3 (by
    intro _ k_
    refine XS.ifNo X2.here hx rfl (hb hby d16_4) rfl ((if0 _ _).trans (feq (by decide : ¬ ((1 : Int32) = (0 : Int32)))).1) ?_
    exact k_)
  obtain ⟨T5, X5, e5, st5⟩ := getS2 X2 hx hZ hown (host := "") (Or.inl (own_w hw 94 rfl)) Via.refl e2 (Sdt.ext O.2) (g := (mkF m 7 #[r_ de, r_ b, i_ 0, i_ 4, r_ d, u_, u_, u_, u_, u_, u_] [])) rfl (hb hby d16_7)
  have P6 := oS (T5.setTop (mkF m 10 #[r_ de, r_ b, i_ 0, i_ 4, r_ d, u_, u_, u_, u_, u_, u_] [(.ref rdt)])) P4 (fun t_ k_ => st5 t_ k_)
  have P7 := oS (T5.setTop (mkF m 30 #[r_ de, r_ b, i_ 0, i_ 4, r_ d, r_ rdt, i_ 0, i_ 0, i_ 18, u_, u_] [(.int 4), (.int 0)])) P6 (by
    intro _ k_
    refine gt_ X5 hx hby d16_10 (pc := 10) (pc' := 16) (by decide) ?_
    refine XS.astore X5.here hx rfl (hb hby d16_16) rfl rfl (l' := #[r_ de, r_ b, i_ 0, i_ 4, r_ d, r_ rdt, u_, u_, u_, u_, u_]) rfl ?_
    refine XS.iconst X5.here hx rfl (hb hby d16_18) ?_
    refine is_ X5 hx hby d16_19 (l' := #[r_ de, r_ b, i_ 0, i_ 4, r_ d, r_ rdt, i_ 0, u_, u_, u_, u_]) rfl ?_
    refine XS.iconst X5.here hx rfl (hb hby d16_21) ?_
    refine is_ X5 hx hby d16_22 (l' := #[r_ de, r_ b, i_ 0, i_ 4, r_ d, r_ rdt, i_ 0, i_ 0, u_, u_, u_]) rfl ?_
    refine XS.bipush X5.here hx rfl (hb hby d16_24) ?_
    refine is_ X5 hx hby d16_26 (l' := #[r_ de, r_ b, i_ 0, i_ 4, r_ d, r_ rdt, i_ 0, i_ 0, i_ 18, u_, u_]) rfl ?_
    refine iN_ X5 hx hby d16_28 rfl ?_
    refine iN_ X5 hx hby d16_29 rfl ?_
    exact k_)
  have P8 := oS (T5.setTop (mkF m 37 #[r_ de, r_ b, i_ 0, i_ 4, r_ d, r_ rdt, i_ 0, i_ 0, i_ 18, u_, u_] [(.int 18), (.int 18)])) P7 (by
    intro _ k_
    refine XS.icmpNo X5.here hx rfl (hb hby d16_30) rfl (tlt (by decide : (0 : Int32) < (4 : Int32))).2.1 ?_
    refine il_ X5 hx hby d16_33 rfl ?_
    refine XS.bipush X5.here hx rfl (hb hby d16_35) ?_
    exact k_)
  have P9 := oS (T5.setTop (mkF m 44 #[r_ de, r_ b, i_ 0, i_ 4, r_ d, r_ rdt, i_ 0, i_ 0, i_ 18, u_, u_] [(.int 0), (.int 0)])) P8 (by
    intro _ k_
    refine XS.icmpNo X5.here hx rfl (hb hby d16_37) rfl (teq (by decide : (18 : Int32) = (18 : Int32))).2 ?_
    refine iN_ X5 hx hby d16_40 rfl ?_
    refine iN_ X5 hx hby d16_41 rfl ?_
    refine XS.iconst X5.here hx rfl (hb hby d16_42) ?_
    refine XS.isub X5.here hx rfl (hb hby d16_43) rfl ?_
    exact k_)
  have P10 := oS (T5.setTop (mkF m 90 #[r_ de, r_ b, i_ 0, i_ 4, r_ d, r_ rdt, i_ 0, i_ 0, i_ 18, u_, u_] [])) P9 (by
    intro _ k_
    refine cY_ X5 hx hby d16_44 (pc := 44) (pc' := 90) (flt (by decide : ¬ ((0 : Int32) < (0 : Int32)))).2.1 (by decide) ?_
    exact k_)
  have P11 := oS (T5.setTop (mkF m 227 #[r_ de, r_ b, i_ 1, i_ 4, r_ d, r_ rdt, i_ 0, i_ ((0 : Int32) ||| (s0 <<< ((18 : Int32) &&& 31))), i_ 12, i_ s0, u_] [])) P10 (own_dt X5 hx hby hZ e5 Vb (Vdt.ext O.2) (by decide) (by rfl) hj0 hd0 hs0 One.u)
  have P12 := oS (T5.setTop (mkF m 229 #[r_ de, r_ b, i_ 1, i_ 4, r_ d, r_ rdt, i_ 0, i_ ((0 : Int32) ||| (s0 <<< ((18 : Int32) &&& 31))), i_ 12, i_ s0, u_] [(.int 12)])) P11 (by
    intro _ k_
    refine il_ X5 hx hby d16_227 rfl ?_
    exact k_)
  have P13 := oS (T5.setTop (mkF m 30 #[r_ de, r_ b, i_ 1, i_ 4, r_ d, r_ rdt, i_ 0, i_ ((0 : Int32) ||| (s0 <<< ((18 : Int32) &&& 31))), i_ 12, i_ s0, u_] [(.int 4), (.int 1)])) P12 (by
    intro _ k_
    refine fY_ X5 hx hby d16_229 (pc := 229) (pc' := 278) ((if0 _ _).trans (flt (by decide : ¬ ((12 : Int32) < (0 : Int32)))).2.1) (by decide) ?_
    refine gt_ X5 hx hby d16_278 (pc := 278) (pc' := 28) (by decide) ?_
    refine iN_ X5 hx hby d16_28 rfl ?_
    refine iN_ X5 hx hby d16_29 rfl ?_
    exact k_)
  have P14 := oS (T5.setTop (mkF m 37 #[r_ de, r_ b, i_ 1, i_ 4, r_ d, r_ rdt, i_ 0, i_ ((0 : Int32) ||| (s0 <<< ((18 : Int32) &&& 31))), i_ 12, i_ s0, u_] [(.int 18), (.int 12)])) P13 (by
    intro _ k_
    refine XS.icmpNo X5.here hx rfl (hb hby d16_30) rfl (tlt (by decide : (1 : Int32) < (4 : Int32))).2.1 ?_
    refine il_ X5 hx hby d16_33 rfl ?_
    refine XS.bipush X5.here hx rfl (hb hby d16_35) ?_
    exact k_)
  have P15 := oS (T5.setTop (mkF m 90 #[r_ de, r_ b, i_ 1, i_ 4, r_ d, r_ rdt, i_ 0, i_ ((0 : Int32) ||| (s0 <<< ((18 : Int32) &&& 31))), i_ 12, i_ s0, u_] [])) P14 (by
    intro _ k_
    refine cY_ X5 hx hby d16_37 (pc := 37) (pc' := 90) (feq (by decide : ¬ ((12 : Int32) = (18 : Int32)))).2 (by decide) ?_
    exact k_)
  have P16 := oS (T5.setTop (mkF m 227 #[r_ de, r_ b, i_ 2, i_ 4, r_ d, r_ rdt, i_ 0, i_ (((0 : Int32) ||| (s0 <<< ((18 : Int32) &&& 31))) ||| (s1 <<< ((12 : Int32) &&& 31))), i_ 6, i_ s1, u_] [])) P15 (own_dt X5 hx hby hZ e5 Vb (Vdt.ext O.2) (by decide) (by rfl) hj1 hd1 hs1 (One.val rfl))
  have P17 := oS (T5.setTop (mkF m 229 #[r_ de, r_ b, i_ 2, i_ 4, r_ d, r_ rdt, i_ 0, i_ (((0 : Int32) ||| (s0 <<< ((18 : Int32) &&& 31))) ||| (s1 <<< ((12 : Int32) &&& 31))), i_ 6, i_ s1, u_] [(.int 6)])) P16 (by
    intro _ k_
    refine il_ X5 hx hby d16_227 rfl ?_
    exact k_)
  have P18 := oS (T5.setTop (mkF m 30 #[r_ de, r_ b, i_ 2, i_ 4, r_ d, r_ rdt, i_ 0, i_ (((0 : Int32) ||| (s0 <<< ((18 : Int32) &&& 31))) ||| (s1 <<< ((12 : Int32) &&& 31))), i_ 6, i_ s1, u_] [(.int 4), (.int 2)])) P17 (by
    intro _ k_
    refine fY_ X5 hx hby d16_229 (pc := 229) (pc' := 278) ((if0 _ _).trans (flt (by decide : ¬ ((6 : Int32) < (0 : Int32)))).2.1) (by decide) ?_
    refine gt_ X5 hx hby d16_278 (pc := 278) (pc' := 28) (by decide) ?_
    refine iN_ X5 hx hby d16_28 rfl ?_
    refine iN_ X5 hx hby d16_29 rfl ?_
    exact k_)
  have P19 := oS (T5.setTop (mkF m 37 #[r_ de, r_ b, i_ 2, i_ 4, r_ d, r_ rdt, i_ 0, i_ (((0 : Int32) ||| (s0 <<< ((18 : Int32) &&& 31))) ||| (s1 <<< ((12 : Int32) &&& 31))), i_ 6, i_ s1, u_] [(.int 18), (.int 6)])) P18 (by
    intro _ k_
    refine XS.icmpNo X5.here hx rfl (hb hby d16_30) rfl (tlt (by decide : (2 : Int32) < (4 : Int32))).2.1 ?_
    refine il_ X5 hx hby d16_33 rfl ?_
    refine XS.bipush X5.here hx rfl (hb hby d16_35) ?_
    exact k_)
  have P20 := oS (T5.setTop (mkF m 90 #[r_ de, r_ b, i_ 2, i_ 4, r_ d, r_ rdt, i_ 0, i_ (((0 : Int32) ||| (s0 <<< ((18 : Int32) &&& 31))) ||| (s1 <<< ((12 : Int32) &&& 31))), i_ 6, i_ s1, u_] [])) P19 (by
    intro _ k_
    refine cY_ X5 hx hby d16_37 (pc := 37) (pc' := 90) (feq (by decide : ¬ ((6 : Int32) = (18 : Int32)))).2 (by decide) ?_
    exact k_)
  have P21 := oS (T5.setTop (mkF m 227 #[r_ de, r_ b, i_ 3, i_ 4, r_ d, r_ rdt, i_ 0, i_ ((((0 : Int32) ||| (s0 <<< ((18 : Int32) &&& 31))) ||| (s1 <<< ((12 : Int32) &&& 31))) ||| (s2 <<< ((6 : Int32) &&& 31))), i_ 0, i_ s2, u_] [])) P20 (own_dt X5 hx hby hZ e5 Vb (Vdt.ext O.2) (by decide) (by rfl) hj2 hd2 hs2 (One.val rfl))
  have P22 := oS (T5.setTop (mkF m 229 #[r_ de, r_ b, i_ 3, i_ 4, r_ d, r_ rdt, i_ 0, i_ ((((0 : Int32) ||| (s0 <<< ((18 : Int32) &&& 31))) ||| (s1 <<< ((12 : Int32) &&& 31))) ||| (s2 <<< ((6 : Int32) &&& 31))), i_ 0, i_ s2, u_] [(.int 0)])) P21 (by
    intro _ k_
    refine il_ X5 hx hby d16_227 rfl ?_
    exact k_)
  have P23 := oS (T5.setTop (mkF m 30 #[r_ de, r_ b, i_ 3, i_ 4, r_ d, r_ rdt, i_ 0, i_ ((((0 : Int32) ||| (s0 <<< ((18 : Int32) &&& 31))) ||| (s1 <<< ((12 : Int32) &&& 31))) ||| (s2 <<< ((6 : Int32) &&& 31))), i_ 0, i_ s2, u_] [(.int 4), (.int 3)])) P22 (by
    intro _ k_
    refine fY_ X5 hx hby d16_229 (pc := 229) (pc' := 278) ((if0 _ _).trans (flt (by decide : ¬ ((0 : Int32) < (0 : Int32)))).2.1) (by decide) ?_
    refine gt_ X5 hx hby d16_278 (pc := 278) (pc' := 28) (by decide) ?_
    refine iN_ X5 hx hby d16_28 rfl ?_
    refine iN_ X5 hx hby d16_29 rfl ?_
    exact k_)
  have P24 := oS (T5.setTop (mkF m 37 #[r_ de, r_ b, i_ 3, i_ 4, r_ d, r_ rdt, i_ 0, i_ ((((0 : Int32) ||| (s0 <<< ((18 : Int32) &&& 31))) ||| (s1 <<< ((12 : Int32) &&& 31))) ||| (s2 <<< ((6 : Int32) &&& 31))), i_ 0, i_ s2, u_] [(.int 18), (.int 0)])) P23 (by
    intro _ k_
    refine XS.icmpNo X5.here hx rfl (hb hby d16_30) rfl (tlt (by decide : (3 : Int32) < (4 : Int32))).2.1 ?_
    refine il_ X5 hx hby d16_33 rfl ?_
    refine XS.bipush X5.here hx rfl (hb hby d16_35) ?_
    exact k_)
  have P25 := oS (T5.setTop (mkF m 90 #[r_ de, r_ b, i_ 3, i_ 4, r_ d, r_ rdt, i_ 0, i_ ((((0 : Int32) ||| (s0 <<< ((18 : Int32) &&& 31))) ||| (s1 <<< ((12 : Int32) &&& 31))) ||| (s2 <<< ((6 : Int32) &&& 31))), i_ 0, i_ s2, u_] [])) P24 (by
    intro _ k_
    refine cY_ X5 hx hby d16_37 (pc := 37) (pc' := 90) (feq (by decide : ¬ ((0 : Int32) = (18 : Int32)))).2 (by decide) ?_
    exact k_)
  have P26 := oS (T5.setTop (mkF m 227 #[r_ de, r_ b, i_ 4, i_ 4, r_ d, r_ rdt, i_ 0, i_ (((((0 : Int32) ||| (s0 <<< ((18 : Int32) &&& 31))) ||| (s1 <<< ((12 : Int32) &&& 31))) ||| (s2 <<< ((6 : Int32) &&& 31))) ||| (s3 <<< ((0 : Int32) &&& 31))), i_ (-6 : Int32), i_ s3, u_] [])) P25 (own_dt X5 hx hby hZ e5 Vb (Vdt.ext O.2) (by decide) (by rfl) hj3 hd3 hs3 (One.val rfl))
  have P27 := oS (T5.setTop (mkF m 229 #[r_ de, r_ b, i_ 4, i_ 4, r_ d, r_ rdt, i_ 0, i_ (((((0 : Int32) ||| (s0 <<< ((18 : Int32) &&& 31))) ||| (s1 <<< ((12 : Int32) &&& 31))) ||| (s2 <<< ((6 : Int32) &&& 31))) ||| (s3 <<< ((0 : Int32) &&& 31))), i_ (-6 : Int32), i_ s3, u_] [(.int (-6 : Int32))])) P26 (by
    intro _ k_
    refine il_ X5 hx hby d16_227 rfl ?_
    exact k_)
  have P28 := oS (T5.setTop (mkF m 245 #[r_ de, r_ b, i_ 4, i_ 4, r_ d, r_ rdt, i_ 1, i_ (((((0 : Int32) ||| (s0 <<< ((18 : Int32) &&& 31))) ||| (s1 <<< ((12 : Int32) &&& 31))) ||| (s2 <<< ((6 : Int32) &&& 31))) ||| (s3 <<< ((0 : Int32) &&& 31))), i_ (-6 : Int32), i_ s3, u_] [(.int (((((((0 : Int32) ||| (s0 <<< ((18 : Int32) &&& 31))) ||| (s1 <<< ((12 : Int32) &&& 31))) ||| (s2 <<< ((6 : Int32) &&& 31))) ||| (s3 <<< ((0 : Int32) &&& 31))) >>> ((16 : Int32) &&& 31)).toInt8.toInt32)), (.int 0), (.ref d)])) P27 (by
    intro _ k_
    refine XS.ifNo X5.here hx rfl (hb hby d16_229) rfl ((if0 _ _).trans (tlt (by decide : (-6 : Int32) < (0 : Int32))).2.1) ?_
    refine a_ X5 hx hby d16_232 rfl rfl ?_
    refine il_ X5 hx hby d16_234 rfl ?_
    refine XS.iinc X5.here hx rfl (hb hby d16_236) rfl (l' := #[r_ de, r_ b, i_ 4, i_ 4, r_ d, r_ rdt, i_ 1, i_ (((((0 : Int32) ||| (s0 <<< ((18 : Int32) &&& 31))) ||| (s1 <<< ((12 : Int32) &&& 31))) ||| (s2 <<< ((6 : Int32) &&& 31))) ||| (s3 <<< ((0 : Int32) &&& 31))), i_ (-6 : Int32), i_ s3, u_]) rfl ?_
    show Steps p.tables e below (T5.setTop (mkF m 239 #[r_ de, r_ b, i_ 4, i_ 4, r_ d, r_ rdt, i_ 1, i_ (((((0 : Int32) ||| (s0 <<< ((18 : Int32) &&& 31))) ||| (s1 <<< ((12 : Int32) &&& 31))) ||| (s2 <<< ((6 : Int32) &&& 31))) ||| (s3 <<< ((0 : Int32) &&& 31))), i_ (-6 : Int32), i_ s3, u_] [(.int 0), (.ref d)])) _
    refine il_ X5 hx hby d16_239 rfl ?_
    refine XS.bipush X5.here hx rfl (hb hby d16_241) ?_
    refine XS.ishr X5.here hx rfl (hb hby d16_243) rfl ?_
    refine XS.i2b X5.here hx rfl (hb hby d16_244) rfl ?_
    exact k_)
  obtain ⟨cl29, Ar29, q29, S29, M29, H29, G29⟩ := id Vd
  obtain ⟨T30, h30, X30, e30, W30, st30⟩ := stB X5 hx hZ e5 Ar29 (j := (0 : Int32)) (inb_of S29 (by decide : ¬ (0 : Int32) < 0 ∧ (0 : Int32) < (3 : Int32))) (g := (mkF m 245 #[r_ de, r_ b, i_ 4, i_ 4, r_ d, r_ rdt, i_ 1, i_ (((((0 : Int32) ||| (s0 <<< ((18 : Int32) &&& 31))) ||| (s1 <<< ((12 : Int32) &&& 31))) ||| (s2 <<< ((6 : Int32) &&& 31))) ||| (s3 <<< ((0 : Int32) &&& 31))), i_ (-6 : Int32), i_ s3, u_] [(.int (((((((0 : Int32) ||| (s0 <<< ((18 : Int32) &&& 31))) ||| (s1 <<< ((12 : Int32) &&& 31))) ||| (s2 <<< ((6 : Int32) &&& 31))) ||| (s3 <<< ((0 : Int32) &&& 31))) >>> ((16 : Int32) &&& 31)).toInt8.toInt32)), (.int 0), (.ref d)])) rfl rfl (hb hby d16_245)
  have f36 := (Keep.refl h0 [d]).wr W30 (Or.inl (List.mem_of_getElem? (i := 0) rfl))
  have V30 : Arv Z h30 d kd .byte (3 : Int32) [(.int (((((((0 : Int32) ||| (s0 <<< ((18 : Int32) &&& 31))) ||| (s1 <<< ((12 : Int32) &&& 31))) ||| (s2 <<< ((6 : Int32) &&& 31))) ||| (s3 <<< ((0 : Int32) &&& 31))) >>> ((16 : Int32) &&& 31)).toInt8.toInt32).toInt8.toInt32), (.int 0), (.int 0)] (.int 0) := Arv.set Ar29 q29 S29 M29 H29 G29 (fits_nar_byte _) W30 0 rfl (Nat.le_of_ble_eq_true rfl)
  have N30 := Fr.snoc X30 N0 gd
  have P39 := oS (T30.setTop (mkF m 246 #[r_ de, r_ b, i_ 4, i_ 4, r_ d, r_ rdt, i_ 1, i_ (((((0 : Int32) ||| (s0 <<< ((18 : Int32) &&& 31))) ||| (s1 <<< ((12 : Int32) &&& 31))) ||| (s2 <<< ((6 : Int32) &&& 31))) ||| (s3 <<< ((0 : Int32) &&& 31))), i_ (-6 : Int32), i_ s3, u_] [])) P28 (fun t_ k_ => st30 t_ k_)
  have P40 := oS (T30.setTop (mkF m 259 #[r_ de, r_ b, i_ 4, i_ 4, r_ d, r_ rdt, i_ 2, i_ (((((0 : Int32) ||| (s0 <<< ((18 : Int32) &&& 31))) ||| (s1 <<< ((12 : Int32) &&& 31))) ||| (s2 <<< ((6 : Int32) &&& 31))) ||| (s3 <<< ((0 : Int32) &&& 31))), i_ (-6 : Int32), i_ s3, u_] [(.int (((((((0 : Int32) ||| (s0 <<< ((18 : Int32) &&& 31))) ||| (s1 <<< ((12 : Int32) &&& 31))) ||| (s2 <<< ((6 : Int32) &&& 31))) ||| (s3 <<< ((0 : Int32) &&& 31))) >>> ((8 : Int32) &&& 31)).toInt8.toInt32)), (.int 1), (.ref d)])) P39 (by
    intro _ k_
    refine a_ X30 hx hby d16_246 rfl rfl ?_
    refine il_ X30 hx hby d16_248 rfl ?_
    refine XS.iinc X30.here hx rfl (hb hby d16_250) rfl (l' := #[r_ de, r_ b, i_ 4, i_ 4, r_ d, r_ rdt, i_ 2, i_ (((((0 : Int32) ||| (s0 <<< ((18 : Int32) &&& 31))) ||| (s1 <<< ((12 : Int32) &&& 31))) ||| (s2 <<< ((6 : Int32) &&& 31))) ||| (s3 <<< ((0 : Int32) &&& 31))), i_ (-6 : Int32), i_ s3, u_]) rfl ?_
    show Steps p.tables e below (T30.setTop (mkF m 253 #[r_ de, r_ b, i_ 4, i_ 4, r_ d, r_ rdt, i_ 2, i_ (((((0 : Int32) ||| (s0 <<< ((18 : Int32) &&& 31))) ||| (s1 <<< ((12 : Int32) &&& 31))) ||| (s2 <<< ((6 : Int32) &&& 31))) ||| (s3 <<< ((0 : Int32) &&& 31))), i_ (-6 : Int32), i_ s3, u_] [(.int 1), (.ref d)])) _
    refine il_ X30 hx hby d16_253 rfl ?_
    refine XS.bipush X30.here hx rfl (hb hby d16_255) ?_
    refine XS.ishr X30.here hx rfl (hb hby d16_257) rfl ?_
    refine XS.i2b X30.here hx rfl (hb hby d16_258) rfl ?_
    exact k_)
  obtain ⟨cl41, Ar41, q41, S41, M41, H41, G41⟩ := id V30
  obtain ⟨T42, h42, X42, e42, W42, st42⟩ := stB X30 hx hZ e30 Ar41 (j := (1 : Int32)) (inb_of S41 (by decide : ¬ (1 : Int32) < 0 ∧ (1 : Int32) < (3 : Int32))) (g := (mkF m 259 #[r_ de, r_ b, i_ 4, i_ 4, r_ d, r_ rdt, i_ 2, i_ (((((0 : Int32) ||| (s0 <<< ((18 : Int32) &&& 31))) ||| (s1 <<< ((12 : Int32) &&& 31))) ||| (s2 <<< ((6 : Int32) &&& 31))) ||| (s3 <<< ((0 : Int32) &&& 31))), i_ (-6 : Int32), i_ s3, u_] [(.int (((((((0 : Int32) ||| (s0 <<< ((18 : Int32) &&& 31))) ||| (s1 <<< ((12 : Int32) &&& 31))) ||| (s2 <<< ((6 : Int32) &&& 31))) ||| (s3 <<< ((0 : Int32) &&& 31))) >>> ((8 : Int32) &&& 31)).toInt8.toInt32)), (.int 1), (.ref d)])) rfl rfl (hb hby d16_259)
  have f48 := f36.wr W42 (Or.inl (List.mem_of_getElem? (i := 0) rfl))
  have V42 : Arv Z h42 d kd .byte (3 : Int32) [(.int (((((((0 : Int32) ||| (s0 <<< ((18 : Int32) &&& 31))) ||| (s1 <<< ((12 : Int32) &&& 31))) ||| (s2 <<< ((6 : Int32) &&& 31))) ||| (s3 <<< ((0 : Int32) &&& 31))) >>> ((16 : Int32) &&& 31)).toInt8.toInt32).toInt8.toInt32), (.int (((((((0 : Int32) ||| (s0 <<< ((18 : Int32) &&& 31))) ||| (s1 <<< ((12 : Int32) &&& 31))) ||| (s2 <<< ((6 : Int32) &&& 31))) ||| (s3 <<< ((0 : Int32) &&& 31))) >>> ((8 : Int32) &&& 31)).toInt8.toInt32).toInt8.toInt32), (.int 0)] (.int 0) := Arv.set Ar41 q41 S41 M41 H41 G41 (fits_nar_byte _) W42 1 rfl (Nat.le_of_ble_eq_true rfl)
  have N42 := Fr.snoc X42 N30 gd
  have P51 := oS (T42.setTop (mkF m 260 #[r_ de, r_ b, i_ 4, i_ 4, r_ d, r_ rdt, i_ 2, i_ (((((0 : Int32) ||| (s0 <<< ((18 : Int32) &&& 31))) ||| (s1 <<< ((12 : Int32) &&& 31))) ||| (s2 <<< ((6 : Int32) &&& 31))) ||| (s3 <<< ((0 : Int32) &&& 31))), i_ (-6 : Int32), i_ s3, u_] [])) P40 (fun t_ k_ => st42 t_ k_)
  have P52 := oS (T42.setTop (mkF m 270 #[r_ de, r_ b, i_ 4, i_ 4, r_ d, r_ rdt, i_ 3, i_ (((((0 : Int32) ||| (s0 <<< ((18 : Int32) &&& 31))) ||| (s1 <<< ((12 : Int32) &&& 31))) ||| (s2 <<< ((6 : Int32) &&& 31))) ||| (s3 <<< ((0 : Int32) &&& 31))), i_ (-6 : Int32), i_ s3, u_] [(.int ((((((0 : Int32) ||| (s0 <<< ((18 : Int32) &&& 31))) ||| (s1 <<< ((12 : Int32) &&& 31))) ||| (s2 <<< ((6 : Int32) &&& 31))) ||| (s3 <<< ((0 : Int32) &&& 31))).toInt8.toInt32)), (.int 2), (.ref d)])) P51 (by
    intro _ k_
    refine a_ X42 hx hby d16_260 rfl rfl ?_
    refine il_ X42 hx hby d16_262 rfl ?_
    refine XS.iinc X42.here hx rfl (hb hby d16_264) rfl (l' := #[r_ de, r_ b, i_ 4, i_ 4, r_ d, r_ rdt, i_ 3, i_ (((((0 : Int32) ||| (s0 <<< ((18 : Int32) &&& 31))) ||| (s1 <<< ((12 : Int32) &&& 31))) ||| (s2 <<< ((6 : Int32) &&& 31))) ||| (s3 <<< ((0 : Int32) &&& 31))), i_ (-6 : Int32), i_ s3, u_]) rfl ?_
    show Steps p.tables e below (T42.setTop (mkF m 267 #[r_ de, r_ b, i_ 4, i_ 4, r_ d, r_ rdt, i_ 3, i_ (((((0 : Int32) ||| (s0 <<< ((18 : Int32) &&& 31))) ||| (s1 <<< ((12 : Int32) &&& 31))) ||| (s2 <<< ((6 : Int32) &&& 31))) ||| (s3 <<< ((0 : Int32) &&& 31))), i_ (-6 : Int32), i_ s3, u_] [(.int 2), (.ref d)])) _
    refine il_ X42 hx hby d16_267 rfl ?_
    refine XS.i2b X42.here hx rfl (hb hby d16_269) rfl ?_
    exact k_)
  obtain ⟨cl53, Ar53, q53, S53, M53, H53, G53⟩ := id V42
  obtain ⟨T54, h54, X54, e54, W54, st54⟩ := stB X42 hx hZ e42 Ar53 (j := (2 : Int32)) (inb_of S53 (by decide : ¬ (2 : Int32) < 0 ∧ (2 : Int32) < (3 : Int32))) (g := (mkF m 270 #[r_ de, r_ b, i_ 4, i_ 4, r_ d, r_ rdt, i_ 3, i_ (((((0 : Int32) ||| (s0 <<< ((18 : Int32) &&& 31))) ||| (s1 <<< ((12 : Int32) &&& 31))) ||| (s2 <<< ((6 : Int32) &&& 31))) ||| (s3 <<< ((0 : Int32) &&& 31))), i_ (-6 : Int32), i_ s3, u_] [(.int ((((((0 : Int32) ||| (s0 <<< ((18 : Int32) &&& 31))) ||| (s1 <<< ((12 : Int32) &&& 31))) ||| (s2 <<< ((6 : Int32) &&& 31))) ||| (s3 <<< ((0 : Int32) &&& 31))).toInt8.toInt32)), (.int 2), (.ref d)])) rfl rfl (hb hby d16_270)
  have f60 := f48.wr W54 (Or.inl (List.mem_of_getElem? (i := 0) rfl))
  have V54 : Arv Z h54 d kd .byte (3 : Int32) [(.int (((((((0 : Int32) ||| (s0 <<< ((18 : Int32) &&& 31))) ||| (s1 <<< ((12 : Int32) &&& 31))) ||| (s2 <<< ((6 : Int32) &&& 31))) ||| (s3 <<< ((0 : Int32) &&& 31))) >>> ((16 : Int32) &&& 31)).toInt8.toInt32).toInt8.toInt32), (.int (((((((0 : Int32) ||| (s0 <<< ((18 : Int32) &&& 31))) ||| (s1 <<< ((12 : Int32) &&& 31))) ||| (s2 <<< ((6 : Int32) &&& 31))) ||| (s3 <<< ((0 : Int32) &&& 31))) >>> ((8 : Int32) &&& 31)).toInt8.toInt32).toInt8.toInt32), (.int ((((((0 : Int32) ||| (s0 <<< ((18 : Int32) &&& 31))) ||| (s1 <<< ((12 : Int32) &&& 31))) ||| (s2 <<< ((6 : Int32) &&& 31))) ||| (s3 <<< ((0 : Int32) &&& 31))).toInt8.toInt32).toInt8.toInt32)] (.int 0) := Arv.set Ar53 q53 S53 M53 H53 G53 (fits_nar_byte _) W54 2 rfl (Nat.le_of_ble_eq_true rfl)
  have N54 := Fr.snoc X54 N42 gd
  have P63 := oS (T54.setTop (mkF m 271 #[r_ de, r_ b, i_ 4, i_ 4, r_ d, r_ rdt, i_ 3, i_ (((((0 : Int32) ||| (s0 <<< ((18 : Int32) &&& 31))) ||| (s1 <<< ((12 : Int32) &&& 31))) ||| (s2 <<< ((6 : Int32) &&& 31))) ||| (s3 <<< ((0 : Int32) &&& 31))), i_ (-6 : Int32), i_ s3, u_] [])) P52 (fun t_ k_ => st54 t_ k_)
  have P64 := oS (T54.setTop (mkF m 30 #[r_ de, r_ b, i_ 4, i_ 4, r_ d, r_ rdt, i_ 3, i_ 0, i_ 18, i_ s3, u_] [(.int 4), (.int 4)])) P63 (by
    intro _ k_
    refine XS.bipush X54.here hx rfl (hb hby d16_271) ?_
    refine is_ X54 hx hby d16_273 (l' := #[r_ de, r_ b, i_ 4, i_ 4, r_ d, r_ rdt, i_ 3, i_ (((((0 : Int32) ||| (s0 <<< ((18 : Int32) &&& 31))) ||| (s1 <<< ((12 : Int32) &&& 31))) ||| (s2 <<< ((6 : Int32) &&& 31))) ||| (s3 <<< ((0 : Int32) &&& 31))), i_ 18, i_ s3, u_]) rfl ?_
    refine XS.iconst X54.here hx rfl (hb hby d16_275) ?_
    refine is_ X54 hx hby d16_276 (l' := #[r_ de, r_ b, i_ 4, i_ 4, r_ d, r_ rdt, i_ 3, i_ 0, i_ 18, i_ s3, u_]) rfl ?_
    refine gt_ X54 hx hby d16_278 (pc := 278) (pc' := 28) (by decide) ?_
    refine iN_ X54 hx hby d16_28 rfl ?_
    refine iN_ X54 hx hby d16_29 rfl ?_
    exact k_)
  have P65 := oS (T54.setTop (mkF m 285 #[r_ de, r_ b, i_ 4, i_ 4, r_ d, r_ rdt, i_ 3, i_ 0, i_ 18, i_ s3, u_] [(.int 6), (.int 18)])) P64 (by
    intro _ k_
    refine cY_ X54 hx hby d16_30 (pc := 30) (pc' := 281) (flt (by decide : ¬ ((4 : Int32) < (4 : Int32)))).2.1 (by decide) ?_
    refine il_ X54 hx hby d16_281 rfl ?_
    refine XS.bipush X54.here hx rfl (hb hby d16_283) ?_
    exact k_)
  have P66 := oS (T54.setTop (mkF m 307 #[r_ de, r_ b, i_ 4, i_ 4, r_ d, r_ rdt, i_ 3, i_ 0, i_ 18, i_ s3, u_] [(.int 18)])) P65 (by
    intro _ k_
    refine cY_ X54 hx hby d16_285 (pc := 285) (pc' := 305) (feq (by decide : ¬ ((18 : Int32) = (6 : Int32)))).2 (by decide) ?_
    refine il_ X54 hx hby d16_305 rfl ?_
    exact k_)
  have P67 := oS (T54.setTop (mkF m 345 #[r_ de, r_ b, i_ 4, i_ 4, r_ d, r_ rdt, i_ 3, i_ 0, i_ 18, i_ s3, u_] [(.int 12), (.int 18)])) P66 (by
    intro _ k_
    refine fY_ X54 hx hby d16_307 (pc := 307) (pc' := 341) ((if0 _ _).trans (feq (by decide : ¬ ((18 : Int32) = (0 : Int32)))).2) (by decide) ?_
    refine il_ X54 hx hby d16_341 rfl ?_
    refine XS.bipush X54.here hx rfl (hb hby d16_343) ?_
    exact k_)
  have P68 := oS (T54.setTop (mkF m 360 #[r_ de, r_ b, i_ 4, i_ 4, r_ d, r_ rdt, i_ 3, i_ 0, i_ 18, i_ s3, u_] [(.int 4), (.int 4)])) P67 (by
    intro _ k_
    refine cY_ X54 hx hby d16_345 (pc := 345) (pc' := 358) (feq (by decide : ¬ ((18 : Int32) = (12 : Int32)))).2 (by decide) ?_
    refine iN_ X54 hx hby d16_358 rfl ?_
    refine iN_ X54 hx hby d16_359 rfl ?_
    exact k_)
  have P69 := oS (T54.setTop (mkF m 418 #[r_ de, r_ b, i_ 4, i_ 4, r_ d, r_ rdt, i_ 3, i_ 0, i_ 18, i_ s3, u_] [(.int 3)])) P68 (by
    intro _ k_
    refine cY_ X54 hx hby d16_360 (pc := 360) (pc' := 416) (flt (by decide : ¬ ((4 : Int32) < (4 : Int32)))).2.1 (by decide) ?_
    refine il_ X54 hx hby d16_416 rfl ?_
    exact k_)
  rw [hy0, hy1, hy2] at V54
  exact own_out X54 hlk (v := some (.int 3)) (own_hv hrt) P69 (fun _ q_ => retI X54 hx hrt (hb hby d16_418) q_) e54 ⟨rfl, N54, f60, V54⟩ (by decide)
abbrev cB29 := jdk_2450_method_8_code
abbrev yM29 : MethodName := ⟨"java/util/Base64$Decoder", "decodeBlock", "([BII[BIZZ)I"⟩
theorem d29_0 : own_d cB29 0 (.iload 6) 2 := by decide +kernel
theorem d29_2 : own_d cB29 2 (.ifCond .eq 9) 3 := by decide +kernel
theorem d29_5 : own_d cB29 5 (.getstatic 95) 3 := by decide +kernel
theorem d29_8 : own_d cB29 8 (.goto 6) 3 := by decide +kernel
theorem d29_14 : own_d cB29 14 (.astore 8) 2 := by decide +kernel
theorem d29_16 : own_d cB29 16 (.iload_n 2) 1 := by decide +kernel
theorem d29_17 : own_d cB29 17 (.iload_n 3) 1 := by decide +kernel
theorem d29_18 : own_d cB29 18 (.iload_n 2) 1 := by decide +kernel
theorem d29_19 : own_d cB29 19 (.isub) 1 := by decide +kernel
theorem d29_20 : own_d cB29 20 (.bipush (-4)) 2 := by decide +kernel
theorem d29_22 : own_d cB29 22 (.iand) 1 := by decide +kernel
theorem d29_23 : own_d cB29 23 (.iadd) 1 := by decide +kernel
theorem d29_24 : own_d cB29 24 (.istore 9) 2 := by decide +kernel
theorem d29_26 : own_d cB29 26 (.iload 5) 2 := by decide +kernel
theorem d29_28 : own_d cB29 28 (.istore 10) 2 := by decide +kernel
theorem d29_30 : own_d cB29 30 (.iload_n 2) 1 := by decide +kernel
theorem d29_31 : own_d cB29 31 (.iload 9) 2 := by decide +kernel
theorem d29_33 : own_d cB29 33 (.if_icmp .ge 147) 3 := by decide +kernel
theorem d29_36 : own_d cB29 36 (.aload 8) 2 := by decide +kernel
theorem d29_38 : own_d cB29 38 (.aload_n 1) 1 := by decide +kernel
theorem d29_39 : own_d cB29 39 (.iload_n 2) 1 := by decide +kernel
theorem d29_40 : own_d cB29 40 (.iinc 2 1) 3 := by decide +kernel
theorem d29_43 : own_d cB29 43 (.baload) 1 := by decide +kernel
theorem d29_44 : own_d cB29 44 (.sipush 255) 3 := by decide +kernel
theorem d29_47 : own_d cB29 47 (.iand) 1 := by decide +kernel
theorem d29_48 : own_d cB29 48 (.iaload) 1 := by decide +kernel
theorem d29_49 : own_d cB29 49 (.istore 11) 2 := by decide +kernel
theorem d29_51 : own_d cB29 51 (.aload 8) 2 := by decide +kernel
theorem d29_53 : own_d cB29 53 (.aload_n 1) 1 := by decide +kernel
theorem d29_54 : own_d cB29 54 (.iload_n 2) 1 := by decide +kernel
theorem d29_55 : own_d cB29 55 (.iinc 2 1) 3 := by decide +kernel
theorem d29_58 : own_d cB29 58 (.baload) 1 := by decide +kernel
theorem d29_59 : own_d cB29 59 (.sipush 255) 3 := by decide +kernel
theorem d29_62 : own_d cB29 62 (.iand) 1 := by decide +kernel
theorem d29_63 : own_d cB29 63 (.iaload) 1 := by decide +kernel
theorem d29_64 : own_d cB29 64 (.istore 12) 2 := by decide +kernel
theorem d29_66 : own_d cB29 66 (.aload 8) 2 := by decide +kernel
theorem d29_68 : own_d cB29 68 (.aload_n 1) 1 := by decide +kernel
theorem d29_69 : own_d cB29 69 (.iload_n 2) 1 := by decide +kernel
theorem d29_70 : own_d cB29 70 (.iinc 2 1) 3 := by decide +kernel
theorem d29_73 : own_d cB29 73 (.baload) 1 := by decide +kernel
theorem d29_74 : own_d cB29 74 (.sipush 255) 3 := by decide +kernel
theorem d29_77 : own_d cB29 77 (.iand) 1 := by decide +kernel
theorem d29_78 : own_d cB29 78 (.iaload) 1 := by decide +kernel
theorem d29_79 : own_d cB29 79 (.istore 13) 2 := by decide +kernel
theorem d29_81 : own_d cB29 81 (.aload 8) 2 := by decide +kernel
theorem d29_83 : own_d cB29 83 (.aload_n 1) 1 := by decide +kernel
theorem d29_84 : own_d cB29 84 (.iload_n 2) 1 := by decide +kernel
theorem d29_85 : own_d cB29 85 (.iinc 2 1) 3 := by decide +kernel
theorem d29_88 : own_d cB29 88 (.baload) 1 := by decide +kernel
theorem d29_89 : own_d cB29 89 (.sipush 255) 3 := by decide +kernel
theorem d29_92 : own_d cB29 92 (.iand) 1 := by decide +kernel
theorem d29_93 : own_d cB29 93 (.iaload) 1 := by decide +kernel
theorem d29_94 : own_d cB29 94 (.istore 14) 2 := by decide +kernel
theorem d29_96 : own_d cB29 96 (.iload 11) 2 := by decide +kernel
theorem d29_98 : own_d cB29 98 (.iload 12) 2 := by decide +kernel
theorem d29_100 : own_d cB29 100 (.ior) 1 := by decide +kernel
theorem d29_101 : own_d cB29 101 (.iload 13) 2 := by decide +kernel
theorem d29_103 : own_d cB29 103 (.ior) 1 := by decide +kernel
theorem d29_104 : own_d cB29 104 (.iload 14) 2 := by decide +kernel
theorem d29_106 : own_d cB29 106 (.ior) 1 := by decide +kernel
theorem d29_107 : own_d cB29 107 (.ifCond .ge 9) 3 := by decide +kernel
theorem d29_116 : own_d cB29 116 (.iload 11) 2 := by decide +kernel
theorem d29_118 : own_d cB29 118 (.bipush 18) 2 := by decide +kernel
theorem d29_120 : own_d cB29 120 (.ishl) 1 := by decide +kernel
theorem d29_121 : own_d cB29 121 (.iload 12) 2 := by decide +kernel
theorem d29_123 : own_d cB29 123 (.bipush 12) 2 := by decide +kernel
theorem d29_125 : own_d cB29 125 (.ishl) 1 := by decide +kernel
theorem d29_126 : own_d cB29 126 (.ior) 1 := by decide +kernel
theorem d29_127 : own_d cB29 127 (.iload 13) 2 := by decide +kernel
theorem d29_129 : own_d cB29 129 (.bipush 6) 2 := by decide +kernel
theorem d29_131 : own_d cB29 131 (.ishl) 1 := by decide +kernel
theorem d29_132 : own_d cB29 132 (.ior) 1 := by decide +kernel
theorem d29_133 : own_d cB29 133 (.iload 14) 2 := by decide +kernel
theorem d29_135 : own_d cB29 135 (.ior) 1 := by decide +kernel
theorem d29_136 : own_d cB29 136 (.istore 15) 2 := by decide +kernel
theorem d29_138 : own_d cB29 138 (.aload 4) 2 := by decide +kernel
theorem d29_140 : own_d cB29 140 (.iload 10) 2 := by decide +kernel
theorem d29_142 : own_d cB29 142 (.iinc 10 1) 3 := by decide +kernel
theorem d29_145 : own_d cB29 145 (.iload 15) 2 := by decide +kernel
theorem d29_147 : own_d cB29 147 (.bipush 16) 2 := by decide +kernel
theorem d29_149 : own_d cB29 149 (.ishr) 1 := by decide +kernel
theorem d29_150 : own_d cB29 150 (.i2b) 1 := by decide +kernel
theorem d29_151 : own_d cB29 151 (.bastore) 1 := by decide +kernel
theorem d29_152 : own_d cB29 152 (.aload 4) 2 := by decide +kernel
theorem d29_154 : own_d cB29 154 (.iload 10) 2 := by decide +kernel
theorem d29_156 : own_d cB29 156 (.iinc 10 1) 3 := by decide +kernel
theorem d29_159 : own_d cB29 159 (.iload 15) 2 := by decide +kernel
theorem d29_161 : own_d cB29 161 (.bipush 8) 2 := by decide +kernel
theorem d29_163 : own_d cB29 163 (.ishr) 1 := by decide +kernel
theorem d29_164 : own_d cB29 164 (.i2b) 1 := by decide +kernel
theorem d29_165 : own_d cB29 165 (.bastore) 1 := by decide +kernel
theorem d29_166 : own_d cB29 166 (.aload 4) 2 := by decide +kernel
theorem d29_168 : own_d cB29 168 (.iload 10) 2 := by decide +kernel
theorem d29_170 : own_d cB29 170 (.iinc 10 1) 3 := by decide +kernel
theorem d29_173 : own_d cB29 173 (.iload 15) 2 := by decide +kernel
theorem d29_175 : own_d cB29 175 (.i2b) 1 := by decide +kernel
theorem d29_176 : own_d cB29 176 (.bastore) 1 := by decide +kernel
theorem d29_177 : own_d cB29 177 (.goto (-147)) 3 := by decide +kernel
theorem d29_180 : own_d cB29 180 (.iload 10) 2 := by decide +kernel
theorem d29_182 : own_d cB29 182 (.iload 5) 2 := by decide +kernel
theorem d29_184 : own_d cB29 184 (.isub) 1 := by decide +kernel
theorem d29_185 : own_d cB29 185 (.ireturn) 1 := by decide +kernel
theorem ef29RRIIRIII (m : MethodId) (x0 : Addr) (x1 : Addr) (x2 : Int32) (x3 : Int32) (x4 : Addr) (x5 : Int32) (x6 : Int32) (x7 : Int32) : entryFrame m #[(.ref x0), (.ref x1), (.int x2), (.int x3), (.ref x4), (.int x5), (.int x6), (.int x7)] 16 = mkF m 0 #[r_ x0, r_ x1, i_ x2, i_ x3, r_ x4, i_ x5, i_ x6, i_ x7, u_, u_, u_, u_, u_, u_, u_, u_] [] := by first | (simp [entryFrame, mkF, argsToLocals, Value.category]; done) | rfl
def Q_dblk (Z : State) (de : Addr) (b : Addr) (k : ClassId) (d : Addr) (kd : ClassId) (zl : Int32) (zk : Int32) (tb : List Value) (td : List Value) (x0 : Int32) (x1 : Int32) (x2 : Int32) (x3 : Int32) (s0 : Int32) (s1 : Int32) (s2 : Int32) (s3 : Int32) (y0 : Int32) (y1 : Int32) (y2 : Int32) (rdt : Addr) (kdt : ClassId) (h0 : Heap) (n0 : Nat) (v_ : Option Value) (h : Heap) (L_ : List Loc) : Prop := v_ = some (.int 3) ∧ Fr n0 L_ ∧ Keep h0 h [d] ∧ Arv Z h d kd .byte zk ((.int y0) :: (.int y1) :: (.int y2) :: td) (.int 0)
set_option maxRecDepth 65536 in
set_option maxHeartbeats 40000000 in
theorem rm_dblk (l : Launch) (Z : State) (a0 : Array Value) (hw : ∀ d ∈ tables_1, d.before a0 Z = true) (ws : List Jvm.Cond) (de : Addr) (b : Addr) (k : ClassId) (d : Addr) (kd : ClassId) (zl : Int32) (zk : Int32) (tb : List Value) (td : List Value) (x0 : Int32) (x1 : Int32) (x2 : Int32) (x3 : Int32) (s0 : Int32) (s1 : Int32) (s2 : Int32) (s3 : Int32) (y0 : Int32) (y1 : Int32) (y2 : Int32) (rdt : Addr) (kdt : ClassId) (h0 : Heap) (n0 : Nat) (Z0 : n0 ≤ h0.size) (O : Old Z n0 h0) (Sdt : Sta Z Z.heap "java/util/Base64$Decoder" "fromBase64URL" "[I" (.ref rdt)) (Vdt : Arv Z Z.heap rdt kdt .int (256 : Int32) own_dec (.int 0)) (Vb : Arv Z h0 b k .byte zl ((.int x0) :: (.int x1) :: (.int x2) :: (.int x3) :: tb) (.int 0)) (Vd : Arv Z h0 d kd .byte zk ((.int 0) :: (.int 0) :: (.int 0) :: td) (.int 0)) (nbd : b ≠ d) (gd : n0 ≤ d) (hsl : ((0 : Int32) + ((zl - (0 : Int32)) &&& (-4 : Int32))) = (4 : Int32)) (hor : ¬ ((((s0 ||| s1) ||| s2) ||| s3) < (0 : Int32))) (hib0 : ¬ (0 : Int32) < 0 ∧ (0 : Int32) < zl) (hib1 : ¬ (1 : Int32) < 0 ∧ (1 : Int32) < zl) (hib2 : ¬ (2 : Int32) < 0 ∧ (2 : Int32) < zl) (hib3 : ¬ (3 : Int32) < 0 ∧ (3 : Int32) < zl) (hid0 : ¬ (0 : Int32) < 0 ∧ (0 : Int32) < zk) (hid1 : ¬ (1 : Int32) < 0 ∧ (1 : Int32) < zk) (hid2 : ¬ (2 : Int32) < 0 ∧ (2 : Int32) < zk) (hj0 : ¬ (x0 &&& 255) < 0 ∧ (x0 &&& 255) < (256 : Int32)) (hd0 : own_dec.getD (x0 &&& 255).toNatClampNeg (.int 0) = .int s0) (hj1 : ¬ (x1 &&& 255) < 0 ∧ (x1 &&& 255) < (256 : Int32)) (hd1 : own_dec.getD (x1 &&& 255).toNatClampNeg (.int 0) = .int s1) (hj2 : ¬ (x2 &&& 255) < 0 ∧ (x2 &&& 255) < (256 : Int32)) (hd2 : own_dec.getD (x2 &&& 255).toNatClampNeg (.int 0) = .int s2) (hj3 : ¬ (x3 &&& 255) < 0 ∧ (x3 &&& 255) < (256 : Int32)) (hd3 : own_dec.getD (x3 &&& 255).toNatClampNeg (.int 0) = .int s3) (hy0 : ((((((s0 <<< ((18 : Int32) &&& 31)) ||| (s1 <<< ((12 : Int32) &&& 31))) ||| (s2 <<< ((6 : Int32) &&& 31))) ||| s3) >>> ((16 : Int32) &&& 31)).toInt8.toInt32).toInt8.toInt32 = y0) (hy1 : ((((((s0 <<< ((18 : Int32) &&& 31)) ||| (s1 <<< ((12 : Int32) &&& 31))) ||| (s2 <<< ((6 : Int32) &&& 31))) ||| s3) >>> ((8 : Int32) &&& 31)).toInt8.toInt32).toInt8.toInt32 = y1) (hy2 : (((((s0 <<< ((18 : Int32) &&& 31)) ||| (s1 <<< ((12 : Int32) &&& 31))) ||| (s2 <<< ((6 : Int32) &&& 31))) ||| s3).toInt8.toInt32).toInt8.toInt32 = y2) :
    own_MF l yM29 (.code yM29 cB29 16 (some .int)) ws ⟨0, 0, 0, 0⟩ #[(.ref de), (.ref b), (.int 0), (.int zl), (.ref d), (.int 0), (.int 1), (.int 0)] Z h0 own_T (Q_dblk Z de b k d kd zl zk tb td x0 x1 x2 x3 s0 s1 s2 s3 y0 y1 y2 rdt kdt h0 n0) := by
  refine own_in "java/util/Base64$Decoder" rfl (plainFor_of_name pn3) hisR (fun m => ef29RRIIRIII m de b (0 : Int32) zl d (0 : Int32) (1 : Int32) (0 : Int32)) ?_
  intro p e s m below meth c s₁ A_ hx hby hml hown hnm hrt hlk hZ _ X0 e0 pre0
  have N0 := Fr.nil n0
  have P1 := oS (s₁.setTop (mkF m 2 #[r_ de, r_ b, i_ 0, i_ zl, r_ d, i_ 0, i_ 1, i_ 0, u_, u_, u_, u_, u_, u_, u_, u_] [(.int 1)])) pre0 (by
    intro _ k_
    refine il_ X0 hx hby d29_0 rfl ?_
    exact k_)
  have P2 := oS (s₁.setTop (mkF m 5 #[r_ de, r_ b, i_ 0, i_ zl, r_ d, i_ 0, i_ 1, i_ 0, u_, u_, u_, u_, u_, u_, u_, u_] [])) P1 (by
    intro _ k_
    refine XS.ifNo X0.here hx rfl (hb hby d29_2) rfl ((if0 _ _).trans (feq (by decide : ¬ ((1 : Int32) = (0 : Int32)))).1) ?_
    exact k_)
  obtain ⟨T3, X3, e3, st3⟩ := getS2 X0 hx hZ hown (host := "") (Or.inl (own_w hw 94 rfl)) Via.refl e0 (Sdt.ext O.2) (g := (mkF m 5 #[r_ de, r_ b, i_ 0, i_ zl, r_ d, i_ 0, i_ 1, i_ 0, u_, u_, u_, u_, u_, u_, u_, u_] [])) rfl (hb hby d29_5)
  have P4 := oS (T3.setTop (mkF m 8 #[r_ de, r_ b, i_ 0, i_ zl, r_ d, i_ 0, i_ 1, i_ 0, u_, u_, u_, u_, u_, u_, u_, u_] [(.ref rdt)])) P2 (fun t_ k_ => st3 t_ k_)
  have P5 := oS (T3.setTop (mkF m 26 #[r_ de, r_ b, i_ 0, i_ zl, r_ d, i_ 0, i_ 1, i_ 0, r_ rdt, i_ ((0 : Int32) + ((zl - (0 : Int32)) &&& (-4 : Int32))), u_, u_, u_, u_, u_, u_] [])) P4 (by
    intro _ k_
    refine gt_ X3 hx hby d29_8 (pc := 8) (pc' := 14) (by decide) ?_
    refine XS.astore X3.here hx rfl (hb hby d29_14) rfl rfl (l' := #[r_ de, r_ b, i_ 0, i_ zl, r_ d, i_ 0, i_ 1, i_ 0, r_ rdt, u_, u_, u_, u_, u_, u_, u_]) rfl ?_
    refine iN_ X3 hx hby d29_16 rfl ?_
    refine iN_ X3 hx hby d29_17 rfl ?_
    refine iN_ X3 hx hby d29_18 rfl ?_
    refine XS.isub X3.here hx rfl (hb hby d29_19) rfl ?_
    refine XS.bipush X3.here hx rfl (hb hby d29_20) ?_
    refine XS.iand X3.here hx rfl (hb hby d29_22) rfl ?_
    refine XS.iadd X3.here hx rfl (hb hby d29_23) rfl ?_
    refine is_ X3 hx hby d29_24 (l' := #[r_ de, r_ b, i_ 0, i_ zl, r_ d, i_ 0, i_ 1, i_ 0, r_ rdt, i_ ((0 : Int32) + ((zl - (0 : Int32)) &&& (-4 : Int32))), u_, u_, u_, u_, u_, u_]) rfl ?_
    exact k_)
  obtain ⟨sq, hsq, P6⟩ := own_name (F := fun z => T3.setTop (mkF m 26 #[r_ de, r_ b, i_ 0, i_ zl, r_ d, i_ 0, i_ 1, i_ 0, r_ rdt, i_ z, u_, u_, u_, u_, u_, u_] [])) ((0 : Int32) + ((zl - (0 : Int32)) &&& (-4 : Int32))) P5
  obtain rfl : sq = (4 : Int32) := hsq.trans hsl
  have P7 := own_to (C := T3.setTop (mkF m 26 #[r_ de, r_ b, i_ 0, i_ zl, r_ d, i_ 0, i_ 1, i_ 0, r_ rdt, i_ 4, u_, u_, u_, u_, u_, u_] [])) P6
  have P8 := oS (T3.setTop (mkF m 33 #[r_ de, r_ b, i_ 0, i_ zl, r_ d, i_ 0, i_ 1, i_ 0, r_ rdt, i_ 4, i_ 0, u_, u_, u_, u_, u_] [(.int 4), (.int 0)])) P7 (by
    intro _ k_
    refine il_ X3 hx hby d29_26 rfl ?_
    refine is_ X3 hx hby d29_28 (l' := #[r_ de, r_ b, i_ 0, i_ zl, r_ d, i_ 0, i_ 1, i_ 0, r_ rdt, i_ 4, i_ 0, u_, u_, u_, u_, u_]) rfl ?_
    refine iN_ X3 hx hby d29_30 rfl ?_
    refine il_ X3 hx hby d29_31 rfl ?_
    exact k_)
  have P9 := oS (T3.setTop (mkF m 43 #[r_ de, r_ b, i_ 1, i_ zl, r_ d, i_ 0, i_ 1, i_ 0, r_ rdt, i_ 4, i_ 0, u_, u_, u_, u_, u_] [(.int 0), (.ref b), (.ref rdt)])) P8 (by
    intro _ k_
    refine XS.icmpNo X3.here hx rfl (hb hby d29_33) rfl (tlt (by decide : (0 : Int32) < (4 : Int32))).2.1 ?_
    refine a_ X3 hx hby d29_36 rfl rfl ?_
    refine aN_ X3 hx hby d29_38 rfl rfl ?_
    refine iN_ X3 hx hby d29_39 rfl ?_
    refine XS.iinc X3.here hx rfl (hb hby d29_40) rfl (l' := #[r_ de, r_ b, i_ 1, i_ zl, r_ d, i_ 0, i_ 1, i_ 0, r_ rdt, i_ 4, i_ 0, u_, u_, u_, u_, u_]) rfl ?_
    exact k_)
  obtain ⟨cl10, Ar10, q10, S10, M10, H10, G10⟩ := id Vb
  have hin10 := inb_of S10 hib0
  have hat10 := Has.at H10 hin10 (v := .int x0) rfl
  have P11 := oS (T3.setTop (mkF m 44 #[r_ de, r_ b, i_ 1, i_ zl, r_ d, i_ 0, i_ 1, i_ 0, r_ rdt, i_ 4, i_ 0, u_, u_, u_, u_, u_] [(.int x0), (.ref rdt)])) P9 (by
    intro _ k_
    refine X3.baloadBytes hx (j := (0 : Int32)) (v := (.int x0)) (by rw [e3]; exact Ar10.1) (State.isArrayOf_alike hZ.alike Ar10.2.1) Ar10.2.2 hin10 hat10 (g := (mkF m 43 #[r_ de, r_ b, i_ 1, i_ zl, r_ d, i_ 0, i_ 1, i_ 0, r_ rdt, i_ 4, i_ 0, u_, u_, u_, u_, u_] [(.int 0), (.ref b), (.ref rdt)])) rfl rfl (hb hby d29_43) _ ?_
    exact k_)
  have P12 := oS (T3.setTop (mkF m 48 #[r_ de, r_ b, i_ 1, i_ zl, r_ d, i_ 0, i_ 1, i_ 0, r_ rdt, i_ 4, i_ 0, u_, u_, u_, u_, u_] [(.int (x0 &&& 255)), (.ref rdt)])) P11 (by
    intro _ k_
    refine XS.sipush X3.here hx rfl (hb hby d29_44) ?_
    refine XS.iand X3.here hx rfl (hb hby d29_47) rfl ?_
    exact k_)
  obtain ⟨cl13, Ar13, q13, S13, M13, H13, G13⟩ := Vdt.ext O.2
  have hin13 := inb_of S13 hj0
  have hat13 := Has.at H13 hin13 hd0
  have P14 := oS (T3.setTop (mkF m 49 #[r_ de, r_ b, i_ 1, i_ zl, r_ d, i_ 0, i_ 1, i_ 0, r_ rdt, i_ 4, i_ 0, u_, u_, u_, u_, u_] [(.int s0)])) P12 (by
    intro _ k_
    refine X3.iaload hx (j := (x0 &&& 255)) (v := (.int s0)) (by rw [e3]; exact Ar13.1) (State.isArrayOf_alike hZ.alike Ar13.2.1) Ar13.2.2 hin13 hat13 (g := (mkF m 48 #[r_ de, r_ b, i_ 1, i_ zl, r_ d, i_ 0, i_ 1, i_ 0, r_ rdt, i_ 4, i_ 0, u_, u_, u_, u_, u_] [(.int (x0 &&& 255)), (.ref rdt)])) rfl rfl (hb hby d29_48) _ ?_
    exact k_)
  have P15 := oS (T3.setTop (mkF m 58 #[r_ de, r_ b, i_ 2, i_ zl, r_ d, i_ 0, i_ 1, i_ 0, r_ rdt, i_ 4, i_ 0, i_ s0, u_, u_, u_, u_] [(.int 1), (.ref b), (.ref rdt)])) P14 (by
    intro _ k_
    refine is_ X3 hx hby d29_49 (l' := #[r_ de, r_ b, i_ 1, i_ zl, r_ d, i_ 0, i_ 1, i_ 0, r_ rdt, i_ 4, i_ 0, i_ s0, u_, u_, u_, u_]) rfl ?_
    refine a_ X3 hx hby d29_51 rfl rfl ?_
    refine aN_ X3 hx hby d29_53 rfl rfl ?_
    refine iN_ X3 hx hby d29_54 rfl ?_
    refine XS.iinc X3.here hx rfl (hb hby d29_55) rfl (l' := #[r_ de, r_ b, i_ 2, i_ zl, r_ d, i_ 0, i_ 1, i_ 0, r_ rdt, i_ 4, i_ 0, i_ s0, u_, u_, u_, u_]) rfl ?_
    exact k_)
  obtain ⟨cl16, Ar16, q16, S16, M16, H16, G16⟩ := id Vb
  have hin16 := inb_of S16 hib1
  have hat16 := Has.at H16 hin16 (v := .int x1) rfl
  have P17 := oS (T3.setTop (mkF m 59 #[r_ de, r_ b, i_ 2, i_ zl, r_ d, i_ 0, i_ 1, i_ 0, r_ rdt, i_ 4, i_ 0, i_ s0, u_, u_, u_, u_] [(.int x1), (.ref rdt)])) P15 (by
    intro _ k_
    refine X3.baloadBytes hx (j := (1 : Int32)) (v := (.int x1)) (by rw [e3]; exact Ar16.1) (State.isArrayOf_alike hZ.alike Ar16.2.1) Ar16.2.2 hin16 hat16 (g := (mkF m 58 #[r_ de, r_ b, i_ 2, i_ zl, r_ d, i_ 0, i_ 1, i_ 0, r_ rdt, i_ 4, i_ 0, i_ s0, u_, u_, u_, u_] [(.int 1), (.ref b), (.ref rdt)])) rfl rfl (hb hby d29_58) _ ?_
    exact k_)
  have P18 := oS (T3.setTop (mkF m 63 #[r_ de, r_ b, i_ 2, i_ zl, r_ d, i_ 0, i_ 1, i_ 0, r_ rdt, i_ 4, i_ 0, i_ s0, u_, u_, u_, u_] [(.int (x1 &&& 255)), (.ref rdt)])) P17 (by
    intro _ k_
    refine XS.sipush X3.here hx rfl (hb hby d29_59) ?_
    refine XS.iand X3.here hx rfl (hb hby d29_62) rfl ?_
    exact k_)
  obtain ⟨cl19, Ar19, q19, S19, M19, H19, G19⟩ := Vdt.ext O.2
  have hin19 := inb_of S19 hj1
  have hat19 := Has.at H19 hin19 hd1
  have P20 := oS (T3.setTop (mkF m 64 #[r_ de, r_ b, i_ 2, i_ zl, r_ d, i_ 0, i_ 1, i_ 0, r_ rdt, i_ 4, i_ 0, i_ s0, u_, u_, u_, u_] [(.int s1)])) P18 (by
    intro _ k_
    refine X3.iaload hx (j := (x1 &&& 255)) (v := (.int s1)) (by rw [e3]; exact Ar19.1) (State.isArrayOf_alike hZ.alike Ar19.2.1) Ar19.2.2 hin19 hat19 (g := (mkF m 63 #[r_ de, r_ b, i_ 2, i_ zl, r_ d, i_ 0, i_ 1, i_ 0, r_ rdt, i_ 4, i_ 0, i_ s0, u_, u_, u_, u_] [(.int (x1 &&& 255)), (.ref rdt)])) rfl rfl (hb hby d29_63) _ ?_
    exact k_)
  have P21 := oS (T3.setTop (mkF m 73 #[r_ de, r_ b, i_ 3, i_ zl, r_ d, i_ 0, i_ 1, i_ 0, r_ rdt, i_ 4, i_ 0, i_ s0, i_ s1, u_, u_, u_] [(.int 2), (.ref b), (.ref rdt)])) P20 (by
    intro _ k_
    refine is_ X3 hx hby d29_64 (l' := #[r_ de, r_ b, i_ 2, i_ zl, r_ d, i_ 0, i_ 1, i_ 0, r_ rdt, i_ 4, i_ 0, i_ s0, i_ s1, u_, u_, u_]) rfl ?_
    refine a_ X3 hx hby d29_66 rfl rfl ?_
    refine aN_ X3 hx hby d29_68 rfl rfl ?_
    refine iN_ X3 hx hby d29_69 rfl ?_
    refine XS.iinc X3.here hx rfl (hb hby d29_70) rfl (l' := #[r_ de, r_ b, i_ 3, i_ zl, r_ d, i_ 0, i_ 1, i_ 0, r_ rdt, i_ 4, i_ 0, i_ s0, i_ s1, u_, u_, u_]) rfl ?_
    exact k_)
  obtain ⟨cl22, Ar22, q22, S22, M22, H22, G22⟩ := id Vb
  have hin22 := inb_of S22 hib2
  have hat22 := Has.at H22 hin22 (v := .int x2) rfl
  have P23 := oS (T3.setTop (mkF m 74 #[r_ de, r_ b, i_ 3, i_ zl, r_ d, i_ 0, i_ 1, i_ 0, r_ rdt, i_ 4, i_ 0, i_ s0, i_ s1, u_, u_, u_] [(.int x2), (.ref rdt)])) P21 (by
    intro _ k_
    refine X3.baloadBytes hx (j := (2 : Int32)) (v := (.int x2)) (by rw [e3]; exact Ar22.1) (State.isArrayOf_alike hZ.alike Ar22.2.1) Ar22.2.2 hin22 hat22 (g := (mkF m 73 #[r_ de, r_ b, i_ 3, i_ zl, r_ d, i_ 0, i_ 1, i_ 0, r_ rdt, i_ 4, i_ 0, i_ s0, i_ s1, u_, u_, u_] [(.int 2), (.ref b), (.ref rdt)])) rfl rfl (hb hby d29_73) _ ?_
    exact k_)
  have P24 := oS (T3.setTop (mkF m 78 #[r_ de, r_ b, i_ 3, i_ zl, r_ d, i_ 0, i_ 1, i_ 0, r_ rdt, i_ 4, i_ 0, i_ s0, i_ s1, u_, u_, u_] [(.int (x2 &&& 255)), (.ref rdt)])) P23 (by
    intro _ k_
    refine XS.sipush X3.here hx rfl (hb hby d29_74) ?_
    refine XS.iand X3.here hx rfl (hb hby d29_77) rfl ?_
    exact k_)
  obtain ⟨cl25, Ar25, q25, S25, M25, H25, G25⟩ := Vdt.ext O.2
  have hin25 := inb_of S25 hj2
  have hat25 := Has.at H25 hin25 hd2
  have P26 := oS (T3.setTop (mkF m 79 #[r_ de, r_ b, i_ 3, i_ zl, r_ d, i_ 0, i_ 1, i_ 0, r_ rdt, i_ 4, i_ 0, i_ s0, i_ s1, u_, u_, u_] [(.int s2)])) P24 (by
    intro _ k_
    refine X3.iaload hx (j := (x2 &&& 255)) (v := (.int s2)) (by rw [e3]; exact Ar25.1) (State.isArrayOf_alike hZ.alike Ar25.2.1) Ar25.2.2 hin25 hat25 (g := (mkF m 78 #[r_ de, r_ b, i_ 3, i_ zl, r_ d, i_ 0, i_ 1, i_ 0, r_ rdt, i_ 4, i_ 0, i_ s0, i_ s1, u_, u_, u_] [(.int (x2 &&& 255)), (.ref rdt)])) rfl rfl (hb hby d29_78) _ ?_
    exact k_)
  have P27 := oS (T3.setTop (mkF m 88 #[r_ de, r_ b, i_ 4, i_ zl, r_ d, i_ 0, i_ 1, i_ 0, r_ rdt, i_ 4, i_ 0, i_ s0, i_ s1, i_ s2, u_, u_] [(.int 3), (.ref b), (.ref rdt)])) P26 (by
    intro _ k_
    refine is_ X3 hx hby d29_79 (l' := #[r_ de, r_ b, i_ 3, i_ zl, r_ d, i_ 0, i_ 1, i_ 0, r_ rdt, i_ 4, i_ 0, i_ s0, i_ s1, i_ s2, u_, u_]) rfl ?_
    refine a_ X3 hx hby d29_81 rfl rfl ?_
    refine aN_ X3 hx hby d29_83 rfl rfl ?_
    refine iN_ X3 hx hby d29_84 rfl ?_
    refine XS.iinc X3.here hx rfl (hb hby d29_85) rfl (l' := #[r_ de, r_ b, i_ 4, i_ zl, r_ d, i_ 0, i_ 1, i_ 0, r_ rdt, i_ 4, i_ 0, i_ s0, i_ s1, i_ s2, u_, u_]) rfl ?_
    exact k_)
  obtain ⟨cl28, Ar28, q28, S28, M28, H28, G28⟩ := id Vb
  have hin28 := inb_of S28 hib3
  have hat28 := Has.at H28 hin28 (v := .int x3) rfl
  have P29 := oS (T3.setTop (mkF m 89 #[r_ de, r_ b, i_ 4, i_ zl, r_ d, i_ 0, i_ 1, i_ 0, r_ rdt, i_ 4, i_ 0, i_ s0, i_ s1, i_ s2, u_, u_] [(.int x3), (.ref rdt)])) P27 (by
    intro _ k_
    refine X3.baloadBytes hx (j := (3 : Int32)) (v := (.int x3)) (by rw [e3]; exact Ar28.1) (State.isArrayOf_alike hZ.alike Ar28.2.1) Ar28.2.2 hin28 hat28 (g := (mkF m 88 #[r_ de, r_ b, i_ 4, i_ zl, r_ d, i_ 0, i_ 1, i_ 0, r_ rdt, i_ 4, i_ 0, i_ s0, i_ s1, i_ s2, u_, u_] [(.int 3), (.ref b), (.ref rdt)])) rfl rfl (hb hby d29_88) _ ?_
    exact k_)
  have P30 := oS (T3.setTop (mkF m 93 #[r_ de, r_ b, i_ 4, i_ zl, r_ d, i_ 0, i_ 1, i_ 0, r_ rdt, i_ 4, i_ 0, i_ s0, i_ s1, i_ s2, u_, u_] [(.int (x3 &&& 255)), (.ref rdt)])) P29 (by
    intro _ k_
    refine XS.sipush X3.here hx rfl (hb hby d29_89) ?_
    refine XS.iand X3.here hx rfl (hb hby d29_92) rfl ?_
    exact k_)
  obtain ⟨cl31, Ar31, q31, S31, M31, H31, G31⟩ := Vdt.ext O.2
  have hin31 := inb_of S31 hj3
  have hat31 := Has.at H31 hin31 hd3
  have P32 := oS (T3.setTop (mkF m 94 #[r_ de, r_ b, i_ 4, i_ zl, r_ d, i_ 0, i_ 1, i_ 0, r_ rdt, i_ 4, i_ 0, i_ s0, i_ s1, i_ s2, u_, u_] [(.int s3)])) P30 (by
    intro _ k_
    refine X3.iaload hx (j := (x3 &&& 255)) (v := (.int s3)) (by rw [e3]; exact Ar31.1) (State.isArrayOf_alike hZ.alike Ar31.2.1) Ar31.2.2 hin31 hat31 (g := (mkF m 93 #[r_ de, r_ b, i_ 4, i_ zl, r_ d, i_ 0, i_ 1, i_ 0, r_ rdt, i_ 4, i_ 0, i_ s0, i_ s1, i_ s2, u_, u_] [(.int (x3 &&& 255)), (.ref rdt)])) rfl rfl (hb hby d29_93) _ ?_
    exact k_)
  have P33 := oS (T3.setTop (mkF m 107 #[r_ de, r_ b, i_ 4, i_ zl, r_ d, i_ 0, i_ 1, i_ 0, r_ rdt, i_ 4, i_ 0, i_ s0, i_ s1, i_ s2, i_ s3, u_] [(.int (((s0 ||| s1) ||| s2) ||| s3))])) P32 (by
    intro _ k_
    refine is_ X3 hx hby d29_94 (l' := #[r_ de, r_ b, i_ 4, i_ zl, r_ d, i_ 0, i_ 1, i_ 0, r_ rdt, i_ 4, i_ 0, i_ s0, i_ s1, i_ s2, i_ s3, u_]) rfl ?_
    refine il_ X3 hx hby d29_96 rfl ?_
    refine il_ X3 hx hby d29_98 rfl ?_
    refine XS.ior X3.here hx rfl (hb hby d29_100) rfl ?_
    refine il_ X3 hx hby d29_101 rfl ?_
    refine XS.ior X3.here hx rfl (hb hby d29_103) rfl ?_
    refine il_ X3 hx hby d29_104 rfl ?_
    refine XS.ior X3.here hx rfl (hb hby d29_106) rfl ?_
    exact k_)
  have P34 := oS (T3.setTop (mkF m 151 #[r_ de, r_ b, i_ 4, i_ zl, r_ d, i_ 0, i_ 1, i_ 0, r_ rdt, i_ 4, i_ 1, i_ s0, i_ s1, i_ s2, i_ s3, i_ ((((s0 <<< ((18 : Int32) &&& 31)) ||| (s1 <<< ((12 : Int32) &&& 31))) ||| (s2 <<< ((6 : Int32) &&& 31))) ||| s3)] [(.int ((((((s0 <<< ((18 : Int32) &&& 31)) ||| (s1 <<< ((12 : Int32) &&& 31))) ||| (s2 <<< ((6 : Int32) &&& 31))) ||| s3) >>> ((16 : Int32) &&& 31)).toInt8.toInt32)), (.int 0), (.ref d)])) P33 (by
    intro _ k_
    refine fY_ X3 hx hby d29_107 (pc := 107) (pc' := 116) ((if0 _ _).trans (flt hor).2.1) (by decide) ?_
    refine il_ X3 hx hby d29_116 rfl ?_
    refine XS.bipush X3.here hx rfl (hb hby d29_118) ?_
    refine XS.ishl X3.here hx rfl (hb hby d29_120) rfl ?_
    refine il_ X3 hx hby d29_121 rfl ?_
    refine XS.bipush X3.here hx rfl (hb hby d29_123) ?_
    refine XS.ishl X3.here hx rfl (hb hby d29_125) rfl ?_
    refine XS.ior X3.here hx rfl (hb hby d29_126) rfl ?_
    refine il_ X3 hx hby d29_127 rfl ?_
    refine XS.bipush X3.here hx rfl (hb hby d29_129) ?_
    refine XS.ishl X3.here hx rfl (hb hby d29_131) rfl ?_
    refine XS.ior X3.here hx rfl (hb hby d29_132) rfl ?_
    refine il_ X3 hx hby d29_133 rfl ?_
    refine XS.ior X3.here hx rfl (hb hby d29_135) rfl ?_
    refine is_ X3 hx hby d29_136 (l' := #[r_ de, r_ b, i_ 4, i_ zl, r_ d, i_ 0, i_ 1, i_ 0, r_ rdt, i_ 4, i_ 0, i_ s0, i_ s1, i_ s2, i_ s3, i_ ((((s0 <<< ((18 : Int32) &&& 31)) ||| (s1 <<< ((12 : Int32) &&& 31))) ||| (s2 <<< ((6 : Int32) &&& 31))) ||| s3)]) rfl ?_
    refine a_ X3 hx hby d29_138 rfl rfl ?_
    refine il_ X3 hx hby d29_140 rfl ?_
    refine XS.iinc X3.here hx rfl (hb hby d29_142) rfl (l' := #[r_ de, r_ b, i_ 4, i_ zl, r_ d, i_ 0, i_ 1, i_ 0, r_ rdt, i_ 4, i_ 1, i_ s0, i_ s1, i_ s2, i_ s3, i_ ((((s0 <<< ((18 : Int32) &&& 31)) ||| (s1 <<< ((12 : Int32) &&& 31))) ||| (s2 <<< ((6 : Int32) &&& 31))) ||| s3)]) rfl ?_
    show Steps p.tables e below (T3.setTop (mkF m 145 #[r_ de, r_ b, i_ 4, i_ zl, r_ d, i_ 0, i_ 1, i_ 0, r_ rdt, i_ 4, i_ 1, i_ s0, i_ s1, i_ s2, i_ s3, i_ ((((s0 <<< ((18 : Int32) &&& 31)) ||| (s1 <<< ((12 : Int32) &&& 31))) ||| (s2 <<< ((6 : Int32) &&& 31))) ||| s3)] [(.int 0), (.ref d)])) _
    refine il_ X3 hx hby d29_145 rfl ?_
    refine XS.bipush X3.here hx rfl (hb hby d29_147) ?_
    refine XS.ishr X3.here hx rfl (hb hby d29_149) rfl ?_
    refine XS.i2b X3.here hx rfl (hb hby d29_150) rfl ?_
    exact k_)
  obtain ⟨cl35, Ar35, q35, S35, M35, H35, G35⟩ := id Vd
  obtain ⟨T36, h36, X36, e36, W36, st36⟩ := stB X3 hx hZ e3 Ar35 (j := (0 : Int32)) (inb_of S35 hid0) (g := (mkF m 151 #[r_ de, r_ b, i_ 4, i_ zl, r_ d, i_ 0, i_ 1, i_ 0, r_ rdt, i_ 4, i_ 1, i_ s0, i_ s1, i_ s2, i_ s3, i_ ((((s0 <<< ((18 : Int32) &&& 31)) ||| (s1 <<< ((12 : Int32) &&& 31))) ||| (s2 <<< ((6 : Int32) &&& 31))) ||| s3)] [(.int ((((((s0 <<< ((18 : Int32) &&& 31)) ||| (s1 <<< ((12 : Int32) &&& 31))) ||| (s2 <<< ((6 : Int32) &&& 31))) ||| s3) >>> ((16 : Int32) &&& 31)).toInt8.toInt32)), (.int 0), (.ref d)])) rfl rfl (hb hby d29_151)
  have f40 := (Keep.refl h0 [d]).wr W36 (Or.inl (List.mem_of_getElem? (i := 0) rfl))
  have V36 : Arv Z h36 d kd .byte zk ((.int ((((((s0 <<< ((18 : Int32) &&& 31)) ||| (s1 <<< ((12 : Int32) &&& 31))) ||| (s2 <<< ((6 : Int32) &&& 31))) ||| s3) >>> ((16 : Int32) &&& 31)).toInt8.toInt32).toInt8.toInt32) :: (.int 0) :: (.int 0) :: td) (.int 0) := Arv.set Ar35 q35 S35 M35 H35 G35 (fits_nar_byte _) W36 0 rfl (by simp)
  have N36 := Fr.snoc X36 N0 gd
  have P42 := oS (T36.setTop (mkF m 152 #[r_ de, r_ b, i_ 4, i_ zl, r_ d, i_ 0, i_ 1, i_ 0, r_ rdt, i_ 4, i_ 1, i_ s0, i_ s1, i_ s2, i_ s3, i_ ((((s0 <<< ((18 : Int32) &&& 31)) ||| (s1 <<< ((12 : Int32) &&& 31))) ||| (s2 <<< ((6 : Int32) &&& 31))) ||| s3)] [])) P34 (fun t_ k_ => st36 t_ k_)
  have P43 := oS (T36.setTop (mkF m 165 #[r_ de, r_ b, i_ 4, i_ zl, r_ d, i_ 0, i_ 1, i_ 0, r_ rdt, i_ 4, i_ 2, i_ s0, i_ s1, i_ s2, i_ s3, i_ ((((s0 <<< ((18 : Int32) &&& 31)) ||| (s1 <<< ((12 : Int32) &&& 31))) ||| (s2 <<< ((6 : Int32) &&& 31))) ||| s3)] [(.int ((((((s0 <<< ((18 : Int32) &&& 31)) ||| (s1 <<< ((12 : Int32) &&& 31))) ||| (s2 <<< ((6 : Int32) &&& 31))) ||| s3) >>> ((8 : Int32) &&& 31)).toInt8.toInt32)), (.int 1), (.ref d)])) P42 (by
    intro _ k_
    refine a_ X36 hx hby d29_152 rfl rfl ?_
    refine il_ X36 hx hby d29_154 rfl ?_
    refine XS.iinc X36.here hx rfl (hb hby d29_156) rfl (l' := #[r_ de, r_ b, i_ 4, i_ zl, r_ d, i_ 0, i_ 1, i_ 0, r_ rdt, i_ 4, i_ 2, i_ s0, i_ s1, i_ s2, i_ s3, i_ ((((s0 <<< ((18 : Int32) &&& 31)) ||| (s1 <<< ((12 : Int32) &&& 31))) ||| (s2 <<< ((6 : Int32) &&& 31))) ||| s3)]) rfl ?_
    show Steps p.tables e below (T36.setTop (mkF m 159 #[r_ de, r_ b, i_ 4, i_ zl, r_ d, i_ 0, i_ 1, i_ 0, r_ rdt, i_ 4, i_ 2, i_ s0, i_ s1, i_ s2, i_ s3, i_ ((((s0 <<< ((18 : Int32) &&& 31)) ||| (s1 <<< ((12 : Int32) &&& 31))) ||| (s2 <<< ((6 : Int32) &&& 31))) ||| s3)] [(.int 1), (.ref d)])) _
    refine il_ X36 hx hby d29_159 rfl ?_
    refine XS.bipush X36.here hx rfl (hb hby d29_161) ?_
    refine XS.ishr X36.here hx rfl (hb hby d29_163) rfl ?_
    refine XS.i2b X36.here hx rfl (hb hby d29_164) rfl ?_
    exact k_)
  obtain ⟨cl44, Ar44, q44, S44, M44, H44, G44⟩ := id V36
  obtain ⟨T45, h45, X45, e45, W45, st45⟩ := stB X36 hx hZ e36 Ar44 (j := (1 : Int32)) (inb_of S44 hid1) (g := (mkF m 165 #[r_ de, r_ b, i_ 4, i_ zl, r_ d, i_ 0, i_ 1, i_ 0, r_ rdt, i_ 4, i_ 2, i_ s0, i_ s1, i_ s2, i_ s3, i_ ((((s0 <<< ((18 : Int32) &&& 31)) ||| (s1 <<< ((12 : Int32) &&& 31))) ||| (s2 <<< ((6 : Int32) &&& 31))) ||| s3)] [(.int ((((((s0 <<< ((18 : Int32) &&& 31)) ||| (s1 <<< ((12 : Int32) &&& 31))) ||| (s2 <<< ((6 : Int32) &&& 31))) ||| s3) >>> ((8 : Int32) &&& 31)).toInt8.toInt32)), (.int 1), (.ref d)])) rfl rfl (hb hby d29_165)
  have f49 := f40.wr W45 (Or.inl (List.mem_of_getElem? (i := 0) rfl))
  have V45 : Arv Z h45 d kd .byte zk ((.int ((((((s0 <<< ((18 : Int32) &&& 31)) ||| (s1 <<< ((12 : Int32) &&& 31))) ||| (s2 <<< ((6 : Int32) &&& 31))) ||| s3) >>> ((16 : Int32) &&& 31)).toInt8.toInt32).toInt8.toInt32) :: (.int ((((((s0 <<< ((18 : Int32) &&& 31)) ||| (s1 <<< ((12 : Int32) &&& 31))) ||| (s2 <<< ((6 : Int32) &&& 31))) ||| s3) >>> ((8 : Int32) &&& 31)).toInt8.toInt32).toInt8.toInt32) :: (.int 0) :: td) (.int 0) := Arv.set Ar44 q44 S44 M44 H44 G44 (fits_nar_byte _) W45 1 rfl (by simp)
  have N45 := Fr.snoc X45 N36 gd
  have P51 := oS (T45.setTop (mkF m 166 #[r_ de, r_ b, i_ 4, i_ zl, r_ d, i_ 0, i_ 1, i_ 0, r_ rdt, i_ 4, i_ 2, i_ s0, i_ s1, i_ s2, i_ s3, i_ ((((s0 <<< ((18 : Int32) &&& 31)) ||| (s1 <<< ((12 : Int32) &&& 31))) ||| (s2 <<< ((6 : Int32) &&& 31))) ||| s3)] [])) P43 (fun t_ k_ => st45 t_ k_)
  have P52 := oS (T45.setTop (mkF m 176 #[r_ de, r_ b, i_ 4, i_ zl, r_ d, i_ 0, i_ 1, i_ 0, r_ rdt, i_ 4, i_ 3, i_ s0, i_ s1, i_ s2, i_ s3, i_ ((((s0 <<< ((18 : Int32) &&& 31)) ||| (s1 <<< ((12 : Int32) &&& 31))) ||| (s2 <<< ((6 : Int32) &&& 31))) ||| s3)] [(.int (((((s0 <<< ((18 : Int32) &&& 31)) ||| (s1 <<< ((12 : Int32) &&& 31))) ||| (s2 <<< ((6 : Int32) &&& 31))) ||| s3).toInt8.toInt32)), (.int 2), (.ref d)])) P51 (by
    intro _ k_
    refine a_ X45 hx hby d29_166 rfl rfl ?_
    refine il_ X45 hx hby d29_168 rfl ?_
    refine XS.iinc X45.here hx rfl (hb hby d29_170) rfl (l' := #[r_ de, r_ b, i_ 4, i_ zl, r_ d, i_ 0, i_ 1, i_ 0, r_ rdt, i_ 4, i_ 3, i_ s0, i_ s1, i_ s2, i_ s3, i_ ((((s0 <<< ((18 : Int32) &&& 31)) ||| (s1 <<< ((12 : Int32) &&& 31))) ||| (s2 <<< ((6 : Int32) &&& 31))) ||| s3)]) rfl ?_
    show Steps p.tables e below (T45.setTop (mkF m 173 #[r_ de, r_ b, i_ 4, i_ zl, r_ d, i_ 0, i_ 1, i_ 0, r_ rdt, i_ 4, i_ 3, i_ s0, i_ s1, i_ s2, i_ s3, i_ ((((s0 <<< ((18 : Int32) &&& 31)) ||| (s1 <<< ((12 : Int32) &&& 31))) ||| (s2 <<< ((6 : Int32) &&& 31))) ||| s3)] [(.int 2), (.ref d)])) _
    refine il_ X45 hx hby d29_173 rfl ?_
    refine XS.i2b X45.here hx rfl (hb hby d29_175) rfl ?_
    exact k_)
  obtain ⟨cl53, Ar53, q53, S53, M53, H53, G53⟩ := id V45
  obtain ⟨T54, h54, X54, e54, W54, st54⟩ := stB X45 hx hZ e45 Ar53 (j := (2 : Int32)) (inb_of S53 hid2) (g := (mkF m 176 #[r_ de, r_ b, i_ 4, i_ zl, r_ d, i_ 0, i_ 1, i_ 0, r_ rdt, i_ 4, i_ 3, i_ s0, i_ s1, i_ s2, i_ s3, i_ ((((s0 <<< ((18 : Int32) &&& 31)) ||| (s1 <<< ((12 : Int32) &&& 31))) ||| (s2 <<< ((6 : Int32) &&& 31))) ||| s3)] [(.int (((((s0 <<< ((18 : Int32) &&& 31)) ||| (s1 <<< ((12 : Int32) &&& 31))) ||| (s2 <<< ((6 : Int32) &&& 31))) ||| s3).toInt8.toInt32)), (.int 2), (.ref d)])) rfl rfl (hb hby d29_176)
  have f58 := f49.wr W54 (Or.inl (List.mem_of_getElem? (i := 0) rfl))
  have V54 : Arv Z h54 d kd .byte zk ((.int ((((((s0 <<< ((18 : Int32) &&& 31)) ||| (s1 <<< ((12 : Int32) &&& 31))) ||| (s2 <<< ((6 : Int32) &&& 31))) ||| s3) >>> ((16 : Int32) &&& 31)).toInt8.toInt32).toInt8.toInt32) :: (.int ((((((s0 <<< ((18 : Int32) &&& 31)) ||| (s1 <<< ((12 : Int32) &&& 31))) ||| (s2 <<< ((6 : Int32) &&& 31))) ||| s3) >>> ((8 : Int32) &&& 31)).toInt8.toInt32).toInt8.toInt32) :: (.int (((((s0 <<< ((18 : Int32) &&& 31)) ||| (s1 <<< ((12 : Int32) &&& 31))) ||| (s2 <<< ((6 : Int32) &&& 31))) ||| s3).toInt8.toInt32).toInt8.toInt32) :: td) (.int 0) := Arv.set Ar53 q53 S53 M53 H53 G53 (fits_nar_byte _) W54 2 rfl (by simp)
  have N54 := Fr.snoc X54 N45 gd
  have P60 := oS (T54.setTop (mkF m 177 #[r_ de, r_ b, i_ 4, i_ zl, r_ d, i_ 0, i_ 1, i_ 0, r_ rdt, i_ 4, i_ 3, i_ s0, i_ s1, i_ s2, i_ s3, i_ ((((s0 <<< ((18 : Int32) &&& 31)) ||| (s1 <<< ((12 : Int32) &&& 31))) ||| (s2 <<< ((6 : Int32) &&& 31))) ||| s3)] [])) P52 (fun t_ k_ => st54 t_ k_)
  have P61 := oS (T54.setTop (mkF m 33 #[r_ de, r_ b, i_ 4, i_ zl, r_ d, i_ 0, i_ 1, i_ 0, r_ rdt, i_ 4, i_ 3, i_ s0, i_ s1, i_ s2, i_ s3, i_ ((((s0 <<< ((18 : Int32) &&& 31)) ||| (s1 <<< ((12 : Int32) &&& 31))) ||| (s2 <<< ((6 : Int32) &&& 31))) ||| s3)] [(.int 4), (.int 4)])) P60 (by
    intro _ k_
    refine gt_ X54 hx hby d29_177 (pc := 177) (pc' := 30) (by decide) ?_
    refine iN_ X54 hx hby d29_30 rfl ?_
    refine il_ X54 hx hby d29_31 rfl ?_
    exact k_)
  have P62 := oS (T54.setTop (mkF m 185 #[r_ de, r_ b, i_ 4, i_ zl, r_ d, i_ 0, i_ 1, i_ 0, r_ rdt, i_ 4, i_ 3, i_ s0, i_ s1, i_ s2, i_ s3, i_ ((((s0 <<< ((18 : Int32) &&& 31)) ||| (s1 <<< ((12 : Int32) &&& 31))) ||| (s2 <<< ((6 : Int32) &&& 31))) ||| s3)] [(.int 3)])) P61 (by
    intro _ k_
    refine cY_ X54 hx hby d29_33 (pc := 33) (pc' := 180) (flt (by decide : ¬ ((4 : Int32) < (4 : Int32)))).2.1 (by decide) ?_
    refine il_ X54 hx hby d29_180 rfl ?_
    refine il_ X54 hx hby d29_182 rfl ?_
    refine XS.isub X54.here hx rfl (hb hby d29_184) rfl ?_
    exact k_)
  rw [hy0, hy1, hy2] at V54
  exact own_out X54 hlk (v := some (.int 3)) (own_hv hrt) P62 (fun _ q_ => retI X54 hx hrt (hb hby d29_185) q_) e54 ⟨rfl, N54, f58, V54⟩ (by decide)
theorem pd22 : parseMethodDescriptor "([BII[BIZZ)I" = some ⟨[(.array .byte), .int, .int, (.array .byte), .int, .boolean, .boolean], some .int⟩ := by decide +kernel
theorem d16_47 : own_d cB16 47 (.aload_n 0) 1 := by decide +kernel
theorem d16_48 : own_d cB16 48 (.aload_n 1) 1 := by decide +kernel
theorem d16_49 : own_d cB16 49 (.iload_n 2) 1 := by decide +kernel
theorem d16_50 : own_d cB16 50 (.iload_n 3) 1 := by decide +kernel
theorem d16_51 : own_d cB16 51 (.aload 4) 2 := by decide +kernel
theorem d16_53 : own_d cB16 53 (.iload 6) 2 := by decide +kernel
theorem d16_55 : own_d cB16 55 (.aload_n 0) 1 := by decide +kernel
theorem d16_56 : own_d cB16 56 (.getfield 7) 3 := by decide +kernel
theorem d16_59 : own_d cB16 59 (.aload_n 0) 1 := by decide +kernel
theorem d16_60 : own_d cB16 60 (.getfield 13) 3 := by decide +kernel
theorem d16_63 : own_d cB16 63 (.invokevirtual 111) 3 := by decide +kernel
theorem d16_66 : own_d cB16 66 (.istore 9) 2 := by decide +kernel
theorem d16_68 : own_d cB16 68 (.iload 9) 2 := by decide +kernel
theorem d16_70 : own_d cB16 70 (.iconst 2) 1 := by decide +kernel
theorem d16_71 : own_d cB16 71 (.iadd) 1 := by decide +kernel
theorem d16_72 : own_d cB16 72 (.iconst 3) 1 := by decide +kernel
theorem d16_73 : own_d cB16 73 (.idiv) 1 := by decide +kernel
theorem d16_74 : own_d cB16 74 (.iconst 4) 1 := by decide +kernel
theorem d16_75 : own_d cB16 75 (.imul) 1 := by decide +kernel
theorem d16_76 : own_d cB16 76 (.istore 10) 2 := by decide +kernel
theorem d16_78 : own_d cB16 78 (.iload_n 2) 1 := by decide +kernel
theorem d16_79 : own_d cB16 79 (.iload 10) 2 := by decide +kernel
theorem d16_81 : own_d cB16 81 (.iadd) 1 := by decide +kernel
theorem d16_82 : own_d cB16 82 (.istore_n 2) 1 := by decide +kernel
theorem d16_83 : own_d cB16 83 (.iload 6) 2 := by decide +kernel
theorem d16_85 : own_d cB16 85 (.iload 9) 2 := by decide +kernel
theorem d16_87 : own_d cB16 87 (.iadd) 1 := by decide +kernel
theorem d16_88 : own_d cB16 88 (.istore 6) 2 := by decide +kernel
set_option maxRecDepth 65536 in
set_option maxHeartbeats 40000000 in
theorem rm_dec0_6 (l : Launch) (Z : State) (a0 : Array Value) (hw : ∀ d ∈ tables_1, d.before a0 Z = true) (x0 : Int32) (x1 : Int32) (x2 : Int32) (x3 : Int32) (x4 : Int32) (x5 : Int32) (s0 : Int32) (s1 : Int32) (s2 : Int32) (s3 : Int32) (s4 : Int32) (s5 : Int32) (y0 : Int32) (y1 : Int32) (y2 : Int32) (y3 : Int32) (rdt : Addr) (kdt : ClassId) (Sdt : Sta Z Z.heap "java/util/Base64$Decoder" "fromBase64URL" "[I" (.ref rdt)) (Vdt : Arv Z Z.heap rdt kdt .int (256 : Int32) own_dec (.int 0)) (hj0 : ¬ (x0 &&& 255) < 0 ∧ (x0 &&& 255) < (256 : Int32)) (hd0 : own_dec.getD (x0 &&& 255).toNatClampNeg (.int 0) = .int s0) (hs0 : ¬ (s0 < (0 : Int32))) (hj1 : ¬ (x1 &&& 255) < 0 ∧ (x1 &&& 255) < (256 : Int32)) (hd1 : own_dec.getD (x1 &&& 255).toNatClampNeg (.int 0) = .int s1) (hs1 : ¬ (s1 < (0 : Int32))) (hj2 : ¬ (x2 &&& 255) < 0 ∧ (x2 &&& 255) < (256 : Int32)) (hd2 : own_dec.getD (x2 &&& 255).toNatClampNeg (.int 0) = .int s2) (hs2 : ¬ (s2 < (0 : Int32))) (hj3 : ¬ (x3 &&& 255) < 0 ∧ (x3 &&& 255) < (256 : Int32)) (hd3 : own_dec.getD (x3 &&& 255).toNatClampNeg (.int 0) = .int s3) (hs3 : ¬ (s3 < (0 : Int32))) (hj4 : ¬ (x4 &&& 255) < 0 ∧ (x4 &&& 255) < (256 : Int32)) (hd4 : own_dec.getD (x4 &&& 255).toNatClampNeg (.int 0) = .int s4) (hs4 : ¬ (s4 < (0 : Int32))) (hj5 : ¬ (x5 &&& 255) < 0 ∧ (x5 &&& 255) < (256 : Int32)) (hd5 : own_dec.getD (x5 &&& 255).toNatClampNeg (.int 0) = .int s5) (hs5 : ¬ (s5 < (0 : Int32))) (hor : ¬ ((((s0 ||| s1) ||| s2) ||| s3) < (0 : Int32))) (hy0 : ((((((s0 <<< ((18 : Int32) &&& 31)) ||| (s1 <<< ((12 : Int32) &&& 31))) ||| (s2 <<< ((6 : Int32) &&& 31))) ||| s3) >>> ((16 : Int32) &&& 31)).toInt8.toInt32).toInt8.toInt32 = y0) (hy1 : ((((((s0 <<< ((18 : Int32) &&& 31)) ||| (s1 <<< ((12 : Int32) &&& 31))) ||| (s2 <<< ((6 : Int32) &&& 31))) ||| s3) >>> ((8 : Int32) &&& 31)).toInt8.toInt32).toInt8.toInt32 = y1) (hy2 : (((((s0 <<< ((18 : Int32) &&& 31)) ||| (s1 <<< ((12 : Int32) &&& 31))) ||| (s2 <<< ((6 : Int32) &&& 31))) ||| s3).toInt8.toInt32).toInt8.toInt32 = y2) (hy3 : (((((0 : Int32) ||| (s4 <<< ((18 : Int32) &&& 31))) ||| (s5 <<< ((12 : Int32) &&& 31))) >>> ((16 : Int32) &&& 31)).toInt8.toInt32).toInt8.toInt32 = y3) :
    HD0 l Z (6 : Int32) (4 : Int32) [(.int x0), (.int x1), (.int x2), (.int x3), (.int x4), (.int x5)] [(.int y0), (.int y1), (.int y2), (.int y3)] := by
  intro de b k d kd h0 n0 Z0 O Fu Fm Ed Vb Vd0 nbd gd nde
  refine own_in "java/util/Base64$Decoder" rfl (plainFor_of_name pn3) hisR (fun m => ef16RRIIR m de b (0 : Int32) (6 : Int32) d) ?_
  intro p e s m below meth c s₁ A_ hx hby hml hown hnm hrt hlk hZ _ X0 e0 pre0
  have N0 := Fr.nil n0
  have Vd : Arv Z h0 d kd .byte (4 : Int32) [(.int 0), (.int 0), (.int 0), (.int 0)] (.int 0) := Vd0.pad (pad_rep [] _ 4)
  have P1 := oS (s₁.setTop (mkF m 1 #[r_ de, r_ b, i_ 0, i_ 6, r_ d, u_, u_, u_, u_, u_, u_] [(.ref de)])) pre0 (by
    intro _ k_
    refine aN_ X0 hx hby d16_0 rfl rfl ?_
    exact k_)
  obtain ⟨T2, X2, e2, st2⟩ := getF X0 hx hZ hown (host := "") (Or.inl (own_w hw 92 rfl)) Via.refl e0 Fu (g := (mkF m 1 #[r_ de, r_ b, i_ 0, i_ 6, r_ d, u_, u_, u_, u_, u_, u_] [(.ref de)])) rfl rfl (hb hby d16_1)
  have P3 := oS (T2.setTop (mkF m 4 #[r_ de, r_ b, i_ 0, i_ 6, r_ d, u_, u_, u_, u_, u_, u_] [(.int 1)])) P1 (fun t_ k_ => st2 t_ k_)
  have P4 := oS (T2.setTop (mkF m 7 #[r_ de, r_ b, i_ 0, i_ 6, r_ d, u_, u_, u_, u_, u_, u_] [])) P3 (by
    intro _ k_
    refine XS.ifNo X2.here hx rfl (hb hby d16_4) rfl ((if0 _ _).trans (feq (by decide : ¬ ((1 : Int32) = (0 : Int32)))).1) ?_
    exact k_)
  obtain ⟨T5, X5, e5, st5⟩ := getS2 X2 hx hZ hown (host := "") (Or.inl (own_w hw 94 rfl)) Via.refl e2 (Sdt.ext O.2) (g := (mkF m 7 #[r_ de, r_ b, i_ 0, i_ 6, r_ d, u_, u_, u_, u_, u_, u_] [])) rfl (hb hby d16_7)
  have P6 := oS (T5.setTop (mkF m 10 #[r_ de, r_ b, i_ 0, i_ 6, r_ d, u_, u_, u_, u_, u_, u_] [(.ref rdt)])) P4 (fun t_ k_ => st5 t_ k_)
  have P7 := oS (T5.setTop (mkF m 30 #[r_ de, r_ b, i_ 0, i_ 6, r_ d, r_ rdt, i_ 0, i_ 0, i_ 18, u_, u_] [(.int 6), (.int 0)])) P6 (by
    intro _ k_
    refine gt_ X5 hx hby d16_10 (pc := 10) (pc' := 16) (by decide) ?_
    refine XS.astore X5.here hx rfl (hb hby d16_16) rfl rfl (l' := #[r_ de, r_ b, i_ 0, i_ 6, r_ d, r_ rdt, u_, u_, u_, u_, u_]) rfl ?_
    refine XS.iconst X5.here hx rfl (hb hby d16_18) ?_
    refine is_ X5 hx hby d16_19 (l' := #[r_ de, r_ b, i_ 0, i_ 6, r_ d, r_ rdt, i_ 0, u_, u_, u_, u_]) rfl ?_
    refine XS.iconst X5.here hx rfl (hb hby d16_21) ?_
    refine is_ X5 hx hby d16_22 (l' := #[r_ de, r_ b, i_ 0, i_ 6, r_ d, r_ rdt, i_ 0, i_ 0, u_, u_, u_]) rfl ?_
    refine XS.bipush X5.here hx rfl (hb hby d16_24) ?_
    refine is_ X5 hx hby d16_26 (l' := #[r_ de, r_ b, i_ 0, i_ 6, r_ d, r_ rdt, i_ 0, i_ 0, i_ 18, u_, u_]) rfl ?_
    refine iN_ X5 hx hby d16_28 rfl ?_
    refine iN_ X5 hx hby d16_29 rfl ?_
    exact k_)
  have P8 := oS (T5.setTop (mkF m 37 #[r_ de, r_ b, i_ 0, i_ 6, r_ d, r_ rdt, i_ 0, i_ 0, i_ 18, u_, u_] [(.int 18), (.int 18)])) P7 (by
    intro _ k_
    refine XS.icmpNo X5.here hx rfl (hb hby d16_30) rfl (tlt (by decide : (0 : Int32) < (6 : Int32))).2.1 ?_
    refine il_ X5 hx hby d16_33 rfl ?_
    refine XS.bipush X5.here hx rfl (hb hby d16_35) ?_
    exact k_)
  have P9 := oS (T5.setTop (mkF m 44 #[r_ de, r_ b, i_ 0, i_ 6, r_ d, r_ rdt, i_ 0, i_ 0, i_ 18, u_, u_] [(.int 2), (.int 0)])) P8 (by
    intro _ k_
    refine XS.icmpNo X5.here hx rfl (hb hby d16_37) rfl (teq (by decide : (18 : Int32) = (18 : Int32))).2 ?_
    refine iN_ X5 hx hby d16_40 rfl ?_
    refine iN_ X5 hx hby d16_41 rfl ?_
    refine XS.iconst X5.here hx rfl (hb hby d16_42) ?_
    refine XS.isub X5.here hx rfl (hb hby d16_43) rfl ?_
    exact k_)
  have P10 := oS (T5.setTop (mkF m 56 #[r_ de, r_ b, i_ 0, i_ 6, r_ d, r_ rdt, i_ 0, i_ 0, i_ 18, u_, u_] [(.ref de), (.int 0), (.ref d), (.int 6), (.int 0), (.ref b), (.ref de)])) P9 (by
    intro _ k_
    refine XS.icmpNo X5.here hx rfl (hb hby d16_44) rfl (tlt (by decide : (0 : Int32) < (2 : Int32))).2.1 ?_
    refine aN_ X5 hx hby d16_47 rfl rfl ?_
    refine aN_ X5 hx hby d16_48 rfl rfl ?_
    refine iN_ X5 hx hby d16_49 rfl ?_
    refine iN_ X5 hx hby d16_50 rfl ?_
    refine a_ X5 hx hby d16_51 rfl rfl ?_
    refine il_ X5 hx hby d16_53 rfl ?_
    refine aN_ X5 hx hby d16_55 rfl rfl ?_
    exact k_)
  obtain ⟨T11, X11, e11, st11⟩ := getF X5 hx hZ hown (host := "") (Or.inl (own_w hw 92 rfl)) Via.refl e5 Fu (g := (mkF m 56 #[r_ de, r_ b, i_ 0, i_ 6, r_ d, r_ rdt, i_ 0, i_ 0, i_ 18, u_, u_] [(.ref de), (.int 0), (.ref d), (.int 6), (.int 0), (.ref b), (.ref de)])) rfl rfl (hb hby d16_56)
  have P12 := oS (T11.setTop (mkF m 59 #[r_ de, r_ b, i_ 0, i_ 6, r_ d, r_ rdt, i_ 0, i_ 0, i_ 18, u_, u_] [(.int 1), (.int 0), (.ref d), (.int 6), (.int 0), (.ref b), (.ref de)])) P10 (fun t_ k_ => st11 t_ k_)
  have P13 := oS (T11.setTop (mkF m 60 #[r_ de, r_ b, i_ 0, i_ 6, r_ d, r_ rdt, i_ 0, i_ 0, i_ 18, u_, u_] [(.ref de), (.int 1), (.int 0), (.ref d), (.int 6), (.int 0), (.ref b), (.ref de)])) P12 (by
    intro _ k_
    refine aN_ X11 hx hby d16_59 rfl rfl ?_
    exact k_)
  obtain ⟨T14, X14, e14, st14⟩ := getF X11 hx hZ hown (host := "") (Or.inl (own_w hw 95 rfl)) Via.refl e11 Fm (g := (mkF m 60 #[r_ de, r_ b, i_ 0, i_ 6, r_ d, r_ rdt, i_ 0, i_ 0, i_ 18, u_, u_] [(.ref de), (.int 1), (.int 0), (.ref d), (.int 6), (.int 0), (.ref b), (.ref de)])) rfl rfl (hb hby d16_60)
  have P15 := oS (T14.setTop (mkF m 63 #[r_ de, r_ b, i_ 0, i_ 6, r_ d, r_ rdt, i_ 0, i_ 0, i_ 18, u_, u_] [(.int 0), (.int 1), (.int 0), (.ref d), (.int 6), (.int 0), (.ref b), (.ref de)])) P13 (fun t_ k_ => st14 t_ k_)
  obtain ⟨_, T16, L16, X16, hQ16, P16c⟩ := own_cP (W := 0) (rm_dblk l Z a0 hw [] de b k d kd (6 : Int32) (4 : Int32) [(.int x4), (.int x5)] [(.int 0)] x0 x1 x2 x3 s0 s1 s2 s3 y0 y1 y2 rdt kdt h0 n0 Z0 O Sdt Vdt Vb Vd nbd gd (by decide) hor (by decide) (by decide) (by decide) (by decide) (by decide) (by decide) (by decide) hj0 hd0 hj1 hd1 hj2 hd2 hj3 hd3 hy0 hy1 hy2) X14 hx hZ (fun _ _ => trivial) hown Ed (own_w hw 172 rfl) (own_w hw 174 rfl) (own_w hw 175 rfl) (own_w hw 173 rfl) (own_w hw 47 rfl) (own_w hw 176 rfl) (by decide) P15 hml rfl [(.ref b), (.int 0), (.int 6), (.ref d), (.int 0), (.int 1), (.int 0)] [] rfl rfl rfl pd22 rfl (hb hby d16_63) e14 (by decide)
  obtain ⟨rfl, N16q, K16, f17⟩ := hQ16
  have N16 := Fr.app N0 N16q
  have f18 := O.keep K16 (allS gd all0)
  have f21 := Vb.keep K16 (ninS nbd nin0)
  have f23 := (Keep.refl h0 [d]).trans K16 (allS (Or.inl (List.mem_of_getElem? (i := 0) rfl)) all0)
  have P26 := own_to (C := T16.setTop (mkF m 66 #[r_ de, r_ b, i_ 0, i_ 6, r_ d, r_ rdt, i_ 0, i_ 0, i_ 18, u_, u_] [(.int 3)])) P16c
  have f17_ : Arv Z T16.heap d kd .byte (4 : Int32) [(.int y0), (.int y1), (.int y2), (.int 0)] (.int 0) := f17
  have P27 := oS (T16.setTop (mkF m 90 #[r_ de, r_ b, i_ 4, i_ 6, r_ d, r_ rdt, i_ 3, i_ 0, i_ 18, i_ 3, i_ 4] [])) P26 (by
    intro _ k_
    refine is_ X16 hx hby d16_66 (l' := #[r_ de, r_ b, i_ 0, i_ 6, r_ d, r_ rdt, i_ 0, i_ 0, i_ 18, i_ 3, u_]) rfl ?_
    refine il_ X16 hx hby d16_68 rfl ?_
    refine XS.iconst X16.here hx rfl (hb hby d16_70) ?_
    refine XS.iadd X16.here hx rfl (hb hby d16_71) rfl ?_
    show Steps p.tables e below (T16.setTop (mkF m 72 #[r_ de, r_ b, i_ 0, i_ 6, r_ d, r_ rdt, i_ 0, i_ 0, i_ 18, i_ 3, u_] [(.int 5)])) _
    refine XS.iconst X16.here hx rfl (hb hby d16_72) ?_
    refine XS.idiv X16.here hx rfl (hb hby d16_73) rfl (by decide) ?_
    show Steps p.tables e below (T16.setTop (mkF m 74 #[r_ de, r_ b, i_ 0, i_ 6, r_ d, r_ rdt, i_ 0, i_ 0, i_ 18, i_ 3, u_] [(.int 1)])) _
    refine XS.iconst X16.here hx rfl (hb hby d16_74) ?_
    refine XS.imul X16.here hx rfl (hb hby d16_75) rfl ?_
    show Steps p.tables e below (T16.setTop (mkF m 76 #[r_ de, r_ b, i_ 0, i_ 6, r_ d, r_ rdt, i_ 0, i_ 0, i_ 18, i_ 3, u_] [(.int 4)])) _
    refine is_ X16 hx hby d16_76 (l' := #[r_ de, r_ b, i_ 0, i_ 6, r_ d, r_ rdt, i_ 0, i_ 0, i_ 18, i_ 3, i_ 4]) rfl ?_
    refine iN_ X16 hx hby d16_78 rfl ?_
    refine il_ X16 hx hby d16_79 rfl ?_
    refine XS.iadd X16.here hx rfl (hb hby d16_81) rfl ?_
    show Steps p.tables e below (T16.setTop (mkF m 82 #[r_ de, r_ b, i_ 0, i_ 6, r_ d, r_ rdt, i_ 0, i_ 0, i_ 18, i_ 3, i_ 4] [(.int 4)])) _
    refine XS.istoreN X16.here hx rfl (hb hby d16_82) rfl (l' := #[r_ de, r_ b, i_ 4, i_ 6, r_ d, r_ rdt, i_ 0, i_ 0, i_ 18, i_ 3, i_ 4]) rfl ?_
    refine il_ X16 hx hby d16_83 rfl ?_
    refine il_ X16 hx hby d16_85 rfl ?_
    refine XS.iadd X16.here hx rfl (hb hby d16_87) rfl ?_
    show Steps p.tables e below (T16.setTop (mkF m 88 #[r_ de, r_ b, i_ 4, i_ 6, r_ d, r_ rdt, i_ 0, i_ 0, i_ 18, i_ 3, i_ 4] [(.int 3)])) _
    refine is_ X16 hx hby d16_88 (l' := #[r_ de, r_ b, i_ 4, i_ 6, r_ d, r_ rdt, i_ 3, i_ 0, i_ 18, i_ 3, i_ 4]) rfl ?_
    exact k_)
  have P28 := oS (T16.setTop (mkF m 227 #[r_ de, r_ b, i_ 5, i_ 6, r_ d, r_ rdt, i_ 3, i_ ((0 : Int32) ||| (s4 <<< ((18 : Int32) &&& 31))), i_ 12, i_ s4, i_ 4] [])) P27 (own_dt X16 hx hby hZ (rfl : T16.heap = _) f21 (Vdt.ext f18.2) (by decide) (by rfl) hj4 hd4 hs4 (One.val rfl))
  have P29 := oS (T16.setTop (mkF m 229 #[r_ de, r_ b, i_ 5, i_ 6, r_ d, r_ rdt, i_ 3, i_ ((0 : Int32) ||| (s4 <<< ((18 : Int32) &&& 31))), i_ 12, i_ s4, i_ 4] [(.int 12)])) P28 (by
    intro _ k_
    refine il_ X16 hx hby d16_227 rfl ?_
    exact k_)
  have P30 := oS (T16.setTop (mkF m 30 #[r_ de, r_ b, i_ 5, i_ 6, r_ d, r_ rdt, i_ 3, i_ ((0 : Int32) ||| (s4 <<< ((18 : Int32) &&& 31))), i_ 12, i_ s4, i_ 4] [(.int 6), (.int 5)])) P29 (by
    intro _ k_
    refine fY_ X16 hx hby d16_229 (pc := 229) (pc' := 278) ((if0 _ _).trans (flt (by decide : ¬ ((12 : Int32) < (0 : Int32)))).2.1) (by decide) ?_
    refine gt_ X16 hx hby d16_278 (pc := 278) (pc' := 28) (by decide) ?_
    refine iN_ X16 hx hby d16_28 rfl ?_
    refine iN_ X16 hx hby d16_29 rfl ?_
    exact k_)
  have P31 := oS (T16.setTop (mkF m 37 #[r_ de, r_ b, i_ 5, i_ 6, r_ d, r_ rdt, i_ 3, i_ ((0 : Int32) ||| (s4 <<< ((18 : Int32) &&& 31))), i_ 12, i_ s4, i_ 4] [(.int 18), (.int 12)])) P30 (by
    intro _ k_
    refine XS.icmpNo X16.here hx rfl (hb hby d16_30) rfl (tlt (by decide : (5 : Int32) < (6 : Int32))).2.1 ?_
    refine il_ X16 hx hby d16_33 rfl ?_
    refine XS.bipush X16.here hx rfl (hb hby d16_35) ?_
    exact k_)
  have P32 := oS (T16.setTop (mkF m 90 #[r_ de, r_ b, i_ 5, i_ 6, r_ d, r_ rdt, i_ 3, i_ ((0 : Int32) ||| (s4 <<< ((18 : Int32) &&& 31))), i_ 12, i_ s4, i_ 4] [])) P31 (by
    intro _ k_
    refine cY_ X16 hx hby d16_37 (pc := 37) (pc' := 90) (feq (by decide : ¬ ((12 : Int32) = (18 : Int32)))).2 (by decide) ?_
    exact k_)
  have P33 := oS (T16.setTop (mkF m 227 #[r_ de, r_ b, i_ 6, i_ 6, r_ d, r_ rdt, i_ 3, i_ (((0 : Int32) ||| (s4 <<< ((18 : Int32) &&& 31))) ||| (s5 <<< ((12 : Int32) &&& 31))), i_ 6, i_ s5, i_ 4] [])) P32 (own_dt X16 hx hby hZ (rfl : T16.heap = _) f21 (Vdt.ext f18.2) (by decide) (by rfl) hj5 hd5 hs5 (One.val rfl))
  have P34 := oS (T16.setTop (mkF m 229 #[r_ de, r_ b, i_ 6, i_ 6, r_ d, r_ rdt, i_ 3, i_ (((0 : Int32) ||| (s4 <<< ((18 : Int32) &&& 31))) ||| (s5 <<< ((12 : Int32) &&& 31))), i_ 6, i_ s5, i_ 4] [(.int 6)])) P33 (by
    intro _ k_
    refine il_ X16 hx hby d16_227 rfl ?_
    exact k_)
  have P35 := oS (T16.setTop (mkF m 30 #[r_ de, r_ b, i_ 6, i_ 6, r_ d, r_ rdt, i_ 3, i_ (((0 : Int32) ||| (s4 <<< ((18 : Int32) &&& 31))) ||| (s5 <<< ((12 : Int32) &&& 31))), i_ 6, i_ s5, i_ 4] [(.int 6), (.int 6)])) P34 (by
    intro _ k_
    refine fY_ X16 hx hby d16_229 (pc := 229) (pc' := 278) ((if0 _ _).trans (flt (by decide : ¬ ((6 : Int32) < (0 : Int32)))).2.1) (by decide) ?_
    refine gt_ X16 hx hby d16_278 (pc := 278) (pc' := 28) (by decide) ?_
    refine iN_ X16 hx hby d16_28 rfl ?_
    refine iN_ X16 hx hby d16_29 rfl ?_
    exact k_)
  have P36 := oS (T16.setTop (mkF m 285 #[r_ de, r_ b, i_ 6, i_ 6, r_ d, r_ rdt, i_ 3, i_ (((0 : Int32) ||| (s4 <<< ((18 : Int32) &&& 31))) ||| (s5 <<< ((12 : Int32) &&& 31))), i_ 6, i_ s5, i_ 4] [(.int 6), (.int 6)])) P35 (by
    intro _ k_
    refine cY_ X16 hx hby d16_30 (pc := 30) (pc' := 281) (flt (by decide : ¬ ((6 : Int32) < (6 : Int32)))).2.1 (by decide) ?_
    refine il_ X16 hx hby d16_281 rfl ?_
    refine XS.bipush X16.here hx rfl (hb hby d16_283) ?_
    exact k_)
  have P37 := oS (T16.setTop (mkF m 301 #[r_ de, r_ b, i_ 6, i_ 6, r_ d, r_ rdt, i_ 4, i_ (((0 : Int32) ||| (s4 <<< ((18 : Int32) &&& 31))) ||| (s5 <<< ((12 : Int32) &&& 31))), i_ 6, i_ s5, i_ 4] [(.int (((((0 : Int32) ||| (s4 <<< ((18 : Int32) &&& 31))) ||| (s5 <<< ((12 : Int32) &&& 31))) >>> ((16 : Int32) &&& 31)).toInt8.toInt32)), (.int 3), (.ref d)])) P36 (by
    intro _ k_
    refine XS.icmpNo X16.here hx rfl (hb hby d16_285) rfl (teq (by decide : (6 : Int32) = (6 : Int32))).2 ?_
    refine a_ X16 hx hby d16_288 rfl rfl ?_
    refine il_ X16 hx hby d16_290 rfl ?_
    refine XS.iinc X16.here hx rfl (hb hby d16_292) rfl (l' := #[r_ de, r_ b, i_ 6, i_ 6, r_ d, r_ rdt, i_ 4, i_ (((0 : Int32) ||| (s4 <<< ((18 : Int32) &&& 31))) ||| (s5 <<< ((12 : Int32) &&& 31))), i_ 6, i_ s5, i_ 4]) rfl ?_
    show Steps p.tables e below (T16.setTop (mkF m 295 #[r_ de, r_ b, i_ 6, i_ 6, r_ d, r_ rdt, i_ 4, i_ (((0 : Int32) ||| (s4 <<< ((18 : Int32) &&& 31))) ||| (s5 <<< ((12 : Int32) &&& 31))), i_ 6, i_ s5, i_ 4] [(.int 3), (.ref d)])) _
    refine il_ X16 hx hby d16_295 rfl ?_
    refine XS.bipush X16.here hx rfl (hb hby d16_297) ?_
    refine XS.ishr X16.here hx rfl (hb hby d16_299) rfl ?_
    refine XS.i2b X16.here hx rfl (hb hby d16_300) rfl ?_
    exact k_)
  obtain ⟨cl38, Ar38, q38, S38, M38, H38, G38⟩ := id f17_
  obtain ⟨T39, h39, X39, e39, W39, st39⟩ := stB X16 hx hZ rfl Ar38 (j := (3 : Int32)) (inb_of S38 (by decide : ¬ (3 : Int32) < 0 ∧ (3 : Int32) < (4 : Int32))) (g := (mkF m 301 #[r_ de, r_ b, i_ 6, i_ 6, r_ d, r_ rdt, i_ 4, i_ (((0 : Int32) ||| (s4 <<< ((18 : Int32) &&& 31))) ||| (s5 <<< ((12 : Int32) &&& 31))), i_ 6, i_ s5, i_ 4] [(.int (((((0 : Int32) ||| (s4 <<< ((18 : Int32) &&& 31))) ||| (s5 <<< ((12 : Int32) &&& 31))) >>> ((16 : Int32) &&& 31)).toInt8.toInt32)), (.int 3), (.ref d)])) rfl rfl (hb hby d16_301)
  have f44 := f23.wr W39 (Or.inl (List.mem_of_getElem? (i := 0) rfl))
  have V39 : Arv Z h39 d kd .byte (4 : Int32) [(.int y0), (.int y1), (.int y2), (.int (((((0 : Int32) ||| (s4 <<< ((18 : Int32) &&& 31))) ||| (s5 <<< ((12 : Int32) &&& 31))) >>> ((16 : Int32) &&& 31)).toInt8.toInt32).toInt8.toInt32)] (.int 0) := Arv.set Ar38 q38 S38 M38 H38 G38 (fits_nar_byte _) W39 3 rfl (Nat.le_of_ble_eq_true rfl)
  have N39 := Fr.snoc X39 N16 gd
  have P48 := oS (T39.setTop (mkF m 302 #[r_ de, r_ b, i_ 6, i_ 6, r_ d, r_ rdt, i_ 4, i_ (((0 : Int32) ||| (s4 <<< ((18 : Int32) &&& 31))) ||| (s5 <<< ((12 : Int32) &&& 31))), i_ 6, i_ s5, i_ 4] [])) P37 (fun t_ k_ => st39 t_ k_)
  have P49 := oS (T39.setTop (mkF m 360 #[r_ de, r_ b, i_ 6, i_ 6, r_ d, r_ rdt, i_ 4, i_ (((0 : Int32) ||| (s4 <<< ((18 : Int32) &&& 31))) ||| (s5 <<< ((12 : Int32) &&& 31))), i_ 6, i_ s5, i_ 4] [(.int 6), (.int 6)])) P48 (by
    intro _ k_
    refine gt_ X39 hx hby d16_302 (pc := 302) (pc' := 358) (by decide) ?_
    refine iN_ X39 hx hby d16_358 rfl ?_
    refine iN_ X39 hx hby d16_359 rfl ?_
    exact k_)
  have P50 := oS (T39.setTop (mkF m 418 #[r_ de, r_ b, i_ 6, i_ 6, r_ d, r_ rdt, i_ 4, i_ (((0 : Int32) ||| (s4 <<< ((18 : Int32) &&& 31))) ||| (s5 <<< ((12 : Int32) &&& 31))), i_ 6, i_ s5, i_ 4] [(.int 4)])) P49 (by
    intro _ k_
    refine cY_ X39 hx hby d16_360 (pc := 360) (pc' := 416) (flt (by decide : ¬ ((6 : Int32) < (6 : Int32)))).2.1 (by decide) ?_
    refine il_ X39 hx hby d16_416 rfl ?_
    exact k_)
  rw [hy3] at V39
  exact own_out X39 hlk (v := some (.int 4)) (own_hv hrt) P50 (fun _ q_ => retI X39 hx hrt (hb hby d16_418) q_) e39 ⟨rfl, N39, f44, V39⟩ (by decide)
set_option maxRecDepth 65536 in
set_option maxHeartbeats 40000000 in
theorem rm_dec0_7 (l : Launch) (Z : State) (a0 : Array Value) (hw : ∀ d ∈ tables_1, d.before a0 Z = true) (x0 : Int32) (x1 : Int32) (x2 : Int32) (x3 : Int32) (x4 : Int32) (x5 : Int32) (x6 : Int32) (s0 : Int32) (s1 : Int32) (s2 : Int32) (s3 : Int32) (s4 : Int32) (s5 : Int32) (s6 : Int32) (y0 : Int32) (y1 : Int32) (y2 : Int32) (y3 : Int32) (y4 : Int32) (rdt : Addr) (kdt : ClassId) (Sdt : Sta Z Z.heap "java/util/Base64$Decoder" "fromBase64URL" "[I" (.ref rdt)) (Vdt : Arv Z Z.heap rdt kdt .int (256 : Int32) own_dec (.int 0)) (hj0 : ¬ (x0 &&& 255) < 0 ∧ (x0 &&& 255) < (256 : Int32)) (hd0 : own_dec.getD (x0 &&& 255).toNatClampNeg (.int 0) = .int s0) (hs0 : ¬ (s0 < (0 : Int32))) (hj1 : ¬ (x1 &&& 255) < 0 ∧ (x1 &&& 255) < (256 : Int32)) (hd1 : own_dec.getD (x1 &&& 255).toNatClampNeg (.int 0) = .int s1) (hs1 : ¬ (s1 < (0 : Int32))) (hj2 : ¬ (x2 &&& 255) < 0 ∧ (x2 &&& 255) < (256 : Int32)) (hd2 : own_dec.getD (x2 &&& 255).toNatClampNeg (.int 0) = .int s2) (hs2 : ¬ (s2 < (0 : Int32))) (hj3 : ¬ (x3 &&& 255) < 0 ∧ (x3 &&& 255) < (256 : Int32)) (hd3 : own_dec.getD (x3 &&& 255).toNatClampNeg (.int 0) = .int s3) (hs3 : ¬ (s3 < (0 : Int32))) (hj4 : ¬ (x4 &&& 255) < 0 ∧ (x4 &&& 255) < (256 : Int32)) (hd4 : own_dec.getD (x4 &&& 255).toNatClampNeg (.int 0) = .int s4) (hs4 : ¬ (s4 < (0 : Int32))) (hj5 : ¬ (x5 &&& 255) < 0 ∧ (x5 &&& 255) < (256 : Int32)) (hd5 : own_dec.getD (x5 &&& 255).toNatClampNeg (.int 0) = .int s5) (hs5 : ¬ (s5 < (0 : Int32))) (hj6 : ¬ (x6 &&& 255) < 0 ∧ (x6 &&& 255) < (256 : Int32)) (hd6 : own_dec.getD (x6 &&& 255).toNatClampNeg (.int 0) = .int s6) (hs6 : ¬ (s6 < (0 : Int32))) (hor : ¬ ((((s0 ||| s1) ||| s2) ||| s3) < (0 : Int32))) (hy0 : ((((((s0 <<< ((18 : Int32) &&& 31)) ||| (s1 <<< ((12 : Int32) &&& 31))) ||| (s2 <<< ((6 : Int32) &&& 31))) ||| s3) >>> ((16 : Int32) &&& 31)).toInt8.toInt32).toInt8.toInt32 = y0) (hy1 : ((((((s0 <<< ((18 : Int32) &&& 31)) ||| (s1 <<< ((12 : Int32) &&& 31))) ||| (s2 <<< ((6 : Int32) &&& 31))) ||| s3) >>> ((8 : Int32) &&& 31)).toInt8.toInt32).toInt8.toInt32 = y1) (hy2 : (((((s0 <<< ((18 : Int32) &&& 31)) ||| (s1 <<< ((12 : Int32) &&& 31))) ||| (s2 <<< ((6 : Int32) &&& 31))) ||| s3).toInt8.toInt32).toInt8.toInt32 = y2) (hy3 : ((((((0 : Int32) ||| (s4 <<< ((18 : Int32) &&& 31))) ||| (s5 <<< ((12 : Int32) &&& 31))) ||| (s6 <<< ((6 : Int32) &&& 31))) >>> ((16 : Int32) &&& 31)).toInt8.toInt32).toInt8.toInt32 = y3) (hy4 : ((((((0 : Int32) ||| (s4 <<< ((18 : Int32) &&& 31))) ||| (s5 <<< ((12 : Int32) &&& 31))) ||| (s6 <<< ((6 : Int32) &&& 31))) >>> ((8 : Int32) &&& 31)).toInt8.toInt32).toInt8.toInt32 = y4) :
    HD0 l Z (7 : Int32) (5 : Int32) [(.int x0), (.int x1), (.int x2), (.int x3), (.int x4), (.int x5), (.int x6)] [(.int y0), (.int y1), (.int y2), (.int y3), (.int y4)] := by
  intro de b k d kd h0 n0 Z0 O Fu Fm Ed Vb Vd0 nbd gd nde
  refine own_in "java/util/Base64$Decoder" rfl (plainFor_of_name pn3) hisR (fun m => ef16RRIIR m de b (0 : Int32) (7 : Int32) d) ?_
  intro p e s m below meth c s₁ A_ hx hby hml hown hnm hrt hlk hZ _ X0 e0 pre0
  have N0 := Fr.nil n0
  have Vd : Arv Z h0 d kd .byte (5 : Int32) [(.int 0), (.int 0), (.int 0), (.int 0), (.int 0)] (.int 0) := Vd0.pad (pad_rep [] _ 5)
  have P1 := oS (s₁.setTop (mkF m 1 #[r_ de, r_ b, i_ 0, i_ 7, r_ d, u_, u_, u_, u_, u_, u_] [(.ref de)])) pre0 (by
    intro _ k_
    refine aN_ X0 hx hby d16_0 rfl rfl ?_
    exact k_)
  obtain ⟨T2, X2, e2, st2⟩ := getF X0 hx hZ hown (host := "") (Or.inl (own_w hw 92 rfl)) Via.refl e0 Fu (g := (mkF m 1 #[r_ de, r_ b, i_ 0, i_ 7, r_ d, u_, u_, u_, u_, u_, u_] [(.ref de)])) rfl rfl (hb hby d16_1)
  have P3 := oS (T2.setTop (mkF m 4 #[r_ de, r_ b, i_ 0, i_ 7, r_ d, u_, u_, u_, u_, u_, u_] [(.int 1)])) P1 (fun t_ k_ => st2 t_ k_)
  have P4 := oS (T2.setTop (mkF m 7 #[r_ de, r_ b, i_ 0, i_ 7, r_ d, u_, u_, u_, u_, u_, u_] [])) P3 (by
    intro _ k_
    refine XS.ifNo X2.here hx rfl (hb hby d16_4) rfl ((if0 _ _).trans (feq (by decide : ¬ ((1 : Int32) = (0 : Int32)))).1) ?_
    exact k_)
  obtain ⟨T5, X5, e5, st5⟩ := getS2 X2 hx hZ hown (host := "") (Or.inl (own_w hw 94 rfl)) Via.refl e2 (Sdt.ext O.2) (g := (mkF m 7 #[r_ de, r_ b, i_ 0, i_ 7, r_ d, u_, u_, u_, u_, u_, u_] [])) rfl (hb hby d16_7)
  have P6 := oS (T5.setTop (mkF m 10 #[r_ de, r_ b, i_ 0, i_ 7, r_ d, u_, u_, u_, u_, u_, u_] [(.ref rdt)])) P4 (fun t_ k_ => st5 t_ k_)
  have P7 := oS (T5.setTop (mkF m 30 #[r_ de, r_ b, i_ 0, i_ 7, r_ d, r_ rdt, i_ 0, i_ 0, i_ 18, u_, u_] [(.int 7), (.int 0)])) P6 (by
    intro _ k_
    refine gt_ X5 hx hby d16_10 (pc := 10) (pc' := 16) (by decide) ?_
    refine XS.astore X5.here hx rfl (hb hby d16_16) rfl rfl (l' := #[r_ de, r_ b, i_ 0, i_ 7, r_ d, r_ rdt, u_, u_, u_, u_, u_]) rfl ?_
    refine XS.iconst X5.here hx rfl (hb hby d16_18) ?_
    refine is_ X5 hx hby d16_19 (l' := #[r_ de, r_ b, i_ 0, i_ 7, r_ d, r_ rdt, i_ 0, u_, u_, u_, u_]) rfl ?_
    refine XS.iconst X5.here hx rfl (hb hby d16_21) ?_
    refine is_ X5 hx hby d16_22 (l' := #[r_ de, r_ b, i_ 0, i_ 7, r_ d, r_ rdt, i_ 0, i_ 0, u_, u_, u_]) rfl ?_
    refine XS.bipush X5.here hx rfl (hb hby d16_24) ?_
    refine is_ X5 hx hby d16_26 (l' := #[r_ de, r_ b, i_ 0, i_ 7, r_ d, r_ rdt, i_ 0, i_ 0, i_ 18, u_, u_]) rfl ?_
    refine iN_ X5 hx hby d16_28 rfl ?_
    refine iN_ X5 hx hby d16_29 rfl ?_
    exact k_)
  have P8 := oS (T5.setTop (mkF m 37 #[r_ de, r_ b, i_ 0, i_ 7, r_ d, r_ rdt, i_ 0, i_ 0, i_ 18, u_, u_] [(.int 18), (.int 18)])) P7 (by
    intro _ k_
    refine XS.icmpNo X5.here hx rfl (hb hby d16_30) rfl (tlt (by decide : (0 : Int32) < (7 : Int32))).2.1 ?_
    refine il_ X5 hx hby d16_33 rfl ?_
    refine XS.bipush X5.here hx rfl (hb hby d16_35) ?_
    exact k_)
  have P9 := oS (T5.setTop (mkF m 44 #[r_ de, r_ b, i_ 0, i_ 7, r_ d, r_ rdt, i_ 0, i_ 0, i_ 18, u_, u_] [(.int 3), (.int 0)])) P8 (by
    intro _ k_
    refine XS.icmpNo X5.here hx rfl (hb hby d16_37) rfl (teq (by decide : (18 : Int32) = (18 : Int32))).2 ?_
    refine iN_ X5 hx hby d16_40 rfl ?_
    refine iN_ X5 hx hby d16_41 rfl ?_
    refine XS.iconst X5.here hx rfl (hb hby d16_42) ?_
    refine XS.isub X5.here hx rfl (hb hby d16_43) rfl ?_
    exact k_)
  have P10 := oS (T5.setTop (mkF m 56 #[r_ de, r_ b, i_ 0, i_ 7, r_ d, r_ rdt, i_ 0, i_ 0, i_ 18, u_, u_] [(.ref de), (.int 0), (.ref d), (.int 7), (.int 0), (.ref b), (.ref de)])) P9 (by
    intro _ k_
    refine XS.icmpNo X5.here hx rfl (hb hby d16_44) rfl (tlt (by decide : (0 : Int32) < (3 : Int32))).2.1 ?_
    refine aN_ X5 hx hby d16_47 rfl rfl ?_
    refine aN_ X5 hx hby d16_48 rfl rfl ?_
    refine iN_ X5 hx hby d16_49 rfl ?_
    refine iN_ X5 hx hby d16_50 rfl ?_
    refine a_ X5 hx hby d16_51 rfl rfl ?_
    refine il_ X5 hx hby d16_53 rfl ?_
    refine aN_ X5 hx hby d16_55 rfl rfl ?_
    exact k_)
  obtain ⟨T11, X11, e11, st11⟩ := getF X5 hx hZ hown (host := "") (Or.inl (own_w hw 92 rfl)) Via.refl e5 Fu (g := (mkF m 56 #[r_ de, r_ b, i_ 0, i_ 7, r_ d, r_ rdt, i_ 0, i_ 0, i_ 18, u_, u_] [(.ref de), (.int 0), (.ref d), (.int 7), (.int 0), (.ref b), (.ref de)])) rfl rfl (hb hby d16_56)
  have P12 := oS (T11.setTop (mkF m 59 #[r_ de, r_ b, i_ 0, i_ 7, r_ d, r_ rdt, i_ 0, i_ 0, i_ 18, u_, u_] [(.int 1), (.int 0), (.ref d), (.int 7), (.int 0), (.ref b), (.ref de)])) P10 (fun t_ k_ => st11 t_ k_)
  have P13 := oS (T11.setTop (mkF m 60 #[r_ de, r_ b, i_ 0, i_ 7, r_ d, r_ rdt, i_ 0, i_ 0, i_ 18, u_, u_] [(.ref de), (.int 1), (.int 0), (.ref d), (.int 7), (.int 0), (.ref b), (.ref de)])) P12 (by
    intro _ k_
    refine aN_ X11 hx hby d16_59 rfl rfl ?_
    exact k_)
  obtain ⟨T14, X14, e14, st14⟩ := getF X11 hx hZ hown (host := "") (Or.inl (own_w hw 95 rfl)) Via.refl e11 Fm (g := (mkF m 60 #[r_ de, r_ b, i_ 0, i_ 7, r_ d, r_ rdt, i_ 0, i_ 0, i_ 18, u_, u_] [(.ref de), (.int 1), (.int 0), (.ref d), (.int 7), (.int 0), (.ref b), (.ref de)])) rfl rfl (hb hby d16_60)
  have P15 := oS (T14.setTop (mkF m 63 #[r_ de, r_ b, i_ 0, i_ 7, r_ d, r_ rdt, i_ 0, i_ 0, i_ 18, u_, u_] [(.int 0), (.int 1), (.int 0), (.ref d), (.int 7), (.int 0), (.ref b), (.ref de)])) P13 (fun t_ k_ => st14 t_ k_)
  obtain ⟨_, T16, L16, X16, hQ16, P16c⟩ := own_cP (W := 0) (rm_dblk l Z a0 hw [] de b k d kd (7 : Int32) (5 : Int32) [(.int x4), (.int x5), (.int x6)] [(.int 0), (.int 0)] x0 x1 x2 x3 s0 s1 s2 s3 y0 y1 y2 rdt kdt h0 n0 Z0 O Sdt Vdt Vb Vd nbd gd (by decide) hor (by decide) (by decide) (by decide) (by decide) (by decide) (by decide) (by decide) hj0 hd0 hj1 hd1 hj2 hd2 hj3 hd3 hy0 hy1 hy2) X14 hx hZ (fun _ _ => trivial) hown Ed (own_w hw 172 rfl) (own_w hw 174 rfl) (own_w hw 175 rfl) (own_w hw 173 rfl) (own_w hw 47 rfl) (own_w hw 176 rfl) (by decide) P15 hml rfl [(.ref b), (.int 0), (.int 7), (.ref d), (.int 0), (.int 1), (.int 0)] [] rfl rfl rfl pd22 rfl (hb hby d16_63) e14 (by decide)
  obtain ⟨rfl, N16q, K16, f17⟩ := hQ16
  have N16 := Fr.app N0 N16q
  have f18 := O.keep K16 (allS gd all0)
  have f21 := Vb.keep K16 (ninS nbd nin0)
  have f23 := (Keep.refl h0 [d]).trans K16 (allS (Or.inl (List.mem_of_getElem? (i := 0) rfl)) all0)
  have P26 := own_to (C := T16.setTop (mkF m 66 #[r_ de, r_ b, i_ 0, i_ 7, r_ d, r_ rdt, i_ 0, i_ 0, i_ 18, u_, u_] [(.int 3)])) P16c
  have f17_ : Arv Z T16.heap d kd .byte (5 : Int32) [(.int y0), (.int y1), (.int y2), (.int 0), (.int 0)] (.int 0) := f17
  have P27 := oS (T16.setTop (mkF m 90 #[r_ de, r_ b, i_ 4, i_ 7, r_ d, r_ rdt, i_ 3, i_ 0, i_ 18, i_ 3, i_ 4] [])) P26 (by
    intro _ k_
    refine is_ X16 hx hby d16_66 (l' := #[r_ de, r_ b, i_ 0, i_ 7, r_ d, r_ rdt, i_ 0, i_ 0, i_ 18, i_ 3, u_]) rfl ?_
    refine il_ X16 hx hby d16_68 rfl ?_
    refine XS.iconst X16.here hx rfl (hb hby d16_70) ?_
    refine XS.iadd X16.here hx rfl (hb hby d16_71) rfl ?_
    show Steps p.tables e below (T16.setTop (mkF m 72 #[r_ de, r_ b, i_ 0, i_ 7, r_ d, r_ rdt, i_ 0, i_ 0, i_ 18, i_ 3, u_] [(.int 5)])) _
    refine XS.iconst X16.here hx rfl (hb hby d16_72) ?_
    refine XS.idiv X16.here hx rfl (hb hby d16_73) rfl (by decide) ?_
    show Steps p.tables e below (T16.setTop (mkF m 74 #[r_ de, r_ b, i_ 0, i_ 7, r_ d, r_ rdt, i_ 0, i_ 0, i_ 18, i_ 3, u_] [(.int 1)])) _
    refine XS.iconst X16.here hx rfl (hb hby d16_74) ?_
    refine XS.imul X16.here hx rfl (hb hby d16_75) rfl ?_
    show Steps p.tables e below (T16.setTop (mkF m 76 #[r_ de, r_ b, i_ 0, i_ 7, r_ d, r_ rdt, i_ 0, i_ 0, i_ 18, i_ 3, u_] [(.int 4)])) _
    refine is_ X16 hx hby d16_76 (l' := #[r_ de, r_ b, i_ 0, i_ 7, r_ d, r_ rdt, i_ 0, i_ 0, i_ 18, i_ 3, i_ 4]) rfl ?_
    refine iN_ X16 hx hby d16_78 rfl ?_
    refine il_ X16 hx hby d16_79 rfl ?_
    refine XS.iadd X16.here hx rfl (hb hby d16_81) rfl ?_
    show Steps p.tables e below (T16.setTop (mkF m 82 #[r_ de, r_ b, i_ 0, i_ 7, r_ d, r_ rdt, i_ 0, i_ 0, i_ 18, i_ 3, i_ 4] [(.int 4)])) _
    refine XS.istoreN X16.here hx rfl (hb hby d16_82) rfl (l' := #[r_ de, r_ b, i_ 4, i_ 7, r_ d, r_ rdt, i_ 0, i_ 0, i_ 18, i_ 3, i_ 4]) rfl ?_
    refine il_ X16 hx hby d16_83 rfl ?_
    refine il_ X16 hx hby d16_85 rfl ?_
    refine XS.iadd X16.here hx rfl (hb hby d16_87) rfl ?_
    show Steps p.tables e below (T16.setTop (mkF m 88 #[r_ de, r_ b, i_ 4, i_ 7, r_ d, r_ rdt, i_ 0, i_ 0, i_ 18, i_ 3, i_ 4] [(.int 3)])) _
    refine is_ X16 hx hby d16_88 (l' := #[r_ de, r_ b, i_ 4, i_ 7, r_ d, r_ rdt, i_ 3, i_ 0, i_ 18, i_ 3, i_ 4]) rfl ?_
    exact k_)
  have P28 := oS (T16.setTop (mkF m 227 #[r_ de, r_ b, i_ 5, i_ 7, r_ d, r_ rdt, i_ 3, i_ ((0 : Int32) ||| (s4 <<< ((18 : Int32) &&& 31))), i_ 12, i_ s4, i_ 4] [])) P27 (own_dt X16 hx hby hZ (rfl : T16.heap = _) f21 (Vdt.ext f18.2) (by decide) (by rfl) hj4 hd4 hs4 (One.val rfl))
  have P29 := oS (T16.setTop (mkF m 229 #[r_ de, r_ b, i_ 5, i_ 7, r_ d, r_ rdt, i_ 3, i_ ((0 : Int32) ||| (s4 <<< ((18 : Int32) &&& 31))), i_ 12, i_ s4, i_ 4] [(.int 12)])) P28 (by
    intro _ k_
    refine il_ X16 hx hby d16_227 rfl ?_
    exact k_)
  have P30 := oS (T16.setTop (mkF m 30 #[r_ de, r_ b, i_ 5, i_ 7, r_ d, r_ rdt, i_ 3, i_ ((0 : Int32) ||| (s4 <<< ((18 : Int32) &&& 31))), i_ 12, i_ s4, i_ 4] [(.int 7), (.int 5)])) P29 (by
    intro _ k_
    refine fY_ X16 hx hby d16_229 (pc := 229) (pc' := 278) ((if0 _ _).trans (flt (by decide : ¬ ((12 : Int32) < (0 : Int32)))).2.1) (by decide) ?_
    refine gt_ X16 hx hby d16_278 (pc := 278) (pc' := 28) (by decide) ?_
    refine iN_ X16 hx hby d16_28 rfl ?_
    refine iN_ X16 hx hby d16_29 rfl ?_
    exact k_)
  have P31 := oS (T16.setTop (mkF m 37 #[r_ de, r_ b, i_ 5, i_ 7, r_ d, r_ rdt, i_ 3, i_ ((0 : Int32) ||| (s4 <<< ((18 : Int32) &&& 31))), i_ 12, i_ s4, i_ 4] [(.int 18), (.int 12)])) P30 (by
    intro _ k_
    refine XS.icmpNo X16.here hx rfl (hb hby d16_30) rfl (tlt (by decide : (5 : Int32) < (7 : Int32))).2.1 ?_
    refine il_ X16 hx hby d16_33 rfl ?_
    refine XS.bipush X16.here hx rfl (hb hby d16_35) ?_
    exact k_)
  have P32 := oS (T16.setTop (mkF m 90 #[r_ de, r_ b, i_ 5, i_ 7, r_ d, r_ rdt, i_ 3, i_ ((0 : Int32) ||| (s4 <<< ((18 : Int32) &&& 31))), i_ 12, i_ s4, i_ 4] [])) P31 (by
    intro _ k_
    refine cY_ X16 hx hby d16_37 (pc := 37) (pc' := 90) (feq (by decide : ¬ ((12 : Int32) = (18 : Int32)))).2 (by decide) ?_
    exact k_)
  have P33 := oS (T16.setTop (mkF m 227 #[r_ de, r_ b, i_ 6, i_ 7, r_ d, r_ rdt, i_ 3, i_ (((0 : Int32) ||| (s4 <<< ((18 : Int32) &&& 31))) ||| (s5 <<< ((12 : Int32) &&& 31))), i_ 6, i_ s5, i_ 4] [])) P32 (own_dt X16 hx hby hZ (rfl : T16.heap = _) f21 (Vdt.ext f18.2) (by decide) (by rfl) hj5 hd5 hs5 (One.val rfl))
  have P34 := oS (T16.setTop (mkF m 229 #[r_ de, r_ b, i_ 6, i_ 7, r_ d, r_ rdt, i_ 3, i_ (((0 : Int32) ||| (s4 <<< ((18 : Int32) &&& 31))) ||| (s5 <<< ((12 : Int32) &&& 31))), i_ 6, i_ s5, i_ 4] [(.int 6)])) P33 (by
    intro _ k_
    refine il_ X16 hx hby d16_227 rfl ?_
    exact k_)
  have P35 := oS (T16.setTop (mkF m 30 #[r_ de, r_ b, i_ 6, i_ 7, r_ d, r_ rdt, i_ 3, i_ (((0 : Int32) ||| (s4 <<< ((18 : Int32) &&& 31))) ||| (s5 <<< ((12 : Int32) &&& 31))), i_ 6, i_ s5, i_ 4] [(.int 7), (.int 6)])) P34 (by
    intro _ k_
    refine fY_ X16 hx hby d16_229 (pc := 229) (pc' := 278) ((if0 _ _).trans (flt (by decide : ¬ ((6 : Int32) < (0 : Int32)))).2.1) (by decide) ?_
    refine gt_ X16 hx hby d16_278 (pc := 278) (pc' := 28) (by decide) ?_
    refine iN_ X16 hx hby d16_28 rfl ?_
    refine iN_ X16 hx hby d16_29 rfl ?_
    exact k_)
  have P36 := oS (T16.setTop (mkF m 37 #[r_ de, r_ b, i_ 6, i_ 7, r_ d, r_ rdt, i_ 3, i_ (((0 : Int32) ||| (s4 <<< ((18 : Int32) &&& 31))) ||| (s5 <<< ((12 : Int32) &&& 31))), i_ 6, i_ s5, i_ 4] [(.int 18), (.int 6)])) P35 (by
    intro _ k_
    refine XS.icmpNo X16.here hx rfl (hb hby d16_30) rfl (tlt (by decide : (6 : Int32) < (7 : Int32))).2.1 ?_
    refine il_ X16 hx hby d16_33 rfl ?_
    refine XS.bipush X16.here hx rfl (hb hby d16_35) ?_
    exact k_)
  have P37 := oS (T16.setTop (mkF m 90 #[r_ de, r_ b, i_ 6, i_ 7, r_ d, r_ rdt, i_ 3, i_ (((0 : Int32) ||| (s4 <<< ((18 : Int32) &&& 31))) ||| (s5 <<< ((12 : Int32) &&& 31))), i_ 6, i_ s5, i_ 4] [])) P36 (by
    intro _ k_
    refine cY_ X16 hx hby d16_37 (pc := 37) (pc' := 90) (feq (by decide : ¬ ((6 : Int32) = (18 : Int32)))).2 (by decide) ?_
    exact k_)
  have P38 := oS (T16.setTop (mkF m 227 #[r_ de, r_ b, i_ 7, i_ 7, r_ d, r_ rdt, i_ 3, i_ ((((0 : Int32) ||| (s4 <<< ((18 : Int32) &&& 31))) ||| (s5 <<< ((12 : Int32) &&& 31))) ||| (s6 <<< ((6 : Int32) &&& 31))), i_ 0, i_ s6, i_ 4] [])) P37 (own_dt X16 hx hby hZ (rfl : T16.heap = _) f21 (Vdt.ext f18.2) (by decide) (by rfl) hj6 hd6 hs6 (One.val rfl))
  have P39 := oS (T16.setTop (mkF m 229 #[r_ de, r_ b, i_ 7, i_ 7, r_ d, r_ rdt, i_ 3, i_ ((((0 : Int32) ||| (s4 <<< ((18 : Int32) &&& 31))) ||| (s5 <<< ((12 : Int32) &&& 31))) ||| (s6 <<< ((6 : Int32) &&& 31))), i_ 0, i_ s6, i_ 4] [(.int 0)])) P38 (by
    intro _ k_
    refine il_ X16 hx hby d16_227 rfl ?_
    exact k_)
  have P40 := oS (T16.setTop (mkF m 30 #[r_ de, r_ b, i_ 7, i_ 7, r_ d, r_ rdt, i_ 3, i_ ((((0 : Int32) ||| (s4 <<< ((18 : Int32) &&& 31))) ||| (s5 <<< ((12 : Int32) &&& 31))) ||| (s6 <<< ((6 : Int32) &&& 31))), i_ 0, i_ s6, i_ 4] [(.int 7), (.int 7)])) P39 (by
    intro _ k_
    refine fY_ X16 hx hby d16_229 (pc := 229) (pc' := 278) ((if0 _ _).trans (flt (by decide : ¬ ((0 : Int32) < (0 : Int32)))).2.1) (by decide) ?_
    refine gt_ X16 hx hby d16_278 (pc := 278) (pc' := 28) (by decide) ?_
    refine iN_ X16 hx hby d16_28 rfl ?_
    refine iN_ X16 hx hby d16_29 rfl ?_
    exact k_)
  have P41 := oS (T16.setTop (mkF m 285 #[r_ de, r_ b, i_ 7, i_ 7, r_ d, r_ rdt, i_ 3, i_ ((((0 : Int32) ||| (s4 <<< ((18 : Int32) &&& 31))) ||| (s5 <<< ((12 : Int32) &&& 31))) ||| (s6 <<< ((6 : Int32) &&& 31))), i_ 0, i_ s6, i_ 4] [(.int 6), (.int 0)])) P40 (by
    intro _ k_
    refine cY_ X16 hx hby d16_30 (pc := 30) (pc' := 281) (flt (by decide : ¬ ((7 : Int32) < (7 : Int32)))).2.1 (by decide) ?_
    refine il_ X16 hx hby d16_281 rfl ?_
    refine XS.bipush X16.here hx rfl (hb hby d16_283) ?_
    exact k_)
  have P42 := oS (T16.setTop (mkF m 307 #[r_ de, r_ b, i_ 7, i_ 7, r_ d, r_ rdt, i_ 3, i_ ((((0 : Int32) ||| (s4 <<< ((18 : Int32) &&& 31))) ||| (s5 <<< ((12 : Int32) &&& 31))) ||| (s6 <<< ((6 : Int32) &&& 31))), i_ 0, i_ s6, i_ 4] [(.int 0)])) P41 (by
    intro _ k_
    refine cY_ X16 hx hby d16_285 (pc := 285) (pc' := 305) (feq (by decide : ¬ ((0 : Int32) = (6 : Int32)))).2 (by decide) ?_
    refine il_ X16 hx hby d16_305 rfl ?_
    exact k_)
  have P43 := oS (T16.setTop (mkF m 323 #[r_ de, r_ b, i_ 7, i_ 7, r_ d, r_ rdt, i_ 4, i_ ((((0 : Int32) ||| (s4 <<< ((18 : Int32) &&& 31))) ||| (s5 <<< ((12 : Int32) &&& 31))) ||| (s6 <<< ((6 : Int32) &&& 31))), i_ 0, i_ s6, i_ 4] [(.int ((((((0 : Int32) ||| (s4 <<< ((18 : Int32) &&& 31))) ||| (s5 <<< ((12 : Int32) &&& 31))) ||| (s6 <<< ((6 : Int32) &&& 31))) >>> ((16 : Int32) &&& 31)).toInt8.toInt32)), (.int 3), (.ref d)])) P42 (by
    intro _ k_
    refine XS.ifNo X16.here hx rfl (hb hby d16_307) rfl ((if0 _ _).trans (teq (by decide : (0 : Int32) = (0 : Int32))).2) ?_
    refine a_ X16 hx hby d16_310 rfl rfl ?_
    refine il_ X16 hx hby d16_312 rfl ?_
    refine XS.iinc X16.here hx rfl (hb hby d16_314) rfl (l' := #[r_ de, r_ b, i_ 7, i_ 7, r_ d, r_ rdt, i_ 4, i_ ((((0 : Int32) ||| (s4 <<< ((18 : Int32) &&& 31))) ||| (s5 <<< ((12 : Int32) &&& 31))) ||| (s6 <<< ((6 : Int32) &&& 31))), i_ 0, i_ s6, i_ 4]) rfl ?_
    show Steps p.tables e below (T16.setTop (mkF m 317 #[r_ de, r_ b, i_ 7, i_ 7, r_ d, r_ rdt, i_ 4, i_ ((((0 : Int32) ||| (s4 <<< ((18 : Int32) &&& 31))) ||| (s5 <<< ((12 : Int32) &&& 31))) ||| (s6 <<< ((6 : Int32) &&& 31))), i_ 0, i_ s6, i_ 4] [(.int 3), (.ref d)])) _
    refine il_ X16 hx hby d16_317 rfl ?_
    refine XS.bipush X16.here hx rfl (hb hby d16_319) ?_
    refine XS.ishr X16.here hx rfl (hb hby d16_321) rfl ?_
    refine XS.i2b X16.here hx rfl (hb hby d16_322) rfl ?_
    exact k_)
  obtain ⟨cl44, Ar44, q44, S44, M44, H44, G44⟩ := id f17_
  obtain ⟨T45, h45, X45, e45, W45, st45⟩ := stB X16 hx hZ rfl Ar44 (j := (3 : Int32)) (inb_of S44 (by decide : ¬ (3 : Int32) < 0 ∧ (3 : Int32) < (5 : Int32))) (g := (mkF m 323 #[r_ de, r_ b, i_ 7, i_ 7, r_ d, r_ rdt, i_ 4, i_ ((((0 : Int32) ||| (s4 <<< ((18 : Int32) &&& 31))) ||| (s5 <<< ((12 : Int32) &&& 31))) ||| (s6 <<< ((6 : Int32) &&& 31))), i_ 0, i_ s6, i_ 4] [(.int ((((((0 : Int32) ||| (s4 <<< ((18 : Int32) &&& 31))) ||| (s5 <<< ((12 : Int32) &&& 31))) ||| (s6 <<< ((6 : Int32) &&& 31))) >>> ((16 : Int32) &&& 31)).toInt8.toInt32)), (.int 3), (.ref d)])) rfl rfl (hb hby d16_323)
  have f50 := f23.wr W45 (Or.inl (List.mem_of_getElem? (i := 0) rfl))
  have V45 : Arv Z h45 d kd .byte (5 : Int32) [(.int y0), (.int y1), (.int y2), (.int ((((((0 : Int32) ||| (s4 <<< ((18 : Int32) &&& 31))) ||| (s5 <<< ((12 : Int32) &&& 31))) ||| (s6 <<< ((6 : Int32) &&& 31))) >>> ((16 : Int32) &&& 31)).toInt8.toInt32).toInt8.toInt32), (.int 0)] (.int 0) := Arv.set Ar44 q44 S44 M44 H44 G44 (fits_nar_byte _) W45 3 rfl (Nat.le_of_ble_eq_true rfl)
  have N45 := Fr.snoc X45 N16 gd
  have P54 := oS (T45.setTop (mkF m 324 #[r_ de, r_ b, i_ 7, i_ 7, r_ d, r_ rdt, i_ 4, i_ ((((0 : Int32) ||| (s4 <<< ((18 : Int32) &&& 31))) ||| (s5 <<< ((12 : Int32) &&& 31))) ||| (s6 <<< ((6 : Int32) &&& 31))), i_ 0, i_ s6, i_ 4] [])) P43 (fun t_ k_ => st45 t_ k_)
  have P55 := oS (T45.setTop (mkF m 337 #[r_ de, r_ b, i_ 7, i_ 7, r_ d, r_ rdt, i_ 5, i_ ((((0 : Int32) ||| (s4 <<< ((18 : Int32) &&& 31))) ||| (s5 <<< ((12 : Int32) &&& 31))) ||| (s6 <<< ((6 : Int32) &&& 31))), i_ 0, i_ s6, i_ 4] [(.int ((((((0 : Int32) ||| (s4 <<< ((18 : Int32) &&& 31))) ||| (s5 <<< ((12 : Int32) &&& 31))) ||| (s6 <<< ((6 : Int32) &&& 31))) >>> ((8 : Int32) &&& 31)).toInt8.toInt32)), (.int 4), (.ref d)])) P54 (by
    intro _ k_
    refine a_ X45 hx hby d16_324 rfl rfl ?_
    refine il_ X45 hx hby d16_326 rfl ?_
    refine XS.iinc X45.here hx rfl (hb hby d16_328) rfl (l' := #[r_ de, r_ b, i_ 7, i_ 7, r_ d, r_ rdt, i_ 5, i_ ((((0 : Int32) ||| (s4 <<< ((18 : Int32) &&& 31))) ||| (s5 <<< ((12 : Int32) &&& 31))) ||| (s6 <<< ((6 : Int32) &&& 31))), i_ 0, i_ s6, i_ 4]) rfl ?_
    show Steps p.tables e below (T45.setTop (mkF m 331 #[r_ de, r_ b, i_ 7, i_ 7, r_ d, r_ rdt, i_ 5, i_ ((((0 : Int32) ||| (s4 <<< ((18 : Int32) &&& 31))) ||| (s5 <<< ((12 : Int32) &&& 31))) ||| (s6 <<< ((6 : Int32) &&& 31))), i_ 0, i_ s6, i_ 4] [(.int 4), (.ref d)])) _
    refine il_ X45 hx hby d16_331 rfl ?_
    refine XS.bipush X45.here hx rfl (hb hby d16_333) ?_
    refine XS.ishr X45.here hx rfl (hb hby d16_335) rfl ?_
    refine XS.i2b X45.here hx rfl (hb hby d16_336) rfl ?_
    exact k_)
  obtain ⟨cl56, Ar56, q56, S56, M56, H56, G56⟩ := id V45
  obtain ⟨T57, h57, X57, e57, W57, st57⟩ := stB X45 hx hZ e45 Ar56 (j := (4 : Int32)) (inb_of S56 (by decide : ¬ (4 : Int32) < 0 ∧ (4 : Int32) < (5 : Int32))) (g := (mkF m 337 #[r_ de, r_ b, i_ 7, i_ 7, r_ d, r_ rdt, i_ 5, i_ ((((0 : Int32) ||| (s4 <<< ((18 : Int32) &&& 31))) ||| (s5 <<< ((12 : Int32) &&& 31))) ||| (s6 <<< ((6 : Int32) &&& 31))), i_ 0, i_ s6, i_ 4] [(.int ((((((0 : Int32) ||| (s4 <<< ((18 : Int32) &&& 31))) ||| (s5 <<< ((12 : Int32) &&& 31))) ||| (s6 <<< ((6 : Int32) &&& 31))) >>> ((8 : Int32) &&& 31)).toInt8.toInt32)), (.int 4), (.ref d)])) rfl rfl (hb hby d16_337)
  have f62 := f50.wr W57 (Or.inl (List.mem_of_getElem? (i := 0) rfl))
  have V57 : Arv Z h57 d kd .byte (5 : Int32) [(.int y0), (.int y1), (.int y2), (.int ((((((0 : Int32) ||| (s4 <<< ((18 : Int32) &&& 31))) ||| (s5 <<< ((12 : Int32) &&& 31))) ||| (s6 <<< ((6 : Int32) &&& 31))) >>> ((16 : Int32) &&& 31)).toInt8.toInt32).toInt8.toInt32), (.int ((((((0 : Int32) ||| (s4 <<< ((18 : Int32) &&& 31))) ||| (s5 <<< ((12 : Int32) &&& 31))) ||| (s6 <<< ((6 : Int32) &&& 31))) >>> ((8 : Int32) &&& 31)).toInt8.toInt32).toInt8.toInt32)] (.int 0) := Arv.set Ar56 q56 S56 M56 H56 G56 (fits_nar_byte _) W57 4 rfl (Nat.le_of_ble_eq_true rfl)
  have N57 := Fr.snoc X57 N45 gd
  have P66 := oS (T57.setTop (mkF m 338 #[r_ de, r_ b, i_ 7, i_ 7, r_ d, r_ rdt, i_ 5, i_ ((((0 : Int32) ||| (s4 <<< ((18 : Int32) &&& 31))) ||| (s5 <<< ((12 : Int32) &&& 31))) ||| (s6 <<< ((6 : Int32) &&& 31))), i_ 0, i_ s6, i_ 4] [])) P55 (fun t_ k_ => st57 t_ k_)
  have P67 := oS (T57.setTop (mkF m 360 #[r_ de, r_ b, i_ 7, i_ 7, r_ d, r_ rdt, i_ 5, i_ ((((0 : Int32) ||| (s4 <<< ((18 : Int32) &&& 31))) ||| (s5 <<< ((12 : Int32) &&& 31))) ||| (s6 <<< ((6 : Int32) &&& 31))), i_ 0, i_ s6, i_ 4] [(.int 7), (.int 7)])) P66 (by
    intro _ k_
    refine gt_ X57 hx hby d16_338 (pc := 338) (pc' := 358) (by decide) ?_
    refine iN_ X57 hx hby d16_358 rfl ?_
    refine iN_ X57 hx hby d16_359 rfl ?_
    exact k_)
  have P68 := oS (T57.setTop (mkF m 418 #[r_ de, r_ b, i_ 7, i_ 7, r_ d, r_ rdt, i_ 5, i_ ((((0 : Int32) ||| (s4 <<< ((18 : Int32) &&& 31))) ||| (s5 <<< ((12 : Int32) &&& 31))) ||| (s6 <<< ((6 : Int32) &&& 31))), i_ 0, i_ s6, i_ 4] [(.int 5)])) P67 (by
    intro _ k_
    refine cY_ X57 hx hby d16_360 (pc := 360) (pc' := 416) (flt (by decide : ¬ ((7 : Int32) < (7 : Int32)))).2.1 (by decide) ?_
    refine il_ X57 hx hby d16_416 rfl ?_
    exact k_)
  rw [hy3, hy4] at V57
  exact own_out X57 hlk (v := some (.int 5)) (own_hv hrt) P68 (fun _ q_ => retI X57 hx hrt (hb hby d16_418) q_) e57 ⟨rfl, N57, f62, V57⟩ (by decide)
theorem d22_0 : own_d cB22 0 (.aload_n 0) 1 := by decide +kernel
theorem d22_1 : own_d cB22 1 (.getfield 7) 3 := by decide +kernel
theorem d22_4 : own_d cB22 4 (.ifCond .eq 9) 3 := by decide +kernel
theorem d22_7 : own_d cB22 7 (.getstatic 111) 3 := by decide +kernel
theorem d22_10 : own_d cB22 10 (.goto 6) 3 := by decide +kernel
theorem d22_16 : own_d cB22 16 (.astore 5) 2 := by decide +kernel
theorem d22_18 : own_d cB22 18 (.iload_n 2) 1 := by decide +kernel
theorem d22_19 : own_d cB22 19 (.istore 6) 2 := by decide +kernel
theorem d22_21 : own_d cB22 21 (.iload_n 3) 1 := by decide +kernel
theorem d22_22 : own_d cB22 22 (.iload_n 2) 1 := by decide +kernel
theorem d22_23 : own_d cB22 23 (.isub) 1 := by decide +kernel
theorem d22_24 : own_d cB22 24 (.iconst 3) 1 := by decide +kernel
theorem d22_25 : own_d cB22 25 (.idiv) 1 := by decide +kernel
theorem d22_26 : own_d cB22 26 (.iconst 3) 1 := by decide +kernel
theorem d22_27 : own_d cB22 27 (.imul) 1 := by decide +kernel
theorem d22_28 : own_d cB22 28 (.istore 7) 2 := by decide +kernel
theorem d22_30 : own_d cB22 30 (.iload_n 2) 1 := by decide +kernel
theorem d22_31 : own_d cB22 31 (.iload 7) 2 := by decide +kernel
theorem d22_33 : own_d cB22 33 (.iadd) 1 := by decide +kernel
theorem d22_34 : own_d cB22 34 (.istore 8) 2 := by decide +kernel
theorem d22_36 : own_d cB22 36 (.aload_n 0) 1 := by decide +kernel
theorem d22_37 : own_d cB22 37 (.getfield 17) 3 := by decide +kernel
theorem d22_40 : own_d cB22 40 (.ifCond .le 26) 3 := by decide +kernel
theorem d22_66 : own_d cB22 66 (.iconst 0) 1 := by decide +kernel
theorem d22_67 : own_d cB22 67 (.istore 9) 2 := by decide +kernel
theorem d22_69 : own_d cB22 69 (.iload 6) 2 := by decide +kernel
theorem d22_71 : own_d cB22 71 (.iload 8) 2 := by decide +kernel
theorem d22_73 : own_d cB22 73 (.if_icmp .ge 116) 3 := by decide +kernel
theorem d22_189 : own_d cB22 189 (.iload 6) 2 := by decide +kernel
theorem d22_191 : own_d cB22 191 (.iload_n 3) 1 := by decide +kernel
theorem d22_192 : own_d cB22 192 (.if_icmp .ge 160) 3 := by decide +kernel
theorem d22_352 : own_d cB22 352 (.iload 9) 2 := by decide +kernel
theorem d22_354 : own_d cB22 354 (.ireturn) 1 := by decide +kernel
theorem ef22RRIIR (m : MethodId) (x0 : Addr) (x1 : Addr) (x2 : Int32) (x3 : Int32) (x4 : Addr) : entryFrame m #[(.ref x0), (.ref x1), (.int x2), (.int x3), (.ref x4)] 16 = mkF m 0 #[r_ x0, r_ x1, i_ x2, i_ x3, r_ x4, u_, u_, u_, u_, u_, u_, u_, u_, u_, u_, u_] [] := by first | (simp [entryFrame, mkF, argsToLocals, Value.category]; done) | rfl
set_option maxRecDepth 65536 in
set_option maxHeartbeats 40000000 in
theorem rm_enc0_0 (l : Launch) (Z : State) (a0 : Array Value) (hw : ∀ d ∈ tables_1, d.before a0 Z = true) (ret_ : Addr) (ket : ClassId) (Set : Sta Z Z.heap "java/util/Base64$Encoder" "toBase64URL" "[C" (.ref ret_)) (Vet : Arv Z Z.heap ret_ ket .char (64 : Int32) own_enc (.int 0)) :
    HE0 l Z (0 : Int32) (0 : Int32) [] [] := by
  intro en b k d kd h0 n0 Z0 O Fp Fl Fe Ee Vb Vd0 nbd gd nen
  refine own_in "java/util/Base64$Encoder" rfl (plainFor_of_name pn4) hisR (fun m => ef22RRIIR m en b (0 : Int32) (0 : Int32) d) ?_
  intro p e s m below meth c s₁ A_ hx hby hml hown hnm hrt hlk hZ _ X0 e0 pre0
  have N0 := Fr.nil n0
  have Vd : Arv Z h0 d kd .byte (0 : Int32) [] (.int 0) := Vd0.pad (pad_rep [] _ 0)
  have P1 := oS (s₁.setTop (mkF m 1 #[r_ en, r_ b, i_ 0, i_ 0, r_ d, u_, u_, u_, u_, u_, u_, u_, u_, u_, u_, u_] [(.ref en)])) pre0 (by
    intro _ k_
    refine aN_ X0 hx hby d22_0 rfl rfl ?_
    exact k_)
  obtain ⟨T2, X2, e2, st2⟩ := getF X0 hx hZ hown (host := "") (Or.inl (own_w hw 141 rfl)) Via.refl e0 Fe (g := (mkF m 1 #[r_ en, r_ b, i_ 0, i_ 0, r_ d, u_, u_, u_, u_, u_, u_, u_, u_, u_, u_, u_] [(.ref en)])) rfl rfl (hb hby d22_1)
  have P3 := oS (T2.setTop (mkF m 4 #[r_ en, r_ b, i_ 0, i_ 0, r_ d, u_, u_, u_, u_, u_, u_, u_, u_, u_, u_, u_] [(.int 1)])) P1 (fun t_ k_ => st2 t_ k_)
  have P4 := oS (T2.setTop (mkF m 7 #[r_ en, r_ b, i_ 0, i_ 0, r_ d, u_, u_, u_, u_, u_, u_, u_, u_, u_, u_, u_] [])) P3 (by
    intro _ k_
    refine XS.ifNo X2.here hx rfl (hb hby d22_4) rfl ((if0 _ _).trans (feq (by decide : ¬ ((1 : Int32) = (0 : Int32)))).1) ?_
    exact k_)
  obtain ⟨T5, X5, e5, st5⟩ := getS2 X2 hx hZ hown (host := "") (Or.inl (own_w hw 143 rfl)) Via.refl e2 (Set.ext O.2) (g := (mkF m 7 #[r_ en, r_ b, i_ 0, i_ 0, r_ d, u_, u_, u_, u_, u_, u_, u_, u_, u_, u_, u_] [])) rfl (hb hby d22_7)
  have P6 := oS (T5.setTop (mkF m 10 #[r_ en, r_ b, i_ 0, i_ 0, r_ d, u_, u_, u_, u_, u_, u_, u_, u_, u_, u_, u_] [(.ref ret_)])) P4 (fun t_ k_ => st5 t_ k_)
  have P7 := oS (T5.setTop (mkF m 37 #[r_ en, r_ b, i_ 0, i_ 0, r_ d, r_ ret_, i_ 0, i_ 0, i_ 0, u_, u_, u_, u_, u_, u_, u_] [(.ref en)])) P6 (by
    intro _ k_
    refine gt_ X5 hx hby d22_10 (pc := 10) (pc' := 16) (by decide) ?_
    refine XS.astore X5.here hx rfl (hb hby d22_16) rfl rfl (l' := #[r_ en, r_ b, i_ 0, i_ 0, r_ d, r_ ret_, u_, u_, u_, u_, u_, u_, u_, u_, u_, u_]) rfl ?_
    refine iN_ X5 hx hby d22_18 rfl ?_
    refine is_ X5 hx hby d22_19 (l' := #[r_ en, r_ b, i_ 0, i_ 0, r_ d, r_ ret_, i_ 0, u_, u_, u_, u_, u_, u_, u_, u_, u_]) rfl ?_
    refine iN_ X5 hx hby d22_21 rfl ?_
    refine iN_ X5 hx hby d22_22 rfl ?_
    refine XS.isub X5.here hx rfl (hb hby d22_23) rfl ?_
    show Steps p.tables e below (T5.setTop (mkF m 24 #[r_ en, r_ b, i_ 0, i_ 0, r_ d, r_ ret_, i_ 0, u_, u_, u_, u_, u_, u_, u_, u_, u_] [(.int 0)])) _
    refine XS.iconst X5.here hx rfl (hb hby d22_24) ?_
    refine XS.idiv X5.here hx rfl (hb hby d22_25) rfl (by decide) ?_
    show Steps p.tables e below (T5.setTop (mkF m 26 #[r_ en, r_ b, i_ 0, i_ 0, r_ d, r_ ret_, i_ 0, u_, u_, u_, u_, u_, u_, u_, u_, u_] [(.int 0)])) _
    refine XS.iconst X5.here hx rfl (hb hby d22_26) ?_
    refine XS.imul X5.here hx rfl (hb hby d22_27) rfl ?_
    show Steps p.tables e below (T5.setTop (mkF m 28 #[r_ en, r_ b, i_ 0, i_ 0, r_ d, r_ ret_, i_ 0, u_, u_, u_, u_, u_, u_, u_, u_, u_] [(.int 0)])) _
    refine is_ X5 hx hby d22_28 (l' := #[r_ en, r_ b, i_ 0, i_ 0, r_ d, r_ ret_, i_ 0, i_ 0, u_, u_, u_, u_, u_, u_, u_, u_]) rfl ?_
    refine iN_ X5 hx hby d22_30 rfl ?_
    refine il_ X5 hx hby d22_31 rfl ?_
    refine XS.iadd X5.here hx rfl (hb hby d22_33) rfl ?_
    show Steps p.tables e below (T5.setTop (mkF m 34 #[r_ en, r_ b, i_ 0, i_ 0, r_ d, r_ ret_, i_ 0, i_ 0, u_, u_, u_, u_, u_, u_, u_, u_] [(.int 0)])) _
    refine is_ X5 hx hby d22_34 (l' := #[r_ en, r_ b, i_ 0, i_ 0, r_ d, r_ ret_, i_ 0, i_ 0, i_ 0, u_, u_, u_, u_, u_, u_, u_]) rfl ?_
    refine aN_ X5 hx hby d22_36 rfl rfl ?_
    exact k_)
  obtain ⟨T8, X8, e8, st8⟩ := getF X5 hx hZ hown (host := "") (Or.inl (own_w hw 134 rfl)) Via.refl e5 Fl (g := (mkF m 37 #[r_ en, r_ b, i_ 0, i_ 0, r_ d, r_ ret_, i_ 0, i_ 0, i_ 0, u_, u_, u_, u_, u_, u_, u_] [(.ref en)])) rfl rfl (hb hby d22_37)
  have P9 := oS (T8.setTop (mkF m 40 #[r_ en, r_ b, i_ 0, i_ 0, r_ d, r_ ret_, i_ 0, i_ 0, i_ 0, u_, u_, u_, u_, u_, u_, u_] [(.int (-1 : Int32))])) P7 (fun t_ k_ => st8 t_ k_)
  have P10 := oS (T8.setTop (mkF m 73 #[r_ en, r_ b, i_ 0, i_ 0, r_ d, r_ ret_, i_ 0, i_ 0, i_ 0, i_ 0, u_, u_, u_, u_, u_, u_] [(.int 0), (.int 0)])) P9 (by
    intro _ k_
    refine fY_ X8 hx hby d22_40 (pc := 40) (pc' := 66) ((if0 _ _).trans (flt (by decide : ¬ ((0 : Int32) < (-1 : Int32)))).2.2.2) (by decide) ?_
    refine XS.iconst X8.here hx rfl (hb hby d22_66) ?_
    refine is_ X8 hx hby d22_67 (l' := #[r_ en, r_ b, i_ 0, i_ 0, r_ d, r_ ret_, i_ 0, i_ 0, i_ 0, i_ 0, u_, u_, u_, u_, u_, u_]) rfl ?_
    refine il_ X8 hx hby d22_69 rfl ?_
    refine il_ X8 hx hby d22_71 rfl ?_
    exact k_)
  have P11 := oS (T8.setTop (mkF m 192 #[r_ en, r_ b, i_ 0, i_ 0, r_ d, r_ ret_, i_ 0, i_ 0, i_ 0, i_ 0, u_, u_, u_, u_, u_, u_] [(.int 0), (.int 0)])) P10 (by
    intro _ k_
    refine cY_ X8 hx hby d22_73 (pc := 73) (pc' := 189) (flt (by decide : ¬ ((0 : Int32) < (0 : Int32)))).2.1 (by decide) ?_
    refine il_ X8 hx hby d22_189 rfl ?_
    refine iN_ X8 hx hby d22_191 rfl ?_
    exact k_)
  have P12 := oS (T8.setTop (mkF m 354 #[r_ en, r_ b, i_ 0, i_ 0, r_ d, r_ ret_, i_ 0, i_ 0, i_ 0, i_ 0, u_, u_, u_, u_, u_, u_] [(.int 0)])) P11 (by
    intro _ k_
    refine cY_ X8 hx hby d22_192 (pc := 192) (pc' := 352) (flt (by decide : ¬ ((0 : Int32) < (0 : Int32)))).2.1 (by decide) ?_
    refine il_ X8 hx hby d22_352 rfl ?_
    exact k_)
  exact own_out X8 hlk (v := some (.int 0)) (own_hv hrt) P12 (fun _ q_ => retI X8 hx hrt (hb hby d22_354) q_) e8 ⟨rfl, N0, (Keep.refl h0 [d]), Vd⟩ (by decide)
theorem d22_195 : own_d cB22 195 (.aload_n 1) 1 := by decide +kernel
theorem d22_196 : own_d cB22 196 (.iload 6) 2 := by decide +kernel
theorem d22_198 : own_d cB22 198 (.iinc 6 1) 3 := by decide +kernel
theorem d22_201 : own_d cB22 201 (.baload) 1 := by decide +kernel
theorem d22_202 : own_d cB22 202 (.sipush 255) 3 := by decide +kernel
theorem d22_205 : own_d cB22 205 (.iand) 1 := by decide +kernel
theorem d22_206 : own_d cB22 206 (.istore 10) 2 := by decide +kernel
theorem d22_208 : own_d cB22 208 (.aload 4) 2 := by decide +kernel
theorem d22_210 : own_d cB22 210 (.iload 9) 2 := by decide +kernel
theorem d22_212 : own_d cB22 212 (.iinc 9 1) 3 := by decide +kernel
theorem d22_215 : own_d cB22 215 (.aload 5) 2 := by decide +kernel
theorem d22_217 : own_d cB22 217 (.iload 10) 2 := by decide +kernel
theorem d22_219 : own_d cB22 219 (.iconst 2) 1 := by decide +kernel
theorem d22_220 : own_d cB22 220 (.ishr) 1 := by decide +kernel
theorem d22_221 : own_d cB22 221 (.caload) 1 := by decide +kernel
theorem d22_222 : own_d cB22 222 (.i2b) 1 := by decide +kernel
theorem d22_223 : own_d cB22 223 (.bastore) 1 := by decide +kernel
theorem d22_224 : own_d cB22 224 (.iload 6) 2 := by decide +kernel
theorem d22_226 : own_d cB22 226 (.iload_n 3) 1 := by decide +kernel
theorem d22_227 : own_d cB22 227 (.if_icmp .ne 52) 3 := by decide +kernel
theorem d22_230 : own_d cB22 230 (.aload 4) 2 := by decide +kernel
theorem d22_232 : own_d cB22 232 (.iload 9) 2 := by decide +kernel
theorem d22_234 : own_d cB22 234 (.iinc 9 1) 3 := by decide +kernel
theorem d22_237 : own_d cB22 237 (.aload 5) 2 := by decide +kernel
theorem d22_239 : own_d cB22 239 (.iload 10) 2 := by decide +kernel
theorem d22_241 : own_d cB22 241 (.iconst 4) 1 := by decide +kernel
theorem d22_242 : own_d cB22 242 (.ishl) 1 := by decide +kernel
theorem d22_243 : own_d cB22 243 (.bipush 63) 2 := by decide +kernel
theorem d22_245 : own_d cB22 245 (.iand) 1 := by decide +kernel
theorem d22_246 : own_d cB22 246 (.caload) 1 := by decide +kernel
theorem d22_247 : own_d cB22 247 (.i2b) 1 := by decide +kernel
theorem d22_248 : own_d cB22 248 (.bastore) 1 := by decide +kernel
theorem d22_249 : own_d cB22 249 (.aload_n 0) 1 := by decide +kernel
theorem d22_250 : own_d cB22 250 (.getfield 21) 3 := by decide +kernel
theorem d22_253 : own_d cB22 253 (.ifCond .eq 99) 3 := by decide +kernel
set_option maxRecDepth 65536 in
set_option maxHeartbeats 40000000 in
theorem rm_enc0_1 (l : Launch) (Z : State) (a0 : Array Value) (hw : ∀ d ∈ tables_1, d.before a0 Z = true) (y0 : Int32) (v0 : Int32) (v1 : Int32) (x0 : Int32) (x1 : Int32) (ret_ : Addr) (ket : ClassId) (Set : Sta Z Z.heap "java/util/Base64$Encoder" "toBase64URL" "[C" (.ref ret_)) (Vet : Arv Z Z.heap ret_ ket .char (64 : Int32) own_enc (.int 0)) (hk0 : ¬ ((y0 &&& 255) >>> ((2 : Int32) &&& 31)) < 0 ∧ ((y0 &&& 255) >>> ((2 : Int32) &&& 31)) < (64 : Int32)) (hv0 : own_enc.getD ((y0 &&& 255) >>> ((2 : Int32) &&& 31)).toNatClampNeg (.int 0) = .int v0) (hz0 : v0.toInt8.toInt32.toInt8.toInt32 = x0) (hk1 : ¬ (((y0 &&& 255) <<< ((4 : Int32) &&& 31)) &&& 63) < 0 ∧ (((y0 &&& 255) <<< ((4 : Int32) &&& 31)) &&& 63) < (64 : Int32)) (hv1 : own_enc.getD (((y0 &&& 255) <<< ((4 : Int32) &&& 31)) &&& 63).toNatClampNeg (.int 0) = .int v1) (hz1 : v1.toInt8.toInt32.toInt8.toInt32 = x1) :
    HE0 l Z (1 : Int32) (2 : Int32) [(.int y0)] [(.int x0), (.int x1)] := by
  intro en b k d kd h0 n0 Z0 O Fp Fl Fe Ee Vb Vd0 nbd gd nen
  refine own_in "java/util/Base64$Encoder" rfl (plainFor_of_name pn4) hisR (fun m => ef22RRIIR m en b (0 : Int32) (1 : Int32) d) ?_
  intro p e s m below meth c s₁ A_ hx hby hml hown hnm hrt hlk hZ _ X0 e0 pre0
  have N0 := Fr.nil n0
  have Vd : Arv Z h0 d kd .byte (2 : Int32) [(.int 0), (.int 0)] (.int 0) := Vd0.pad (pad_rep [] _ 2)
  have P1 := oS (s₁.setTop (mkF m 1 #[r_ en, r_ b, i_ 0, i_ 1, r_ d, u_, u_, u_, u_, u_, u_, u_, u_, u_, u_, u_] [(.ref en)])) pre0 (by
    intro _ k_
    refine aN_ X0 hx hby d22_0 rfl rfl ?_
    exact k_)
  obtain ⟨T2, X2, e2, st2⟩ := getF X0 hx hZ hown (host := "") (Or.inl (own_w hw 141 rfl)) Via.refl e0 Fe (g := (mkF m 1 #[r_ en, r_ b, i_ 0, i_ 1, r_ d, u_, u_, u_, u_, u_, u_, u_, u_, u_, u_, u_] [(.ref en)])) rfl rfl (hb hby d22_1)
  have P3 := oS (T2.setTop (mkF m 4 #[r_ en, r_ b, i_ 0, i_ 1, r_ d, u_, u_, u_, u_, u_, u_, u_, u_, u_, u_, u_] [(.int 1)])) P1 (fun t_ k_ => st2 t_ k_)
  have P4 := oS (T2.setTop (mkF m 7 #[r_ en, r_ b, i_ 0, i_ 1, r_ d, u_, u_, u_, u_, u_, u_, u_, u_, u_, u_, u_] [])) P3 (by
    intro _ k_
    refine XS.ifNo X2.here hx rfl (hb hby d22_4) rfl ((if0 _ _).trans (feq (by decide : ¬ ((1 : Int32) = (0 : Int32)))).1) ?_
    exact k_)
  obtain ⟨T5, X5, e5, st5⟩ := getS2 X2 hx hZ hown (host := "") (Or.inl (own_w hw 143 rfl)) Via.refl e2 (Set.ext O.2) (g := (mkF m 7 #[r_ en, r_ b, i_ 0, i_ 1, r_ d, u_, u_, u_, u_, u_, u_, u_, u_, u_, u_, u_] [])) rfl (hb hby d22_7)
  have P6 := oS (T5.setTop (mkF m 10 #[r_ en, r_ b, i_ 0, i_ 1, r_ d, u_, u_, u_, u_, u_, u_, u_, u_, u_, u_, u_] [(.ref ret_)])) P4 (fun t_ k_ => st5 t_ k_)
  have P7 := oS (T5.setTop (mkF m 37 #[r_ en, r_ b, i_ 0, i_ 1, r_ d, r_ ret_, i_ 0, i_ 0, i_ 0, u_, u_, u_, u_, u_, u_, u_] [(.ref en)])) P6 (by
    intro _ k_
    refine gt_ X5 hx hby d22_10 (pc := 10) (pc' := 16) (by decide) ?_
    refine XS.astore X5.here hx rfl (hb hby d22_16) rfl rfl (l' := #[r_ en, r_ b, i_ 0, i_ 1, r_ d, r_ ret_, u_, u_, u_, u_, u_, u_, u_, u_, u_, u_]) rfl ?_
    refine iN_ X5 hx hby d22_18 rfl ?_
    refine is_ X5 hx hby d22_19 (l' := #[r_ en, r_ b, i_ 0, i_ 1, r_ d, r_ ret_, i_ 0, u_, u_, u_, u_, u_, u_, u_, u_, u_]) rfl ?_
    refine iN_ X5 hx hby d22_21 rfl ?_
    refine iN_ X5 hx hby d22_22 rfl ?_
    refine XS.isub X5.here hx rfl (hb hby d22_23) rfl ?_
    show Steps p.tables e below (T5.setTop (mkF m 24 #[r_ en, r_ b, i_ 0, i_ 1, r_ d, r_ ret_, i_ 0, u_, u_, u_, u_, u_, u_, u_, u_, u_] [(.int 1)])) _
    refine XS.iconst X5.here hx rfl (hb hby d22_24) ?_
    refine XS.idiv X5.here hx rfl (hb hby d22_25) rfl (by decide) ?_
    show Steps p.tables e below (T5.setTop (mkF m 26 #[r_ en, r_ b, i_ 0, i_ 1, r_ d, r_ ret_, i_ 0, u_, u_, u_, u_, u_, u_, u_, u_, u_] [(.int 0)])) _
    refine XS.iconst X5.here hx rfl (hb hby d22_26) ?_
    refine XS.imul X5.here hx rfl (hb hby d22_27) rfl ?_
    show Steps p.tables e below (T5.setTop (mkF m 28 #[r_ en, r_ b, i_ 0, i_ 1, r_ d, r_ ret_, i_ 0, u_, u_, u_, u_, u_, u_, u_, u_, u_] [(.int 0)])) _
    refine is_ X5 hx hby d22_28 (l' := #[r_ en, r_ b, i_ 0, i_ 1, r_ d, r_ ret_, i_ 0, i_ 0, u_, u_, u_, u_, u_, u_, u_, u_]) rfl ?_
    refine iN_ X5 hx hby d22_30 rfl ?_
    refine il_ X5 hx hby d22_31 rfl ?_
    refine XS.iadd X5.here hx rfl (hb hby d22_33) rfl ?_
    show Steps p.tables e below (T5.setTop (mkF m 34 #[r_ en, r_ b, i_ 0, i_ 1, r_ d, r_ ret_, i_ 0, i_ 0, u_, u_, u_, u_, u_, u_, u_, u_] [(.int 0)])) _
    refine is_ X5 hx hby d22_34 (l' := #[r_ en, r_ b, i_ 0, i_ 1, r_ d, r_ ret_, i_ 0, i_ 0, i_ 0, u_, u_, u_, u_, u_, u_, u_]) rfl ?_
    refine aN_ X5 hx hby d22_36 rfl rfl ?_
    exact k_)
  obtain ⟨T8, X8, e8, st8⟩ := getF X5 hx hZ hown (host := "") (Or.inl (own_w hw 134 rfl)) Via.refl e5 Fl (g := (mkF m 37 #[r_ en, r_ b, i_ 0, i_ 1, r_ d, r_ ret_, i_ 0, i_ 0, i_ 0, u_, u_, u_, u_, u_, u_, u_] [(.ref en)])) rfl rfl (hb hby d22_37)
  have P9 := oS (T8.setTop (mkF m 40 #[r_ en, r_ b, i_ 0, i_ 1, r_ d, r_ ret_, i_ 0, i_ 0, i_ 0, u_, u_, u_, u_, u_, u_, u_] [(.int (-1 : Int32))])) P7 (fun t_ k_ => st8 t_ k_)
  have P10 := oS (T8.setTop (mkF m 73 #[r_ en, r_ b, i_ 0, i_ 1, r_ d, r_ ret_, i_ 0, i_ 0, i_ 0, i_ 0, u_, u_, u_, u_, u_, u_] [(.int 0), (.int 0)])) P9 (by
    intro _ k_
    refine fY_ X8 hx hby d22_40 (pc := 40) (pc' := 66) ((if0 _ _).trans (flt (by decide : ¬ ((0 : Int32) < (-1 : Int32)))).2.2.2) (by decide) ?_
    refine XS.iconst X8.here hx rfl (hb hby d22_66) ?_
    refine is_ X8 hx hby d22_67 (l' := #[r_ en, r_ b, i_ 0, i_ 1, r_ d, r_ ret_, i_ 0, i_ 0, i_ 0, i_ 0, u_, u_, u_, u_, u_, u_]) rfl ?_
    refine il_ X8 hx hby d22_69 rfl ?_
    refine il_ X8 hx hby d22_71 rfl ?_
    exact k_)
  have P11 := oS (T8.setTop (mkF m 192 #[r_ en, r_ b, i_ 0, i_ 1, r_ d, r_ ret_, i_ 0, i_ 0, i_ 0, i_ 0, u_, u_, u_, u_, u_, u_] [(.int 1), (.int 0)])) P10 (by
    intro _ k_
    refine cY_ X8 hx hby d22_73 (pc := 73) (pc' := 189) (flt (by decide : ¬ ((0 : Int32) < (0 : Int32)))).2.1 (by decide) ?_
    refine il_ X8 hx hby d22_189 rfl ?_
    refine iN_ X8 hx hby d22_191 rfl ?_
    exact k_)
  have P12 := oS (T8.setTop (mkF m 201 #[r_ en, r_ b, i_ 0, i_ 1, r_ d, r_ ret_, i_ 1, i_ 0, i_ 0, i_ 0, u_, u_, u_, u_, u_, u_] [(.int 0), (.ref b)])) P11 (by
    intro _ k_
    refine XS.icmpNo X8.here hx rfl (hb hby d22_192) rfl (tlt (by decide : (0 : Int32) < (1 : Int32))).2.1 ?_
    refine aN_ X8 hx hby d22_195 rfl rfl ?_
    refine il_ X8 hx hby d22_196 rfl ?_
    refine XS.iinc X8.here hx rfl (hb hby d22_198) rfl (l' := #[r_ en, r_ b, i_ 0, i_ 1, r_ d, r_ ret_, i_ 1, i_ 0, i_ 0, i_ 0, u_, u_, u_, u_, u_, u_]) rfl ?_
    exact k_)
  obtain ⟨cl13, Ar13, q13, S13, M13, H13, G13⟩ := id Vb
  have hin13 := inb_of S13 (by decide : ¬ (0 : Int32) < 0 ∧ (0 : Int32) < (1 : Int32))
  have hat13 := Has.at H13 hin13 (v := .int y0) rfl
  have P14 := oS (T8.setTop (mkF m 202 #[r_ en, r_ b, i_ 0, i_ 1, r_ d, r_ ret_, i_ 1, i_ 0, i_ 0, i_ 0, u_, u_, u_, u_, u_, u_] [(.int y0)])) P12 (by
    intro _ k_
    refine X8.baloadBytes hx (j := (0 : Int32)) (v := (.int y0)) (by rw [e8]; exact Ar13.1) (State.isArrayOf_alike hZ.alike Ar13.2.1) Ar13.2.2 hin13 hat13 (g := (mkF m 201 #[r_ en, r_ b, i_ 0, i_ 1, r_ d, r_ ret_, i_ 1, i_ 0, i_ 0, i_ 0, u_, u_, u_, u_, u_, u_] [(.int 0), (.ref b)])) rfl rfl (hb hby d22_201) _ ?_
    exact k_)
  have P15 := oS (T8.setTop (mkF m 221 #[r_ en, r_ b, i_ 0, i_ 1, r_ d, r_ ret_, i_ 1, i_ 0, i_ 0, i_ 1, i_ (y0 &&& 255), u_, u_, u_, u_, u_] [(.int ((y0 &&& 255) >>> ((2 : Int32) &&& 31))), (.ref ret_), (.int 0), (.ref d)])) P14 (by
    intro _ k_
    refine XS.sipush X8.here hx rfl (hb hby d22_202) ?_
    refine XS.iand X8.here hx rfl (hb hby d22_205) rfl ?_
    refine is_ X8 hx hby d22_206 (l' := #[r_ en, r_ b, i_ 0, i_ 1, r_ d, r_ ret_, i_ 1, i_ 0, i_ 0, i_ 0, i_ (y0 &&& 255), u_, u_, u_, u_, u_]) rfl ?_
    refine a_ X8 hx hby d22_208 rfl rfl ?_
    refine il_ X8 hx hby d22_210 rfl ?_
    refine XS.iinc X8.here hx rfl (hb hby d22_212) rfl (l' := #[r_ en, r_ b, i_ 0, i_ 1, r_ d, r_ ret_, i_ 1, i_ 0, i_ 0, i_ 1, i_ (y0 &&& 255), u_, u_, u_, u_, u_]) rfl ?_
    show Steps p.tables e below (T8.setTop (mkF m 215 #[r_ en, r_ b, i_ 0, i_ 1, r_ d, r_ ret_, i_ 1, i_ 0, i_ 0, i_ 1, i_ (y0 &&& 255), u_, u_, u_, u_, u_] [(.int 0), (.ref d)])) _
    refine a_ X8 hx hby d22_215 rfl rfl ?_
    refine il_ X8 hx hby d22_217 rfl ?_
    refine XS.iconst X8.here hx rfl (hb hby d22_219) ?_
    refine XS.ishr X8.here hx rfl (hb hby d22_220) rfl ?_
    exact k_)
  obtain ⟨cl16, Ar16, q16, S16, M16, H16, G16⟩ := Vet.ext O.2
  have hin16 := inb_of S16 hk0
  have hat16 := Has.at H16 hin16 hv0
  have P17 := oS (T8.setTop (mkF m 222 #[r_ en, r_ b, i_ 0, i_ 1, r_ d, r_ ret_, i_ 1, i_ 0, i_ 0, i_ 1, i_ (y0 &&& 255), u_, u_, u_, u_, u_] [(.int v0), (.int 0), (.ref d)])) P15 (by
    intro _ k_
    refine X8.caload hx (j := ((y0 &&& 255) >>> ((2 : Int32) &&& 31))) (v := (.int v0)) (by rw [e8]; exact Ar16.1) (State.isArrayOf_alike hZ.alike Ar16.2.1) Ar16.2.2 hin16 hat16 (g := (mkF m 221 #[r_ en, r_ b, i_ 0, i_ 1, r_ d, r_ ret_, i_ 1, i_ 0, i_ 0, i_ 1, i_ (y0 &&& 255), u_, u_, u_, u_, u_] [(.int ((y0 &&& 255) >>> ((2 : Int32) &&& 31))), (.ref ret_), (.int 0), (.ref d)])) rfl rfl (hb hby d22_221) _ ?_
    exact k_)
  have P18 := oS (T8.setTop (mkF m 223 #[r_ en, r_ b, i_ 0, i_ 1, r_ d, r_ ret_, i_ 1, i_ 0, i_ 0, i_ 1, i_ (y0 &&& 255), u_, u_, u_, u_, u_] [(.int (v0.toInt8.toInt32)), (.int 0), (.ref d)])) P17 (by
    intro _ k_
    refine XS.i2b X8.here hx rfl (hb hby d22_222) rfl ?_
    exact k_)
  obtain ⟨cl19, Ar19, q19, S19, M19, H19, G19⟩ := id Vd
  obtain ⟨T20, h20, X20, e20, W20, st20⟩ := stB X8 hx hZ e8 Ar19 (j := (0 : Int32)) (inb_of S19 (by decide : ¬ (0 : Int32) < 0 ∧ (0 : Int32) < (2 : Int32))) (g := (mkF m 223 #[r_ en, r_ b, i_ 0, i_ 1, r_ d, r_ ret_, i_ 1, i_ 0, i_ 0, i_ 1, i_ (y0 &&& 255), u_, u_, u_, u_, u_] [(.int (v0.toInt8.toInt32)), (.int 0), (.ref d)])) rfl rfl (hb hby d22_223)
  have f21 := O.wr W20 gd
  have f22 := Fp.other W20 (Or.inl nen)
  have f27 := (Keep.refl h0 [d]).wr W20 (Or.inl (List.mem_of_getElem? (i := 0) rfl))
  have V20 : Arv Z h20 d kd .byte (2 : Int32) [(.int (v0.toInt8.toInt32).toInt8.toInt32), (.int 0)] (.int 0) := Arv.set Ar19 q19 S19 M19 H19 G19 (fits_nar_byte _) W20 0 rfl (Nat.le_of_ble_eq_true rfl)
  have N20 := Fr.snoc X20 N0 gd
  have P30 := oS (T20.setTop (mkF m 224 #[r_ en, r_ b, i_ 0, i_ 1, r_ d, r_ ret_, i_ 1, i_ 0, i_ 0, i_ 1, i_ (y0 &&& 255), u_, u_, u_, u_, u_] [])) P18 (fun t_ k_ => st20 t_ k_)
  have P31 := oS (T20.setTop (mkF m 227 #[r_ en, r_ b, i_ 0, i_ 1, r_ d, r_ ret_, i_ 1, i_ 0, i_ 0, i_ 1, i_ (y0 &&& 255), u_, u_, u_, u_, u_] [(.int 1), (.int 1)])) P30 (by
    intro _ k_
    refine il_ X20 hx hby d22_224 rfl ?_
    refine iN_ X20 hx hby d22_226 rfl ?_
    exact k_)
  have P32 := oS (T20.setTop (mkF m 246 #[r_ en, r_ b, i_ 0, i_ 1, r_ d, r_ ret_, i_ 1, i_ 0, i_ 0, i_ 2, i_ (y0 &&& 255), u_, u_, u_, u_, u_] [(.int (((y0 &&& 255) <<< ((4 : Int32) &&& 31)) &&& 63)), (.ref ret_), (.int 1), (.ref d)])) P31 (by
    intro _ k_
    refine XS.icmpNo X20.here hx rfl (hb hby d22_227) rfl (teq (by decide : (1 : Int32) = (1 : Int32))).2 ?_
    refine a_ X20 hx hby d22_230 rfl rfl ?_
    refine il_ X20 hx hby d22_232 rfl ?_
    refine XS.iinc X20.here hx rfl (hb hby d22_234) rfl (l' := #[r_ en, r_ b, i_ 0, i_ 1, r_ d, r_ ret_, i_ 1, i_ 0, i_ 0, i_ 2, i_ (y0 &&& 255), u_, u_, u_, u_, u_]) rfl ?_
    show Steps p.tables e below (T20.setTop (mkF m 237 #[r_ en, r_ b, i_ 0, i_ 1, r_ d, r_ ret_, i_ 1, i_ 0, i_ 0, i_ 2, i_ (y0 &&& 255), u_, u_, u_, u_, u_] [(.int 1), (.ref d)])) _
    refine a_ X20 hx hby d22_237 rfl rfl ?_
    refine il_ X20 hx hby d22_239 rfl ?_
    refine XS.iconst X20.here hx rfl (hb hby d22_241) ?_
    refine XS.ishl X20.here hx rfl (hb hby d22_242) rfl ?_
    refine XS.bipush X20.here hx rfl (hb hby d22_243) ?_
    refine XS.iand X20.here hx rfl (hb hby d22_245) rfl ?_
    exact k_)
  obtain ⟨cl33, Ar33, q33, S33, M33, H33, G33⟩ := Vet.ext f21.2
  have hin33 := inb_of S33 hk1
  have hat33 := Has.at H33 hin33 hv1
  have P34 := oS (T20.setTop (mkF m 247 #[r_ en, r_ b, i_ 0, i_ 1, r_ d, r_ ret_, i_ 1, i_ 0, i_ 0, i_ 2, i_ (y0 &&& 255), u_, u_, u_, u_, u_] [(.int v1), (.int 1), (.ref d)])) P32 (by
    intro _ k_
    refine X20.caload hx (j := (((y0 &&& 255) <<< ((4 : Int32) &&& 31)) &&& 63)) (v := (.int v1)) (by rw [e20]; exact Ar33.1) (State.isArrayOf_alike hZ.alike Ar33.2.1) Ar33.2.2 hin33 hat33 (g := (mkF m 246 #[r_ en, r_ b, i_ 0, i_ 1, r_ d, r_ ret_, i_ 1, i_ 0, i_ 0, i_ 2, i_ (y0 &&& 255), u_, u_, u_, u_, u_] [(.int (((y0 &&& 255) <<< ((4 : Int32) &&& 31)) &&& 63)), (.ref ret_), (.int 1), (.ref d)])) rfl rfl (hb hby d22_246) _ ?_
    exact k_)
  have P35 := oS (T20.setTop (mkF m 248 #[r_ en, r_ b, i_ 0, i_ 1, r_ d, r_ ret_, i_ 1, i_ 0, i_ 0, i_ 2, i_ (y0 &&& 255), u_, u_, u_, u_, u_] [(.int (v1.toInt8.toInt32)), (.int 1), (.ref d)])) P34 (by
    intro _ k_
    refine XS.i2b X20.here hx rfl (hb hby d22_247) rfl ?_
    exact k_)
  obtain ⟨cl36, Ar36, q36, S36, M36, H36, G36⟩ := id V20
  obtain ⟨T37, h37, X37, e37, W37, st37⟩ := stB X20 hx hZ e20 Ar36 (j := (1 : Int32)) (inb_of S36 (by decide : ¬ (1 : Int32) < 0 ∧ (1 : Int32) < (2 : Int32))) (g := (mkF m 248 #[r_ en, r_ b, i_ 0, i_ 1, r_ d, r_ ret_, i_ 1, i_ 0, i_ 0, i_ 2, i_ (y0 &&& 255), u_, u_, u_, u_, u_] [(.int (v1.toInt8.toInt32)), (.int 1), (.ref d)])) rfl rfl (hb hby d22_248)
  have f39 := f22.other W37 (Or.inl nen)
  have f44 := f27.wr W37 (Or.inl (List.mem_of_getElem? (i := 0) rfl))
  have V37 : Arv Z h37 d kd .byte (2 : Int32) [(.int (v0.toInt8.toInt32).toInt8.toInt32), (.int (v1.toInt8.toInt32).toInt8.toInt32)] (.int 0) := Arv.set Ar36 q36 S36 M36 H36 G36 (fits_nar_byte _) W37 1 rfl (Nat.le_of_ble_eq_true rfl)
  have N37 := Fr.snoc X37 N20 gd
  have P47 := oS (T37.setTop (mkF m 249 #[r_ en, r_ b, i_ 0, i_ 1, r_ d, r_ ret_, i_ 1, i_ 0, i_ 0, i_ 2, i_ (y0 &&& 255), u_, u_, u_, u_, u_] [])) P35 (fun t_ k_ => st37 t_ k_)
  have P48 := oS (T37.setTop (mkF m 250 #[r_ en, r_ b, i_ 0, i_ 1, r_ d, r_ ret_, i_ 1, i_ 0, i_ 0, i_ 2, i_ (y0 &&& 255), u_, u_, u_, u_, u_] [(.ref en)])) P47 (by
    intro _ k_
    refine aN_ X37 hx hby d22_249 rfl rfl ?_
    exact k_)
  obtain ⟨T49, X49, e49, st49⟩ := getF X37 hx hZ hown (host := "") (Or.inl (own_w hw 125 rfl)) Via.refl e37 f39 (g := (mkF m 250 #[r_ en, r_ b, i_ 0, i_ 1, r_ d, r_ ret_, i_ 1, i_ 0, i_ 0, i_ 2, i_ (y0 &&& 255), u_, u_, u_, u_, u_] [(.ref en)])) rfl rfl (hb hby d22_250)
  have P50 := oS (T49.setTop (mkF m 253 #[r_ en, r_ b, i_ 0, i_ 1, r_ d, r_ ret_, i_ 1, i_ 0, i_ 0, i_ 2, i_ (y0 &&& 255), u_, u_, u_, u_, u_] [(.int 0)])) P48 (fun t_ k_ => st49 t_ k_)
  have P51 := oS (T49.setTop (mkF m 354 #[r_ en, r_ b, i_ 0, i_ 1, r_ d, r_ ret_, i_ 1, i_ 0, i_ 0, i_ 2, i_ (y0 &&& 255), u_, u_, u_, u_, u_] [(.int 2)])) P50 (by
    intro _ k_
    refine fY_ X49 hx hby d22_253 (pc := 253) (pc' := 352) ((if0 _ _).trans (teq (by decide : (0 : Int32) = (0 : Int32))).1) (by decide) ?_
    refine il_ X49 hx hby d22_352 rfl ?_
    exact k_)
  rw [hz0, hz1] at V37
  exact own_out X49 hlk (v := some (.int 2)) (own_hv hrt) P51 (fun _ q_ => retI X49 hx hrt (hb hby d22_354) q_) e49 ⟨rfl, N37, f44, V37⟩ (by decide)
theorem d22_279 : own_d cB22 279 (.aload_n 1) 1 := by decide +kernel
theorem d22_280 : own_d cB22 280 (.iload 6) 2 := by decide +kernel
theorem d22_282 : own_d cB22 282 (.iinc 6 1) 3 := by decide +kernel
theorem d22_285 : own_d cB22 285 (.baload) 1 := by decide +kernel
theorem d22_286 : own_d cB22 286 (.sipush 255) 3 := by decide +kernel
theorem d22_289 : own_d cB22 289 (.iand) 1 := by decide +kernel
theorem d22_290 : own_d cB22 290 (.istore 11) 2 := by decide +kernel
theorem d22_292 : own_d cB22 292 (.aload 4) 2 := by decide +kernel
theorem d22_294 : own_d cB22 294 (.iload 9) 2 := by decide +kernel
theorem d22_296 : own_d cB22 296 (.iinc 9 1) 3 := by decide +kernel
theorem d22_299 : own_d cB22 299 (.aload 5) 2 := by decide +kernel
theorem d22_301 : own_d cB22 301 (.iload 10) 2 := by decide +kernel
theorem d22_303 : own_d cB22 303 (.iconst 4) 1 := by decide +kernel
theorem d22_304 : own_d cB22 304 (.ishl) 1 := by decide +kernel
theorem d22_305 : own_d cB22 305 (.bipush 63) 2 := by decide +kernel
theorem d22_307 : own_d cB22 307 (.iand) 1 := by decide +kernel
theorem d22_308 : own_d cB22 308 (.iload 11) 2 := by decide +kernel
theorem d22_310 : own_d cB22 310 (.iconst 4) 1 := by decide +kernel
theorem d22_311 : own_d cB22 311 (.ishr) 1 := by decide +kernel
theorem d22_312 : own_d cB22 312 (.ior) 1 := by decide +kernel
theorem d22_313 : own_d cB22 313 (.caload) 1 := by decide +kernel
theorem d22_314 : own_d cB22 314 (.i2b) 1 := by decide +kernel
theorem d22_315 : own_d cB22 315 (.bastore) 1 := by decide +kernel
theorem d22_316 : own_d cB22 316 (.aload 4) 2 := by decide +kernel
theorem d22_318 : own_d cB22 318 (.iload 9) 2 := by decide +kernel
theorem d22_320 : own_d cB22 320 (.iinc 9 1) 3 := by decide +kernel
theorem d22_323 : own_d cB22 323 (.aload 5) 2 := by decide +kernel
theorem d22_325 : own_d cB22 325 (.iload 11) 2 := by decide +kernel
theorem d22_327 : own_d cB22 327 (.iconst 2) 1 := by decide +kernel
theorem d22_328 : own_d cB22 328 (.ishl) 1 := by decide +kernel
theorem d22_329 : own_d cB22 329 (.bipush 63) 2 := by decide +kernel
theorem d22_331 : own_d cB22 331 (.iand) 1 := by decide +kernel
theorem d22_332 : own_d cB22 332 (.caload) 1 := by decide +kernel
theorem d22_333 : own_d cB22 333 (.i2b) 1 := by decide +kernel
theorem d22_334 : own_d cB22 334 (.bastore) 1 := by decide +kernel
theorem d22_335 : own_d cB22 335 (.aload_n 0) 1 := by decide +kernel
theorem d22_336 : own_d cB22 336 (.getfield 21) 3 := by decide +kernel
theorem d22_339 : own_d cB22 339 (.ifCond .eq 13) 3 := by decide +kernel
set_option maxRecDepth 65536 in
set_option maxHeartbeats 40000000 in
theorem rm_enc0_2 (l : Launch) (Z : State) (a0 : Array Value) (hw : ∀ d ∈ tables_1, d.before a0 Z = true) (y0 : Int32) (y1 : Int32) (v0 : Int32) (v1 : Int32) (v2 : Int32) (x0 : Int32) (x1 : Int32) (x2 : Int32) (ret_ : Addr) (ket : ClassId) (Set : Sta Z Z.heap "java/util/Base64$Encoder" "toBase64URL" "[C" (.ref ret_)) (Vet : Arv Z Z.heap ret_ ket .char (64 : Int32) own_enc (.int 0)) (hk0 : ¬ ((y0 &&& 255) >>> ((2 : Int32) &&& 31)) < 0 ∧ ((y0 &&& 255) >>> ((2 : Int32) &&& 31)) < (64 : Int32)) (hv0 : own_enc.getD ((y0 &&& 255) >>> ((2 : Int32) &&& 31)).toNatClampNeg (.int 0) = .int v0) (hz0 : v0.toInt8.toInt32.toInt8.toInt32 = x0) (hk1 : ¬ ((((y0 &&& 255) <<< ((4 : Int32) &&& 31)) &&& 63) ||| ((y1 &&& 255) >>> ((4 : Int32) &&& 31))) < 0 ∧ ((((y0 &&& 255) <<< ((4 : Int32) &&& 31)) &&& 63) ||| ((y1 &&& 255) >>> ((4 : Int32) &&& 31))) < (64 : Int32)) (hv1 : own_enc.getD ((((y0 &&& 255) <<< ((4 : Int32) &&& 31)) &&& 63) ||| ((y1 &&& 255) >>> ((4 : Int32) &&& 31))).toNatClampNeg (.int 0) = .int v1) (hz1 : v1.toInt8.toInt32.toInt8.toInt32 = x1) (hk2 : ¬ (((y1 &&& 255) <<< ((2 : Int32) &&& 31)) &&& 63) < 0 ∧ (((y1 &&& 255) <<< ((2 : Int32) &&& 31)) &&& 63) < (64 : Int32)) (hv2 : own_enc.getD (((y1 &&& 255) <<< ((2 : Int32) &&& 31)) &&& 63).toNatClampNeg (.int 0) = .int v2) (hz2 : v2.toInt8.toInt32.toInt8.toInt32 = x2) :
    HE0 l Z (2 : Int32) (3 : Int32) [(.int y0), (.int y1)] [(.int x0), (.int x1), (.int x2)] := by
  intro en b k d kd h0 n0 Z0 O Fp Fl Fe Ee Vb Vd0 nbd gd nen
  refine own_in "java/util/Base64$Encoder" rfl (plainFor_of_name pn4) hisR (fun m => ef22RRIIR m en b (0 : Int32) (2 : Int32) d) ?_
  intro p e s m below meth c s₁ A_ hx hby hml hown hnm hrt hlk hZ _ X0 e0 pre0
  have N0 := Fr.nil n0
  have Vd : Arv Z h0 d kd .byte (3 : Int32) [(.int 0), (.int 0), (.int 0)] (.int 0) := Vd0.pad (pad_rep [] _ 3)
  have P1 := oS (s₁.setTop (mkF m 1 #[r_ en, r_ b, i_ 0, i_ 2, r_ d, u_, u_, u_, u_, u_, u_, u_, u_, u_, u_, u_] [(.ref en)])) pre0 (by
    intro _ k_
    refine aN_ X0 hx hby d22_0 rfl rfl ?_
    exact k_)
  obtain ⟨T2, X2, e2, st2⟩ := getF X0 hx hZ hown (host := "") (Or.inl (own_w hw 141 rfl)) Via.refl e0 Fe (g := (mkF m 1 #[r_ en, r_ b, i_ 0, i_ 2, r_ d, u_, u_, u_, u_, u_, u_, u_, u_, u_, u_, u_] [(.ref en)])) rfl rfl (hb hby d22_1)
  have P3 := oS (T2.setTop (mkF m 4 #[r_ en, r_ b, i_ 0, i_ 2, r_ d, u_, u_, u_, u_, u_, u_, u_, u_, u_, u_, u_] [(.int 1)])) P1 (fun t_ k_ => st2 t_ k_)
  have P4 := oS (T2.setTop (mkF m 7 #[r_ en, r_ b, i_ 0, i_ 2, r_ d, u_, u_, u_, u_, u_, u_, u_, u_, u_, u_, u_] [])) P3 (by
    intro _ k_
    refine XS.ifNo X2.here hx rfl (hb hby d22_4) rfl ((if0 _ _).trans (feq (by decide : ¬ ((1 : Int32) = (0 : Int32)))).1) ?_
    exact k_)
  obtain ⟨T5, X5, e5, st5⟩ := getS2 X2 hx hZ hown (host := "") (Or.inl (own_w hw 143 rfl)) Via.refl e2 (Set.ext O.2) (g := (mkF m 7 #[r_ en, r_ b, i_ 0, i_ 2, r_ d, u_, u_, u_, u_, u_, u_, u_, u_, u_, u_, u_] [])) rfl (hb hby d22_7)
  have P6 := oS (T5.setTop (mkF m 10 #[r_ en, r_ b, i_ 0, i_ 2, r_ d, u_, u_, u_, u_, u_, u_, u_, u_, u_, u_, u_] [(.ref ret_)])) P4 (fun t_ k_ => st5 t_ k_)
  have P7 := oS (T5.setTop (mkF m 37 #[r_ en, r_ b, i_ 0, i_ 2, r_ d, r_ ret_, i_ 0, i_ 0, i_ 0, u_, u_, u_, u_, u_, u_, u_] [(.ref en)])) P6 (by
    intro _ k_
    refine gt_ X5 hx hby d22_10 (pc := 10) (pc' := 16) (by decide) ?_
    refine XS.astore X5.here hx rfl (hb hby d22_16) rfl rfl (l' := #[r_ en, r_ b, i_ 0, i_ 2, r_ d, r_ ret_, u_, u_, u_, u_, u_, u_, u_, u_, u_, u_]) rfl ?_
    refine iN_ X5 hx hby d22_18 rfl ?_
    refine is_ X5 hx hby d22_19 (l' := #[r_ en, r_ b, i_ 0, i_ 2, r_ d, r_ ret_, i_ 0, u_, u_, u_, u_, u_, u_, u_, u_, u_]) rfl ?_
    refine iN_ X5 hx hby d22_21 rfl ?_
    refine iN_ X5 hx hby d22_22 rfl ?_
    refine XS.isub X5.here hx rfl (hb hby d22_23) rfl ?_
    show Steps p.tables e below (T5.setTop (mkF m 24 #[r_ en, r_ b, i_ 0, i_ 2, r_ d, r_ ret_, i_ 0, u_, u_, u_, u_, u_, u_, u_, u_, u_] [(.int 2)])) _
    refine XS.iconst X5.here hx rfl (hb hby d22_24) ?_
    refine XS.idiv X5.here hx rfl (hb hby d22_25) rfl (by decide) ?_
    show Steps p.tables e below (T5.setTop (mkF m 26 #[r_ en, r_ b, i_ 0, i_ 2, r_ d, r_ ret_, i_ 0, u_, u_, u_, u_, u_, u_, u_, u_, u_] [(.int 0)])) _
    refine XS.iconst X5.here hx rfl (hb hby d22_26) ?_
    refine XS.imul X5.here hx rfl (hb hby d22_27) rfl ?_
    show Steps p.tables e below (T5.setTop (mkF m 28 #[r_ en, r_ b, i_ 0, i_ 2, r_ d, r_ ret_, i_ 0, u_, u_, u_, u_, u_, u_, u_, u_, u_] [(.int 0)])) _
    refine is_ X5 hx hby d22_28 (l' := #[r_ en, r_ b, i_ 0, i_ 2, r_ d, r_ ret_, i_ 0, i_ 0, u_, u_, u_, u_, u_, u_, u_, u_]) rfl ?_
    refine iN_ X5 hx hby d22_30 rfl ?_
    refine il_ X5 hx hby d22_31 rfl ?_
    refine XS.iadd X5.here hx rfl (hb hby d22_33) rfl ?_
    show Steps p.tables e below (T5.setTop (mkF m 34 #[r_ en, r_ b, i_ 0, i_ 2, r_ d, r_ ret_, i_ 0, i_ 0, u_, u_, u_, u_, u_, u_, u_, u_] [(.int 0)])) _
    refine is_ X5 hx hby d22_34 (l' := #[r_ en, r_ b, i_ 0, i_ 2, r_ d, r_ ret_, i_ 0, i_ 0, i_ 0, u_, u_, u_, u_, u_, u_, u_]) rfl ?_
    refine aN_ X5 hx hby d22_36 rfl rfl ?_
    exact k_)
  obtain ⟨T8, X8, e8, st8⟩ := getF X5 hx hZ hown (host := "") (Or.inl (own_w hw 134 rfl)) Via.refl e5 Fl (g := (mkF m 37 #[r_ en, r_ b, i_ 0, i_ 2, r_ d, r_ ret_, i_ 0, i_ 0, i_ 0, u_, u_, u_, u_, u_, u_, u_] [(.ref en)])) rfl rfl (hb hby d22_37)
  have P9 := oS (T8.setTop (mkF m 40 #[r_ en, r_ b, i_ 0, i_ 2, r_ d, r_ ret_, i_ 0, i_ 0, i_ 0, u_, u_, u_, u_, u_, u_, u_] [(.int (-1 : Int32))])) P7 (fun t_ k_ => st8 t_ k_)
  have P10 := oS (T8.setTop (mkF m 73 #[r_ en, r_ b, i_ 0, i_ 2, r_ d, r_ ret_, i_ 0, i_ 0, i_ 0, i_ 0, u_, u_, u_, u_, u_, u_] [(.int 0), (.int 0)])) P9 (by
    intro _ k_
    refine fY_ X8 hx hby d22_40 (pc := 40) (pc' := 66) ((if0 _ _).trans (flt (by decide : ¬ ((0 : Int32) < (-1 : Int32)))).2.2.2) (by decide) ?_
    refine XS.iconst X8.here hx rfl (hb hby d22_66) ?_
    refine is_ X8 hx hby d22_67 (l' := #[r_ en, r_ b, i_ 0, i_ 2, r_ d, r_ ret_, i_ 0, i_ 0, i_ 0, i_ 0, u_, u_, u_, u_, u_, u_]) rfl ?_
    refine il_ X8 hx hby d22_69 rfl ?_
    refine il_ X8 hx hby d22_71 rfl ?_
    exact k_)
  have P11 := oS (T8.setTop (mkF m 192 #[r_ en, r_ b, i_ 0, i_ 2, r_ d, r_ ret_, i_ 0, i_ 0, i_ 0, i_ 0, u_, u_, u_, u_, u_, u_] [(.int 2), (.int 0)])) P10 (by
    intro _ k_
    refine cY_ X8 hx hby d22_73 (pc := 73) (pc' := 189) (flt (by decide : ¬ ((0 : Int32) < (0 : Int32)))).2.1 (by decide) ?_
    refine il_ X8 hx hby d22_189 rfl ?_
    refine iN_ X8 hx hby d22_191 rfl ?_
    exact k_)
  have P12 := oS (T8.setTop (mkF m 201 #[r_ en, r_ b, i_ 0, i_ 2, r_ d, r_ ret_, i_ 1, i_ 0, i_ 0, i_ 0, u_, u_, u_, u_, u_, u_] [(.int 0), (.ref b)])) P11 (by
    intro _ k_
    refine XS.icmpNo X8.here hx rfl (hb hby d22_192) rfl (tlt (by decide : (0 : Int32) < (2 : Int32))).2.1 ?_
    refine aN_ X8 hx hby d22_195 rfl rfl ?_
    refine il_ X8 hx hby d22_196 rfl ?_
    refine XS.iinc X8.here hx rfl (hb hby d22_198) rfl (l' := #[r_ en, r_ b, i_ 0, i_ 2, r_ d, r_ ret_, i_ 1, i_ 0, i_ 0, i_ 0, u_, u_, u_, u_, u_, u_]) rfl ?_
    exact k_)
  obtain ⟨cl13, Ar13, q13, S13, M13, H13, G13⟩ := id Vb
  have hin13 := inb_of S13 (by decide : ¬ (0 : Int32) < 0 ∧ (0 : Int32) < (2 : Int32))
  have hat13 := Has.at H13 hin13 (v := .int y0) rfl
  have P14 := oS (T8.setTop (mkF m 202 #[r_ en, r_ b, i_ 0, i_ 2, r_ d, r_ ret_, i_ 1, i_ 0, i_ 0, i_ 0, u_, u_, u_, u_, u_, u_] [(.int y0)])) P12 (by
    intro _ k_
    refine X8.baloadBytes hx (j := (0 : Int32)) (v := (.int y0)) (by rw [e8]; exact Ar13.1) (State.isArrayOf_alike hZ.alike Ar13.2.1) Ar13.2.2 hin13 hat13 (g := (mkF m 201 #[r_ en, r_ b, i_ 0, i_ 2, r_ d, r_ ret_, i_ 1, i_ 0, i_ 0, i_ 0, u_, u_, u_, u_, u_, u_] [(.int 0), (.ref b)])) rfl rfl (hb hby d22_201) _ ?_
    exact k_)
  have P15 := oS (T8.setTop (mkF m 221 #[r_ en, r_ b, i_ 0, i_ 2, r_ d, r_ ret_, i_ 1, i_ 0, i_ 0, i_ 1, i_ (y0 &&& 255), u_, u_, u_, u_, u_] [(.int ((y0 &&& 255) >>> ((2 : Int32) &&& 31))), (.ref ret_), (.int 0), (.ref d)])) P14 (by
    intro _ k_
    refine XS.sipush X8.here hx rfl (hb hby d22_202) ?_
    refine XS.iand X8.here hx rfl (hb hby d22_205) rfl ?_
    refine is_ X8 hx hby d22_206 (l' := #[r_ en, r_ b, i_ 0, i_ 2, r_ d, r_ ret_, i_ 1, i_ 0, i_ 0, i_ 0, i_ (y0 &&& 255), u_, u_, u_, u_, u_]) rfl ?_
    refine a_ X8 hx hby d22_208 rfl rfl ?_
    refine il_ X8 hx hby d22_210 rfl ?_
    refine XS.iinc X8.here hx rfl (hb hby d22_212) rfl (l' := #[r_ en, r_ b, i_ 0, i_ 2, r_ d, r_ ret_, i_ 1, i_ 0, i_ 0, i_ 1, i_ (y0 &&& 255), u_, u_, u_, u_, u_]) rfl ?_
    show Steps p.tables e below (T8.setTop (mkF m 215 #[r_ en, r_ b, i_ 0, i_ 2, r_ d, r_ ret_, i_ 1, i_ 0, i_ 0, i_ 1, i_ (y0 &&& 255), u_, u_, u_, u_, u_] [(.int 0), (.ref d)])) _
    refine a_ X8 hx hby d22_215 rfl rfl ?_
    refine il_ X8 hx hby d22_217 rfl ?_
    refine XS.iconst X8.here hx rfl (hb hby d22_219) ?_
    refine XS.ishr X8.here hx rfl (hb hby d22_220) rfl ?_
    exact k_)
  obtain ⟨cl16, Ar16, q16, S16, M16, H16, G16⟩ := Vet.ext O.2
  have hin16 := inb_of S16 hk0
  have hat16 := Has.at H16 hin16 hv0
  have P17 := oS (T8.setTop (mkF m 222 #[r_ en, r_ b, i_ 0, i_ 2, r_ d, r_ ret_, i_ 1, i_ 0, i_ 0, i_ 1, i_ (y0 &&& 255), u_, u_, u_, u_, u_] [(.int v0), (.int 0), (.ref d)])) P15 (by
    intro _ k_
    refine X8.caload hx (j := ((y0 &&& 255) >>> ((2 : Int32) &&& 31))) (v := (.int v0)) (by rw [e8]; exact Ar16.1) (State.isArrayOf_alike hZ.alike Ar16.2.1) Ar16.2.2 hin16 hat16 (g := (mkF m 221 #[r_ en, r_ b, i_ 0, i_ 2, r_ d, r_ ret_, i_ 1, i_ 0, i_ 0, i_ 1, i_ (y0 &&& 255), u_, u_, u_, u_, u_] [(.int ((y0 &&& 255) >>> ((2 : Int32) &&& 31))), (.ref ret_), (.int 0), (.ref d)])) rfl rfl (hb hby d22_221) _ ?_
    exact k_)
  have P18 := oS (T8.setTop (mkF m 223 #[r_ en, r_ b, i_ 0, i_ 2, r_ d, r_ ret_, i_ 1, i_ 0, i_ 0, i_ 1, i_ (y0 &&& 255), u_, u_, u_, u_, u_] [(.int (v0.toInt8.toInt32)), (.int 0), (.ref d)])) P17 (by
    intro _ k_
    refine XS.i2b X8.here hx rfl (hb hby d22_222) rfl ?_
    exact k_)
  obtain ⟨cl19, Ar19, q19, S19, M19, H19, G19⟩ := id Vd
  obtain ⟨T20, h20, X20, e20, W20, st20⟩ := stB X8 hx hZ e8 Ar19 (j := (0 : Int32)) (inb_of S19 (by decide : ¬ (0 : Int32) < 0 ∧ (0 : Int32) < (3 : Int32))) (g := (mkF m 223 #[r_ en, r_ b, i_ 0, i_ 2, r_ d, r_ ret_, i_ 1, i_ 0, i_ 0, i_ 1, i_ (y0 &&& 255), u_, u_, u_, u_, u_] [(.int (v0.toInt8.toInt32)), (.int 0), (.ref d)])) rfl rfl (hb hby d22_223)
  have f21 := O.wr W20 gd
  have f22 := Fp.other W20 (Or.inl nen)
  have f25 := Vb.other W20 nbd
  have f27 := (Keep.refl h0 [d]).wr W20 (Or.inl (List.mem_of_getElem? (i := 0) rfl))
  have V20 : Arv Z h20 d kd .byte (3 : Int32) [(.int (v0.toInt8.toInt32).toInt8.toInt32), (.int 0), (.int 0)] (.int 0) := Arv.set Ar19 q19 S19 M19 H19 G19 (fits_nar_byte _) W20 0 rfl (Nat.le_of_ble_eq_true rfl)
  have N20 := Fr.snoc X20 N0 gd
  have P30 := oS (T20.setTop (mkF m 224 #[r_ en, r_ b, i_ 0, i_ 2, r_ d, r_ ret_, i_ 1, i_ 0, i_ 0, i_ 1, i_ (y0 &&& 255), u_, u_, u_, u_, u_] [])) P18 (fun t_ k_ => st20 t_ k_)
  have P31 := oS (T20.setTop (mkF m 227 #[r_ en, r_ b, i_ 0, i_ 2, r_ d, r_ ret_, i_ 1, i_ 0, i_ 0, i_ 1, i_ (y0 &&& 255), u_, u_, u_, u_, u_] [(.int 2), (.int 1)])) P30 (by
    intro _ k_
    refine il_ X20 hx hby d22_224 rfl ?_
    refine iN_ X20 hx hby d22_226 rfl ?_
    exact k_)
  have P32 := oS (T20.setTop (mkF m 285 #[r_ en, r_ b, i_ 0, i_ 2, r_ d, r_ ret_, i_ 2, i_ 0, i_ 0, i_ 1, i_ (y0 &&& 255), u_, u_, u_, u_, u_] [(.int 1), (.ref b)])) P31 (by
    intro _ k_
    refine cY_ X20 hx hby d22_227 (pc := 227) (pc' := 279) (feq (by decide : ¬ ((1 : Int32) = (2 : Int32)))).2 (by decide) ?_
    refine aN_ X20 hx hby d22_279 rfl rfl ?_
    refine il_ X20 hx hby d22_280 rfl ?_
    refine XS.iinc X20.here hx rfl (hb hby d22_282) rfl (l' := #[r_ en, r_ b, i_ 0, i_ 2, r_ d, r_ ret_, i_ 2, i_ 0, i_ 0, i_ 1, i_ (y0 &&& 255), u_, u_, u_, u_, u_]) rfl ?_
    exact k_)
  obtain ⟨cl33, Ar33, q33, S33, M33, H33, G33⟩ := id f25
  have hin33 := inb_of S33 (by decide : ¬ (1 : Int32) < 0 ∧ (1 : Int32) < (2 : Int32))
  have hat33 := Has.at H33 hin33 (v := .int y1) rfl
  have P34 := oS (T20.setTop (mkF m 286 #[r_ en, r_ b, i_ 0, i_ 2, r_ d, r_ ret_, i_ 2, i_ 0, i_ 0, i_ 1, i_ (y0 &&& 255), u_, u_, u_, u_, u_] [(.int y1)])) P32 (by
    intro _ k_
    refine X20.baloadBytes hx (j := (1 : Int32)) (v := (.int y1)) (by rw [e20]; exact Ar33.1) (State.isArrayOf_alike hZ.alike Ar33.2.1) Ar33.2.2 hin33 hat33 (g := (mkF m 285 #[r_ en, r_ b, i_ 0, i_ 2, r_ d, r_ ret_, i_ 2, i_ 0, i_ 0, i_ 1, i_ (y0 &&& 255), u_, u_, u_, u_, u_] [(.int 1), (.ref b)])) rfl rfl (hb hby d22_285) _ ?_
    exact k_)
  have P35 := oS (T20.setTop (mkF m 313 #[r_ en, r_ b, i_ 0, i_ 2, r_ d, r_ ret_, i_ 2, i_ 0, i_ 0, i_ 2, i_ (y0 &&& 255), i_ (y1 &&& 255), u_, u_, u_, u_] [(.int ((((y0 &&& 255) <<< ((4 : Int32) &&& 31)) &&& 63) ||| ((y1 &&& 255) >>> ((4 : Int32) &&& 31)))), (.ref ret_), (.int 1), (.ref d)])) P34 (by
    intro _ k_
    refine XS.sipush X20.here hx rfl (hb hby d22_286) ?_
    refine XS.iand X20.here hx rfl (hb hby d22_289) rfl ?_
    refine is_ X20 hx hby d22_290 (l' := #[r_ en, r_ b, i_ 0, i_ 2, r_ d, r_ ret_, i_ 2, i_ 0, i_ 0, i_ 1, i_ (y0 &&& 255), i_ (y1 &&& 255), u_, u_, u_, u_]) rfl ?_
    refine a_ X20 hx hby d22_292 rfl rfl ?_
    refine il_ X20 hx hby d22_294 rfl ?_
    refine XS.iinc X20.here hx rfl (hb hby d22_296) rfl (l' := #[r_ en, r_ b, i_ 0, i_ 2, r_ d, r_ ret_, i_ 2, i_ 0, i_ 0, i_ 2, i_ (y0 &&& 255), i_ (y1 &&& 255), u_, u_, u_, u_]) rfl ?_
    show Steps p.tables e below (T20.setTop (mkF m 299 #[r_ en, r_ b, i_ 0, i_ 2, r_ d, r_ ret_, i_ 2, i_ 0, i_ 0, i_ 2, i_ (y0 &&& 255), i_ (y1 &&& 255), u_, u_, u_, u_] [(.int 1), (.ref d)])) _
    refine a_ X20 hx hby d22_299 rfl rfl ?_
    refine il_ X20 hx hby d22_301 rfl ?_
    refine XS.iconst X20.here hx rfl (hb hby d22_303) ?_
    refine XS.ishl X20.here hx rfl (hb hby d22_304) rfl ?_
    refine XS.bipush X20.here hx rfl (hb hby d22_305) ?_
    refine XS.iand X20.here hx rfl (hb hby d22_307) rfl ?_
    refine il_ X20 hx hby d22_308 rfl ?_
    refine XS.iconst X20.here hx rfl (hb hby d22_310) ?_
    refine XS.ishr X20.here hx rfl (hb hby d22_311) rfl ?_
    refine XS.ior X20.here hx rfl (hb hby d22_312) rfl ?_
    exact k_)
  obtain ⟨cl36, Ar36, q36, S36, M36, H36, G36⟩ := Vet.ext f21.2
  have hin36 := inb_of S36 hk1
  have hat36 := Has.at H36 hin36 hv1
  have P37 := oS (T20.setTop (mkF m 314 #[r_ en, r_ b, i_ 0, i_ 2, r_ d, r_ ret_, i_ 2, i_ 0, i_ 0, i_ 2, i_ (y0 &&& 255), i_ (y1 &&& 255), u_, u_, u_, u_] [(.int v1), (.int 1), (.ref d)])) P35 (by
    intro _ k_
    refine X20.caload hx (j := ((((y0 &&& 255) <<< ((4 : Int32) &&& 31)) &&& 63) ||| ((y1 &&& 255) >>> ((4 : Int32) &&& 31)))) (v := (.int v1)) (by rw [e20]; exact Ar36.1) (State.isArrayOf_alike hZ.alike Ar36.2.1) Ar36.2.2 hin36 hat36 (g := (mkF m 313 #[r_ en, r_ b, i_ 0, i_ 2, r_ d, r_ ret_, i_ 2, i_ 0, i_ 0, i_ 2, i_ (y0 &&& 255), i_ (y1 &&& 255), u_, u_, u_, u_] [(.int ((((y0 &&& 255) <<< ((4 : Int32) &&& 31)) &&& 63) ||| ((y1 &&& 255) >>> ((4 : Int32) &&& 31)))), (.ref ret_), (.int 1), (.ref d)])) rfl rfl (hb hby d22_313) _ ?_
    exact k_)
  have P38 := oS (T20.setTop (mkF m 315 #[r_ en, r_ b, i_ 0, i_ 2, r_ d, r_ ret_, i_ 2, i_ 0, i_ 0, i_ 2, i_ (y0 &&& 255), i_ (y1 &&& 255), u_, u_, u_, u_] [(.int (v1.toInt8.toInt32)), (.int 1), (.ref d)])) P37 (by
    intro _ k_
    refine XS.i2b X20.here hx rfl (hb hby d22_314) rfl ?_
    exact k_)
  obtain ⟨cl39, Ar39, q39, S39, M39, H39, G39⟩ := id V20
  obtain ⟨T40, h40, X40, e40, W40, st40⟩ := stB X20 hx hZ e20 Ar39 (j := (1 : Int32)) (inb_of S39 (by decide : ¬ (1 : Int32) < 0 ∧ (1 : Int32) < (3 : Int32))) (g := (mkF m 315 #[r_ en, r_ b, i_ 0, i_ 2, r_ d, r_ ret_, i_ 2, i_ 0, i_ 0, i_ 2, i_ (y0 &&& 255), i_ (y1 &&& 255), u_, u_, u_, u_] [(.int (v1.toInt8.toInt32)), (.int 1), (.ref d)])) rfl rfl (hb hby d22_315)
  have f41 := f21.wr W40 gd
  have f42 := f22.other W40 (Or.inl nen)
  have f47 := f27.wr W40 (Or.inl (List.mem_of_getElem? (i := 0) rfl))
  have V40 : Arv Z h40 d kd .byte (3 : Int32) [(.int (v0.toInt8.toInt32).toInt8.toInt32), (.int (v1.toInt8.toInt32).toInt8.toInt32), (.int 0)] (.int 0) := Arv.set Ar39 q39 S39 M39 H39 G39 (fits_nar_byte _) W40 1 rfl (Nat.le_of_ble_eq_true rfl)
  have N40 := Fr.snoc X40 N20 gd
  have P50 := oS (T40.setTop (mkF m 316 #[r_ en, r_ b, i_ 0, i_ 2, r_ d, r_ ret_, i_ 2, i_ 0, i_ 0, i_ 2, i_ (y0 &&& 255), i_ (y1 &&& 255), u_, u_, u_, u_] [])) P38 (fun t_ k_ => st40 t_ k_)
  have P51 := oS (T40.setTop (mkF m 332 #[r_ en, r_ b, i_ 0, i_ 2, r_ d, r_ ret_, i_ 2, i_ 0, i_ 0, i_ 3, i_ (y0 &&& 255), i_ (y1 &&& 255), u_, u_, u_, u_] [(.int (((y1 &&& 255) <<< ((2 : Int32) &&& 31)) &&& 63)), (.ref ret_), (.int 2), (.ref d)])) P50 (by
    intro _ k_
    refine a_ X40 hx hby d22_316 rfl rfl ?_
    refine il_ X40 hx hby d22_318 rfl ?_
    refine XS.iinc X40.here hx rfl (hb hby d22_320) rfl (l' := #[r_ en, r_ b, i_ 0, i_ 2, r_ d, r_ ret_, i_ 2, i_ 0, i_ 0, i_ 3, i_ (y0 &&& 255), i_ (y1 &&& 255), u_, u_, u_, u_]) rfl ?_
    show Steps p.tables e below (T40.setTop (mkF m 323 #[r_ en, r_ b, i_ 0, i_ 2, r_ d, r_ ret_, i_ 2, i_ 0, i_ 0, i_ 3, i_ (y0 &&& 255), i_ (y1 &&& 255), u_, u_, u_, u_] [(.int 2), (.ref d)])) _
    refine a_ X40 hx hby d22_323 rfl rfl ?_
    refine il_ X40 hx hby d22_325 rfl ?_
    refine XS.iconst X40.here hx rfl (hb hby d22_327) ?_
    refine XS.ishl X40.here hx rfl (hb hby d22_328) rfl ?_
    refine XS.bipush X40.here hx rfl (hb hby d22_329) ?_
    refine XS.iand X40.here hx rfl (hb hby d22_331) rfl ?_
    exact k_)
  obtain ⟨cl52, Ar52, q52, S52, M52, H52, G52⟩ := Vet.ext f41.2
  have hin52 := inb_of S52 hk2
  have hat52 := Has.at H52 hin52 hv2
  have P53 := oS (T40.setTop (mkF m 333 #[r_ en, r_ b, i_ 0, i_ 2, r_ d, r_ ret_, i_ 2, i_ 0, i_ 0, i_ 3, i_ (y0 &&& 255), i_ (y1 &&& 255), u_, u_, u_, u_] [(.int v2), (.int 2), (.ref d)])) P51 (by
    intro _ k_
    refine X40.caload hx (j := (((y1 &&& 255) <<< ((2 : Int32) &&& 31)) &&& 63)) (v := (.int v2)) (by rw [e40]; exact Ar52.1) (State.isArrayOf_alike hZ.alike Ar52.2.1) Ar52.2.2 hin52 hat52 (g := (mkF m 332 #[r_ en, r_ b, i_ 0, i_ 2, r_ d, r_ ret_, i_ 2, i_ 0, i_ 0, i_ 3, i_ (y0 &&& 255), i_ (y1 &&& 255), u_, u_, u_, u_] [(.int (((y1 &&& 255) <<< ((2 : Int32) &&& 31)) &&& 63)), (.ref ret_), (.int 2), (.ref d)])) rfl rfl (hb hby d22_332) _ ?_
    exact k_)
  have P54 := oS (T40.setTop (mkF m 334 #[r_ en, r_ b, i_ 0, i_ 2, r_ d, r_ ret_, i_ 2, i_ 0, i_ 0, i_ 3, i_ (y0 &&& 255), i_ (y1 &&& 255), u_, u_, u_, u_] [(.int (v2.toInt8.toInt32)), (.int 2), (.ref d)])) P53 (by
    intro _ k_
    refine XS.i2b X40.here hx rfl (hb hby d22_333) rfl ?_
    exact k_)
  obtain ⟨cl55, Ar55, q55, S55, M55, H55, G55⟩ := id V40
  obtain ⟨T56, h56, X56, e56, W56, st56⟩ := stB X40 hx hZ e40 Ar55 (j := (2 : Int32)) (inb_of S55 (by decide : ¬ (2 : Int32) < 0 ∧ (2 : Int32) < (3 : Int32))) (g := (mkF m 334 #[r_ en, r_ b, i_ 0, i_ 2, r_ d, r_ ret_, i_ 2, i_ 0, i_ 0, i_ 3, i_ (y0 &&& 255), i_ (y1 &&& 255), u_, u_, u_, u_] [(.int (v2.toInt8.toInt32)), (.int 2), (.ref d)])) rfl rfl (hb hby d22_334)
  have f58 := f42.other W56 (Or.inl nen)
  have f63 := f47.wr W56 (Or.inl (List.mem_of_getElem? (i := 0) rfl))
  have V56 : Arv Z h56 d kd .byte (3 : Int32) [(.int (v0.toInt8.toInt32).toInt8.toInt32), (.int (v1.toInt8.toInt32).toInt8.toInt32), (.int (v2.toInt8.toInt32).toInt8.toInt32)] (.int 0) := Arv.set Ar55 q55 S55 M55 H55 G55 (fits_nar_byte _) W56 2 rfl (Nat.le_of_ble_eq_true rfl)
  have N56 := Fr.snoc X56 N40 gd
  have P66 := oS (T56.setTop (mkF m 335 #[r_ en, r_ b, i_ 0, i_ 2, r_ d, r_ ret_, i_ 2, i_ 0, i_ 0, i_ 3, i_ (y0 &&& 255), i_ (y1 &&& 255), u_, u_, u_, u_] [])) P54 (fun t_ k_ => st56 t_ k_)
  have P67 := oS (T56.setTop (mkF m 336 #[r_ en, r_ b, i_ 0, i_ 2, r_ d, r_ ret_, i_ 2, i_ 0, i_ 0, i_ 3, i_ (y0 &&& 255), i_ (y1 &&& 255), u_, u_, u_, u_] [(.ref en)])) P66 (by
    intro _ k_
    refine aN_ X56 hx hby d22_335 rfl rfl ?_
    exact k_)
  obtain ⟨T68, X68, e68, st68⟩ := getF X56 hx hZ hown (host := "") (Or.inl (own_w hw 125 rfl)) Via.refl e56 f58 (g := (mkF m 336 #[r_ en, r_ b, i_ 0, i_ 2, r_ d, r_ ret_, i_ 2, i_ 0, i_ 0, i_ 3, i_ (y0 &&& 255), i_ (y1 &&& 255), u_, u_, u_, u_] [(.ref en)])) rfl rfl (hb hby d22_336)
  have P69 := oS (T68.setTop (mkF m 339 #[r_ en, r_ b, i_ 0, i_ 2, r_ d, r_ ret_, i_ 2, i_ 0, i_ 0, i_ 3, i_ (y0 &&& 255), i_ (y1 &&& 255), u_, u_, u_, u_] [(.int 0)])) P67 (fun t_ k_ => st68 t_ k_)
  have P70 := oS (T68.setTop (mkF m 354 #[r_ en, r_ b, i_ 0, i_ 2, r_ d, r_ ret_, i_ 2, i_ 0, i_ 0, i_ 3, i_ (y0 &&& 255), i_ (y1 &&& 255), u_, u_, u_, u_] [(.int 3)])) P69 (by
    intro _ k_
    refine fY_ X68 hx hby d22_339 (pc := 339) (pc' := 352) ((if0 _ _).trans (teq (by decide : (0 : Int32) = (0 : Int32))).1) (by decide) ?_
    refine il_ X68 hx hby d22_352 rfl ?_
    exact k_)
  rw [hz0, hz1, hz2] at V56
  exact own_out X68 hlk (v := some (.int 3)) (own_hv hrt) P70 (fun _ q_ => retI X68 hx hrt (hb hby d22_354) q_) e68 ⟨rfl, N56, f63, V56⟩ (by decide)
abbrev cB31 := jdk_2452_method_9_code
abbrev yM31 : MethodName := ⟨"java/util/Base64$Encoder", "encodeBlock", "([BII[BIZ)V"⟩
theorem d31_0 : own_d cB31 0 (.iload 6) 2 := by decide +kernel
theorem d31_2 : own_d cB31 2 (.ifCond .eq 9) 3 := by decide +kernel
theorem d31_5 : own_d cB31 5 (.getstatic 111) 3 := by decide +kernel
theorem d31_8 : own_d cB31 8 (.goto 6) 3 := by decide +kernel
theorem d31_14 : own_d cB31 14 (.astore 7) 2 := by decide +kernel
theorem d31_16 : own_d cB31 16 (.iload_n 2) 1 := by decide +kernel
theorem d31_17 : own_d cB31 17 (.istore 8) 2 := by decide +kernel
theorem d31_19 : own_d cB31 19 (.iload 5) 2 := by decide +kernel
theorem d31_21 : own_d cB31 21 (.istore 9) 2 := by decide +kernel
theorem d31_23 : own_d cB31 23 (.iload 8) 2 := by decide +kernel
theorem d31_25 : own_d cB31 25 (.iload_n 3) 1 := by decide +kernel
theorem d31_26 : own_d cB31 26 (.if_icmp .ge 126) 3 := by decide +kernel
theorem d31_29 : own_d cB31 29 (.aload_n 1) 1 := by decide +kernel
theorem d31_30 : own_d cB31 30 (.iload 8) 2 := by decide +kernel
theorem d31_32 : own_d cB31 32 (.iinc 8 1) 3 := by decide +kernel
theorem d31_35 : own_d cB31 35 (.baload) 1 := by decide +kernel
theorem d31_36 : own_d cB31 36 (.sipush 255) 3 := by decide +kernel
theorem d31_39 : own_d cB31 39 (.iand) 1 := by decide +kernel
theorem d31_40 : own_d cB31 40 (.bipush 16) 2 := by decide +kernel
theorem d31_42 : own_d cB31 42 (.ishl) 1 := by decide +kernel
theorem d31_43 : own_d cB31 43 (.aload_n 1) 1 := by decide +kernel
theorem d31_44 : own_d cB31 44 (.iload 8) 2 := by decide +kernel
theorem d31_46 : own_d cB31 46 (.iinc 8 1) 3 := by decide +kernel
theorem d31_49 : own_d cB31 49 (.baload) 1 := by decide +kernel
theorem d31_50 : own_d cB31 50 (.sipush 255) 3 := by decide +kernel
theorem d31_53 : own_d cB31 53 (.iand) 1 := by decide +kernel
theorem d31_54 : own_d cB31 54 (.bipush 8) 2 := by decide +kernel
theorem d31_56 : own_d cB31 56 (.ishl) 1 := by decide +kernel
theorem d31_57 : own_d cB31 57 (.ior) 1 := by decide +kernel
theorem d31_58 : own_d cB31 58 (.aload_n 1) 1 := by decide +kernel
theorem d31_59 : own_d cB31 59 (.iload 8) 2 := by decide +kernel
theorem d31_61 : own_d cB31 61 (.iinc 8 1) 3 := by decide +kernel
theorem d31_64 : own_d cB31 64 (.baload) 1 := by decide +kernel
theorem d31_65 : own_d cB31 65 (.sipush 255) 3 := by decide +kernel
theorem d31_68 : own_d cB31 68 (.iand) 1 := by decide +kernel
theorem d31_69 : own_d cB31 69 (.ior) 1 := by decide +kernel
theorem d31_70 : own_d cB31 70 (.istore 10) 2 := by decide +kernel
theorem d31_72 : own_d cB31 72 (.aload 4) 2 := by decide +kernel
theorem d31_74 : own_d cB31 74 (.iload 9) 2 := by decide +kernel
theorem d31_76 : own_d cB31 76 (.iinc 9 1) 3 := by decide +kernel
theorem d31_79 : own_d cB31 79 (.aload 7) 2 := by decide +kernel
theorem d31_81 : own_d cB31 81 (.iload 10) 2 := by decide +kernel
theorem d31_83 : own_d cB31 83 (.bipush 18) 2 := by decide +kernel
theorem d31_85 : own_d cB31 85 (.iushr) 1 := by decide +kernel
theorem d31_86 : own_d cB31 86 (.bipush 63) 2 := by decide +kernel
theorem d31_88 : own_d cB31 88 (.iand) 1 := by decide +kernel
theorem d31_89 : own_d cB31 89 (.caload) 1 := by decide +kernel
theorem d31_90 : own_d cB31 90 (.i2b) 1 := by decide +kernel
theorem d31_91 : own_d cB31 91 (.bastore) 1 := by decide +kernel
theorem d31_92 : own_d cB31 92 (.aload 4) 2 := by decide +kernel
theorem d31_94 : own_d cB31 94 (.iload 9) 2 := by decide +kernel
theorem d31_96 : own_d cB31 96 (.iinc 9 1) 3 := by decide +kernel
theorem d31_99 : own_d cB31 99 (.aload 7) 2 := by decide +kernel
theorem d31_101 : own_d cB31 101 (.iload 10) 2 := by decide +kernel
theorem d31_103 : own_d cB31 103 (.bipush 12) 2 := by decide +kernel
theorem d31_105 : own_d cB31 105 (.iushr) 1 := by decide +kernel
theorem d31_106 : own_d cB31 106 (.bipush 63) 2 := by decide +kernel
theorem d31_108 : own_d cB31 108 (.iand) 1 := by decide +kernel
theorem d31_109 : own_d cB31 109 (.caload) 1 := by decide +kernel
theorem d31_110 : own_d cB31 110 (.i2b) 1 := by decide +kernel
theorem d31_111 : own_d cB31 111 (.bastore) 1 := by decide +kernel
theorem d31_112 : own_d cB31 112 (.aload 4) 2 := by decide +kernel
theorem d31_114 : own_d cB31 114 (.iload 9) 2 := by decide +kernel
theorem d31_116 : own_d cB31 116 (.iinc 9 1) 3 := by decide +kernel
theorem d31_119 : own_d cB31 119 (.aload 7) 2 := by decide +kernel
theorem d31_121 : own_d cB31 121 (.iload 10) 2 := by decide +kernel
theorem d31_123 : own_d cB31 123 (.bipush 6) 2 := by decide +kernel
theorem d31_125 : own_d cB31 125 (.iushr) 1 := by decide +kernel
theorem d31_126 : own_d cB31 126 (.bipush 63) 2 := by decide +kernel
theorem d31_128 : own_d cB31 128 (.iand) 1 := by decide +kernel
theorem d31_129 : own_d cB31 129 (.caload) 1 := by decide +kernel
theorem d31_130 : own_d cB31 130 (.i2b) 1 := by decide +kernel
theorem d31_131 : own_d cB31 131 (.bastore) 1 := by decide +kernel
theorem d31_132 : own_d cB31 132 (.aload 4) 2 := by decide +kernel
theorem d31_134 : own_d cB31 134 (.iload 9) 2 := by decide +kernel
theorem d31_136 : own_d cB31 136 (.iinc 9 1) 3 := by decide +kernel
theorem d31_139 : own_d cB31 139 (.aload 7) 2 := by decide +kernel
theorem d31_141 : own_d cB31 141 (.iload 10) 2 := by decide +kernel
theorem d31_143 : own_d cB31 143 (.bipush 63) 2 := by decide +kernel
theorem d31_145 : own_d cB31 145 (.iand) 1 := by decide +kernel
theorem d31_146 : own_d cB31 146 (.caload) 1 := by decide +kernel
theorem d31_147 : own_d cB31 147 (.i2b) 1 := by decide +kernel
theorem d31_148 : own_d cB31 148 (.bastore) 1 := by decide +kernel
theorem d31_149 : own_d cB31 149 (.goto (-126)) 3 := by decide +kernel
theorem d31_152 : own_d cB31 152 (.return_) 1 := by decide +kernel
theorem ef31RRIIRII (m : MethodId) (x0 : Addr) (x1 : Addr) (x2 : Int32) (x3 : Int32) (x4 : Addr) (x5 : Int32) (x6 : Int32) : entryFrame m #[(.ref x0), (.ref x1), (.int x2), (.int x3), (.ref x4), (.int x5), (.int x6)] 11 = mkF m 0 #[r_ x0, r_ x1, i_ x2, i_ x3, r_ x4, i_ x5, i_ x6, u_, u_, u_, u_] [] := by first | (simp [entryFrame, mkF, argsToLocals, Value.category]; done) | rfl
def Q_encB (Z : State) (en : Addr) (b : Addr) (k : ClassId) (d : Addr) (kd : ClassId) (zk : Int32) (zl : Int32) (tb : List Value) (td : List Value) (y0 : Int32) (y1 : Int32) (y2 : Int32) (v0 : Int32) (v1 : Int32) (v2 : Int32) (v3 : Int32) (x0 : Int32) (x1 : Int32) (x2 : Int32) (x3 : Int32) (ret_ : Addr) (ket : ClassId) (h0 : Heap) (n0 : Nat) (v_ : Option Value) (h : Heap) (L_ : List Loc) : Prop := v_ = none ∧ Fr n0 L_ ∧ Keep h0 h [d] ∧ Arv Z h d kd .byte zl ((.int x0) :: (.int x1) :: (.int x2) :: (.int x3) :: td) (.int 0)
set_option maxRecDepth 65536 in
set_option maxHeartbeats 40000000 in
theorem rm_encB (l : Launch) (Z : State) (a0 : Array Value) (hw : ∀ d ∈ tables_1, d.before a0 Z = true) (ws : List Jvm.Cond) (en : Addr) (b : Addr) (k : ClassId) (d : Addr) (kd : ClassId) (zk : Int32) (zl : Int32) (tb : List Value) (td : List Value) (y0 : Int32) (y1 : Int32) (y2 : Int32) (v0 : Int32) (v1 : Int32) (v2 : Int32) (v3 : Int32) (x0 : Int32) (x1 : Int32) (x2 : Int32) (x3 : Int32) (ret_ : Addr) (ket : ClassId) (h0 : Heap) (n0 : Nat) (Z0 : n0 ≤ h0.size) (O : Old Z n0 h0) (Set : Sta Z Z.heap "java/util/Base64$Encoder" "toBase64URL" "[C" (.ref ret_)) (Vet : Arv Z Z.heap ret_ ket .char (64 : Int32) own_enc (.int 0)) (Vb : Arv Z h0 b k .byte zk ((.int y0) :: (.int y1) :: (.int y2) :: tb) (.int 0)) (Vd : Arv Z h0 d kd .byte zl ((.int 0) :: (.int 0) :: (.int 0) :: (.int 0) :: td) (.int 0)) (nbd : b ≠ d) (gd : n0 ≤ d) (hib0 : ¬ (0 : Int32) < 0 ∧ (0 : Int32) < zk) (hib1 : ¬ (1 : Int32) < 0 ∧ (1 : Int32) < zk) (hib2 : ¬ (2 : Int32) < 0 ∧ (2 : Int32) < zk) (hid0 : ¬ (0 : Int32) < 0 ∧ (0 : Int32) < zl) (hid1 : ¬ (1 : Int32) < 0 ∧ (1 : Int32) < zl) (hid2 : ¬ (2 : Int32) < 0 ∧ (2 : Int32) < zl) (hid3 : ¬ (3 : Int32) < 0 ∧ (3 : Int32) < zl) (hk0 : ¬ (((((((y0 &&& 255) <<< ((16 : Int32) &&& 31)) ||| ((y1 &&& 255) <<< ((8 : Int32) &&& 31))) ||| (y2 &&& 255)).toUInt32 >>> ((18 : Int32) &&& 31).toUInt32).toInt32) &&& 63) < 0 ∧ (((((((y0 &&& 255) <<< ((16 : Int32) &&& 31)) ||| ((y1 &&& 255) <<< ((8 : Int32) &&& 31))) ||| (y2 &&& 255)).toUInt32 >>> ((18 : Int32) &&& 31).toUInt32).toInt32) &&& 63) < (64 : Int32)) (hv0 : own_enc.getD (((((((y0 &&& 255) <<< ((16 : Int32) &&& 31)) ||| ((y1 &&& 255) <<< ((8 : Int32) &&& 31))) ||| (y2 &&& 255)).toUInt32 >>> ((18 : Int32) &&& 31).toUInt32).toInt32) &&& 63).toNatClampNeg (.int 0) = .int v0) (hz0 : v0.toInt8.toInt32.toInt8.toInt32 = x0) (hk1 : ¬ (((((((y0 &&& 255) <<< ((16 : Int32) &&& 31)) ||| ((y1 &&& 255) <<< ((8 : Int32) &&& 31))) ||| (y2 &&& 255)).toUInt32 >>> ((12 : Int32) &&& 31).toUInt32).toInt32) &&& 63) < 0 ∧ (((((((y0 &&& 255) <<< ((16 : Int32) &&& 31)) ||| ((y1 &&& 255) <<< ((8 : Int32) &&& 31))) ||| (y2 &&& 255)).toUInt32 >>> ((12 : Int32) &&& 31).toUInt32).toInt32) &&& 63) < (64 : Int32)) (hv1 : own_enc.getD (((((((y0 &&& 255) <<< ((16 : Int32) &&& 31)) ||| ((y1 &&& 255) <<< ((8 : Int32) &&& 31))) ||| (y2 &&& 255)).toUInt32 >>> ((12 : Int32) &&& 31).toUInt32).toInt32) &&& 63).toNatClampNeg (.int 0) = .int v1) (hz1 : v1.toInt8.toInt32.toInt8.toInt32 = x1) (hk2 : ¬ (((((((y0 &&& 255) <<< ((16 : Int32) &&& 31)) ||| ((y1 &&& 255) <<< ((8 : Int32) &&& 31))) ||| (y2 &&& 255)).toUInt32 >>> ((6 : Int32) &&& 31).toUInt32).toInt32) &&& 63) < 0 ∧ (((((((y0 &&& 255) <<< ((16 : Int32) &&& 31)) ||| ((y1 &&& 255) <<< ((8 : Int32) &&& 31))) ||| (y2 &&& 255)).toUInt32 >>> ((6 : Int32) &&& 31).toUInt32).toInt32) &&& 63) < (64 : Int32)) (hv2 : own_enc.getD (((((((y0 &&& 255) <<< ((16 : Int32) &&& 31)) ||| ((y1 &&& 255) <<< ((8 : Int32) &&& 31))) ||| (y2 &&& 255)).toUInt32 >>> ((6 : Int32) &&& 31).toUInt32).toInt32) &&& 63).toNatClampNeg (.int 0) = .int v2) (hz2 : v2.toInt8.toInt32.toInt8.toInt32 = x2) (hk3 : ¬ (((((y0 &&& 255) <<< ((16 : Int32) &&& 31)) ||| ((y1 &&& 255) <<< ((8 : Int32) &&& 31))) ||| (y2 &&& 255)) &&& 63) < 0 ∧ (((((y0 &&& 255) <<< ((16 : Int32) &&& 31)) ||| ((y1 &&& 255) <<< ((8 : Int32) &&& 31))) ||| (y2 &&& 255)) &&& 63) < (64 : Int32)) (hv3 : own_enc.getD (((((y0 &&& 255) <<< ((16 : Int32) &&& 31)) ||| ((y1 &&& 255) <<< ((8 : Int32) &&& 31))) ||| (y2 &&& 255)) &&& 63).toNatClampNeg (.int 0) = .int v3) (hz3 : v3.toInt8.toInt32.toInt8.toInt32 = x3) :
    own_MF l yM31 (.code yM31 cB31 11 none) ws ⟨0, 0, 0, 0⟩ #[(.ref en), (.ref b), (.int 0), (.int 3), (.ref d), (.int 0), (.int 1)] Z h0 own_T (Q_encB Z en b k d kd zk zl tb td y0 y1 y2 v0 v1 v2 v3 x0 x1 x2 x3 ret_ ket h0 n0) := by
  refine own_in "java/util/Base64$Encoder" rfl (plainFor_of_name pn4) hisR (fun m => ef31RRIIRII m en b (0 : Int32) (3 : Int32) d (0 : Int32) (1 : Int32)) ?_
  intro p e s m below meth c s₁ A_ hx hby hml hown hnm hrt hlk hZ _ X0 e0 pre0
  have N0 := Fr.nil n0
  have P1 := oS (s₁.setTop (mkF m 2 #[r_ en, r_ b, i_ 0, i_ 3, r_ d, i_ 0, i_ 1, u_, u_, u_, u_] [(.int 1)])) pre0 (by
    intro _ k_
    refine il_ X0 hx hby d31_0 rfl ?_
    exact k_)
  have P2 := oS (s₁.setTop (mkF m 5 #[r_ en, r_ b, i_ 0, i_ 3, r_ d, i_ 0, i_ 1, u_, u_, u_, u_] [])) P1 (by
    intro _ k_
    refine XS.ifNo X0.here hx rfl (hb hby d31_2) rfl ((if0 _ _).trans (feq (by decide : ¬ ((1 : Int32) = (0 : Int32)))).1) ?_
    exact k_)
  obtain ⟨T3, X3, e3, st3⟩ := getS2 X0 hx hZ hown (host := "") (Or.inl (own_w hw 143 rfl)) Via.refl e0 (Set.ext O.2) (g := (mkF m 5 #[r_ en, r_ b, i_ 0, i_ 3, r_ d, i_ 0, i_ 1, u_, u_, u_, u_] [])) rfl (hb hby d31_5)
  have P4 := oS (T3.setTop (mkF m 8 #[r_ en, r_ b, i_ 0, i_ 3, r_ d, i_ 0, i_ 1, u_, u_, u_, u_] [(.ref ret_)])) P2 (fun t_ k_ => st3 t_ k_)
  have P5 := oS (T3.setTop (mkF m 26 #[r_ en, r_ b, i_ 0, i_ 3, r_ d, i_ 0, i_ 1, r_ ret_, i_ 0, i_ 0, u_] [(.int 3), (.int 0)])) P4 (by
    intro _ k_
    refine gt_ X3 hx hby d31_8 (pc := 8) (pc' := 14) (by decide) ?_
    refine XS.astore X3.here hx rfl (hb hby d31_14) rfl rfl (l' := #[r_ en, r_ b, i_ 0, i_ 3, r_ d, i_ 0, i_ 1, r_ ret_, u_, u_, u_]) rfl ?_
    refine iN_ X3 hx hby d31_16 rfl ?_
    refine is_ X3 hx hby d31_17 (l' := #[r_ en, r_ b, i_ 0, i_ 3, r_ d, i_ 0, i_ 1, r_ ret_, i_ 0, u_, u_]) rfl ?_
    refine il_ X3 hx hby d31_19 rfl ?_
    refine is_ X3 hx hby d31_21 (l' := #[r_ en, r_ b, i_ 0, i_ 3, r_ d, i_ 0, i_ 1, r_ ret_, i_ 0, i_ 0, u_]) rfl ?_
    refine il_ X3 hx hby d31_23 rfl ?_
    refine iN_ X3 hx hby d31_25 rfl ?_
    exact k_)
  have P6 := oS (T3.setTop (mkF m 35 #[r_ en, r_ b, i_ 0, i_ 3, r_ d, i_ 0, i_ 1, r_ ret_, i_ 1, i_ 0, u_] [(.int 0), (.ref b)])) P5 (by
    intro _ k_
    refine XS.icmpNo X3.here hx rfl (hb hby d31_26) rfl (tlt (by decide : (0 : Int32) < (3 : Int32))).2.1 ?_
    refine aN_ X3 hx hby d31_29 rfl rfl ?_
    refine il_ X3 hx hby d31_30 rfl ?_
    refine XS.iinc X3.here hx rfl (hb hby d31_32) rfl (l' := #[r_ en, r_ b, i_ 0, i_ 3, r_ d, i_ 0, i_ 1, r_ ret_, i_ 1, i_ 0, u_]) rfl ?_
    exact k_)
  obtain ⟨cl7, Ar7, q7, S7, M7, H7, G7⟩ := id Vb
  have hin7 := inb_of S7 hib0
  have hat7 := Has.at H7 hin7 (v := .int y0) rfl
  have P8 := oS (T3.setTop (mkF m 36 #[r_ en, r_ b, i_ 0, i_ 3, r_ d, i_ 0, i_ 1, r_ ret_, i_ 1, i_ 0, u_] [(.int y0)])) P6 (by
    intro _ k_
    refine X3.baloadBytes hx (j := (0 : Int32)) (v := (.int y0)) (by rw [e3]; exact Ar7.1) (State.isArrayOf_alike hZ.alike Ar7.2.1) Ar7.2.2 hin7 hat7 (g := (mkF m 35 #[r_ en, r_ b, i_ 0, i_ 3, r_ d, i_ 0, i_ 1, r_ ret_, i_ 1, i_ 0, u_] [(.int 0), (.ref b)])) rfl rfl (hb hby d31_35) _ ?_
    exact k_)
  have P9 := oS (T3.setTop (mkF m 49 #[r_ en, r_ b, i_ 0, i_ 3, r_ d, i_ 0, i_ 1, r_ ret_, i_ 2, i_ 0, u_] [(.int 1), (.ref b), (.int ((y0 &&& 255) <<< ((16 : Int32) &&& 31)))])) P8 (by
    intro _ k_
    refine XS.sipush X3.here hx rfl (hb hby d31_36) ?_
    refine XS.iand X3.here hx rfl (hb hby d31_39) rfl ?_
    refine XS.bipush X3.here hx rfl (hb hby d31_40) ?_
    refine XS.ishl X3.here hx rfl (hb hby d31_42) rfl ?_
    refine aN_ X3 hx hby d31_43 rfl rfl ?_
    refine il_ X3 hx hby d31_44 rfl ?_
    refine XS.iinc X3.here hx rfl (hb hby d31_46) rfl (l' := #[r_ en, r_ b, i_ 0, i_ 3, r_ d, i_ 0, i_ 1, r_ ret_, i_ 2, i_ 0, u_]) rfl ?_
    exact k_)
  obtain ⟨cl10, Ar10, q10, S10, M10, H10, G10⟩ := id Vb
  have hin10 := inb_of S10 hib1
  have hat10 := Has.at H10 hin10 (v := .int y1) rfl
  have P11 := oS (T3.setTop (mkF m 50 #[r_ en, r_ b, i_ 0, i_ 3, r_ d, i_ 0, i_ 1, r_ ret_, i_ 2, i_ 0, u_] [(.int y1), (.int ((y0 &&& 255) <<< ((16 : Int32) &&& 31)))])) P9 (by
    intro _ k_
    refine X3.baloadBytes hx (j := (1 : Int32)) (v := (.int y1)) (by rw [e3]; exact Ar10.1) (State.isArrayOf_alike hZ.alike Ar10.2.1) Ar10.2.2 hin10 hat10 (g := (mkF m 49 #[r_ en, r_ b, i_ 0, i_ 3, r_ d, i_ 0, i_ 1, r_ ret_, i_ 2, i_ 0, u_] [(.int 1), (.ref b), (.int ((y0 &&& 255) <<< ((16 : Int32) &&& 31)))])) rfl rfl (hb hby d31_49) _ ?_
    exact k_)
  have P12 := oS (T3.setTop (mkF m 64 #[r_ en, r_ b, i_ 0, i_ 3, r_ d, i_ 0, i_ 1, r_ ret_, i_ 3, i_ 0, u_] [(.int 2), (.ref b), (.int (((y0 &&& 255) <<< ((16 : Int32) &&& 31)) ||| ((y1 &&& 255) <<< ((8 : Int32) &&& 31))))])) P11 (by
    intro _ k_
    refine XS.sipush X3.here hx rfl (hb hby d31_50) ?_
    refine XS.iand X3.here hx rfl (hb hby d31_53) rfl ?_
    refine XS.bipush X3.here hx rfl (hb hby d31_54) ?_
    refine XS.ishl X3.here hx rfl (hb hby d31_56) rfl ?_
    refine XS.ior X3.here hx rfl (hb hby d31_57) rfl ?_
    refine aN_ X3 hx hby d31_58 rfl rfl ?_
    refine il_ X3 hx hby d31_59 rfl ?_
    refine XS.iinc X3.here hx rfl (hb hby d31_61) rfl (l' := #[r_ en, r_ b, i_ 0, i_ 3, r_ d, i_ 0, i_ 1, r_ ret_, i_ 3, i_ 0, u_]) rfl ?_
    exact k_)
  obtain ⟨cl13, Ar13, q13, S13, M13, H13, G13⟩ := id Vb
  have hin13 := inb_of S13 hib2
  have hat13 := Has.at H13 hin13 (v := .int y2) rfl
  have P14 := oS (T3.setTop (mkF m 65 #[r_ en, r_ b, i_ 0, i_ 3, r_ d, i_ 0, i_ 1, r_ ret_, i_ 3, i_ 0, u_] [(.int y2), (.int (((y0 &&& 255) <<< ((16 : Int32) &&& 31)) ||| ((y1 &&& 255) <<< ((8 : Int32) &&& 31))))])) P12 (by
    intro _ k_
    refine X3.baloadBytes hx (j := (2 : Int32)) (v := (.int y2)) (by rw [e3]; exact Ar13.1) (State.isArrayOf_alike hZ.alike Ar13.2.1) Ar13.2.2 hin13 hat13 (g := (mkF m 64 #[r_ en, r_ b, i_ 0, i_ 3, r_ d, i_ 0, i_ 1, r_ ret_, i_ 3, i_ 0, u_] [(.int 2), (.ref b), (.int (((y0 &&& 255) <<< ((16 : Int32) &&& 31)) ||| ((y1 &&& 255) <<< ((8 : Int32) &&& 31))))])) rfl rfl (hb hby d31_64) _ ?_
    exact k_)
  have P15 := oS (T3.setTop (mkF m 89 #[r_ en, r_ b, i_ 0, i_ 3, r_ d, i_ 0, i_ 1, r_ ret_, i_ 3, i_ 1, i_ ((((y0 &&& 255) <<< ((16 : Int32) &&& 31)) ||| ((y1 &&& 255) <<< ((8 : Int32) &&& 31))) ||| (y2 &&& 255))] [(.int (((((((y0 &&& 255) <<< ((16 : Int32) &&& 31)) ||| ((y1 &&& 255) <<< ((8 : Int32) &&& 31))) ||| (y2 &&& 255)).toUInt32 >>> ((18 : Int32) &&& 31).toUInt32).toInt32) &&& 63)), (.ref ret_), (.int 0), (.ref d)])) P14 (by
    intro _ k_
    refine XS.sipush X3.here hx rfl (hb hby d31_65) ?_
    refine XS.iand X3.here hx rfl (hb hby d31_68) rfl ?_
    refine XS.ior X3.here hx rfl (hb hby d31_69) rfl ?_
    refine is_ X3 hx hby d31_70 (l' := #[r_ en, r_ b, i_ 0, i_ 3, r_ d, i_ 0, i_ 1, r_ ret_, i_ 3, i_ 0, i_ ((((y0 &&& 255) <<< ((16 : Int32) &&& 31)) ||| ((y1 &&& 255) <<< ((8 : Int32) &&& 31))) ||| (y2 &&& 255))]) rfl ?_
    refine a_ X3 hx hby d31_72 rfl rfl ?_
    refine il_ X3 hx hby d31_74 rfl ?_
    refine XS.iinc X3.here hx rfl (hb hby d31_76) rfl (l' := #[r_ en, r_ b, i_ 0, i_ 3, r_ d, i_ 0, i_ 1, r_ ret_, i_ 3, i_ 1, i_ ((((y0 &&& 255) <<< ((16 : Int32) &&& 31)) ||| ((y1 &&& 255) <<< ((8 : Int32) &&& 31))) ||| (y2 &&& 255))]) rfl ?_
    show Steps p.tables e below (T3.setTop (mkF m 79 #[r_ en, r_ b, i_ 0, i_ 3, r_ d, i_ 0, i_ 1, r_ ret_, i_ 3, i_ 1, i_ ((((y0 &&& 255) <<< ((16 : Int32) &&& 31)) ||| ((y1 &&& 255) <<< ((8 : Int32) &&& 31))) ||| (y2 &&& 255))] [(.int 0), (.ref d)])) _
    refine a_ X3 hx hby d31_79 rfl rfl ?_
    refine il_ X3 hx hby d31_81 rfl ?_
    refine XS.bipush X3.here hx rfl (hb hby d31_83) ?_
    refine XS.iushr X3.here hx rfl (hb hby d31_85) rfl ?_
    refine XS.bipush X3.here hx rfl (hb hby d31_86) ?_
    refine XS.iand X3.here hx rfl (hb hby d31_88) rfl ?_
    exact k_)
  obtain ⟨cl16, Ar16, q16, S16, M16, H16, G16⟩ := Vet.ext O.2
  have hin16 := inb_of S16 hk0
  have hat16 := Has.at H16 hin16 hv0
  have P17 := oS (T3.setTop (mkF m 90 #[r_ en, r_ b, i_ 0, i_ 3, r_ d, i_ 0, i_ 1, r_ ret_, i_ 3, i_ 1, i_ ((((y0 &&& 255) <<< ((16 : Int32) &&& 31)) ||| ((y1 &&& 255) <<< ((8 : Int32) &&& 31))) ||| (y2 &&& 255))] [(.int v0), (.int 0), (.ref d)])) P15 (by
    intro _ k_
    refine X3.caload hx (j := (((((((y0 &&& 255) <<< ((16 : Int32) &&& 31)) ||| ((y1 &&& 255) <<< ((8 : Int32) &&& 31))) ||| (y2 &&& 255)).toUInt32 >>> ((18 : Int32) &&& 31).toUInt32).toInt32) &&& 63)) (v := (.int v0)) (by rw [e3]; exact Ar16.1) (State.isArrayOf_alike hZ.alike Ar16.2.1) Ar16.2.2 hin16 hat16 (g := (mkF m 89 #[r_ en, r_ b, i_ 0, i_ 3, r_ d, i_ 0, i_ 1, r_ ret_, i_ 3, i_ 1, i_ ((((y0 &&& 255) <<< ((16 : Int32) &&& 31)) ||| ((y1 &&& 255) <<< ((8 : Int32) &&& 31))) ||| (y2 &&& 255))] [(.int (((((((y0 &&& 255) <<< ((16 : Int32) &&& 31)) ||| ((y1 &&& 255) <<< ((8 : Int32) &&& 31))) ||| (y2 &&& 255)).toUInt32 >>> ((18 : Int32) &&& 31).toUInt32).toInt32) &&& 63)), (.ref ret_), (.int 0), (.ref d)])) rfl rfl (hb hby d31_89) _ ?_
    exact k_)
  have P18 := oS (T3.setTop (mkF m 91 #[r_ en, r_ b, i_ 0, i_ 3, r_ d, i_ 0, i_ 1, r_ ret_, i_ 3, i_ 1, i_ ((((y0 &&& 255) <<< ((16 : Int32) &&& 31)) ||| ((y1 &&& 255) <<< ((8 : Int32) &&& 31))) ||| (y2 &&& 255))] [(.int (v0.toInt8.toInt32)), (.int 0), (.ref d)])) P17 (by
    intro _ k_
    refine XS.i2b X3.here hx rfl (hb hby d31_90) rfl ?_
    exact k_)
  obtain ⟨cl19, Ar19, q19, S19, M19, H19, G19⟩ := id Vd
  obtain ⟨T20, h20, X20, e20, W20, st20⟩ := stB X3 hx hZ e3 Ar19 (j := (0 : Int32)) (inb_of S19 hid0) (g := (mkF m 91 #[r_ en, r_ b, i_ 0, i_ 3, r_ d, i_ 0, i_ 1, r_ ret_, i_ 3, i_ 1, i_ ((((y0 &&& 255) <<< ((16 : Int32) &&& 31)) ||| ((y1 &&& 255) <<< ((8 : Int32) &&& 31))) ||| (y2 &&& 255))] [(.int (v0.toInt8.toInt32)), (.int 0), (.ref d)])) rfl rfl (hb hby d31_91)
  have f21 := O.wr W20 gd
  have f24 := (Keep.refl h0 [d]).wr W20 (Or.inl (List.mem_of_getElem? (i := 0) rfl))
  have V20 : Arv Z h20 d kd .byte zl ((.int (v0.toInt8.toInt32).toInt8.toInt32) :: (.int 0) :: (.int 0) :: (.int 0) :: td) (.int 0) := Arv.set Ar19 q19 S19 M19 H19 G19 (fits_nar_byte _) W20 0 rfl (by simp)
  have N20 := Fr.snoc X20 N0 gd
  have P26 := oS (T20.setTop (mkF m 92 #[r_ en, r_ b, i_ 0, i_ 3, r_ d, i_ 0, i_ 1, r_ ret_, i_ 3, i_ 1, i_ ((((y0 &&& 255) <<< ((16 : Int32) &&& 31)) ||| ((y1 &&& 255) <<< ((8 : Int32) &&& 31))) ||| (y2 &&& 255))] [])) P18 (fun t_ k_ => st20 t_ k_)
  have P27 := oS (T20.setTop (mkF m 109 #[r_ en, r_ b, i_ 0, i_ 3, r_ d, i_ 0, i_ 1, r_ ret_, i_ 3, i_ 2, i_ ((((y0 &&& 255) <<< ((16 : Int32) &&& 31)) ||| ((y1 &&& 255) <<< ((8 : Int32) &&& 31))) ||| (y2 &&& 255))] [(.int (((((((y0 &&& 255) <<< ((16 : Int32) &&& 31)) ||| ((y1 &&& 255) <<< ((8 : Int32) &&& 31))) ||| (y2 &&& 255)).toUInt32 >>> ((12 : Int32) &&& 31).toUInt32).toInt32) &&& 63)), (.ref ret_), (.int 1), (.ref d)])) P26 (by
    intro _ k_
    refine a_ X20 hx hby d31_92 rfl rfl ?_
    refine il_ X20 hx hby d31_94 rfl ?_
    refine XS.iinc X20.here hx rfl (hb hby d31_96) rfl (l' := #[r_ en, r_ b, i_ 0, i_ 3, r_ d, i_ 0, i_ 1, r_ ret_, i_ 3, i_ 2, i_ ((((y0 &&& 255) <<< ((16 : Int32) &&& 31)) ||| ((y1 &&& 255) <<< ((8 : Int32) &&& 31))) ||| (y2 &&& 255))]) rfl ?_
    show Steps p.tables e below (T20.setTop (mkF m 99 #[r_ en, r_ b, i_ 0, i_ 3, r_ d, i_ 0, i_ 1, r_ ret_, i_ 3, i_ 2, i_ ((((y0 &&& 255) <<< ((16 : Int32) &&& 31)) ||| ((y1 &&& 255) <<< ((8 : Int32) &&& 31))) ||| (y2 &&& 255))] [(.int 1), (.ref d)])) _
    refine a_ X20 hx hby d31_99 rfl rfl ?_
    refine il_ X20 hx hby d31_101 rfl ?_
    refine XS.bipush X20.here hx rfl (hb hby d31_103) ?_
    refine XS.iushr X20.here hx rfl (hb hby d31_105) rfl ?_
    refine XS.bipush X20.here hx rfl (hb hby d31_106) ?_
    refine XS.iand X20.here hx rfl (hb hby d31_108) rfl ?_
    exact k_)
  obtain ⟨cl28, Ar28, q28, S28, M28, H28, G28⟩ := Vet.ext f21.2
  have hin28 := inb_of S28 hk1
  have hat28 := Has.at H28 hin28 hv1
  have P29 := oS (T20.setTop (mkF m 110 #[r_ en, r_ b, i_ 0, i_ 3, r_ d, i_ 0, i_ 1, r_ ret_, i_ 3, i_ 2, i_ ((((y0 &&& 255) <<< ((16 : Int32) &&& 31)) ||| ((y1 &&& 255) <<< ((8 : Int32) &&& 31))) ||| (y2 &&& 255))] [(.int v1), (.int 1), (.ref d)])) P27 (by
    intro _ k_
    refine X20.caload hx (j := (((((((y0 &&& 255) <<< ((16 : Int32) &&& 31)) ||| ((y1 &&& 255) <<< ((8 : Int32) &&& 31))) ||| (y2 &&& 255)).toUInt32 >>> ((12 : Int32) &&& 31).toUInt32).toInt32) &&& 63)) (v := (.int v1)) (by rw [e20]; exact Ar28.1) (State.isArrayOf_alike hZ.alike Ar28.2.1) Ar28.2.2 hin28 hat28 (g := (mkF m 109 #[r_ en, r_ b, i_ 0, i_ 3, r_ d, i_ 0, i_ 1, r_ ret_, i_ 3, i_ 2, i_ ((((y0 &&& 255) <<< ((16 : Int32) &&& 31)) ||| ((y1 &&& 255) <<< ((8 : Int32) &&& 31))) ||| (y2 &&& 255))] [(.int (((((((y0 &&& 255) <<< ((16 : Int32) &&& 31)) ||| ((y1 &&& 255) <<< ((8 : Int32) &&& 31))) ||| (y2 &&& 255)).toUInt32 >>> ((12 : Int32) &&& 31).toUInt32).toInt32) &&& 63)), (.ref ret_), (.int 1), (.ref d)])) rfl rfl (hb hby d31_109) _ ?_
    exact k_)
  have P30 := oS (T20.setTop (mkF m 111 #[r_ en, r_ b, i_ 0, i_ 3, r_ d, i_ 0, i_ 1, r_ ret_, i_ 3, i_ 2, i_ ((((y0 &&& 255) <<< ((16 : Int32) &&& 31)) ||| ((y1 &&& 255) <<< ((8 : Int32) &&& 31))) ||| (y2 &&& 255))] [(.int (v1.toInt8.toInt32)), (.int 1), (.ref d)])) P29 (by
    intro _ k_
    refine XS.i2b X20.here hx rfl (hb hby d31_110) rfl ?_
    exact k_)
  obtain ⟨cl31, Ar31, q31, S31, M31, H31, G31⟩ := id V20
  obtain ⟨T32, h32, X32, e32, W32, st32⟩ := stB X20 hx hZ e20 Ar31 (j := (1 : Int32)) (inb_of S31 hid1) (g := (mkF m 111 #[r_ en, r_ b, i_ 0, i_ 3, r_ d, i_ 0, i_ 1, r_ ret_, i_ 3, i_ 2, i_ ((((y0 &&& 255) <<< ((16 : Int32) &&& 31)) ||| ((y1 &&& 255) <<< ((8 : Int32) &&& 31))) ||| (y2 &&& 255))] [(.int (v1.toInt8.toInt32)), (.int 1), (.ref d)])) rfl rfl (hb hby d31_111)
  have f33 := f21.wr W32 gd
  have f36 := f24.wr W32 (Or.inl (List.mem_of_getElem? (i := 0) rfl))
  have V32 : Arv Z h32 d kd .byte zl ((.int (v0.toInt8.toInt32).toInt8.toInt32) :: (.int (v1.toInt8.toInt32).toInt8.toInt32) :: (.int 0) :: (.int 0) :: td) (.int 0) := Arv.set Ar31 q31 S31 M31 H31 G31 (fits_nar_byte _) W32 1 rfl (by simp)
  have N32 := Fr.snoc X32 N20 gd
  have P38 := oS (T32.setTop (mkF m 112 #[r_ en, r_ b, i_ 0, i_ 3, r_ d, i_ 0, i_ 1, r_ ret_, i_ 3, i_ 2, i_ ((((y0 &&& 255) <<< ((16 : Int32) &&& 31)) ||| ((y1 &&& 255) <<< ((8 : Int32) &&& 31))) ||| (y2 &&& 255))] [])) P30 (fun t_ k_ => st32 t_ k_)
  have P39 := oS (T32.setTop (mkF m 129 #[r_ en, r_ b, i_ 0, i_ 3, r_ d, i_ 0, i_ 1, r_ ret_, i_ 3, i_ 3, i_ ((((y0 &&& 255) <<< ((16 : Int32) &&& 31)) ||| ((y1 &&& 255) <<< ((8 : Int32) &&& 31))) ||| (y2 &&& 255))] [(.int (((((((y0 &&& 255) <<< ((16 : Int32) &&& 31)) ||| ((y1 &&& 255) <<< ((8 : Int32) &&& 31))) ||| (y2 &&& 255)).toUInt32 >>> ((6 : Int32) &&& 31).toUInt32).toInt32) &&& 63)), (.ref ret_), (.int 2), (.ref d)])) P38 (by
    intro _ k_
    refine a_ X32 hx hby d31_112 rfl rfl ?_
    refine il_ X32 hx hby d31_114 rfl ?_
    refine XS.iinc X32.here hx rfl (hb hby d31_116) rfl (l' := #[r_ en, r_ b, i_ 0, i_ 3, r_ d, i_ 0, i_ 1, r_ ret_, i_ 3, i_ 3, i_ ((((y0 &&& 255) <<< ((16 : Int32) &&& 31)) ||| ((y1 &&& 255) <<< ((8 : Int32) &&& 31))) ||| (y2 &&& 255))]) rfl ?_
    show Steps p.tables e below (T32.setTop (mkF m 119 #[r_ en, r_ b, i_ 0, i_ 3, r_ d, i_ 0, i_ 1, r_ ret_, i_ 3, i_ 3, i_ ((((y0 &&& 255) <<< ((16 : Int32) &&& 31)) ||| ((y1 &&& 255) <<< ((8 : Int32) &&& 31))) ||| (y2 &&& 255))] [(.int 2), (.ref d)])) _
    refine a_ X32 hx hby d31_119 rfl rfl ?_
    refine il_ X32 hx hby d31_121 rfl ?_
    refine XS.bipush X32.here hx rfl (hb hby d31_123) ?_
    refine XS.iushr X32.here hx rfl (hb hby d31_125) rfl ?_
    refine XS.bipush X32.here hx rfl (hb hby d31_126) ?_
    refine XS.iand X32.here hx rfl (hb hby d31_128) rfl ?_
    exact k_)
  obtain ⟨cl40, Ar40, q40, S40, M40, H40, G40⟩ := Vet.ext f33.2
  have hin40 := inb_of S40 hk2
  have hat40 := Has.at H40 hin40 hv2
  have P41 := oS (T32.setTop (mkF m 130 #[r_ en, r_ b, i_ 0, i_ 3, r_ d, i_ 0, i_ 1, r_ ret_, i_ 3, i_ 3, i_ ((((y0 &&& 255) <<< ((16 : Int32) &&& 31)) ||| ((y1 &&& 255) <<< ((8 : Int32) &&& 31))) ||| (y2 &&& 255))] [(.int v2), (.int 2), (.ref d)])) P39 (by
    intro _ k_
    refine X32.caload hx (j := (((((((y0 &&& 255) <<< ((16 : Int32) &&& 31)) ||| ((y1 &&& 255) <<< ((8 : Int32) &&& 31))) ||| (y2 &&& 255)).toUInt32 >>> ((6 : Int32) &&& 31).toUInt32).toInt32) &&& 63)) (v := (.int v2)) (by rw [e32]; exact Ar40.1) (State.isArrayOf_alike hZ.alike Ar40.2.1) Ar40.2.2 hin40 hat40 (g := (mkF m 129 #[r_ en, r_ b, i_ 0, i_ 3, r_ d, i_ 0, i_ 1, r_ ret_, i_ 3, i_ 3, i_ ((((y0 &&& 255) <<< ((16 : Int32) &&& 31)) ||| ((y1 &&& 255) <<< ((8 : Int32) &&& 31))) ||| (y2 &&& 255))] [(.int (((((((y0 &&& 255) <<< ((16 : Int32) &&& 31)) ||| ((y1 &&& 255) <<< ((8 : Int32) &&& 31))) ||| (y2 &&& 255)).toUInt32 >>> ((6 : Int32) &&& 31).toUInt32).toInt32) &&& 63)), (.ref ret_), (.int 2), (.ref d)])) rfl rfl (hb hby d31_129) _ ?_
    exact k_)
  have P42 := oS (T32.setTop (mkF m 131 #[r_ en, r_ b, i_ 0, i_ 3, r_ d, i_ 0, i_ 1, r_ ret_, i_ 3, i_ 3, i_ ((((y0 &&& 255) <<< ((16 : Int32) &&& 31)) ||| ((y1 &&& 255) <<< ((8 : Int32) &&& 31))) ||| (y2 &&& 255))] [(.int (v2.toInt8.toInt32)), (.int 2), (.ref d)])) P41 (by
    intro _ k_
    refine XS.i2b X32.here hx rfl (hb hby d31_130) rfl ?_
    exact k_)
  obtain ⟨cl43, Ar43, q43, S43, M43, H43, G43⟩ := id V32
  obtain ⟨T44, h44, X44, e44, W44, st44⟩ := stB X32 hx hZ e32 Ar43 (j := (2 : Int32)) (inb_of S43 hid2) (g := (mkF m 131 #[r_ en, r_ b, i_ 0, i_ 3, r_ d, i_ 0, i_ 1, r_ ret_, i_ 3, i_ 3, i_ ((((y0 &&& 255) <<< ((16 : Int32) &&& 31)) ||| ((y1 &&& 255) <<< ((8 : Int32) &&& 31))) ||| (y2 &&& 255))] [(.int (v2.toInt8.toInt32)), (.int 2), (.ref d)])) rfl rfl (hb hby d31_131)
  have f45 := f33.wr W44 gd
  have f48 := f36.wr W44 (Or.inl (List.mem_of_getElem? (i := 0) rfl))
  have V44 : Arv Z h44 d kd .byte zl ((.int (v0.toInt8.toInt32).toInt8.toInt32) :: (.int (v1.toInt8.toInt32).toInt8.toInt32) :: (.int (v2.toInt8.toInt32).toInt8.toInt32) :: (.int 0) :: td) (.int 0) := Arv.set Ar43 q43 S43 M43 H43 G43 (fits_nar_byte _) W44 2 rfl (by simp)
  have N44 := Fr.snoc X44 N32 gd
  have P50 := oS (T44.setTop (mkF m 132 #[r_ en, r_ b, i_ 0, i_ 3, r_ d, i_ 0, i_ 1, r_ ret_, i_ 3, i_ 3, i_ ((((y0 &&& 255) <<< ((16 : Int32) &&& 31)) ||| ((y1 &&& 255) <<< ((8 : Int32) &&& 31))) ||| (y2 &&& 255))] [])) P42 (fun t_ k_ => st44 t_ k_)
  have P51 := oS (T44.setTop (mkF m 146 #[r_ en, r_ b, i_ 0, i_ 3, r_ d, i_ 0, i_ 1, r_ ret_, i_ 3, i_ 4, i_ ((((y0 &&& 255) <<< ((16 : Int32) &&& 31)) ||| ((y1 &&& 255) <<< ((8 : Int32) &&& 31))) ||| (y2 &&& 255))] [(.int (((((y0 &&& 255) <<< ((16 : Int32) &&& 31)) ||| ((y1 &&& 255) <<< ((8 : Int32) &&& 31))) ||| (y2 &&& 255)) &&& 63)), (.ref ret_), (.int 3), (.ref d)])) P50 (by
    intro _ k_
    refine a_ X44 hx hby d31_132 rfl rfl ?_
    refine il_ X44 hx hby d31_134 rfl ?_
    refine XS.iinc X44.here hx rfl (hb hby d31_136) rfl (l' := #[r_ en, r_ b, i_ 0, i_ 3, r_ d, i_ 0, i_ 1, r_ ret_, i_ 3, i_ 4, i_ ((((y0 &&& 255) <<< ((16 : Int32) &&& 31)) ||| ((y1 &&& 255) <<< ((8 : Int32) &&& 31))) ||| (y2 &&& 255))]) rfl ?_
    show Steps p.tables e below (T44.setTop (mkF m 139 #[r_ en, r_ b, i_ 0, i_ 3, r_ d, i_ 0, i_ 1, r_ ret_, i_ 3, i_ 4, i_ ((((y0 &&& 255) <<< ((16 : Int32) &&& 31)) ||| ((y1 &&& 255) <<< ((8 : Int32) &&& 31))) ||| (y2 &&& 255))] [(.int 3), (.ref d)])) _
    refine a_ X44 hx hby d31_139 rfl rfl ?_
    refine il_ X44 hx hby d31_141 rfl ?_
    refine XS.bipush X44.here hx rfl (hb hby d31_143) ?_
    refine XS.iand X44.here hx rfl (hb hby d31_145) rfl ?_
    exact k_)
  obtain ⟨cl52, Ar52, q52, S52, M52, H52, G52⟩ := Vet.ext f45.2
  have hin52 := inb_of S52 hk3
  have hat52 := Has.at H52 hin52 hv3
  have P53 := oS (T44.setTop (mkF m 147 #[r_ en, r_ b, i_ 0, i_ 3, r_ d, i_ 0, i_ 1, r_ ret_, i_ 3, i_ 4, i_ ((((y0 &&& 255) <<< ((16 : Int32) &&& 31)) ||| ((y1 &&& 255) <<< ((8 : Int32) &&& 31))) ||| (y2 &&& 255))] [(.int v3), (.int 3), (.ref d)])) P51 (by
    intro _ k_
    refine X44.caload hx (j := (((((y0 &&& 255) <<< ((16 : Int32) &&& 31)) ||| ((y1 &&& 255) <<< ((8 : Int32) &&& 31))) ||| (y2 &&& 255)) &&& 63)) (v := (.int v3)) (by rw [e44]; exact Ar52.1) (State.isArrayOf_alike hZ.alike Ar52.2.1) Ar52.2.2 hin52 hat52 (g := (mkF m 146 #[r_ en, r_ b, i_ 0, i_ 3, r_ d, i_ 0, i_ 1, r_ ret_, i_ 3, i_ 4, i_ ((((y0 &&& 255) <<< ((16 : Int32) &&& 31)) ||| ((y1 &&& 255) <<< ((8 : Int32) &&& 31))) ||| (y2 &&& 255))] [(.int (((((y0 &&& 255) <<< ((16 : Int32) &&& 31)) ||| ((y1 &&& 255) <<< ((8 : Int32) &&& 31))) ||| (y2 &&& 255)) &&& 63)), (.ref ret_), (.int 3), (.ref d)])) rfl rfl (hb hby d31_146) _ ?_
    exact k_)
  have P54 := oS (T44.setTop (mkF m 148 #[r_ en, r_ b, i_ 0, i_ 3, r_ d, i_ 0, i_ 1, r_ ret_, i_ 3, i_ 4, i_ ((((y0 &&& 255) <<< ((16 : Int32) &&& 31)) ||| ((y1 &&& 255) <<< ((8 : Int32) &&& 31))) ||| (y2 &&& 255))] [(.int (v3.toInt8.toInt32)), (.int 3), (.ref d)])) P53 (by
    intro _ k_
    refine XS.i2b X44.here hx rfl (hb hby d31_147) rfl ?_
    exact k_)
  obtain ⟨cl55, Ar55, q55, S55, M55, H55, G55⟩ := id V44
  obtain ⟨T56, h56, X56, e56, W56, st56⟩ := stB X44 hx hZ e44 Ar55 (j := (3 : Int32)) (inb_of S55 hid3) (g := (mkF m 148 #[r_ en, r_ b, i_ 0, i_ 3, r_ d, i_ 0, i_ 1, r_ ret_, i_ 3, i_ 4, i_ ((((y0 &&& 255) <<< ((16 : Int32) &&& 31)) ||| ((y1 &&& 255) <<< ((8 : Int32) &&& 31))) ||| (y2 &&& 255))] [(.int (v3.toInt8.toInt32)), (.int 3), (.ref d)])) rfl rfl (hb hby d31_148)
  have f60 := f48.wr W56 (Or.inl (List.mem_of_getElem? (i := 0) rfl))
  have V56 : Arv Z h56 d kd .byte zl ((.int (v0.toInt8.toInt32).toInt8.toInt32) :: (.int (v1.toInt8.toInt32).toInt8.toInt32) :: (.int (v2.toInt8.toInt32).toInt8.toInt32) :: (.int (v3.toInt8.toInt32).toInt8.toInt32) :: td) (.int 0) := Arv.set Ar55 q55 S55 M55 H55 G55 (fits_nar_byte _) W56 3 rfl (by simp)
  have N56 := Fr.snoc X56 N44 gd
  have P62 := oS (T56.setTop (mkF m 149 #[r_ en, r_ b, i_ 0, i_ 3, r_ d, i_ 0, i_ 1, r_ ret_, i_ 3, i_ 4, i_ ((((y0 &&& 255) <<< ((16 : Int32) &&& 31)) ||| ((y1 &&& 255) <<< ((8 : Int32) &&& 31))) ||| (y2 &&& 255))] [])) P54 (fun t_ k_ => st56 t_ k_)
  have P63 := oS (T56.setTop (mkF m 26 #[r_ en, r_ b, i_ 0, i_ 3, r_ d, i_ 0, i_ 1, r_ ret_, i_ 3, i_ 4, i_ ((((y0 &&& 255) <<< ((16 : Int32) &&& 31)) ||| ((y1 &&& 255) <<< ((8 : Int32) &&& 31))) ||| (y2 &&& 255))] [(.int 3), (.int 3)])) P62 (by
    intro _ k_
    refine gt_ X56 hx hby d31_149 (pc := 149) (pc' := 23) (by decide) ?_
    refine il_ X56 hx hby d31_23 rfl ?_
    refine iN_ X56 hx hby d31_25 rfl ?_
    exact k_)
  have P64 := oS (T56.setTop (mkF m 152 #[r_ en, r_ b, i_ 0, i_ 3, r_ d, i_ 0, i_ 1, r_ ret_, i_ 3, i_ 4, i_ ((((y0 &&& 255) <<< ((16 : Int32) &&& 31)) ||| ((y1 &&& 255) <<< ((8 : Int32) &&& 31))) ||| (y2 &&& 255))] [])) P63 (by
    intro _ k_
    refine cY_ X56 hx hby d31_26 (pc := 26) (pc' := 152) (flt (by decide : ¬ ((3 : Int32) < (3 : Int32)))).2.1 (by decide) ?_
    exact k_)
  rw [hz0, hz1, hz2, hz3] at V56
  exact own_out X56 hlk (v := none) (fun _ => rfl) P64 (fun _ q_ => X56.returnOut hx hrt (hb hby d31_152) q_) e56 ⟨rfl, N56, f60, V56⟩ (by decide)
abbrev cB30 := jdk_29_method_69_code
abbrev yM30 : MethodName := ⟨"java/lang/Math", "min", "(II)I"⟩
theorem d30_0 : own_d cB30 0 (.iload_n 0) 1 := by decide +kernel
theorem d30_1 : own_d cB30 1 (.iload_n 1) 1 := by decide +kernel
theorem d30_2 : own_d cB30 2 (.if_icmp .gt 7) 3 := by decide +kernel
theorem d30_5 : own_d cB30 5 (.iload_n 0) 1 := by decide +kernel
theorem d30_6 : own_d cB30 6 (.goto 4) 3 := by decide +kernel
theorem d30_10 : own_d cB30 10 (.ireturn) 1 := by decide +kernel
theorem ef30II (m : MethodId) (x0 : Int32) (x1 : Int32) : entryFrame m #[(.int x0), (.int x1)] 2 = mkF m 0 #[i_ x0, i_ x1] [] := by first | (simp [entryFrame, mkF, argsToLocals, Value.category]; done) | rfl
def Q_min33 (Z : State)  (h0 : Heap) (n0 : Nat) (v_ : Option Value) (h : Heap) (L_ : List Loc) : Prop := v_ = some (.int 3) ∧ Fr n0 L_ ∧ h = h0
set_option maxRecDepth 65536 in
set_option maxHeartbeats 40000000 in
theorem rm_min33 (l : Launch) (Z : State) (a0 : Array Value) (hw : ∀ d ∈ tables_1, d.before a0 Z = true) (ws : List Jvm.Cond)  (h0 : Heap) (n0 : Nat) (Z0 : n0 ≤ h0.size) :
    own_MF l yM30 (.code yM30 cB30 2 (some .int)) ws ⟨0, 0, 0, 0⟩ #[(.int 3), (.int 3)] Z h0 own_T (Q_min33 Z  h0 n0) := by
  refine own_in "java/lang/Math" rfl (Jvm.Free.JP.mathPlain rfl (by decide +kernel)) hisR (fun m => ef30II m (3 : Int32) (3 : Int32)) ?_
  intro p e s m below meth c s₁ A_ hx hby hml hown hnm hrt hlk hZ _ X0 e0 pre0
  have N0 := Fr.nil n0
  have P1 := oS (s₁.setTop (mkF m 2 #[i_ 3, i_ 3] [(.int 3), (.int 3)])) pre0 (by
    intro _ k_
    refine iN_ X0 hx hby d30_0 rfl ?_
    refine iN_ X0 hx hby d30_1 rfl ?_
    exact k_)
  have P2 := oS (s₁.setTop (mkF m 10 #[i_ 3, i_ 3] [(.int 3)])) P1 (by
    intro _ k_
    refine XS.icmpNo X0.here hx rfl (hb hby d30_2) rfl (flt (by decide : ¬ ((3 : Int32) < (3 : Int32)))).2.2.1 ?_
    refine iN_ X0 hx hby d30_5 rfl ?_
    refine gt_ X0 hx hby d30_6 (pc := 6) (pc' := 10) (by decide) ?_
    exact k_)
  exact own_out X0 hlk (v := some (.int 3)) (own_hv hrt) P2 (fun _ q_ => retI X0 hx hrt (hb hby d30_10) q_) e0 ⟨rfl, N0, rfl⟩ (by decide)
theorem pd23 : parseMethodDescriptor "([BII[BIZ)V" = some ⟨[(.array .byte), .int, .int, (.array .byte), .int, .boolean], none⟩ := by decide +kernel
theorem d22_76 : own_d cB22 76 (.iload 6) 2 := by decide +kernel
theorem d22_78 : own_d cB22 78 (.iload 7) 2 := by decide +kernel
theorem d22_80 : own_d cB22 80 (.iadd) 1 := by decide +kernel
theorem d22_81 : own_d cB22 81 (.iload 8) 2 := by decide +kernel
theorem d22_83 : own_d cB22 83 (.invokestatic 124) 3 := by decide +kernel
theorem d22_86 : own_d cB22 86 (.istore 10) 2 := by decide +kernel
theorem d22_88 : own_d cB22 88 (.aload_n 0) 1 := by decide +kernel
theorem d22_89 : own_d cB22 89 (.aload_n 1) 1 := by decide +kernel
theorem d22_90 : own_d cB22 90 (.iload 6) 2 := by decide +kernel
theorem d22_92 : own_d cB22 92 (.iload 10) 2 := by decide +kernel
theorem d22_94 : own_d cB22 94 (.aload 4) 2 := by decide +kernel
theorem d22_96 : own_d cB22 96 (.iload 9) 2 := by decide +kernel
theorem d22_98 : own_d cB22 98 (.aload_n 0) 1 := by decide +kernel
theorem d22_99 : own_d cB22 99 (.getfield 7) 3 := by decide +kernel
theorem d22_102 : own_d cB22 102 (.invokevirtual 127) 3 := by decide +kernel
theorem d22_105 : own_d cB22 105 (.iload 10) 2 := by decide +kernel
theorem d22_107 : own_d cB22 107 (.iload 6) 2 := by decide +kernel
theorem d22_109 : own_d cB22 109 (.isub) 1 := by decide +kernel
theorem d22_110 : own_d cB22 110 (.iconst 3) 1 := by decide +kernel
theorem d22_111 : own_d cB22 111 (.idiv) 1 := by decide +kernel
theorem d22_112 : own_d cB22 112 (.iconst 4) 1 := by decide +kernel
theorem d22_113 : own_d cB22 113 (.imul) 1 := by decide +kernel
theorem d22_114 : own_d cB22 114 (.istore 11) 2 := by decide +kernel
theorem d22_116 : own_d cB22 116 (.iload 9) 2 := by decide +kernel
theorem d22_118 : own_d cB22 118 (.iload 11) 2 := by decide +kernel
theorem d22_120 : own_d cB22 120 (.iadd) 1 := by decide +kernel
theorem d22_121 : own_d cB22 121 (.istore 9) 2 := by decide +kernel
theorem d22_123 : own_d cB22 123 (.iload 10) 2 := by decide +kernel
theorem d22_125 : own_d cB22 125 (.istore 6) 2 := by decide +kernel
theorem d22_127 : own_d cB22 127 (.iload 11) 2 := by decide +kernel
theorem d22_129 : own_d cB22 129 (.aload_n 0) 1 := by decide +kernel
theorem d22_130 : own_d cB22 130 (.getfield 17) 3 := by decide +kernel
theorem d22_133 : own_d cB22 133 (.if_icmp .ne 53) 3 := by decide +kernel
theorem d22_186 : own_d cB22 186 (.goto (-117)) 3 := by decide +kernel
set_option maxRecDepth 65536 in
set_option maxHeartbeats 40000000 in
theorem rm_enc0_3 (l : Launch) (Z : State) (a0 : Array Value) (hw : ∀ d ∈ tables_1, d.before a0 Z = true) (y0 : Int32) (y1 : Int32) (y2 : Int32) (v0 : Int32) (v1 : Int32) (v2 : Int32) (v3 : Int32) (x0 : Int32) (x1 : Int32) (x2 : Int32) (x3 : Int32) (ret_ : Addr) (ket : ClassId) (Set : Sta Z Z.heap "java/util/Base64$Encoder" "toBase64URL" "[C" (.ref ret_)) (Vet : Arv Z Z.heap ret_ ket .char (64 : Int32) own_enc (.int 0)) (hk0 : ¬ (((((((y0 &&& 255) <<< ((16 : Int32) &&& 31)) ||| ((y1 &&& 255) <<< ((8 : Int32) &&& 31))) ||| (y2 &&& 255)).toUInt32 >>> ((18 : Int32) &&& 31).toUInt32).toInt32) &&& 63) < 0 ∧ (((((((y0 &&& 255) <<< ((16 : Int32) &&& 31)) ||| ((y1 &&& 255) <<< ((8 : Int32) &&& 31))) ||| (y2 &&& 255)).toUInt32 >>> ((18 : Int32) &&& 31).toUInt32).toInt32) &&& 63) < (64 : Int32)) (hv0 : own_enc.getD (((((((y0 &&& 255) <<< ((16 : Int32) &&& 31)) ||| ((y1 &&& 255) <<< ((8 : Int32) &&& 31))) ||| (y2 &&& 255)).toUInt32 >>> ((18 : Int32) &&& 31).toUInt32).toInt32) &&& 63).toNatClampNeg (.int 0) = .int v0) (hz0 : v0.toInt8.toInt32.toInt8.toInt32 = x0) (hk1 : ¬ (((((((y0 &&& 255) <<< ((16 : Int32) &&& 31)) ||| ((y1 &&& 255) <<< ((8 : Int32) &&& 31))) ||| (y2 &&& 255)).toUInt32 >>> ((12 : Int32) &&& 31).toUInt32).toInt32) &&& 63) < 0 ∧ (((((((y0 &&& 255) <<< ((16 : Int32) &&& 31)) ||| ((y1 &&& 255) <<< ((8 : Int32) &&& 31))) ||| (y2 &&& 255)).toUInt32 >>> ((12 : Int32) &&& 31).toUInt32).toInt32) &&& 63) < (64 : Int32)) (hv1 : own_enc.getD (((((((y0 &&& 255) <<< ((16 : Int32) &&& 31)) ||| ((y1 &&& 255) <<< ((8 : Int32) &&& 31))) ||| (y2 &&& 255)).toUInt32 >>> ((12 : Int32) &&& 31).toUInt32).toInt32) &&& 63).toNatClampNeg (.int 0) = .int v1) (hz1 : v1.toInt8.toInt32.toInt8.toInt32 = x1) (hk2 : ¬ (((((((y0 &&& 255) <<< ((16 : Int32) &&& 31)) ||| ((y1 &&& 255) <<< ((8 : Int32) &&& 31))) ||| (y2 &&& 255)).toUInt32 >>> ((6 : Int32) &&& 31).toUInt32).toInt32) &&& 63) < 0 ∧ (((((((y0 &&& 255) <<< ((16 : Int32) &&& 31)) ||| ((y1 &&& 255) <<< ((8 : Int32) &&& 31))) ||| (y2 &&& 255)).toUInt32 >>> ((6 : Int32) &&& 31).toUInt32).toInt32) &&& 63) < (64 : Int32)) (hv2 : own_enc.getD (((((((y0 &&& 255) <<< ((16 : Int32) &&& 31)) ||| ((y1 &&& 255) <<< ((8 : Int32) &&& 31))) ||| (y2 &&& 255)).toUInt32 >>> ((6 : Int32) &&& 31).toUInt32).toInt32) &&& 63).toNatClampNeg (.int 0) = .int v2) (hz2 : v2.toInt8.toInt32.toInt8.toInt32 = x2) (hk3 : ¬ (((((y0 &&& 255) <<< ((16 : Int32) &&& 31)) ||| ((y1 &&& 255) <<< ((8 : Int32) &&& 31))) ||| (y2 &&& 255)) &&& 63) < 0 ∧ (((((y0 &&& 255) <<< ((16 : Int32) &&& 31)) ||| ((y1 &&& 255) <<< ((8 : Int32) &&& 31))) ||| (y2 &&& 255)) &&& 63) < (64 : Int32)) (hv3 : own_enc.getD (((((y0 &&& 255) <<< ((16 : Int32) &&& 31)) ||| ((y1 &&& 255) <<< ((8 : Int32) &&& 31))) ||| (y2 &&& 255)) &&& 63).toNatClampNeg (.int 0) = .int v3) (hz3 : v3.toInt8.toInt32.toInt8.toInt32 = x3) :
    HE0 l Z (3 : Int32) (4 : Int32) [(.int y0), (.int y1), (.int y2)] [(.int x0), (.int x1), (.int x2), (.int x3)] := by
  intro en b k d kd h0 n0 Z0 O Fp Fl Fe Ee Vb Vd0 nbd gd nen
  refine own_in "java/util/Base64$Encoder" rfl (plainFor_of_name pn4) hisR (fun m => ef22RRIIR m en b (0 : Int32) (3 : Int32) d) ?_
  intro p e s m below meth c s₁ A_ hx hby hml hown hnm hrt hlk hZ _ X0 e0 pre0
  have N0 := Fr.nil n0
  have Vd : Arv Z h0 d kd .byte (4 : Int32) [(.int 0), (.int 0), (.int 0), (.int 0)] (.int 0) := Vd0.pad (pad_rep [] _ 4)
  have P1 := oS (s₁.setTop (mkF m 1 #[r_ en, r_ b, i_ 0, i_ 3, r_ d, u_, u_, u_, u_, u_, u_, u_, u_, u_, u_, u_] [(.ref en)])) pre0 (by
    intro _ k_
    refine aN_ X0 hx hby d22_0 rfl rfl ?_
    exact k_)
  obtain ⟨T2, X2, e2, st2⟩ := getF X0 hx hZ hown (host := "") (Or.inl (own_w hw 141 rfl)) Via.refl e0 Fe (g := (mkF m 1 #[r_ en, r_ b, i_ 0, i_ 3, r_ d, u_, u_, u_, u_, u_, u_, u_, u_, u_, u_, u_] [(.ref en)])) rfl rfl (hb hby d22_1)
  have P3 := oS (T2.setTop (mkF m 4 #[r_ en, r_ b, i_ 0, i_ 3, r_ d, u_, u_, u_, u_, u_, u_, u_, u_, u_, u_, u_] [(.int 1)])) P1 (fun t_ k_ => st2 t_ k_)
  have P4 := oS (T2.setTop (mkF m 7 #[r_ en, r_ b, i_ 0, i_ 3, r_ d, u_, u_, u_, u_, u_, u_, u_, u_, u_, u_, u_] [])) P3 (by
    intro _ k_
    refine XS.ifNo X2.here hx rfl (hb hby d22_4) rfl ((if0 _ _).trans (feq (by decide : ¬ ((1 : Int32) = (0 : Int32)))).1) ?_
    exact k_)
  obtain ⟨T5, X5, e5, st5⟩ := getS2 X2 hx hZ hown (host := "") (Or.inl (own_w hw 143 rfl)) Via.refl e2 (Set.ext O.2) (g := (mkF m 7 #[r_ en, r_ b, i_ 0, i_ 3, r_ d, u_, u_, u_, u_, u_, u_, u_, u_, u_, u_, u_] [])) rfl (hb hby d22_7)
  have P6 := oS (T5.setTop (mkF m 10 #[r_ en, r_ b, i_ 0, i_ 3, r_ d, u_, u_, u_, u_, u_, u_, u_, u_, u_, u_, u_] [(.ref ret_)])) P4 (fun t_ k_ => st5 t_ k_)
  have P7 := oS (T5.setTop (mkF m 37 #[r_ en, r_ b, i_ 0, i_ 3, r_ d, r_ ret_, i_ 0, i_ 3, i_ 3, u_, u_, u_, u_, u_, u_, u_] [(.ref en)])) P6 (by
    intro _ k_
    refine gt_ X5 hx hby d22_10 (pc := 10) (pc' := 16) (by decide) ?_
    refine XS.astore X5.here hx rfl (hb hby d22_16) rfl rfl (l' := #[r_ en, r_ b, i_ 0, i_ 3, r_ d, r_ ret_, u_, u_, u_, u_, u_, u_, u_, u_, u_, u_]) rfl ?_
    refine iN_ X5 hx hby d22_18 rfl ?_
    refine is_ X5 hx hby d22_19 (l' := #[r_ en, r_ b, i_ 0, i_ 3, r_ d, r_ ret_, i_ 0, u_, u_, u_, u_, u_, u_, u_, u_, u_]) rfl ?_
    refine iN_ X5 hx hby d22_21 rfl ?_
    refine iN_ X5 hx hby d22_22 rfl ?_
    refine XS.isub X5.here hx rfl (hb hby d22_23) rfl ?_
    show Steps p.tables e below (T5.setTop (mkF m 24 #[r_ en, r_ b, i_ 0, i_ 3, r_ d, r_ ret_, i_ 0, u_, u_, u_, u_, u_, u_, u_, u_, u_] [(.int 3)])) _
    refine XS.iconst X5.here hx rfl (hb hby d22_24) ?_
    refine XS.idiv X5.here hx rfl (hb hby d22_25) rfl (by decide) ?_
    show Steps p.tables e below (T5.setTop (mkF m 26 #[r_ en, r_ b, i_ 0, i_ 3, r_ d, r_ ret_, i_ 0, u_, u_, u_, u_, u_, u_, u_, u_, u_] [(.int 1)])) _
    refine XS.iconst X5.here hx rfl (hb hby d22_26) ?_
    refine XS.imul X5.here hx rfl (hb hby d22_27) rfl ?_
    show Steps p.tables e below (T5.setTop (mkF m 28 #[r_ en, r_ b, i_ 0, i_ 3, r_ d, r_ ret_, i_ 0, u_, u_, u_, u_, u_, u_, u_, u_, u_] [(.int 3)])) _
    refine is_ X5 hx hby d22_28 (l' := #[r_ en, r_ b, i_ 0, i_ 3, r_ d, r_ ret_, i_ 0, i_ 3, u_, u_, u_, u_, u_, u_, u_, u_]) rfl ?_
    refine iN_ X5 hx hby d22_30 rfl ?_
    refine il_ X5 hx hby d22_31 rfl ?_
    refine XS.iadd X5.here hx rfl (hb hby d22_33) rfl ?_
    show Steps p.tables e below (T5.setTop (mkF m 34 #[r_ en, r_ b, i_ 0, i_ 3, r_ d, r_ ret_, i_ 0, i_ 3, u_, u_, u_, u_, u_, u_, u_, u_] [(.int 3)])) _
    refine is_ X5 hx hby d22_34 (l' := #[r_ en, r_ b, i_ 0, i_ 3, r_ d, r_ ret_, i_ 0, i_ 3, i_ 3, u_, u_, u_, u_, u_, u_, u_]) rfl ?_
    refine aN_ X5 hx hby d22_36 rfl rfl ?_
    exact k_)
  obtain ⟨T8, X8, e8, st8⟩ := getF X5 hx hZ hown (host := "") (Or.inl (own_w hw 134 rfl)) Via.refl e5 Fl (g := (mkF m 37 #[r_ en, r_ b, i_ 0, i_ 3, r_ d, r_ ret_, i_ 0, i_ 3, i_ 3, u_, u_, u_, u_, u_, u_, u_] [(.ref en)])) rfl rfl (hb hby d22_37)
  have P9 := oS (T8.setTop (mkF m 40 #[r_ en, r_ b, i_ 0, i_ 3, r_ d, r_ ret_, i_ 0, i_ 3, i_ 3, u_, u_, u_, u_, u_, u_, u_] [(.int (-1 : Int32))])) P7 (fun t_ k_ => st8 t_ k_)
  have P10 := oS (T8.setTop (mkF m 73 #[r_ en, r_ b, i_ 0, i_ 3, r_ d, r_ ret_, i_ 0, i_ 3, i_ 3, i_ 0, u_, u_, u_, u_, u_, u_] [(.int 3), (.int 0)])) P9 (by
    intro _ k_
    refine fY_ X8 hx hby d22_40 (pc := 40) (pc' := 66) ((if0 _ _).trans (flt (by decide : ¬ ((0 : Int32) < (-1 : Int32)))).2.2.2) (by decide) ?_
    refine XS.iconst X8.here hx rfl (hb hby d22_66) ?_
    refine is_ X8 hx hby d22_67 (l' := #[r_ en, r_ b, i_ 0, i_ 3, r_ d, r_ ret_, i_ 0, i_ 3, i_ 3, i_ 0, u_, u_, u_, u_, u_, u_]) rfl ?_
    refine il_ X8 hx hby d22_69 rfl ?_
    refine il_ X8 hx hby d22_71 rfl ?_
    exact k_)
  have P11 := oS (T8.setTop (mkF m 83 #[r_ en, r_ b, i_ 0, i_ 3, r_ d, r_ ret_, i_ 0, i_ 3, i_ 3, i_ 0, u_, u_, u_, u_, u_, u_] [(.int 3), (.int 3)])) P10 (by
    intro _ k_
    refine XS.icmpNo X8.here hx rfl (hb hby d22_73) rfl (tlt (by decide : (0 : Int32) < (3 : Int32))).2.1 ?_
    refine il_ X8 hx hby d22_76 rfl ?_
    refine il_ X8 hx hby d22_78 rfl ?_
    refine XS.iadd X8.here hx rfl (hb hby d22_80) rfl ?_
    show Steps p.tables e below (T8.setTop (mkF m 81 #[r_ en, r_ b, i_ 0, i_ 3, r_ d, r_ ret_, i_ 0, i_ 3, i_ 3, i_ 0, u_, u_, u_, u_, u_, u_] [(.int 3)])) _
    refine il_ X8 hx hby d22_81 rfl ?_
    exact k_)
  obtain ⟨_, T12, L12, X12, hQ12, P12c⟩ := own_cS (W := 0) (rm_min33 l Z a0 hw []  h0 n0 Z0 ) X8 hx hZ (fun _ _ => trivial) hown (own_w hw 177 rfl) (own_w hw 178 rfl) (own_w hw 129 rfl) (own_w hw 179 rfl) (by decide) P11 hml rfl [(.int 3), (.int 3)] [] rfl rfl rfl pd12 rfl (hb hby d22_83) e8 (by decide)
  obtain ⟨rfl, N12q, e12⟩ := hQ12
  have N12 := Fr.app N0 N12q
  have P13 := own_to (C := T12.setTop (mkF m 86 #[r_ en, r_ b, i_ 0, i_ 3, r_ d, r_ ret_, i_ 0, i_ 3, i_ 3, i_ 0, u_, u_, u_, u_, u_, u_] [(.int 3)])) P12c
  have P14 := oS (T12.setTop (mkF m 99 #[r_ en, r_ b, i_ 0, i_ 3, r_ d, r_ ret_, i_ 0, i_ 3, i_ 3, i_ 0, i_ 3, u_, u_, u_, u_, u_] [(.ref en), (.int 0), (.ref d), (.int 3), (.int 0), (.ref b), (.ref en)])) P13 (by
    intro _ k_
    refine is_ X12 hx hby d22_86 (l' := #[r_ en, r_ b, i_ 0, i_ 3, r_ d, r_ ret_, i_ 0, i_ 3, i_ 3, i_ 0, i_ 3, u_, u_, u_, u_, u_]) rfl ?_
    refine aN_ X12 hx hby d22_88 rfl rfl ?_
    refine aN_ X12 hx hby d22_89 rfl rfl ?_
    refine il_ X12 hx hby d22_90 rfl ?_
    refine il_ X12 hx hby d22_92 rfl ?_
    refine a_ X12 hx hby d22_94 rfl rfl ?_
    refine il_ X12 hx hby d22_96 rfl ?_
    refine aN_ X12 hx hby d22_98 rfl rfl ?_
    exact k_)
  obtain ⟨T15, X15, e15, st15⟩ := getF X12 hx hZ hown (host := "") (Or.inl (own_w hw 141 rfl)) Via.refl e12 Fe (g := (mkF m 99 #[r_ en, r_ b, i_ 0, i_ 3, r_ d, r_ ret_, i_ 0, i_ 3, i_ 3, i_ 0, i_ 3, u_, u_, u_, u_, u_] [(.ref en), (.int 0), (.ref d), (.int 3), (.int 0), (.ref b), (.ref en)])) rfl rfl (hb hby d22_99)
  have P16 := oS (T15.setTop (mkF m 102 #[r_ en, r_ b, i_ 0, i_ 3, r_ d, r_ ret_, i_ 0, i_ 3, i_ 3, i_ 0, i_ 3, u_, u_, u_, u_, u_] [(.int 1), (.int 0), (.ref d), (.int 3), (.int 0), (.ref b), (.ref en)])) P14 (fun t_ k_ => st15 t_ k_)
  obtain ⟨_, T17, L17, X17, hQ17, P17c⟩ := own_cP (W := 0) (rm_encB l Z a0 hw [] en b k d kd (3 : Int32) (4 : Int32) [] [] y0 y1 y2 v0 v1 v2 v3 x0 x1 x2 x3 ret_ ket h0 n0 Z0 O Set Vet Vb Vd nbd gd (by decide) (by decide) (by decide) (by decide) (by decide) (by decide) (by decide) hk0 hv0 hz0 hk1 hv1 hz1 hk2 hv2 hz2 hk3 hv3 hz3) X15 hx hZ (fun _ _ => trivial) hown Ee (own_w hw 180 rfl) (own_w hw 182 rfl) (own_w hw 183 rfl) (own_w hw 181 rfl) (own_w hw 113 rfl) (own_w hw 184 rfl) (by decide) P16 hml rfl [(.ref b), (.int 0), (.int 3), (.ref d), (.int 0), (.int 1)] [] rfl rfl rfl pd23 rfl (hb hby d22_102) e15 (by decide)
  obtain ⟨rfl, N17q, K17, f18⟩ := hQ17
  have N17 := Fr.app N12 N17q
  have f21 := Fl.keep K17 (ninS nen nin0)
  have f25 := (Keep.refl h0 [d]).trans K17 (allS (Or.inl (List.mem_of_getElem? (i := 0) rfl)) all0)
  have P28 := own_to (C := T17.setTop (mkF m 105 #[r_ en, r_ b, i_ 0, i_ 3, r_ d, r_ ret_, i_ 0, i_ 3, i_ 3, i_ 0, i_ 3, u_, u_, u_, u_, u_] [])) P17c
  have f18_ : Arv Z T17.heap d kd .byte (4 : Int32) [(.int x0), (.int x1), (.int x2), (.int x3)] (.int 0) := f18
  have P29 := oS (T17.setTop (mkF m 130 #[r_ en, r_ b, i_ 0, i_ 3, r_ d, r_ ret_, i_ 3, i_ 3, i_ 3, i_ 4, i_ 3, i_ 4, u_, u_, u_, u_] [(.ref en), (.int 4)])) P28 (by
    intro _ k_
    refine il_ X17 hx hby d22_105 rfl ?_
    refine il_ X17 hx hby d22_107 rfl ?_
    refine XS.isub X17.here hx rfl (hb hby d22_109) rfl ?_
    show Steps p.tables e below (T17.setTop (mkF m 110 #[r_ en, r_ b, i_ 0, i_ 3, r_ d, r_ ret_, i_ 0, i_ 3, i_ 3, i_ 0, i_ 3, u_, u_, u_, u_, u_] [(.int 3)])) _
    refine XS.iconst X17.here hx rfl (hb hby d22_110) ?_
    refine XS.idiv X17.here hx rfl (hb hby d22_111) rfl (by decide) ?_
    show Steps p.tables e below (T17.setTop (mkF m 112 #[r_ en, r_ b, i_ 0, i_ 3, r_ d, r_ ret_, i_ 0, i_ 3, i_ 3, i_ 0, i_ 3, u_, u_, u_, u_, u_] [(.int 1)])) _
    refine XS.iconst X17.here hx rfl (hb hby d22_112) ?_
    refine XS.imul X17.here hx rfl (hb hby d22_113) rfl ?_
    show Steps p.tables e below (T17.setTop (mkF m 114 #[r_ en, r_ b, i_ 0, i_ 3, r_ d, r_ ret_, i_ 0, i_ 3, i_ 3, i_ 0, i_ 3, u_, u_, u_, u_, u_] [(.int 4)])) _
    refine is_ X17 hx hby d22_114 (l' := #[r_ en, r_ b, i_ 0, i_ 3, r_ d, r_ ret_, i_ 0, i_ 3, i_ 3, i_ 0, i_ 3, i_ 4, u_, u_, u_, u_]) rfl ?_
    refine il_ X17 hx hby d22_116 rfl ?_
    refine il_ X17 hx hby d22_118 rfl ?_
    refine XS.iadd X17.here hx rfl (hb hby d22_120) rfl ?_
    show Steps p.tables e below (T17.setTop (mkF m 121 #[r_ en, r_ b, i_ 0, i_ 3, r_ d, r_ ret_, i_ 0, i_ 3, i_ 3, i_ 0, i_ 3, i_ 4, u_, u_, u_, u_] [(.int 4)])) _
    refine is_ X17 hx hby d22_121 (l' := #[r_ en, r_ b, i_ 0, i_ 3, r_ d, r_ ret_, i_ 0, i_ 3, i_ 3, i_ 4, i_ 3, i_ 4, u_, u_, u_, u_]) rfl ?_
    refine il_ X17 hx hby d22_123 rfl ?_
    refine is_ X17 hx hby d22_125 (l' := #[r_ en, r_ b, i_ 0, i_ 3, r_ d, r_ ret_, i_ 3, i_ 3, i_ 3, i_ 4, i_ 3, i_ 4, u_, u_, u_, u_]) rfl ?_
    refine il_ X17 hx hby d22_127 rfl ?_
    refine aN_ X17 hx hby d22_129 rfl rfl ?_
    exact k_)
  obtain ⟨T30, X30, e30, st30⟩ := getF X17 hx hZ hown (host := "") (Or.inl (own_w hw 134 rfl)) Via.refl rfl f21 (g := (mkF m 130 #[r_ en, r_ b, i_ 0, i_ 3, r_ d, r_ ret_, i_ 3, i_ 3, i_ 3, i_ 4, i_ 3, i_ 4, u_, u_, u_, u_] [(.ref en), (.int 4)])) rfl rfl (hb hby d22_130)
  have P31 := oS (T30.setTop (mkF m 133 #[r_ en, r_ b, i_ 0, i_ 3, r_ d, r_ ret_, i_ 3, i_ 3, i_ 3, i_ 4, i_ 3, i_ 4, u_, u_, u_, u_] [(.int (-1 : Int32)), (.int 4)])) P29 (fun t_ k_ => st30 t_ k_)
  have P32 := oS (T30.setTop (mkF m 73 #[r_ en, r_ b, i_ 0, i_ 3, r_ d, r_ ret_, i_ 3, i_ 3, i_ 3, i_ 4, i_ 3, i_ 4, u_, u_, u_, u_] [(.int 3), (.int 3)])) P31 (by
    intro _ k_
    refine cY_ X30 hx hby d22_133 (pc := 133) (pc' := 186) (feq (by decide : ¬ ((4 : Int32) = (-1 : Int32)))).2 (by decide) ?_
    refine gt_ X30 hx hby d22_186 (pc := 186) (pc' := 69) (by decide) ?_
    refine il_ X30 hx hby d22_69 rfl ?_
    refine il_ X30 hx hby d22_71 rfl ?_
    exact k_)
  have P33 := oS (T30.setTop (mkF m 192 #[r_ en, r_ b, i_ 0, i_ 3, r_ d, r_ ret_, i_ 3, i_ 3, i_ 3, i_ 4, i_ 3, i_ 4, u_, u_, u_, u_] [(.int 3), (.int 3)])) P32 (by
    intro _ k_
    refine cY_ X30 hx hby d22_73 (pc := 73) (pc' := 189) (flt (by decide : ¬ ((3 : Int32) < (3 : Int32)))).2.1 (by decide) ?_
    refine il_ X30 hx hby d22_189 rfl ?_
    refine iN_ X30 hx hby d22_191 rfl ?_
    exact k_)
  have P34 := oS (T30.setTop (mkF m 354 #[r_ en, r_ b, i_ 0, i_ 3, r_ d, r_ ret_, i_ 3, i_ 3, i_ 3, i_ 4, i_ 3, i_ 4, u_, u_, u_, u_] [(.int 4)])) P33 (by
    intro _ k_
    refine cY_ X30 hx hby d22_192 (pc := 192) (pc' := 352) (flt (by decide : ¬ ((3 : Int32) < (3 : Int32)))).2.1 (by decide) ?_
    refine il_ X30 hx hby d22_352 rfl ?_
    exact k_)
  exact own_out X30 hlk (v := some (.int 4)) (own_hv hrt) P34 (fun _ q_ => retI X30 hx hrt (hb hby d22_354) q_) e30 ⟨rfl, N17, f25, f18_⟩ (by decide)
set_option maxRecDepth 65536 in
set_option maxHeartbeats 40000000 in
theorem rm_enc0_4 (l : Launch) (Z : State) (a0 : Array Value) (hw : ∀ d ∈ tables_1, d.before a0 Z = true) (y0 : Int32) (y1 : Int32) (y2 : Int32) (y3 : Int32) (v0 : Int32) (v1 : Int32) (v2 : Int32) (v3 : Int32) (v4 : Int32) (v5 : Int32) (x0 : Int32) (x1 : Int32) (x2 : Int32) (x3 : Int32) (x4 : Int32) (x5 : Int32) (ret_ : Addr) (ket : ClassId) (Set : Sta Z Z.heap "java/util/Base64$Encoder" "toBase64URL" "[C" (.ref ret_)) (Vet : Arv Z Z.heap ret_ ket .char (64 : Int32) own_enc (.int 0)) (hk0 : ¬ (((((((y0 &&& 255) <<< ((16 : Int32) &&& 31)) ||| ((y1 &&& 255) <<< ((8 : Int32) &&& 31))) ||| (y2 &&& 255)).toUInt32 >>> ((18 : Int32) &&& 31).toUInt32).toInt32) &&& 63) < 0 ∧ (((((((y0 &&& 255) <<< ((16 : Int32) &&& 31)) ||| ((y1 &&& 255) <<< ((8 : Int32) &&& 31))) ||| (y2 &&& 255)).toUInt32 >>> ((18 : Int32) &&& 31).toUInt32).toInt32) &&& 63) < (64 : Int32)) (hv0 : own_enc.getD (((((((y0 &&& 255) <<< ((16 : Int32) &&& 31)) ||| ((y1 &&& 255) <<< ((8 : Int32) &&& 31))) ||| (y2 &&& 255)).toUInt32 >>> ((18 : Int32) &&& 31).toUInt32).toInt32) &&& 63).toNatClampNeg (.int 0) = .int v0) (hz0 : v0.toInt8.toInt32.toInt8.toInt32 = x0) (hk1 : ¬ (((((((y0 &&& 255) <<< ((16 : Int32) &&& 31)) ||| ((y1 &&& 255) <<< ((8 : Int32) &&& 31))) ||| (y2 &&& 255)).toUInt32 >>> ((12 : Int32) &&& 31).toUInt32).toInt32) &&& 63) < 0 ∧ (((((((y0 &&& 255) <<< ((16 : Int32) &&& 31)) ||| ((y1 &&& 255) <<< ((8 : Int32) &&& 31))) ||| (y2 &&& 255)).toUInt32 >>> ((12 : Int32) &&& 31).toUInt32).toInt32) &&& 63) < (64 : Int32)) (hv1 : own_enc.getD (((((((y0 &&& 255) <<< ((16 : Int32) &&& 31)) ||| ((y1 &&& 255) <<< ((8 : Int32) &&& 31))) ||| (y2 &&& 255)).toUInt32 >>> ((12 : Int32) &&& 31).toUInt32).toInt32) &&& 63).toNatClampNeg (.int 0) = .int v1) (hz1 : v1.toInt8.toInt32.toInt8.toInt32 = x1) (hk2 : ¬ (((((((y0 &&& 255) <<< ((16 : Int32) &&& 31)) ||| ((y1 &&& 255) <<< ((8 : Int32) &&& 31))) ||| (y2 &&& 255)).toUInt32 >>> ((6 : Int32) &&& 31).toUInt32).toInt32) &&& 63) < 0 ∧ (((((((y0 &&& 255) <<< ((16 : Int32) &&& 31)) ||| ((y1 &&& 255) <<< ((8 : Int32) &&& 31))) ||| (y2 &&& 255)).toUInt32 >>> ((6 : Int32) &&& 31).toUInt32).toInt32) &&& 63) < (64 : Int32)) (hv2 : own_enc.getD (((((((y0 &&& 255) <<< ((16 : Int32) &&& 31)) ||| ((y1 &&& 255) <<< ((8 : Int32) &&& 31))) ||| (y2 &&& 255)).toUInt32 >>> ((6 : Int32) &&& 31).toUInt32).toInt32) &&& 63).toNatClampNeg (.int 0) = .int v2) (hz2 : v2.toInt8.toInt32.toInt8.toInt32 = x2) (hk3 : ¬ (((((y0 &&& 255) <<< ((16 : Int32) &&& 31)) ||| ((y1 &&& 255) <<< ((8 : Int32) &&& 31))) ||| (y2 &&& 255)) &&& 63) < 0 ∧ (((((y0 &&& 255) <<< ((16 : Int32) &&& 31)) ||| ((y1 &&& 255) <<< ((8 : Int32) &&& 31))) ||| (y2 &&& 255)) &&& 63) < (64 : Int32)) (hv3 : own_enc.getD (((((y0 &&& 255) <<< ((16 : Int32) &&& 31)) ||| ((y1 &&& 255) <<< ((8 : Int32) &&& 31))) ||| (y2 &&& 255)) &&& 63).toNatClampNeg (.int 0) = .int v3) (hz3 : v3.toInt8.toInt32.toInt8.toInt32 = x3) (hk4 : ¬ ((y3 &&& 255) >>> ((2 : Int32) &&& 31)) < 0 ∧ ((y3 &&& 255) >>> ((2 : Int32) &&& 31)) < (64 : Int32)) (hv4 : own_enc.getD ((y3 &&& 255) >>> ((2 : Int32) &&& 31)).toNatClampNeg (.int 0) = .int v4) (hz4 : v4.toInt8.toInt32.toInt8.toInt32 = x4) (hk5 : ¬ (((y3 &&& 255) <<< ((4 : Int32) &&& 31)) &&& 63) < 0 ∧ (((y3 &&& 255) <<< ((4 : Int32) &&& 31)) &&& 63) < (64 : Int32)) (hv5 : own_enc.getD (((y3 &&& 255) <<< ((4 : Int32) &&& 31)) &&& 63).toNatClampNeg (.int 0) = .int v5) (hz5 : v5.toInt8.toInt32.toInt8.toInt32 = x5) :
    HE0 l Z (4 : Int32) (6 : Int32) [(.int y0), (.int y1), (.int y2), (.int y3)] [(.int x0), (.int x1), (.int x2), (.int x3), (.int x4), (.int x5)] := by
  intro en b k d kd h0 n0 Z0 O Fp Fl Fe Ee Vb Vd0 nbd gd nen
  refine own_in "java/util/Base64$Encoder" rfl (plainFor_of_name pn4) hisR (fun m => ef22RRIIR m en b (0 : Int32) (4 : Int32) d) ?_
  intro p e s m below meth c s₁ A_ hx hby hml hown hnm hrt hlk hZ _ X0 e0 pre0
  have N0 := Fr.nil n0
  have Vd : Arv Z h0 d kd .byte (6 : Int32) [(.int 0), (.int 0), (.int 0), (.int 0), (.int 0), (.int 0)] (.int 0) := Vd0.pad (pad_rep [] _ 6)
  have P1 := oS (s₁.setTop (mkF m 1 #[r_ en, r_ b, i_ 0, i_ 4, r_ d, u_, u_, u_, u_, u_, u_, u_, u_, u_, u_, u_] [(.ref en)])) pre0 (by
    intro _ k_
    refine aN_ X0 hx hby d22_0 rfl rfl ?_
    exact k_)
  obtain ⟨T2, X2, e2, st2⟩ := getF X0 hx hZ hown (host := "") (Or.inl (own_w hw 141 rfl)) Via.refl e0 Fe (g := (mkF m 1 #[r_ en, r_ b, i_ 0, i_ 4, r_ d, u_, u_, u_, u_, u_, u_, u_, u_, u_, u_, u_] [(.ref en)])) rfl rfl (hb hby d22_1)
  have P3 := oS (T2.setTop (mkF m 4 #[r_ en, r_ b, i_ 0, i_ 4, r_ d, u_, u_, u_, u_, u_, u_, u_, u_, u_, u_, u_] [(.int 1)])) P1 (fun t_ k_ => st2 t_ k_)
  have P4 := oS (T2.setTop (mkF m 7 #[r_ en, r_ b, i_ 0, i_ 4, r_ d, u_, u_, u_, u_, u_, u_, u_, u_, u_, u_, u_] [])) P3 (by
    intro _ k_
    refine XS.ifNo X2.here hx rfl (hb hby d22_4) rfl ((if0 _ _).trans (feq (by decide : ¬ ((1 : Int32) = (0 : Int32)))).1) ?_
    exact k_)
  obtain ⟨T5, X5, e5, st5⟩ := getS2 X2 hx hZ hown (host := "") (Or.inl (own_w hw 143 rfl)) Via.refl e2 (Set.ext O.2) (g := (mkF m 7 #[r_ en, r_ b, i_ 0, i_ 4, r_ d, u_, u_, u_, u_, u_, u_, u_, u_, u_, u_, u_] [])) rfl (hb hby d22_7)
  have P6 := oS (T5.setTop (mkF m 10 #[r_ en, r_ b, i_ 0, i_ 4, r_ d, u_, u_, u_, u_, u_, u_, u_, u_, u_, u_, u_] [(.ref ret_)])) P4 (fun t_ k_ => st5 t_ k_)
  have P7 := oS (T5.setTop (mkF m 37 #[r_ en, r_ b, i_ 0, i_ 4, r_ d, r_ ret_, i_ 0, i_ 3, i_ 3, u_, u_, u_, u_, u_, u_, u_] [(.ref en)])) P6 (by
    intro _ k_
    refine gt_ X5 hx hby d22_10 (pc := 10) (pc' := 16) (by decide) ?_
    refine XS.astore X5.here hx rfl (hb hby d22_16) rfl rfl (l' := #[r_ en, r_ b, i_ 0, i_ 4, r_ d, r_ ret_, u_, u_, u_, u_, u_, u_, u_, u_, u_, u_]) rfl ?_
    refine iN_ X5 hx hby d22_18 rfl ?_
    refine is_ X5 hx hby d22_19 (l' := #[r_ en, r_ b, i_ 0, i_ 4, r_ d, r_ ret_, i_ 0, u_, u_, u_, u_, u_, u_, u_, u_, u_]) rfl ?_
    refine iN_ X5 hx hby d22_21 rfl ?_
    refine iN_ X5 hx hby d22_22 rfl ?_
    refine XS.isub X5.here hx rfl (hb hby d22_23) rfl ?_
    show Steps p.tables e below (T5.setTop (mkF m 24 #[r_ en, r_ b, i_ 0, i_ 4, r_ d, r_ ret_, i_ 0, u_, u_, u_, u_, u_, u_, u_, u_, u_] [(.int 4)])) _
    refine XS.iconst X5.here hx rfl (hb hby d22_24) ?_
    refine XS.idiv X5.here hx rfl (hb hby d22_25) rfl (by decide) ?_
    show Steps p.tables e below (T5.setTop (mkF m 26 #[r_ en, r_ b, i_ 0, i_ 4, r_ d, r_ ret_, i_ 0, u_, u_, u_, u_, u_, u_, u_, u_, u_] [(.int 1)])) _
    refine XS.iconst X5.here hx rfl (hb hby d22_26) ?_
    refine XS.imul X5.here hx rfl (hb hby d22_27) rfl ?_
    show Steps p.tables e below (T5.setTop (mkF m 28 #[r_ en, r_ b, i_ 0, i_ 4, r_ d, r_ ret_, i_ 0, u_, u_, u_, u_, u_, u_, u_, u_, u_] [(.int 3)])) _
    refine is_ X5 hx hby d22_28 (l' := #[r_ en, r_ b, i_ 0, i_ 4, r_ d, r_ ret_, i_ 0, i_ 3, u_, u_, u_, u_, u_, u_, u_, u_]) rfl ?_
    refine iN_ X5 hx hby d22_30 rfl ?_
    refine il_ X5 hx hby d22_31 rfl ?_
    refine XS.iadd X5.here hx rfl (hb hby d22_33) rfl ?_
    show Steps p.tables e below (T5.setTop (mkF m 34 #[r_ en, r_ b, i_ 0, i_ 4, r_ d, r_ ret_, i_ 0, i_ 3, u_, u_, u_, u_, u_, u_, u_, u_] [(.int 3)])) _
    refine is_ X5 hx hby d22_34 (l' := #[r_ en, r_ b, i_ 0, i_ 4, r_ d, r_ ret_, i_ 0, i_ 3, i_ 3, u_, u_, u_, u_, u_, u_, u_]) rfl ?_
    refine aN_ X5 hx hby d22_36 rfl rfl ?_
    exact k_)
  obtain ⟨T8, X8, e8, st8⟩ := getF X5 hx hZ hown (host := "") (Or.inl (own_w hw 134 rfl)) Via.refl e5 Fl (g := (mkF m 37 #[r_ en, r_ b, i_ 0, i_ 4, r_ d, r_ ret_, i_ 0, i_ 3, i_ 3, u_, u_, u_, u_, u_, u_, u_] [(.ref en)])) rfl rfl (hb hby d22_37)
  have P9 := oS (T8.setTop (mkF m 40 #[r_ en, r_ b, i_ 0, i_ 4, r_ d, r_ ret_, i_ 0, i_ 3, i_ 3, u_, u_, u_, u_, u_, u_, u_] [(.int (-1 : Int32))])) P7 (fun t_ k_ => st8 t_ k_)
  have P10 := oS (T8.setTop (mkF m 73 #[r_ en, r_ b, i_ 0, i_ 4, r_ d, r_ ret_, i_ 0, i_ 3, i_ 3, i_ 0, u_, u_, u_, u_, u_, u_] [(.int 3), (.int 0)])) P9 (by
    intro _ k_
    refine fY_ X8 hx hby d22_40 (pc := 40) (pc' := 66) ((if0 _ _).trans (flt (by decide : ¬ ((0 : Int32) < (-1 : Int32)))).2.2.2) (by decide) ?_
    refine XS.iconst X8.here hx rfl (hb hby d22_66) ?_
    refine is_ X8 hx hby d22_67 (l' := #[r_ en, r_ b, i_ 0, i_ 4, r_ d, r_ ret_, i_ 0, i_ 3, i_ 3, i_ 0, u_, u_, u_, u_, u_, u_]) rfl ?_
    refine il_ X8 hx hby d22_69 rfl ?_
    refine il_ X8 hx hby d22_71 rfl ?_
    exact k_)
  have P11 := oS (T8.setTop (mkF m 83 #[r_ en, r_ b, i_ 0, i_ 4, r_ d, r_ ret_, i_ 0, i_ 3, i_ 3, i_ 0, u_, u_, u_, u_, u_, u_] [(.int 3), (.int 3)])) P10 (by
    intro _ k_
    refine XS.icmpNo X8.here hx rfl (hb hby d22_73) rfl (tlt (by decide : (0 : Int32) < (3 : Int32))).2.1 ?_
    refine il_ X8 hx hby d22_76 rfl ?_
    refine il_ X8 hx hby d22_78 rfl ?_
    refine XS.iadd X8.here hx rfl (hb hby d22_80) rfl ?_
    show Steps p.tables e below (T8.setTop (mkF m 81 #[r_ en, r_ b, i_ 0, i_ 4, r_ d, r_ ret_, i_ 0, i_ 3, i_ 3, i_ 0, u_, u_, u_, u_, u_, u_] [(.int 3)])) _
    refine il_ X8 hx hby d22_81 rfl ?_
    exact k_)
  obtain ⟨_, T12, L12, X12, hQ12, P12c⟩ := own_cS (W := 0) (rm_min33 l Z a0 hw []  h0 n0 Z0 ) X8 hx hZ (fun _ _ => trivial) hown (own_w hw 177 rfl) (own_w hw 178 rfl) (own_w hw 129 rfl) (own_w hw 179 rfl) (by decide) P11 hml rfl [(.int 3), (.int 3)] [] rfl rfl rfl pd12 rfl (hb hby d22_83) e8 (by decide)
  obtain ⟨rfl, N12q, e12⟩ := hQ12
  have N12 := Fr.app N0 N12q
  have P13 := own_to (C := T12.setTop (mkF m 86 #[r_ en, r_ b, i_ 0, i_ 4, r_ d, r_ ret_, i_ 0, i_ 3, i_ 3, i_ 0, u_, u_, u_, u_, u_, u_] [(.int 3)])) P12c
  have P14 := oS (T12.setTop (mkF m 99 #[r_ en, r_ b, i_ 0, i_ 4, r_ d, r_ ret_, i_ 0, i_ 3, i_ 3, i_ 0, i_ 3, u_, u_, u_, u_, u_] [(.ref en), (.int 0), (.ref d), (.int 3), (.int 0), (.ref b), (.ref en)])) P13 (by
    intro _ k_
    refine is_ X12 hx hby d22_86 (l' := #[r_ en, r_ b, i_ 0, i_ 4, r_ d, r_ ret_, i_ 0, i_ 3, i_ 3, i_ 0, i_ 3, u_, u_, u_, u_, u_]) rfl ?_
    refine aN_ X12 hx hby d22_88 rfl rfl ?_
    refine aN_ X12 hx hby d22_89 rfl rfl ?_
    refine il_ X12 hx hby d22_90 rfl ?_
    refine il_ X12 hx hby d22_92 rfl ?_
    refine a_ X12 hx hby d22_94 rfl rfl ?_
    refine il_ X12 hx hby d22_96 rfl ?_
    refine aN_ X12 hx hby d22_98 rfl rfl ?_
    exact k_)
  obtain ⟨T15, X15, e15, st15⟩ := getF X12 hx hZ hown (host := "") (Or.inl (own_w hw 141 rfl)) Via.refl e12 Fe (g := (mkF m 99 #[r_ en, r_ b, i_ 0, i_ 4, r_ d, r_ ret_, i_ 0, i_ 3, i_ 3, i_ 0, i_ 3, u_, u_, u_, u_, u_] [(.ref en), (.int 0), (.ref d), (.int 3), (.int 0), (.ref b), (.ref en)])) rfl rfl (hb hby d22_99)
  have P16 := oS (T15.setTop (mkF m 102 #[r_ en, r_ b, i_ 0, i_ 4, r_ d, r_ ret_, i_ 0, i_ 3, i_ 3, i_ 0, i_ 3, u_, u_, u_, u_, u_] [(.int 1), (.int 0), (.ref d), (.int 3), (.int 0), (.ref b), (.ref en)])) P14 (fun t_ k_ => st15 t_ k_)
  obtain ⟨_, T17, L17, X17, hQ17, P17c⟩ := own_cP (W := 0) (rm_encB l Z a0 hw [] en b k d kd (4 : Int32) (6 : Int32) [(.int y3)] [(.int 0), (.int 0)] y0 y1 y2 v0 v1 v2 v3 x0 x1 x2 x3 ret_ ket h0 n0 Z0 O Set Vet Vb Vd nbd gd (by decide) (by decide) (by decide) (by decide) (by decide) (by decide) (by decide) hk0 hv0 hz0 hk1 hv1 hz1 hk2 hv2 hz2 hk3 hv3 hz3) X15 hx hZ (fun _ _ => trivial) hown Ee (own_w hw 180 rfl) (own_w hw 182 rfl) (own_w hw 183 rfl) (own_w hw 181 rfl) (own_w hw 113 rfl) (own_w hw 184 rfl) (by decide) P16 hml rfl [(.ref b), (.int 0), (.int 3), (.ref d), (.int 0), (.int 1)] [] rfl rfl rfl pd23 rfl (hb hby d22_102) e15 (by decide)
  obtain ⟨rfl, N17q, K17, f18⟩ := hQ17
  have N17 := Fr.app N12 N17q
  have f19 := O.keep K17 (allS gd all0)
  have f20 := Fp.keep K17 (ninS nen nin0)
  have f21 := Fl.keep K17 (ninS nen nin0)
  have f23 := Vb.keep K17 (ninS nbd nin0)
  have f25 := (Keep.refl h0 [d]).trans K17 (allS (Or.inl (List.mem_of_getElem? (i := 0) rfl)) all0)
  have P28 := own_to (C := T17.setTop (mkF m 105 #[r_ en, r_ b, i_ 0, i_ 4, r_ d, r_ ret_, i_ 0, i_ 3, i_ 3, i_ 0, i_ 3, u_, u_, u_, u_, u_] [])) P17c
  have f18_ : Arv Z T17.heap d kd .byte (6 : Int32) [(.int x0), (.int x1), (.int x2), (.int x3), (.int 0), (.int 0)] (.int 0) := f18
  have P29 := oS (T17.setTop (mkF m 130 #[r_ en, r_ b, i_ 0, i_ 4, r_ d, r_ ret_, i_ 3, i_ 3, i_ 3, i_ 4, i_ 3, i_ 4, u_, u_, u_, u_] [(.ref en), (.int 4)])) P28 (by
    intro _ k_
    refine il_ X17 hx hby d22_105 rfl ?_
    refine il_ X17 hx hby d22_107 rfl ?_
    refine XS.isub X17.here hx rfl (hb hby d22_109) rfl ?_
    show Steps p.tables e below (T17.setTop (mkF m 110 #[r_ en, r_ b, i_ 0, i_ 4, r_ d, r_ ret_, i_ 0, i_ 3, i_ 3, i_ 0, i_ 3, u_, u_, u_, u_, u_] [(.int 3)])) _
    refine XS.iconst X17.here hx rfl (hb hby d22_110) ?_
    refine XS.idiv X17.here hx rfl (hb hby d22_111) rfl (by decide) ?_
    show Steps p.tables e below (T17.setTop (mkF m 112 #[r_ en, r_ b, i_ 0, i_ 4, r_ d, r_ ret_, i_ 0, i_ 3, i_ 3, i_ 0, i_ 3, u_, u_, u_, u_, u_] [(.int 1)])) _
    refine XS.iconst X17.here hx rfl (hb hby d22_112) ?_
    refine XS.imul X17.here hx rfl (hb hby d22_113) rfl ?_
    show Steps p.tables e below (T17.setTop (mkF m 114 #[r_ en, r_ b, i_ 0, i_ 4, r_ d, r_ ret_, i_ 0, i_ 3, i_ 3, i_ 0, i_ 3, u_, u_, u_, u_, u_] [(.int 4)])) _
    refine is_ X17 hx hby d22_114 (l' := #[r_ en, r_ b, i_ 0, i_ 4, r_ d, r_ ret_, i_ 0, i_ 3, i_ 3, i_ 0, i_ 3, i_ 4, u_, u_, u_, u_]) rfl ?_
    refine il_ X17 hx hby d22_116 rfl ?_
    refine il_ X17 hx hby d22_118 rfl ?_
    refine XS.iadd X17.here hx rfl (hb hby d22_120) rfl ?_
    show Steps p.tables e below (T17.setTop (mkF m 121 #[r_ en, r_ b, i_ 0, i_ 4, r_ d, r_ ret_, i_ 0, i_ 3, i_ 3, i_ 0, i_ 3, i_ 4, u_, u_, u_, u_] [(.int 4)])) _
    refine is_ X17 hx hby d22_121 (l' := #[r_ en, r_ b, i_ 0, i_ 4, r_ d, r_ ret_, i_ 0, i_ 3, i_ 3, i_ 4, i_ 3, i_ 4, u_, u_, u_, u_]) rfl ?_
    refine il_ X17 hx hby d22_123 rfl ?_
    refine is_ X17 hx hby d22_125 (l' := #[r_ en, r_ b, i_ 0, i_ 4, r_ d, r_ ret_, i_ 3, i_ 3, i_ 3, i_ 4, i_ 3, i_ 4, u_, u_, u_, u_]) rfl ?_
    refine il_ X17 hx hby d22_127 rfl ?_
    refine aN_ X17 hx hby d22_129 rfl rfl ?_
    exact k_)
  obtain ⟨T30, X30, e30, st30⟩ := getF X17 hx hZ hown (host := "") (Or.inl (own_w hw 134 rfl)) Via.refl rfl f21 (g := (mkF m 130 #[r_ en, r_ b, i_ 0, i_ 4, r_ d, r_ ret_, i_ 3, i_ 3, i_ 3, i_ 4, i_ 3, i_ 4, u_, u_, u_, u_] [(.ref en), (.int 4)])) rfl rfl (hb hby d22_130)
  have P31 := oS (T30.setTop (mkF m 133 #[r_ en, r_ b, i_ 0, i_ 4, r_ d, r_ ret_, i_ 3, i_ 3, i_ 3, i_ 4, i_ 3, i_ 4, u_, u_, u_, u_] [(.int (-1 : Int32)), (.int 4)])) P29 (fun t_ k_ => st30 t_ k_)
  have P32 := oS (T30.setTop (mkF m 73 #[r_ en, r_ b, i_ 0, i_ 4, r_ d, r_ ret_, i_ 3, i_ 3, i_ 3, i_ 4, i_ 3, i_ 4, u_, u_, u_, u_] [(.int 3), (.int 3)])) P31 (by
    intro _ k_
    refine cY_ X30 hx hby d22_133 (pc := 133) (pc' := 186) (feq (by decide : ¬ ((4 : Int32) = (-1 : Int32)))).2 (by decide) ?_
    refine gt_ X30 hx hby d22_186 (pc := 186) (pc' := 69) (by decide) ?_
    refine il_ X30 hx hby d22_69 rfl ?_
    refine il_ X30 hx hby d22_71 rfl ?_
    exact k_)
  have P33 := oS (T30.setTop (mkF m 192 #[r_ en, r_ b, i_ 0, i_ 4, r_ d, r_ ret_, i_ 3, i_ 3, i_ 3, i_ 4, i_ 3, i_ 4, u_, u_, u_, u_] [(.int 4), (.int 3)])) P32 (by
    intro _ k_
    refine cY_ X30 hx hby d22_73 (pc := 73) (pc' := 189) (flt (by decide : ¬ ((3 : Int32) < (3 : Int32)))).2.1 (by decide) ?_
    refine il_ X30 hx hby d22_189 rfl ?_
    refine iN_ X30 hx hby d22_191 rfl ?_
    exact k_)
  have P34 := oS (T30.setTop (mkF m 201 #[r_ en, r_ b, i_ 0, i_ 4, r_ d, r_ ret_, i_ 4, i_ 3, i_ 3, i_ 4, i_ 3, i_ 4, u_, u_, u_, u_] [(.int 3), (.ref b)])) P33 (by
    intro _ k_
    refine XS.icmpNo X30.here hx rfl (hb hby d22_192) rfl (tlt (by decide : (3 : Int32) < (4 : Int32))).2.1 ?_
    refine aN_ X30 hx hby d22_195 rfl rfl ?_
    refine il_ X30 hx hby d22_196 rfl ?_
    refine XS.iinc X30.here hx rfl (hb hby d22_198) rfl (l' := #[r_ en, r_ b, i_ 0, i_ 4, r_ d, r_ ret_, i_ 4, i_ 3, i_ 3, i_ 4, i_ 3, i_ 4, u_, u_, u_, u_]) rfl ?_
    exact k_)
  obtain ⟨cl35, Ar35, q35, S35, M35, H35, G35⟩ := id f23
  have hin35 := inb_of S35 (by decide : ¬ (3 : Int32) < 0 ∧ (3 : Int32) < (4 : Int32))
  have hat35 := Has.at H35 hin35 (v := .int y3) rfl
  have P36 := oS (T30.setTop (mkF m 202 #[r_ en, r_ b, i_ 0, i_ 4, r_ d, r_ ret_, i_ 4, i_ 3, i_ 3, i_ 4, i_ 3, i_ 4, u_, u_, u_, u_] [(.int y3)])) P34 (by
    intro _ k_
    refine X30.baloadBytes hx (j := (3 : Int32)) (v := (.int y3)) (by rw [e30]; exact Ar35.1) (State.isArrayOf_alike hZ.alike Ar35.2.1) Ar35.2.2 hin35 hat35 (g := (mkF m 201 #[r_ en, r_ b, i_ 0, i_ 4, r_ d, r_ ret_, i_ 4, i_ 3, i_ 3, i_ 4, i_ 3, i_ 4, u_, u_, u_, u_] [(.int 3), (.ref b)])) rfl rfl (hb hby d22_201) _ ?_
    exact k_)
  have P37 := oS (T30.setTop (mkF m 221 #[r_ en, r_ b, i_ 0, i_ 4, r_ d, r_ ret_, i_ 4, i_ 3, i_ 3, i_ 5, i_ (y3 &&& 255), i_ 4, u_, u_, u_, u_] [(.int ((y3 &&& 255) >>> ((2 : Int32) &&& 31))), (.ref ret_), (.int 4), (.ref d)])) P36 (by
    intro _ k_
    refine XS.sipush X30.here hx rfl (hb hby d22_202) ?_
    refine XS.iand X30.here hx rfl (hb hby d22_205) rfl ?_
    refine is_ X30 hx hby d22_206 (l' := #[r_ en, r_ b, i_ 0, i_ 4, r_ d, r_ ret_, i_ 4, i_ 3, i_ 3, i_ 4, i_ (y3 &&& 255), i_ 4, u_, u_, u_, u_]) rfl ?_
    refine a_ X30 hx hby d22_208 rfl rfl ?_
    refine il_ X30 hx hby d22_210 rfl ?_
    refine XS.iinc X30.here hx rfl (hb hby d22_212) rfl (l' := #[r_ en, r_ b, i_ 0, i_ 4, r_ d, r_ ret_, i_ 4, i_ 3, i_ 3, i_ 5, i_ (y3 &&& 255), i_ 4, u_, u_, u_, u_]) rfl ?_
    show Steps p.tables e below (T30.setTop (mkF m 215 #[r_ en, r_ b, i_ 0, i_ 4, r_ d, r_ ret_, i_ 4, i_ 3, i_ 3, i_ 5, i_ (y3 &&& 255), i_ 4, u_, u_, u_, u_] [(.int 4), (.ref d)])) _
    refine a_ X30 hx hby d22_215 rfl rfl ?_
    refine il_ X30 hx hby d22_217 rfl ?_
    refine XS.iconst X30.here hx rfl (hb hby d22_219) ?_
    refine XS.ishr X30.here hx rfl (hb hby d22_220) rfl ?_
    exact k_)
  obtain ⟨cl38, Ar38, q38, S38, M38, H38, G38⟩ := Vet.ext f19.2
  have hin38 := inb_of S38 hk4
  have hat38 := Has.at H38 hin38 hv4
  have P39 := oS (T30.setTop (mkF m 222 #[r_ en, r_ b, i_ 0, i_ 4, r_ d, r_ ret_, i_ 4, i_ 3, i_ 3, i_ 5, i_ (y3 &&& 255), i_ 4, u_, u_, u_, u_] [(.int v4), (.int 4), (.ref d)])) P37 (by
    intro _ k_
    refine X30.caload hx (j := ((y3 &&& 255) >>> ((2 : Int32) &&& 31))) (v := (.int v4)) (by rw [e30]; exact Ar38.1) (State.isArrayOf_alike hZ.alike Ar38.2.1) Ar38.2.2 hin38 hat38 (g := (mkF m 221 #[r_ en, r_ b, i_ 0, i_ 4, r_ d, r_ ret_, i_ 4, i_ 3, i_ 3, i_ 5, i_ (y3 &&& 255), i_ 4, u_, u_, u_, u_] [(.int ((y3 &&& 255) >>> ((2 : Int32) &&& 31))), (.ref ret_), (.int 4), (.ref d)])) rfl rfl (hb hby d22_221) _ ?_
    exact k_)
  have P40 := oS (T30.setTop (mkF m 223 #[r_ en, r_ b, i_ 0, i_ 4, r_ d, r_ ret_, i_ 4, i_ 3, i_ 3, i_ 5, i_ (y3 &&& 255), i_ 4, u_, u_, u_, u_] [(.int (v4.toInt8.toInt32)), (.int 4), (.ref d)])) P39 (by
    intro _ k_
    refine XS.i2b X30.here hx rfl (hb hby d22_222) rfl ?_
    exact k_)
  obtain ⟨cl41, Ar41, q41, S41, M41, H41, G41⟩ := id f18_
  obtain ⟨T42, h42, X42, e42, W42, st42⟩ := stB X30 hx hZ e30 Ar41 (j := (4 : Int32)) (inb_of S41 (by decide : ¬ (4 : Int32) < 0 ∧ (4 : Int32) < (6 : Int32))) (g := (mkF m 223 #[r_ en, r_ b, i_ 0, i_ 4, r_ d, r_ ret_, i_ 4, i_ 3, i_ 3, i_ 5, i_ (y3 &&& 255), i_ 4, u_, u_, u_, u_] [(.int (v4.toInt8.toInt32)), (.int 4), (.ref d)])) rfl rfl (hb hby d22_223)
  have f43 := f19.wr W42 gd
  have f44 := f20.other W42 (Or.inl nen)
  have f48 := f25.wr W42 (Or.inl (List.mem_of_getElem? (i := 0) rfl))
  have V42 : Arv Z h42 d kd .byte (6 : Int32) [(.int x0), (.int x1), (.int x2), (.int x3), (.int (v4.toInt8.toInt32).toInt8.toInt32), (.int 0)] (.int 0) := Arv.set Ar41 q41 S41 M41 H41 G41 (fits_nar_byte _) W42 4 rfl (Nat.le_of_ble_eq_true rfl)
  have N42 := Fr.snoc X42 N17 gd
  have P52 := oS (T42.setTop (mkF m 224 #[r_ en, r_ b, i_ 0, i_ 4, r_ d, r_ ret_, i_ 4, i_ 3, i_ 3, i_ 5, i_ (y3 &&& 255), i_ 4, u_, u_, u_, u_] [])) P40 (fun t_ k_ => st42 t_ k_)
  have P53 := oS (T42.setTop (mkF m 227 #[r_ en, r_ b, i_ 0, i_ 4, r_ d, r_ ret_, i_ 4, i_ 3, i_ 3, i_ 5, i_ (y3 &&& 255), i_ 4, u_, u_, u_, u_] [(.int 4), (.int 4)])) P52 (by
    intro _ k_
    refine il_ X42 hx hby d22_224 rfl ?_
    refine iN_ X42 hx hby d22_226 rfl ?_
    exact k_)
  have P54 := oS (T42.setTop (mkF m 246 #[r_ en, r_ b, i_ 0, i_ 4, r_ d, r_ ret_, i_ 4, i_ 3, i_ 3, i_ 6, i_ (y3 &&& 255), i_ 4, u_, u_, u_, u_] [(.int (((y3 &&& 255) <<< ((4 : Int32) &&& 31)) &&& 63)), (.ref ret_), (.int 5), (.ref d)])) P53 (by
    intro _ k_
    refine XS.icmpNo X42.here hx rfl (hb hby d22_227) rfl (teq (by decide : (4 : Int32) = (4 : Int32))).2 ?_
    refine a_ X42 hx hby d22_230 rfl rfl ?_
    refine il_ X42 hx hby d22_232 rfl ?_
    refine XS.iinc X42.here hx rfl (hb hby d22_234) rfl (l' := #[r_ en, r_ b, i_ 0, i_ 4, r_ d, r_ ret_, i_ 4, i_ 3, i_ 3, i_ 6, i_ (y3 &&& 255), i_ 4, u_, u_, u_, u_]) rfl ?_
    show Steps p.tables e below (T42.setTop (mkF m 237 #[r_ en, r_ b, i_ 0, i_ 4, r_ d, r_ ret_, i_ 4, i_ 3, i_ 3, i_ 6, i_ (y3 &&& 255), i_ 4, u_, u_, u_, u_] [(.int 5), (.ref d)])) _
    refine a_ X42 hx hby d22_237 rfl rfl ?_
    refine il_ X42 hx hby d22_239 rfl ?_
    refine XS.iconst X42.here hx rfl (hb hby d22_241) ?_
    refine XS.ishl X42.here hx rfl (hb hby d22_242) rfl ?_
    refine XS.bipush X42.here hx rfl (hb hby d22_243) ?_
    refine XS.iand X42.here hx rfl (hb hby d22_245) rfl ?_
    exact k_)
  obtain ⟨cl55, Ar55, q55, S55, M55, H55, G55⟩ := Vet.ext f43.2
  have hin55 := inb_of S55 hk5
  have hat55 := Has.at H55 hin55 hv5
  have P56 := oS (T42.setTop (mkF m 247 #[r_ en, r_ b, i_ 0, i_ 4, r_ d, r_ ret_, i_ 4, i_ 3, i_ 3, i_ 6, i_ (y3 &&& 255), i_ 4, u_, u_, u_, u_] [(.int v5), (.int 5), (.ref d)])) P54 (by
    intro _ k_
    refine X42.caload hx (j := (((y3 &&& 255) <<< ((4 : Int32) &&& 31)) &&& 63)) (v := (.int v5)) (by rw [e42]; exact Ar55.1) (State.isArrayOf_alike hZ.alike Ar55.2.1) Ar55.2.2 hin55 hat55 (g := (mkF m 246 #[r_ en, r_ b, i_ 0, i_ 4, r_ d, r_ ret_, i_ 4, i_ 3, i_ 3, i_ 6, i_ (y3 &&& 255), i_ 4, u_, u_, u_, u_] [(.int (((y3 &&& 255) <<< ((4 : Int32) &&& 31)) &&& 63)), (.ref ret_), (.int 5), (.ref d)])) rfl rfl (hb hby d22_246) _ ?_
    exact k_)
  have P57 := oS (T42.setTop (mkF m 248 #[r_ en, r_ b, i_ 0, i_ 4, r_ d, r_ ret_, i_ 4, i_ 3, i_ 3, i_ 6, i_ (y3 &&& 255), i_ 4, u_, u_, u_, u_] [(.int (v5.toInt8.toInt32)), (.int 5), (.ref d)])) P56 (by
    intro _ k_
    refine XS.i2b X42.here hx rfl (hb hby d22_247) rfl ?_
    exact k_)
  obtain ⟨cl58, Ar58, q58, S58, M58, H58, G58⟩ := id V42
  obtain ⟨T59, h59, X59, e59, W59, st59⟩ := stB X42 hx hZ e42 Ar58 (j := (5 : Int32)) (inb_of S58 (by decide : ¬ (5 : Int32) < 0 ∧ (5 : Int32) < (6 : Int32))) (g := (mkF m 248 #[r_ en, r_ b, i_ 0, i_ 4, r_ d, r_ ret_, i_ 4, i_ 3, i_ 3, i_ 6, i_ (y3 &&& 255), i_ 4, u_, u_, u_, u_] [(.int (v5.toInt8.toInt32)), (.int 5), (.ref d)])) rfl rfl (hb hby d22_248)
  have f61 := f44.other W59 (Or.inl nen)
  have f65 := f48.wr W59 (Or.inl (List.mem_of_getElem? (i := 0) rfl))
  have V59 : Arv Z h59 d kd .byte (6 : Int32) [(.int x0), (.int x1), (.int x2), (.int x3), (.int (v4.toInt8.toInt32).toInt8.toInt32), (.int (v5.toInt8.toInt32).toInt8.toInt32)] (.int 0) := Arv.set Ar58 q58 S58 M58 H58 G58 (fits_nar_byte _) W59 5 rfl (Nat.le_of_ble_eq_true rfl)
  have N59 := Fr.snoc X59 N42 gd
  have P69 := oS (T59.setTop (mkF m 249 #[r_ en, r_ b, i_ 0, i_ 4, r_ d, r_ ret_, i_ 4, i_ 3, i_ 3, i_ 6, i_ (y3 &&& 255), i_ 4, u_, u_, u_, u_] [])) P57 (fun t_ k_ => st59 t_ k_)
  have P70 := oS (T59.setTop (mkF m 250 #[r_ en, r_ b, i_ 0, i_ 4, r_ d, r_ ret_, i_ 4, i_ 3, i_ 3, i_ 6, i_ (y3 &&& 255), i_ 4, u_, u_, u_, u_] [(.ref en)])) P69 (by
    intro _ k_
    refine aN_ X59 hx hby d22_249 rfl rfl ?_
    exact k_)
  obtain ⟨T71, X71, e71, st71⟩ := getF X59 hx hZ hown (host := "") (Or.inl (own_w hw 125 rfl)) Via.refl e59 f61 (g := (mkF m 250 #[r_ en, r_ b, i_ 0, i_ 4, r_ d, r_ ret_, i_ 4, i_ 3, i_ 3, i_ 6, i_ (y3 &&& 255), i_ 4, u_, u_, u_, u_] [(.ref en)])) rfl rfl (hb hby d22_250)
  have P72 := oS (T71.setTop (mkF m 253 #[r_ en, r_ b, i_ 0, i_ 4, r_ d, r_ ret_, i_ 4, i_ 3, i_ 3, i_ 6, i_ (y3 &&& 255), i_ 4, u_, u_, u_, u_] [(.int 0)])) P70 (fun t_ k_ => st71 t_ k_)
  have P73 := oS (T71.setTop (mkF m 354 #[r_ en, r_ b, i_ 0, i_ 4, r_ d, r_ ret_, i_ 4, i_ 3, i_ 3, i_ 6, i_ (y3 &&& 255), i_ 4, u_, u_, u_, u_] [(.int 6)])) P72 (by
    intro _ k_
    refine fY_ X71 hx hby d22_253 (pc := 253) (pc' := 352) ((if0 _ _).trans (teq (by decide : (0 : Int32) = (0 : Int32))).1) (by decide) ?_
    refine il_ X71 hx hby d22_352 rfl ?_
    exact k_)
  rw [hz4, hz5] at V59
  exact own_out X71 hlk (v := some (.int 6)) (own_hv hrt) P73 (fun _ q_ => retI X71 hx hrt (hb hby d22_354) q_) e71 ⟨rfl, N59, f65, V59⟩ (by decide)
set_option maxRecDepth 65536 in
set_option maxHeartbeats 40000000 in
theorem rm_enc0_5 (l : Launch) (Z : State) (a0 : Array Value) (hw : ∀ d ∈ tables_1, d.before a0 Z = true) (y0 : Int32) (y1 : Int32) (y2 : Int32) (y3 : Int32) (y4 : Int32) (v0 : Int32) (v1 : Int32) (v2 : Int32) (v3 : Int32) (v4 : Int32) (v5 : Int32) (v6 : Int32) (x0 : Int32) (x1 : Int32) (x2 : Int32) (x3 : Int32) (x4 : Int32) (x5 : Int32) (x6 : Int32) (ret_ : Addr) (ket : ClassId) (Set : Sta Z Z.heap "java/util/Base64$Encoder" "toBase64URL" "[C" (.ref ret_)) (Vet : Arv Z Z.heap ret_ ket .char (64 : Int32) own_enc (.int 0)) (hk0 : ¬ (((((((y0 &&& 255) <<< ((16 : Int32) &&& 31)) ||| ((y1 &&& 255) <<< ((8 : Int32) &&& 31))) ||| (y2 &&& 255)).toUInt32 >>> ((18 : Int32) &&& 31).toUInt32).toInt32) &&& 63) < 0 ∧ (((((((y0 &&& 255) <<< ((16 : Int32) &&& 31)) ||| ((y1 &&& 255) <<< ((8 : Int32) &&& 31))) ||| (y2 &&& 255)).toUInt32 >>> ((18 : Int32) &&& 31).toUInt32).toInt32) &&& 63) < (64 : Int32)) (hv0 : own_enc.getD (((((((y0 &&& 255) <<< ((16 : Int32) &&& 31)) ||| ((y1 &&& 255) <<< ((8 : Int32) &&& 31))) ||| (y2 &&& 255)).toUInt32 >>> ((18 : Int32) &&& 31).toUInt32).toInt32) &&& 63).toNatClampNeg (.int 0) = .int v0) (hz0 : v0.toInt8.toInt32.toInt8.toInt32 = x0) (hk1 : ¬ (((((((y0 &&& 255) <<< ((16 : Int32) &&& 31)) ||| ((y1 &&& 255) <<< ((8 : Int32) &&& 31))) ||| (y2 &&& 255)).toUInt32 >>> ((12 : Int32) &&& 31).toUInt32).toInt32) &&& 63) < 0 ∧ (((((((y0 &&& 255) <<< ((16 : Int32) &&& 31)) ||| ((y1 &&& 255) <<< ((8 : Int32) &&& 31))) ||| (y2 &&& 255)).toUInt32 >>> ((12 : Int32) &&& 31).toUInt32).toInt32) &&& 63) < (64 : Int32)) (hv1 : own_enc.getD (((((((y0 &&& 255) <<< ((16 : Int32) &&& 31)) ||| ((y1 &&& 255) <<< ((8 : Int32) &&& 31))) ||| (y2 &&& 255)).toUInt32 >>> ((12 : Int32) &&& 31).toUInt32).toInt32) &&& 63).toNatClampNeg (.int 0) = .int v1) (hz1 : v1.toInt8.toInt32.toInt8.toInt32 = x1) (hk2 : ¬ (((((((y0 &&& 255) <<< ((16 : Int32) &&& 31)) ||| ((y1 &&& 255) <<< ((8 : Int32) &&& 31))) ||| (y2 &&& 255)).toUInt32 >>> ((6 : Int32) &&& 31).toUInt32).toInt32) &&& 63) < 0 ∧ (((((((y0 &&& 255) <<< ((16 : Int32) &&& 31)) ||| ((y1 &&& 255) <<< ((8 : Int32) &&& 31))) ||| (y2 &&& 255)).toUInt32 >>> ((6 : Int32) &&& 31).toUInt32).toInt32) &&& 63) < (64 : Int32)) (hv2 : own_enc.getD (((((((y0 &&& 255) <<< ((16 : Int32) &&& 31)) ||| ((y1 &&& 255) <<< ((8 : Int32) &&& 31))) ||| (y2 &&& 255)).toUInt32 >>> ((6 : Int32) &&& 31).toUInt32).toInt32) &&& 63).toNatClampNeg (.int 0) = .int v2) (hz2 : v2.toInt8.toInt32.toInt8.toInt32 = x2) (hk3 : ¬ (((((y0 &&& 255) <<< ((16 : Int32) &&& 31)) ||| ((y1 &&& 255) <<< ((8 : Int32) &&& 31))) ||| (y2 &&& 255)) &&& 63) < 0 ∧ (((((y0 &&& 255) <<< ((16 : Int32) &&& 31)) ||| ((y1 &&& 255) <<< ((8 : Int32) &&& 31))) ||| (y2 &&& 255)) &&& 63) < (64 : Int32)) (hv3 : own_enc.getD (((((y0 &&& 255) <<< ((16 : Int32) &&& 31)) ||| ((y1 &&& 255) <<< ((8 : Int32) &&& 31))) ||| (y2 &&& 255)) &&& 63).toNatClampNeg (.int 0) = .int v3) (hz3 : v3.toInt8.toInt32.toInt8.toInt32 = x3) (hk4 : ¬ ((y3 &&& 255) >>> ((2 : Int32) &&& 31)) < 0 ∧ ((y3 &&& 255) >>> ((2 : Int32) &&& 31)) < (64 : Int32)) (hv4 : own_enc.getD ((y3 &&& 255) >>> ((2 : Int32) &&& 31)).toNatClampNeg (.int 0) = .int v4) (hz4 : v4.toInt8.toInt32.toInt8.toInt32 = x4) (hk5 : ¬ ((((y3 &&& 255) <<< ((4 : Int32) &&& 31)) &&& 63) ||| ((y4 &&& 255) >>> ((4 : Int32) &&& 31))) < 0 ∧ ((((y3 &&& 255) <<< ((4 : Int32) &&& 31)) &&& 63) ||| ((y4 &&& 255) >>> ((4 : Int32) &&& 31))) < (64 : Int32)) (hv5 : own_enc.getD ((((y3 &&& 255) <<< ((4 : Int32) &&& 31)) &&& 63) ||| ((y4 &&& 255) >>> ((4 : Int32) &&& 31))).toNatClampNeg (.int 0) = .int v5) (hz5 : v5.toInt8.toInt32.toInt8.toInt32 = x5) (hk6 : ¬ (((y4 &&& 255) <<< ((2 : Int32) &&& 31)) &&& 63) < 0 ∧ (((y4 &&& 255) <<< ((2 : Int32) &&& 31)) &&& 63) < (64 : Int32)) (hv6 : own_enc.getD (((y4 &&& 255) <<< ((2 : Int32) &&& 31)) &&& 63).toNatClampNeg (.int 0) = .int v6) (hz6 : v6.toInt8.toInt32.toInt8.toInt32 = x6) :
    HE0 l Z (5 : Int32) (7 : Int32) [(.int y0), (.int y1), (.int y2), (.int y3), (.int y4)] [(.int x0), (.int x1), (.int x2), (.int x3), (.int x4), (.int x5), (.int x6)] := by
  intro en b k d kd h0 n0 Z0 O Fp Fl Fe Ee Vb Vd0 nbd gd nen
  refine own_in "java/util/Base64$Encoder" rfl (plainFor_of_name pn4) hisR (fun m => ef22RRIIR m en b (0 : Int32) (5 : Int32) d) ?_
  intro p e s m below meth c s₁ A_ hx hby hml hown hnm hrt hlk hZ _ X0 e0 pre0
  have N0 := Fr.nil n0
  have Vd : Arv Z h0 d kd .byte (7 : Int32) [(.int 0), (.int 0), (.int 0), (.int 0), (.int 0), (.int 0), (.int 0)] (.int 0) := Vd0.pad (pad_rep [] _ 7)
  have P1 := oS (s₁.setTop (mkF m 1 #[r_ en, r_ b, i_ 0, i_ 5, r_ d, u_, u_, u_, u_, u_, u_, u_, u_, u_, u_, u_] [(.ref en)])) pre0 (by
    intro _ k_
    refine aN_ X0 hx hby d22_0 rfl rfl ?_
    exact k_)
  obtain ⟨T2, X2, e2, st2⟩ := getF X0 hx hZ hown (host := "") (Or.inl (own_w hw 141 rfl)) Via.refl e0 Fe (g := (mkF m 1 #[r_ en, r_ b, i_ 0, i_ 5, r_ d, u_, u_, u_, u_, u_, u_, u_, u_, u_, u_, u_] [(.ref en)])) rfl rfl (hb hby d22_1)
  have P3 := oS (T2.setTop (mkF m 4 #[r_ en, r_ b, i_ 0, i_ 5, r_ d, u_, u_, u_, u_, u_, u_, u_, u_, u_, u_, u_] [(.int 1)])) P1 (fun t_ k_ => st2 t_ k_)
  have P4 := oS (T2.setTop (mkF m 7 #[r_ en, r_ b, i_ 0, i_ 5, r_ d, u_, u_, u_, u_, u_, u_, u_, u_, u_, u_, u_] [])) P3 (by
    intro _ k_
    refine XS.ifNo X2.here hx rfl (hb hby d22_4) rfl ((if0 _ _).trans (feq (by decide : ¬ ((1 : Int32) = (0 : Int32)))).1) ?_
    exact k_)
  obtain ⟨T5, X5, e5, st5⟩ := getS2 X2 hx hZ hown (host := "") (Or.inl (own_w hw 143 rfl)) Via.refl e2 (Set.ext O.2) (g := (mkF m 7 #[r_ en, r_ b, i_ 0, i_ 5, r_ d, u_, u_, u_, u_, u_, u_, u_, u_, u_, u_, u_] [])) rfl (hb hby d22_7)
  have P6 := oS (T5.setTop (mkF m 10 #[r_ en, r_ b, i_ 0, i_ 5, r_ d, u_, u_, u_, u_, u_, u_, u_, u_, u_, u_, u_] [(.ref ret_)])) P4 (fun t_ k_ => st5 t_ k_)
  have P7 := oS (T5.setTop (mkF m 37 #[r_ en, r_ b, i_ 0, i_ 5, r_ d, r_ ret_, i_ 0, i_ 3, i_ 3, u_, u_, u_, u_, u_, u_, u_] [(.ref en)])) P6 (by
    intro _ k_
    refine gt_ X5 hx hby d22_10 (pc := 10) (pc' := 16) (by decide) ?_
    refine XS.astore X5.here hx rfl (hb hby d22_16) rfl rfl (l' := #[r_ en, r_ b, i_ 0, i_ 5, r_ d, r_ ret_, u_, u_, u_, u_, u_, u_, u_, u_, u_, u_]) rfl ?_
    refine iN_ X5 hx hby d22_18 rfl ?_
    refine is_ X5 hx hby d22_19 (l' := #[r_ en, r_ b, i_ 0, i_ 5, r_ d, r_ ret_, i_ 0, u_, u_, u_, u_, u_, u_, u_, u_, u_]) rfl ?_
    refine iN_ X5 hx hby d22_21 rfl ?_
    refine iN_ X5 hx hby d22_22 rfl ?_
    refine XS.isub X5.here hx rfl (hb hby d22_23) rfl ?_
    show Steps p.tables e below (T5.setTop (mkF m 24 #[r_ en, r_ b, i_ 0, i_ 5, r_ d, r_ ret_, i_ 0, u_, u_, u_, u_, u_, u_, u_, u_, u_] [(.int 5)])) _
    refine XS.iconst X5.here hx rfl (hb hby d22_24) ?_
    refine XS.idiv X5.here hx rfl (hb hby d22_25) rfl (by decide) ?_
    show Steps p.tables e below (T5.setTop (mkF m 26 #[r_ en, r_ b, i_ 0, i_ 5, r_ d, r_ ret_, i_ 0, u_, u_, u_, u_, u_, u_, u_, u_, u_] [(.int 1)])) _
    refine XS.iconst X5.here hx rfl (hb hby d22_26) ?_
    refine XS.imul X5.here hx rfl (hb hby d22_27) rfl ?_
    show Steps p.tables e below (T5.setTop (mkF m 28 #[r_ en, r_ b, i_ 0, i_ 5, r_ d, r_ ret_, i_ 0, u_, u_, u_, u_, u_, u_, u_, u_, u_] [(.int 3)])) _
    refine is_ X5 hx hby d22_28 (l' := #[r_ en, r_ b, i_ 0, i_ 5, r_ d, r_ ret_, i_ 0, i_ 3, u_, u_, u_, u_, u_, u_, u_, u_]) rfl ?_
    refine iN_ X5 hx hby d22_30 rfl ?_
    refine il_ X5 hx hby d22_31 rfl ?_
    refine XS.iadd X5.here hx rfl (hb hby d22_33) rfl ?_
    show Steps p.tables e below (T5.setTop (mkF m 34 #[r_ en, r_ b, i_ 0, i_ 5, r_ d, r_ ret_, i_ 0, i_ 3, u_, u_, u_, u_, u_, u_, u_, u_] [(.int 3)])) _
    refine is_ X5 hx hby d22_34 (l' := #[r_ en, r_ b, i_ 0, i_ 5, r_ d, r_ ret_, i_ 0, i_ 3, i_ 3, u_, u_, u_, u_, u_, u_, u_]) rfl ?_
    refine aN_ X5 hx hby d22_36 rfl rfl ?_
    exact k_)
  obtain ⟨T8, X8, e8, st8⟩ := getF X5 hx hZ hown (host := "") (Or.inl (own_w hw 134 rfl)) Via.refl e5 Fl (g := (mkF m 37 #[r_ en, r_ b, i_ 0, i_ 5, r_ d, r_ ret_, i_ 0, i_ 3, i_ 3, u_, u_, u_, u_, u_, u_, u_] [(.ref en)])) rfl rfl (hb hby d22_37)
  have P9 := oS (T8.setTop (mkF m 40 #[r_ en, r_ b, i_ 0, i_ 5, r_ d, r_ ret_, i_ 0, i_ 3, i_ 3, u_, u_, u_, u_, u_, u_, u_] [(.int (-1 : Int32))])) P7 (fun t_ k_ => st8 t_ k_)
  have P10 := oS (T8.setTop (mkF m 73 #[r_ en, r_ b, i_ 0, i_ 5, r_ d, r_ ret_, i_ 0, i_ 3, i_ 3, i_ 0, u_, u_, u_, u_, u_, u_] [(.int 3), (.int 0)])) P9 (by
    intro _ k_
    refine fY_ X8 hx hby d22_40 (pc := 40) (pc' := 66) ((if0 _ _).trans (flt (by decide : ¬ ((0 : Int32) < (-1 : Int32)))).2.2.2) (by decide) ?_
    refine XS.iconst X8.here hx rfl (hb hby d22_66) ?_
    refine is_ X8 hx hby d22_67 (l' := #[r_ en, r_ b, i_ 0, i_ 5, r_ d, r_ ret_, i_ 0, i_ 3, i_ 3, i_ 0, u_, u_, u_, u_, u_, u_]) rfl ?_
    refine il_ X8 hx hby d22_69 rfl ?_
    refine il_ X8 hx hby d22_71 rfl ?_
    exact k_)
  have P11 := oS (T8.setTop (mkF m 83 #[r_ en, r_ b, i_ 0, i_ 5, r_ d, r_ ret_, i_ 0, i_ 3, i_ 3, i_ 0, u_, u_, u_, u_, u_, u_] [(.int 3), (.int 3)])) P10 (by
    intro _ k_
    refine XS.icmpNo X8.here hx rfl (hb hby d22_73) rfl (tlt (by decide : (0 : Int32) < (3 : Int32))).2.1 ?_
    refine il_ X8 hx hby d22_76 rfl ?_
    refine il_ X8 hx hby d22_78 rfl ?_
    refine XS.iadd X8.here hx rfl (hb hby d22_80) rfl ?_
    show Steps p.tables e below (T8.setTop (mkF m 81 #[r_ en, r_ b, i_ 0, i_ 5, r_ d, r_ ret_, i_ 0, i_ 3, i_ 3, i_ 0, u_, u_, u_, u_, u_, u_] [(.int 3)])) _
    refine il_ X8 hx hby d22_81 rfl ?_
    exact k_)
  obtain ⟨_, T12, L12, X12, hQ12, P12c⟩ := own_cS (W := 0) (rm_min33 l Z a0 hw []  h0 n0 Z0 ) X8 hx hZ (fun _ _ => trivial) hown (own_w hw 177 rfl) (own_w hw 178 rfl) (own_w hw 129 rfl) (own_w hw 179 rfl) (by decide) P11 hml rfl [(.int 3), (.int 3)] [] rfl rfl rfl pd12 rfl (hb hby d22_83) e8 (by decide)
  obtain ⟨rfl, N12q, e12⟩ := hQ12
  have N12 := Fr.app N0 N12q
  have P13 := own_to (C := T12.setTop (mkF m 86 #[r_ en, r_ b, i_ 0, i_ 5, r_ d, r_ ret_, i_ 0, i_ 3, i_ 3, i_ 0, u_, u_, u_, u_, u_, u_] [(.int 3)])) P12c
  have P14 := oS (T12.setTop (mkF m 99 #[r_ en, r_ b, i_ 0, i_ 5, r_ d, r_ ret_, i_ 0, i_ 3, i_ 3, i_ 0, i_ 3, u_, u_, u_, u_, u_] [(.ref en), (.int 0), (.ref d), (.int 3), (.int 0), (.ref b), (.ref en)])) P13 (by
    intro _ k_
    refine is_ X12 hx hby d22_86 (l' := #[r_ en, r_ b, i_ 0, i_ 5, r_ d, r_ ret_, i_ 0, i_ 3, i_ 3, i_ 0, i_ 3, u_, u_, u_, u_, u_]) rfl ?_
    refine aN_ X12 hx hby d22_88 rfl rfl ?_
    refine aN_ X12 hx hby d22_89 rfl rfl ?_
    refine il_ X12 hx hby d22_90 rfl ?_
    refine il_ X12 hx hby d22_92 rfl ?_
    refine a_ X12 hx hby d22_94 rfl rfl ?_
    refine il_ X12 hx hby d22_96 rfl ?_
    refine aN_ X12 hx hby d22_98 rfl rfl ?_
    exact k_)
  obtain ⟨T15, X15, e15, st15⟩ := getF X12 hx hZ hown (host := "") (Or.inl (own_w hw 141 rfl)) Via.refl e12 Fe (g := (mkF m 99 #[r_ en, r_ b, i_ 0, i_ 5, r_ d, r_ ret_, i_ 0, i_ 3, i_ 3, i_ 0, i_ 3, u_, u_, u_, u_, u_] [(.ref en), (.int 0), (.ref d), (.int 3), (.int 0), (.ref b), (.ref en)])) rfl rfl (hb hby d22_99)
  have P16 := oS (T15.setTop (mkF m 102 #[r_ en, r_ b, i_ 0, i_ 5, r_ d, r_ ret_, i_ 0, i_ 3, i_ 3, i_ 0, i_ 3, u_, u_, u_, u_, u_] [(.int 1), (.int 0), (.ref d), (.int 3), (.int 0), (.ref b), (.ref en)])) P14 (fun t_ k_ => st15 t_ k_)
  obtain ⟨_, T17, L17, X17, hQ17, P17c⟩ := own_cP (W := 0) (rm_encB l Z a0 hw [] en b k d kd (5 : Int32) (7 : Int32) [(.int y3), (.int y4)] [(.int 0), (.int 0), (.int 0)] y0 y1 y2 v0 v1 v2 v3 x0 x1 x2 x3 ret_ ket h0 n0 Z0 O Set Vet Vb Vd nbd gd (by decide) (by decide) (by decide) (by decide) (by decide) (by decide) (by decide) hk0 hv0 hz0 hk1 hv1 hz1 hk2 hv2 hz2 hk3 hv3 hz3) X15 hx hZ (fun _ _ => trivial) hown Ee (own_w hw 180 rfl) (own_w hw 182 rfl) (own_w hw 183 rfl) (own_w hw 181 rfl) (own_w hw 113 rfl) (own_w hw 184 rfl) (by decide) P16 hml rfl [(.ref b), (.int 0), (.int 3), (.ref d), (.int 0), (.int 1)] [] rfl rfl rfl pd23 rfl (hb hby d22_102) e15 (by decide)
  obtain ⟨rfl, N17q, K17, f18⟩ := hQ17
  have N17 := Fr.app N12 N17q
  have f19 := O.keep K17 (allS gd all0)
  have f20 := Fp.keep K17 (ninS nen nin0)
  have f21 := Fl.keep K17 (ninS nen nin0)
  have f23 := Vb.keep K17 (ninS nbd nin0)
  have f25 := (Keep.refl h0 [d]).trans K17 (allS (Or.inl (List.mem_of_getElem? (i := 0) rfl)) all0)
  have P28 := own_to (C := T17.setTop (mkF m 105 #[r_ en, r_ b, i_ 0, i_ 5, r_ d, r_ ret_, i_ 0, i_ 3, i_ 3, i_ 0, i_ 3, u_, u_, u_, u_, u_] [])) P17c
  have f18_ : Arv Z T17.heap d kd .byte (7 : Int32) [(.int x0), (.int x1), (.int x2), (.int x3), (.int 0), (.int 0), (.int 0)] (.int 0) := f18
  have P29 := oS (T17.setTop (mkF m 130 #[r_ en, r_ b, i_ 0, i_ 5, r_ d, r_ ret_, i_ 3, i_ 3, i_ 3, i_ 4, i_ 3, i_ 4, u_, u_, u_, u_] [(.ref en), (.int 4)])) P28 (by
    intro _ k_
    refine il_ X17 hx hby d22_105 rfl ?_
    refine il_ X17 hx hby d22_107 rfl ?_
    refine XS.isub X17.here hx rfl (hb hby d22_109) rfl ?_
    show Steps p.tables e below (T17.setTop (mkF m 110 #[r_ en, r_ b, i_ 0, i_ 5, r_ d, r_ ret_, i_ 0, i_ 3, i_ 3, i_ 0, i_ 3, u_, u_, u_, u_, u_] [(.int 3)])) _
    refine XS.iconst X17.here hx rfl (hb hby d22_110) ?_
    refine XS.idiv X17.here hx rfl (hb hby d22_111) rfl (by decide) ?_
    show Steps p.tables e below (T17.setTop (mkF m 112 #[r_ en, r_ b, i_ 0, i_ 5, r_ d, r_ ret_, i_ 0, i_ 3, i_ 3, i_ 0, i_ 3, u_, u_, u_, u_, u_] [(.int 1)])) _
    refine XS.iconst X17.here hx rfl (hb hby d22_112) ?_
    refine XS.imul X17.here hx rfl (hb hby d22_113) rfl ?_
    show Steps p.tables e below (T17.setTop (mkF m 114 #[r_ en, r_ b, i_ 0, i_ 5, r_ d, r_ ret_, i_ 0, i_ 3, i_ 3, i_ 0, i_ 3, u_, u_, u_, u_, u_] [(.int 4)])) _
    refine is_ X17 hx hby d22_114 (l' := #[r_ en, r_ b, i_ 0, i_ 5, r_ d, r_ ret_, i_ 0, i_ 3, i_ 3, i_ 0, i_ 3, i_ 4, u_, u_, u_, u_]) rfl ?_
    refine il_ X17 hx hby d22_116 rfl ?_
    refine il_ X17 hx hby d22_118 rfl ?_
    refine XS.iadd X17.here hx rfl (hb hby d22_120) rfl ?_
    show Steps p.tables e below (T17.setTop (mkF m 121 #[r_ en, r_ b, i_ 0, i_ 5, r_ d, r_ ret_, i_ 0, i_ 3, i_ 3, i_ 0, i_ 3, i_ 4, u_, u_, u_, u_] [(.int 4)])) _
    refine is_ X17 hx hby d22_121 (l' := #[r_ en, r_ b, i_ 0, i_ 5, r_ d, r_ ret_, i_ 0, i_ 3, i_ 3, i_ 4, i_ 3, i_ 4, u_, u_, u_, u_]) rfl ?_
    refine il_ X17 hx hby d22_123 rfl ?_
    refine is_ X17 hx hby d22_125 (l' := #[r_ en, r_ b, i_ 0, i_ 5, r_ d, r_ ret_, i_ 3, i_ 3, i_ 3, i_ 4, i_ 3, i_ 4, u_, u_, u_, u_]) rfl ?_
    refine il_ X17 hx hby d22_127 rfl ?_
    refine aN_ X17 hx hby d22_129 rfl rfl ?_
    exact k_)
  obtain ⟨T30, X30, e30, st30⟩ := getF X17 hx hZ hown (host := "") (Or.inl (own_w hw 134 rfl)) Via.refl rfl f21 (g := (mkF m 130 #[r_ en, r_ b, i_ 0, i_ 5, r_ d, r_ ret_, i_ 3, i_ 3, i_ 3, i_ 4, i_ 3, i_ 4, u_, u_, u_, u_] [(.ref en), (.int 4)])) rfl rfl (hb hby d22_130)
  have P31 := oS (T30.setTop (mkF m 133 #[r_ en, r_ b, i_ 0, i_ 5, r_ d, r_ ret_, i_ 3, i_ 3, i_ 3, i_ 4, i_ 3, i_ 4, u_, u_, u_, u_] [(.int (-1 : Int32)), (.int 4)])) P29 (fun t_ k_ => st30 t_ k_)
  have P32 := oS (T30.setTop (mkF m 73 #[r_ en, r_ b, i_ 0, i_ 5, r_ d, r_ ret_, i_ 3, i_ 3, i_ 3, i_ 4, i_ 3, i_ 4, u_, u_, u_, u_] [(.int 3), (.int 3)])) P31 (by
    intro _ k_
    refine cY_ X30 hx hby d22_133 (pc := 133) (pc' := 186) (feq (by decide : ¬ ((4 : Int32) = (-1 : Int32)))).2 (by decide) ?_
    refine gt_ X30 hx hby d22_186 (pc := 186) (pc' := 69) (by decide) ?_
    refine il_ X30 hx hby d22_69 rfl ?_
    refine il_ X30 hx hby d22_71 rfl ?_
    exact k_)
  have P33 := oS (T30.setTop (mkF m 192 #[r_ en, r_ b, i_ 0, i_ 5, r_ d, r_ ret_, i_ 3, i_ 3, i_ 3, i_ 4, i_ 3, i_ 4, u_, u_, u_, u_] [(.int 5), (.int 3)])) P32 (by
    intro _ k_
    refine cY_ X30 hx hby d22_73 (pc := 73) (pc' := 189) (flt (by decide : ¬ ((3 : Int32) < (3 : Int32)))).2.1 (by decide) ?_
    refine il_ X30 hx hby d22_189 rfl ?_
    refine iN_ X30 hx hby d22_191 rfl ?_
    exact k_)
  have P34 := oS (T30.setTop (mkF m 201 #[r_ en, r_ b, i_ 0, i_ 5, r_ d, r_ ret_, i_ 4, i_ 3, i_ 3, i_ 4, i_ 3, i_ 4, u_, u_, u_, u_] [(.int 3), (.ref b)])) P33 (by
    intro _ k_
    refine XS.icmpNo X30.here hx rfl (hb hby d22_192) rfl (tlt (by decide : (3 : Int32) < (5 : Int32))).2.1 ?_
    refine aN_ X30 hx hby d22_195 rfl rfl ?_
    refine il_ X30 hx hby d22_196 rfl ?_
    refine XS.iinc X30.here hx rfl (hb hby d22_198) rfl (l' := #[r_ en, r_ b, i_ 0, i_ 5, r_ d, r_ ret_, i_ 4, i_ 3, i_ 3, i_ 4, i_ 3, i_ 4, u_, u_, u_, u_]) rfl ?_
    exact k_)
  obtain ⟨cl35, Ar35, q35, S35, M35, H35, G35⟩ := id f23
  have hin35 := inb_of S35 (by decide : ¬ (3 : Int32) < 0 ∧ (3 : Int32) < (5 : Int32))
  have hat35 := Has.at H35 hin35 (v := .int y3) rfl
  have P36 := oS (T30.setTop (mkF m 202 #[r_ en, r_ b, i_ 0, i_ 5, r_ d, r_ ret_, i_ 4, i_ 3, i_ 3, i_ 4, i_ 3, i_ 4, u_, u_, u_, u_] [(.int y3)])) P34 (by
    intro _ k_
    refine X30.baloadBytes hx (j := (3 : Int32)) (v := (.int y3)) (by rw [e30]; exact Ar35.1) (State.isArrayOf_alike hZ.alike Ar35.2.1) Ar35.2.2 hin35 hat35 (g := (mkF m 201 #[r_ en, r_ b, i_ 0, i_ 5, r_ d, r_ ret_, i_ 4, i_ 3, i_ 3, i_ 4, i_ 3, i_ 4, u_, u_, u_, u_] [(.int 3), (.ref b)])) rfl rfl (hb hby d22_201) _ ?_
    exact k_)
  have P37 := oS (T30.setTop (mkF m 221 #[r_ en, r_ b, i_ 0, i_ 5, r_ d, r_ ret_, i_ 4, i_ 3, i_ 3, i_ 5, i_ (y3 &&& 255), i_ 4, u_, u_, u_, u_] [(.int ((y3 &&& 255) >>> ((2 : Int32) &&& 31))), (.ref ret_), (.int 4), (.ref d)])) P36 (by
    intro _ k_
    refine XS.sipush X30.here hx rfl (hb hby d22_202) ?_
    refine XS.iand X30.here hx rfl (hb hby d22_205) rfl ?_
    refine is_ X30 hx hby d22_206 (l' := #[r_ en, r_ b, i_ 0, i_ 5, r_ d, r_ ret_, i_ 4, i_ 3, i_ 3, i_ 4, i_ (y3 &&& 255), i_ 4, u_, u_, u_, u_]) rfl ?_
    refine a_ X30 hx hby d22_208 rfl rfl ?_
    refine il_ X30 hx hby d22_210 rfl ?_
    refine XS.iinc X30.here hx rfl (hb hby d22_212) rfl (l' := #[r_ en, r_ b, i_ 0, i_ 5, r_ d, r_ ret_, i_ 4, i_ 3, i_ 3, i_ 5, i_ (y3 &&& 255), i_ 4, u_, u_, u_, u_]) rfl ?_
    show Steps p.tables e below (T30.setTop (mkF m 215 #[r_ en, r_ b, i_ 0, i_ 5, r_ d, r_ ret_, i_ 4, i_ 3, i_ 3, i_ 5, i_ (y3 &&& 255), i_ 4, u_, u_, u_, u_] [(.int 4), (.ref d)])) _
    refine a_ X30 hx hby d22_215 rfl rfl ?_
    refine il_ X30 hx hby d22_217 rfl ?_
    refine XS.iconst X30.here hx rfl (hb hby d22_219) ?_
    refine XS.ishr X30.here hx rfl (hb hby d22_220) rfl ?_
    exact k_)
  obtain ⟨cl38, Ar38, q38, S38, M38, H38, G38⟩ := Vet.ext f19.2
  have hin38 := inb_of S38 hk4
  have hat38 := Has.at H38 hin38 hv4
  have P39 := oS (T30.setTop (mkF m 222 #[r_ en, r_ b, i_ 0, i_ 5, r_ d, r_ ret_, i_ 4, i_ 3, i_ 3, i_ 5, i_ (y3 &&& 255), i_ 4, u_, u_, u_, u_] [(.int v4), (.int 4), (.ref d)])) P37 (by
    intro _ k_
    refine X30.caload hx (j := ((y3 &&& 255) >>> ((2 : Int32) &&& 31))) (v := (.int v4)) (by rw [e30]; exact Ar38.1) (State.isArrayOf_alike hZ.alike Ar38.2.1) Ar38.2.2 hin38 hat38 (g := (mkF m 221 #[r_ en, r_ b, i_ 0, i_ 5, r_ d, r_ ret_, i_ 4, i_ 3, i_ 3, i_ 5, i_ (y3 &&& 255), i_ 4, u_, u_, u_, u_] [(.int ((y3 &&& 255) >>> ((2 : Int32) &&& 31))), (.ref ret_), (.int 4), (.ref d)])) rfl rfl (hb hby d22_221) _ ?_
    exact k_)
  have P40 := oS (T30.setTop (mkF m 223 #[r_ en, r_ b, i_ 0, i_ 5, r_ d, r_ ret_, i_ 4, i_ 3, i_ 3, i_ 5, i_ (y3 &&& 255), i_ 4, u_, u_, u_, u_] [(.int (v4.toInt8.toInt32)), (.int 4), (.ref d)])) P39 (by
    intro _ k_
    refine XS.i2b X30.here hx rfl (hb hby d22_222) rfl ?_
    exact k_)
  obtain ⟨cl41, Ar41, q41, S41, M41, H41, G41⟩ := id f18_
  obtain ⟨T42, h42, X42, e42, W42, st42⟩ := stB X30 hx hZ e30 Ar41 (j := (4 : Int32)) (inb_of S41 (by decide : ¬ (4 : Int32) < 0 ∧ (4 : Int32) < (7 : Int32))) (g := (mkF m 223 #[r_ en, r_ b, i_ 0, i_ 5, r_ d, r_ ret_, i_ 4, i_ 3, i_ 3, i_ 5, i_ (y3 &&& 255), i_ 4, u_, u_, u_, u_] [(.int (v4.toInt8.toInt32)), (.int 4), (.ref d)])) rfl rfl (hb hby d22_223)
  have f43 := f19.wr W42 gd
  have f44 := f20.other W42 (Or.inl nen)
  have f47 := f23.other W42 nbd
  have f48 := f25.wr W42 (Or.inl (List.mem_of_getElem? (i := 0) rfl))
  have V42 : Arv Z h42 d kd .byte (7 : Int32) [(.int x0), (.int x1), (.int x2), (.int x3), (.int (v4.toInt8.toInt32).toInt8.toInt32), (.int 0), (.int 0)] (.int 0) := Arv.set Ar41 q41 S41 M41 H41 G41 (fits_nar_byte _) W42 4 rfl (Nat.le_of_ble_eq_true rfl)
  have N42 := Fr.snoc X42 N17 gd
  have P52 := oS (T42.setTop (mkF m 224 #[r_ en, r_ b, i_ 0, i_ 5, r_ d, r_ ret_, i_ 4, i_ 3, i_ 3, i_ 5, i_ (y3 &&& 255), i_ 4, u_, u_, u_, u_] [])) P40 (fun t_ k_ => st42 t_ k_)
  have P53 := oS (T42.setTop (mkF m 227 #[r_ en, r_ b, i_ 0, i_ 5, r_ d, r_ ret_, i_ 4, i_ 3, i_ 3, i_ 5, i_ (y3 &&& 255), i_ 4, u_, u_, u_, u_] [(.int 5), (.int 4)])) P52 (by
    intro _ k_
    refine il_ X42 hx hby d22_224 rfl ?_
    refine iN_ X42 hx hby d22_226 rfl ?_
    exact k_)
  have P54 := oS (T42.setTop (mkF m 285 #[r_ en, r_ b, i_ 0, i_ 5, r_ d, r_ ret_, i_ 5, i_ 3, i_ 3, i_ 5, i_ (y3 &&& 255), i_ 4, u_, u_, u_, u_] [(.int 4), (.ref b)])) P53 (by
    intro _ k_
    refine cY_ X42 hx hby d22_227 (pc := 227) (pc' := 279) (feq (by decide : ¬ ((4 : Int32) = (5 : Int32)))).2 (by decide) ?_
    refine aN_ X42 hx hby d22_279 rfl rfl ?_
    refine il_ X42 hx hby d22_280 rfl ?_
    refine XS.iinc X42.here hx rfl (hb hby d22_282) rfl (l' := #[r_ en, r_ b, i_ 0, i_ 5, r_ d, r_ ret_, i_ 5, i_ 3, i_ 3, i_ 5, i_ (y3 &&& 255), i_ 4, u_, u_, u_, u_]) rfl ?_
    exact k_)
  obtain ⟨cl55, Ar55, q55, S55, M55, H55, G55⟩ := id f47
  have hin55 := inb_of S55 (by decide : ¬ (4 : Int32) < 0 ∧ (4 : Int32) < (5 : Int32))
  have hat55 := Has.at H55 hin55 (v := .int y4) rfl
  have P56 := oS (T42.setTop (mkF m 286 #[r_ en, r_ b, i_ 0, i_ 5, r_ d, r_ ret_, i_ 5, i_ 3, i_ 3, i_ 5, i_ (y3 &&& 255), i_ 4, u_, u_, u_, u_] [(.int y4)])) P54 (by
    intro _ k_
    refine X42.baloadBytes hx (j := (4 : Int32)) (v := (.int y4)) (by rw [e42]; exact Ar55.1) (State.isArrayOf_alike hZ.alike Ar55.2.1) Ar55.2.2 hin55 hat55 (g := (mkF m 285 #[r_ en, r_ b, i_ 0, i_ 5, r_ d, r_ ret_, i_ 5, i_ 3, i_ 3, i_ 5, i_ (y3 &&& 255), i_ 4, u_, u_, u_, u_] [(.int 4), (.ref b)])) rfl rfl (hb hby d22_285) _ ?_
    exact k_)
  have P57 := oS (T42.setTop (mkF m 313 #[r_ en, r_ b, i_ 0, i_ 5, r_ d, r_ ret_, i_ 5, i_ 3, i_ 3, i_ 6, i_ (y3 &&& 255), i_ (y4 &&& 255), u_, u_, u_, u_] [(.int ((((y3 &&& 255) <<< ((4 : Int32) &&& 31)) &&& 63) ||| ((y4 &&& 255) >>> ((4 : Int32) &&& 31)))), (.ref ret_), (.int 5), (.ref d)])) P56 (by
    intro _ k_
    refine XS.sipush X42.here hx rfl (hb hby d22_286) ?_
    refine XS.iand X42.here hx rfl (hb hby d22_289) rfl ?_
    refine is_ X42 hx hby d22_290 (l' := #[r_ en, r_ b, i_ 0, i_ 5, r_ d, r_ ret_, i_ 5, i_ 3, i_ 3, i_ 5, i_ (y3 &&& 255), i_ (y4 &&& 255), u_, u_, u_, u_]) rfl ?_
    refine a_ X42 hx hby d22_292 rfl rfl ?_
    refine il_ X42 hx hby d22_294 rfl ?_
    refine XS.iinc X42.here hx rfl (hb hby d22_296) rfl (l' := #[r_ en, r_ b, i_ 0, i_ 5, r_ d, r_ ret_, i_ 5, i_ 3, i_ 3, i_ 6, i_ (y3 &&& 255), i_ (y4 &&& 255), u_, u_, u_, u_]) rfl ?_
    show Steps p.tables e below (T42.setTop (mkF m 299 #[r_ en, r_ b, i_ 0, i_ 5, r_ d, r_ ret_, i_ 5, i_ 3, i_ 3, i_ 6, i_ (y3 &&& 255), i_ (y4 &&& 255), u_, u_, u_, u_] [(.int 5), (.ref d)])) _
    refine a_ X42 hx hby d22_299 rfl rfl ?_
    refine il_ X42 hx hby d22_301 rfl ?_
    refine XS.iconst X42.here hx rfl (hb hby d22_303) ?_
    refine XS.ishl X42.here hx rfl (hb hby d22_304) rfl ?_
    refine XS.bipush X42.here hx rfl (hb hby d22_305) ?_
    refine XS.iand X42.here hx rfl (hb hby d22_307) rfl ?_
    refine il_ X42 hx hby d22_308 rfl ?_
    refine XS.iconst X42.here hx rfl (hb hby d22_310) ?_
    refine XS.ishr X42.here hx rfl (hb hby d22_311) rfl ?_
    refine XS.ior X42.here hx rfl (hb hby d22_312) rfl ?_
    exact k_)
  obtain ⟨cl58, Ar58, q58, S58, M58, H58, G58⟩ := Vet.ext f43.2
  have hin58 := inb_of S58 hk5
  have hat58 := Has.at H58 hin58 hv5
  have P59 := oS (T42.setTop (mkF m 314 #[r_ en, r_ b, i_ 0, i_ 5, r_ d, r_ ret_, i_ 5, i_ 3, i_ 3, i_ 6, i_ (y3 &&& 255), i_ (y4 &&& 255), u_, u_, u_, u_] [(.int v5), (.int 5), (.ref d)])) P57 (by
    intro _ k_
    refine X42.caload hx (j := ((((y3 &&& 255) <<< ((4 : Int32) &&& 31)) &&& 63) ||| ((y4 &&& 255) >>> ((4 : Int32) &&& 31)))) (v := (.int v5)) (by rw [e42]; exact Ar58.1) (State.isArrayOf_alike hZ.alike Ar58.2.1) Ar58.2.2 hin58 hat58 (g := (mkF m 313 #[r_ en, r_ b, i_ 0, i_ 5, r_ d, r_ ret_, i_ 5, i_ 3, i_ 3, i_ 6, i_ (y3 &&& 255), i_ (y4 &&& 255), u_, u_, u_, u_] [(.int ((((y3 &&& 255) <<< ((4 : Int32) &&& 31)) &&& 63) ||| ((y4 &&& 255) >>> ((4 : Int32) &&& 31)))), (.ref ret_), (.int 5), (.ref d)])) rfl rfl (hb hby d22_313) _ ?_
    exact k_)
  have P60 := oS (T42.setTop (mkF m 315 #[r_ en, r_ b, i_ 0, i_ 5, r_ d, r_ ret_, i_ 5, i_ 3, i_ 3, i_ 6, i_ (y3 &&& 255), i_ (y4 &&& 255), u_, u_, u_, u_] [(.int (v5.toInt8.toInt32)), (.int 5), (.ref d)])) P59 (by
    intro _ k_
    refine XS.i2b X42.here hx rfl (hb hby d22_314) rfl ?_
    exact k_)
  obtain ⟨cl61, Ar61, q61, S61, M61, H61, G61⟩ := id V42
  obtain ⟨T62, h62, X62, e62, W62, st62⟩ := stB X42 hx hZ e42 Ar61 (j := (5 : Int32)) (inb_of S61 (by decide : ¬ (5 : Int32) < 0 ∧ (5 : Int32) < (7 : Int32))) (g := (mkF m 315 #[r_ en, r_ b, i_ 0, i_ 5, r_ d, r_ ret_, i_ 5, i_ 3, i_ 3, i_ 6, i_ (y3 &&& 255), i_ (y4 &&& 255), u_, u_, u_, u_] [(.int (v5.toInt8.toInt32)), (.int 5), (.ref d)])) rfl rfl (hb hby d22_315)
  have f63 := f43.wr W62 gd
  have f64 := f44.other W62 (Or.inl nen)
  have f68 := f48.wr W62 (Or.inl (List.mem_of_getElem? (i := 0) rfl))
  have V62 : Arv Z h62 d kd .byte (7 : Int32) [(.int x0), (.int x1), (.int x2), (.int x3), (.int (v4.toInt8.toInt32).toInt8.toInt32), (.int (v5.toInt8.toInt32).toInt8.toInt32), (.int 0)] (.int 0) := Arv.set Ar61 q61 S61 M61 H61 G61 (fits_nar_byte _) W62 5 rfl (Nat.le_of_ble_eq_true rfl)
  have N62 := Fr.snoc X62 N42 gd
  have P72 := oS (T62.setTop (mkF m 316 #[r_ en, r_ b, i_ 0, i_ 5, r_ d, r_ ret_, i_ 5, i_ 3, i_ 3, i_ 6, i_ (y3 &&& 255), i_ (y4 &&& 255), u_, u_, u_, u_] [])) P60 (fun t_ k_ => st62 t_ k_)
  have P73 := oS (T62.setTop (mkF m 332 #[r_ en, r_ b, i_ 0, i_ 5, r_ d, r_ ret_, i_ 5, i_ 3, i_ 3, i_ 7, i_ (y3 &&& 255), i_ (y4 &&& 255), u_, u_, u_, u_] [(.int (((y4 &&& 255) <<< ((2 : Int32) &&& 31)) &&& 63)), (.ref ret_), (.int 6), (.ref d)])) P72 (by
    intro _ k_
    refine a_ X62 hx hby d22_316 rfl rfl ?_
    refine il_ X62 hx hby d22_318 rfl ?_
    refine XS.iinc X62.here hx rfl (hb hby d22_320) rfl (l' := #[r_ en, r_ b, i_ 0, i_ 5, r_ d, r_ ret_, i_ 5, i_ 3, i_ 3, i_ 7, i_ (y3 &&& 255), i_ (y4 &&& 255), u_, u_, u_, u_]) rfl ?_
    show Steps p.tables e below (T62.setTop (mkF m 323 #[r_ en, r_ b, i_ 0, i_ 5, r_ d, r_ ret_, i_ 5, i_ 3, i_ 3, i_ 7, i_ (y3 &&& 255), i_ (y4 &&& 255), u_, u_, u_, u_] [(.int 6), (.ref d)])) _
    refine a_ X62 hx hby d22_323 rfl rfl ?_
    refine il_ X62 hx hby d22_325 rfl ?_
    refine XS.iconst X62.here hx rfl (hb hby d22_327) ?_
    refine XS.ishl X62.here hx rfl (hb hby d22_328) rfl ?_
    refine XS.bipush X62.here hx rfl (hb hby d22_329) ?_
    refine XS.iand X62.here hx rfl (hb hby d22_331) rfl ?_
    exact k_)
  obtain ⟨cl74, Ar74, q74, S74, M74, H74, G74⟩ := Vet.ext f63.2
  have hin74 := inb_of S74 hk6
  have hat74 := Has.at H74 hin74 hv6
  have P75 := oS (T62.setTop (mkF m 333 #[r_ en, r_ b, i_ 0, i_ 5, r_ d, r_ ret_, i_ 5, i_ 3, i_ 3, i_ 7, i_ (y3 &&& 255), i_ (y4 &&& 255), u_, u_, u_, u_] [(.int v6), (.int 6), (.ref d)])) P73 (by
    intro _ k_
    refine X62.caload hx (j := (((y4 &&& 255) <<< ((2 : Int32) &&& 31)) &&& 63)) (v := (.int v6)) (by rw [e62]; exact Ar74.1) (State.isArrayOf_alike hZ.alike Ar74.2.1) Ar74.2.2 hin74 hat74 (g := (mkF m 332 #[r_ en, r_ b, i_ 0, i_ 5, r_ d, r_ ret_, i_ 5, i_ 3, i_ 3, i_ 7, i_ (y3 &&& 255), i_ (y4 &&& 255), u_, u_, u_, u_] [(.int (((y4 &&& 255) <<< ((2 : Int32) &&& 31)) &&& 63)), (.ref ret_), (.int 6), (.ref d)])) rfl rfl (hb hby d22_332) _ ?_
    exact k_)
  have P76 := oS (T62.setTop (mkF m 334 #[r_ en, r_ b, i_ 0, i_ 5, r_ d, r_ ret_, i_ 5, i_ 3, i_ 3, i_ 7, i_ (y3 &&& 255), i_ (y4 &&& 255), u_, u_, u_, u_] [(.int (v6.toInt8.toInt32)), (.int 6), (.ref d)])) P75 (by
    intro _ k_
    refine XS.i2b X62.here hx rfl (hb hby d22_333) rfl ?_
    exact k_)
  obtain ⟨cl77, Ar77, q77, S77, M77, H77, G77⟩ := id V62
  obtain ⟨T78, h78, X78, e78, W78, st78⟩ := stB X62 hx hZ e62 Ar77 (j := (6 : Int32)) (inb_of S77 (by decide : ¬ (6 : Int32) < 0 ∧ (6 : Int32) < (7 : Int32))) (g := (mkF m 334 #[r_ en, r_ b, i_ 0, i_ 5, r_ d, r_ ret_, i_ 5, i_ 3, i_ 3, i_ 7, i_ (y3 &&& 255), i_ (y4 &&& 255), u_, u_, u_, u_] [(.int (v6.toInt8.toInt32)), (.int 6), (.ref d)])) rfl rfl (hb hby d22_334)
  have f80 := f64.other W78 (Or.inl nen)
  have f84 := f68.wr W78 (Or.inl (List.mem_of_getElem? (i := 0) rfl))
  have V78 : Arv Z h78 d kd .byte (7 : Int32) [(.int x0), (.int x1), (.int x2), (.int x3), (.int (v4.toInt8.toInt32).toInt8.toInt32), (.int (v5.toInt8.toInt32).toInt8.toInt32), (.int (v6.toInt8.toInt32).toInt8.toInt32)] (.int 0) := Arv.set Ar77 q77 S77 M77 H77 G77 (fits_nar_byte _) W78 6 rfl (Nat.le_of_ble_eq_true rfl)
  have N78 := Fr.snoc X78 N62 gd
  have P88 := oS (T78.setTop (mkF m 335 #[r_ en, r_ b, i_ 0, i_ 5, r_ d, r_ ret_, i_ 5, i_ 3, i_ 3, i_ 7, i_ (y3 &&& 255), i_ (y4 &&& 255), u_, u_, u_, u_] [])) P76 (fun t_ k_ => st78 t_ k_)
  have P89 := oS (T78.setTop (mkF m 336 #[r_ en, r_ b, i_ 0, i_ 5, r_ d, r_ ret_, i_ 5, i_ 3, i_ 3, i_ 7, i_ (y3 &&& 255), i_ (y4 &&& 255), u_, u_, u_, u_] [(.ref en)])) P88 (by
    intro _ k_
    refine aN_ X78 hx hby d22_335 rfl rfl ?_
    exact k_)
  obtain ⟨T90, X90, e90, st90⟩ := getF X78 hx hZ hown (host := "") (Or.inl (own_w hw 125 rfl)) Via.refl e78 f80 (g := (mkF m 336 #[r_ en, r_ b, i_ 0, i_ 5, r_ d, r_ ret_, i_ 5, i_ 3, i_ 3, i_ 7, i_ (y3 &&& 255), i_ (y4 &&& 255), u_, u_, u_, u_] [(.ref en)])) rfl rfl (hb hby d22_336)
  have P91 := oS (T90.setTop (mkF m 339 #[r_ en, r_ b, i_ 0, i_ 5, r_ d, r_ ret_, i_ 5, i_ 3, i_ 3, i_ 7, i_ (y3 &&& 255), i_ (y4 &&& 255), u_, u_, u_, u_] [(.int 0)])) P89 (fun t_ k_ => st90 t_ k_)
  have P92 := oS (T90.setTop (mkF m 354 #[r_ en, r_ b, i_ 0, i_ 5, r_ d, r_ ret_, i_ 5, i_ 3, i_ 3, i_ 7, i_ (y3 &&& 255), i_ (y4 &&& 255), u_, u_, u_, u_] [(.int 7)])) P91 (by
    intro _ k_
    refine fY_ X90 hx hby d22_339 (pc := 339) (pc' := 352) ((if0 _ _).trans (teq (by decide : (0 : Int32) = (0 : Int32))).1) (by decide) ?_
    refine il_ X90 hx hby d22_352 rfl ?_
    exact k_)
  rw [hz4, hz5, hz6] at V78
  exact own_out X90 hlk (v := some (.int 7)) (own_hv hrt) P92 (fun _ q_ => retI X90 hx hrt (hb hby d22_354) q_) e90 ⟨rfl, N78, f84, V78⟩ (by decide)
theorem pd24 : parseMethodDescriptor "(I)C" = some ⟨[.int], some .char⟩ := by decide +kernel
theorem pd25 : parseMethodDescriptor "([C)V" = some ⟨[(.array .char)], none⟩ := by decide +kernel
theorem ef0JI (m : MethodId) (x0 : Int64) (x1 : Int32) : entryFrame m #[(.long x0), (.int x1)] maxLocals = mkF m 0 #[.val (.long x0), .second, i_ x1, u_, u_, u_, u_, u_, u_, u_, u_, u_, u_] [] := by first | (simp [entryFrame, mkF, argsToLocals, Value.category, maxLocals]; done) | rfl
def Q0 (Z : State) (pa : Int64) (pb : Int32) (fm : Value) (cs : Int32) (riso : Addr) (rutf : Addr) (rdt : Addr) (kdt : ClassId) (ret_ : Addr) (ket : ClassId) (de : Addr) (en : Addr) (h0 : Heap) (n0 : Nat) (v_ : Option Value) (h : Heap) (L_ : List Loc) : Prop := v_ = some (.int 1) ∧ Fr n0 L_
set_option maxRecDepth 65536 in
set_option maxHeartbeats 40000000 in
theorem rm0 (l : Launch) (Z : State) (a0 : Array Value) (hw : ∀ d ∈ tables_1, d.before a0 Z = true) (ws : List Jvm.Cond) (pa : Int64) (pb : Int32) (fm : Value) (cs : Int32) (riso : Addr) (rutf : Addr) (rdt : Addr) (kdt : ClassId) (ret_ : Addr) (ket : ClassId) (de : Addr) (en : Addr) (h0 : Heap) (n0 : Nat) (Z0 : n0 ≤ h0.size) (O : Old Z n0 h0) (Scs : Sta Z Z.heap "java/lang/String" "COMPACT_STRINGS" "Z" (.int cs)) (hcs : ¬ (cs = (0 : Int32))) (Sfm : Sta Z Z.heap "jdk/internal/util/Preconditions" "SIOOBE_FORMATTER" "Ljava/util/function/BiFunction;" fm) (hfm : fm.category = 1) (Siso : Sta Z Z.heap "sun/nio/cs/ISO_8859_1" "INSTANCE" "Lsun/nio/cs/ISO_8859_1;" (.ref riso)) (Sutf : Sta Z Z.heap "sun/nio/cs/UTF_8" "INSTANCE" "Lsun/nio/cs/UTF_8;" (.ref rutf)) (nci : riso ≠ rutf) (Sdt : Sta Z Z.heap "java/util/Base64$Decoder" "fromBase64URL" "[I" (.ref rdt)) (Vdt : Arv Z Z.heap rdt kdt .int (256 : Int32) own_dec (.int 0)) (Set : Sta Z Z.heap "java/util/Base64$Encoder" "toBase64URL" "[C" (.ref ret_)) (Vet : Arv Z Z.heap ret_ ket .char (64 : Int32) own_enc (.int 0)) (Ed : Exa Z h0 de "java/util/Base64$Decoder") (Fu : Fld Z h0 de "java/util/Base64$Decoder" "isURL" "Z" (.int 1)) (Fm : Fld Z h0 de "java/util/Base64$Decoder" "isMIME" "Z" (.int 0)) (Ee : Exa Z h0 en "java/util/Base64$Encoder") (Fp : Fld Z h0 en "java/util/Base64$Encoder" "doPadding" "Z" (.int 0)) (Fl : Fld Z h0 en "java/util/Base64$Encoder" "linemax" "I" (.int (-1 : Int32))) (Fe : Fld Z h0 en "java/util/Base64$Encoder" "isURL" "Z" (.int 1)) (Sdec : Sta Z Z.heap "com/example/verified_health_identity/verifiedhealthidentity/jose/Base64url" "DECODER" "Ljava/util/Base64$Decoder;" (.ref de)) (Senc : Sta Z Z.heap "com/example/verified_health_identity/verifiedhealthidentity/jose/Base64url" "ENCODER" "Ljava/util/Base64$Encoder;" (.ref en)) (hheld : Jvm.Lit.constHeld Z "java/lang/String" 7) (hcw : Jvm.Lit.compactW.before a0 Z = true) :
    MetFree l x (head1 (Jvm.Cond.code x code maxLocals ret :: ws) room_1) (fun a_ U_ => a_ = #[(.long pa), (.int pb)] ∧ Z.Warmed39 U_.vm ∧ U_.heap = h0 ∧ IB Z U_.vm []) (fun _ _ _ _ _ => True) (fun _ U_ o_ V_ => ∃ v_ L_, o_ = .returned v_ ∧ Q0 Z pa pb fm cs riso rutf rdt kdt ret_ ket de en h0 n0 v_ V_.heap L_ ∧ ReturnedEndW U_ o_ V_ L_ room_1.cells room_1.slots) := by
  refine MetFree.of_bodySF (plainFor_of_name pn0) hisR ?_
  intro p e s m args below meth c s₁ Bd hml0 hP hK
  obtain ⟨rfl, hZ, hh, hIB⟩ := hP
  have hx := Bd.exec
  have hby := Bd.bytes
  have hml : c.maxLocals = 13 := hml0
  have hown : s.vm.findClass "com/example/verified_health_identity/verifiedhealthidentity/jose/Base64urlDecodePinLaw" = some m.cls := findClass_of_methodNamed Bd.named
  have hnm := (name_of_methodNamed Bd.named Bd.method).1
  have X0 : Stand p l e room_1 s m #[(.long pa), (.int pb)] below meth c s₁ [] 0 0 := Stand.of_body Bd
  have e0 : s₁.heap = h0 := by rw [← hh, Bd.state]; rfl
  have N0 := Fr.nil n0
  have pre0 : own_Go p e below (s₁.setTop (entryFrame m #[(.long pa), (.int pb)] maxLocals)) (s₁.setTop (mkF m 0 #[.val (.long pa), .second, i_ pb, u_, u_, u_, u_, u_, u_, u_, u_, u_, u_] [])) := fun t_ k_ => castTop (ef0JI m pa pb) k_
  have P1 := oS (s₁.setTop (mkF m 7 #[.val (.long pa), .second, i_ pb, u_, u_, u_, u_, u_, u_, u_, u_, u_, u_] [(.int ((pb &&& 2147483647) % (6 : Int32)))])) pre0 (by
    intro _ k_
    refine iN_ X0 hx hby at_0 rfl ?_
    refine X0.ldcInt hx hown (mvT hZ (own_w hw 0 rfl)) (g := (mkF m 1 #[.val (.long pa), .second, i_ pb, u_, u_, u_, u_, u_, u_, u_, u_, u_, u_] [(.int pb)])) rfl (hb hby at_1) _ ?_
    refine XS.iand X0.here hx rfl (hb hby at_3) rfl ?_
    refine XS.bipush X0.here hx rfl (hb hby at_4) ?_
    refine iremM X0 hx rfl (hb hby at_6) rfl (by decide) ?_
    exact k_)
  obtain ⟨nn, hnn, P2⟩ := own_name (F := fun z => s₁.setTop (mkF m 7 #[.val (.long pa), .second, i_ pb, u_, u_, u_, u_, u_, u_, u_, u_, u_, u_] [(.int z)])) ((pb &&& 2147483647) % (6 : Int32)) P1
  obtain ⟨q0, hv3, J3⟩ : ∃ (q0 : Int32), (((0 : Int32) < nn ∧ q0 = ((pa &&& (255 : Int64)).toInt32)) ∨ (¬ ((0 : Int32) < nn) ∧ q0 = (0 : Int32))) ∧ own_Go p e below (s₁.setTop (mkF m 7 #[.val (.long pa), .second, i_ pb, u_, u_, u_, u_, u_, u_, u_, u_, u_, u_] [(.int nn)])) (s₁.setTop (mkF m 22 #[.val (.long pa), .second, i_ pb, i_ nn, u_, u_, u_, u_, u_, u_, u_, u_, u_] [(.int q0)])) := by
    have P4 : own_Go p e below (s₁.setTop (mkF m 7 #[.val (.long pa), .second, i_ pb, u_, u_, u_, u_, u_, u_, u_, u_, u_, u_] [(.int nn)])) (s₁.setTop (mkF m 7 #[.val (.long pa), .second, i_ pb, u_, u_, u_, u_, u_, u_, u_, u_, u_, u_] [(.int nn)])) := fun t_ k_ => k_
    have P5 := oS (s₁.setTop (mkF m 9 #[.val (.long pa), .second, i_ pb, i_ nn, u_, u_, u_, u_, u_, u_, u_, u_, u_] [(.int nn)])) P4 (by
      intro _ k_
      refine XS.istoreN X0.here hx rfl (hb hby at_7) rfl (l' := #[.val (.long pa), .second, i_ pb, i_ nn, u_, u_, u_, u_, u_, u_, u_, u_, u_]) rfl ?_
      refine iN_ X0 hx hby at_8 rfl ?_
      exact k_)
    by_cases c6 : (0 : Int32) < nn
    · have P7 := oS (s₁.setTop (mkF m 22 #[.val (.long pa), .second, i_ pb, i_ nn, u_, u_, u_, u_, u_, u_, u_, u_, u_] [(.int ((pa &&& (255 : Int64)).toInt32))])) P5 (by
        intro _ k_
        refine XS.ifNo X0.here hx rfl (hb hby at_9) rfl ((if0 _ _).trans (tlt c6).2.2.2) ?_
        refine XS.lloadN X0.here hx rfl (hb hby at_12) rfl ?_
        refine X0.ldc2Long hx hown (mvT hZ (own_w hw 1 rfl)) (g := (mkF m 13 #[.val (.long pa), .second, i_ pb, i_ nn, u_, u_, u_, u_, u_, u_, u_, u_, u_] [(.long pa)])) rfl (hb hby at_13) _ ?_
        refine XS.land X0.here hx rfl (hb hby at_16) rfl ?_
        refine XS.l2i X0.here hx rfl (hb hby at_17) rfl ?_
        refine gt_ X0 hx hby at_18 (pc := 18) (pc' := 22) (by decide) ?_
        exact k_)
      exact ⟨((pa &&& (255 : Int64)).toInt32), Or.inl ⟨c6, rfl⟩, P7⟩
    · have P8 := oS (s₁.setTop (mkF m 22 #[.val (.long pa), .second, i_ pb, i_ nn, u_, u_, u_, u_, u_, u_, u_, u_, u_] [(.int 0)])) P5 (by
        intro _ k_
        refine fY_ X0 hx hby at_9 (pc := 9) (pc' := 21) ((if0 _ _).trans (flt c6).2.2.2) (by decide) ?_
        refine XS.iconst X0.here hx rfl (hb hby at_21) ?_
        exact k_)
      exact ⟨(0 : Int32), Or.inr (⟨c6, rfl⟩), P8⟩
  have P9 := own_step P2 J3
  have P10 := oS (s₁.setTop (mkF m 24 #[.val (.long pa), .second, i_ pb, i_ nn, i_ q0, u_, u_, u_, u_, u_, u_, u_, u_] [])) P9 (by
    intro _ k_
    refine is_ X0 hx hby at_22 (l' := #[.val (.long pa), .second, i_ pb, i_ nn, i_ q0, u_, u_, u_, u_, u_, u_, u_, u_]) rfl ?_
    exact k_)
  obtain ⟨q1, hv11, J11⟩ : ∃ (q1 : Int32), (((1 : Int32) < nn ∧ q1 = ((((pa.toUInt64 >>> ((8 : Int32) &&& 0x3f).toInt64.toUInt64).toInt64) &&& (255 : Int64)).toInt32)) ∨ (¬ ((1 : Int32) < nn) ∧ q1 = (0 : Int32))) ∧ own_Go p e below (s₁.setTop (mkF m 24 #[.val (.long pa), .second, i_ pb, i_ nn, i_ q0, u_, u_, u_, u_, u_, u_, u_, u_] [])) (s₁.setTop (mkF m 42 #[.val (.long pa), .second, i_ pb, i_ nn, i_ q0, u_, u_, u_, u_, u_, u_, u_, u_] [(.int q1)])) := by
    have P12 : own_Go p e below (s₁.setTop (mkF m 24 #[.val (.long pa), .second, i_ pb, i_ nn, i_ q0, u_, u_, u_, u_, u_, u_, u_, u_] [])) (s₁.setTop (mkF m 24 #[.val (.long pa), .second, i_ pb, i_ nn, i_ q0, u_, u_, u_, u_, u_, u_, u_, u_] [])) := fun t_ k_ => k_
    have P13 := oS (s₁.setTop (mkF m 26 #[.val (.long pa), .second, i_ pb, i_ nn, i_ q0, u_, u_, u_, u_, u_, u_, u_, u_] [(.int 1), (.int nn)])) P12 (by
      intro _ k_
      refine iN_ X0 hx hby at_24 rfl ?_
      refine XS.iconst X0.here hx rfl (hb hby at_25) ?_
      exact k_)
    by_cases c14 : (1 : Int32) < nn
    · have P15 := oS (s₁.setTop (mkF m 42 #[.val (.long pa), .second, i_ pb, i_ nn, i_ q0, u_, u_, u_, u_, u_, u_, u_, u_] [(.int ((((pa.toUInt64 >>> ((8 : Int32) &&& 0x3f).toInt64.toUInt64).toInt64) &&& (255 : Int64)).toInt32))])) P13 (by
        intro _ k_
        refine XS.icmpNo X0.here hx rfl (hb hby at_26) rfl (tlt c14).2.2.2 ?_
        refine XS.lloadN X0.here hx rfl (hb hby at_29) rfl ?_
        refine XS.bipush X0.here hx rfl (hb hby at_30) ?_
        refine XS.lushr X0.here hx rfl (hb hby at_32) rfl ?_
        refine X0.ldc2Long hx hown (mvT hZ (own_w hw 1 rfl)) (g := (mkF m 33 #[.val (.long pa), .second, i_ pb, i_ nn, i_ q0, u_, u_, u_, u_, u_, u_, u_, u_] [(.long ((pa.toUInt64 >>> ((8 : Int32) &&& 0x3f).toInt64.toUInt64).toInt64))])) rfl (hb hby at_33) _ ?_
        refine XS.land X0.here hx rfl (hb hby at_36) rfl ?_
        refine XS.l2i X0.here hx rfl (hb hby at_37) rfl ?_
        refine gt_ X0 hx hby at_38 (pc := 38) (pc' := 42) (by decide) ?_
        exact k_)
      exact ⟨((((pa.toUInt64 >>> ((8 : Int32) &&& 0x3f).toInt64.toUInt64).toInt64) &&& (255 : Int64)).toInt32), Or.inl ⟨c14, rfl⟩, P15⟩
    · have P16 := oS (s₁.setTop (mkF m 42 #[.val (.long pa), .second, i_ pb, i_ nn, i_ q0, u_, u_, u_, u_, u_, u_, u_, u_] [(.int 0)])) P13 (by
        intro _ k_
        refine cY_ X0 hx hby at_26 (pc := 26) (pc' := 41) (flt c14).2.2.2 (by decide) ?_
        refine XS.iconst X0.here hx rfl (hb hby at_41) ?_
        exact k_)
      exact ⟨(0 : Int32), Or.inr (⟨c14, rfl⟩), P16⟩
  have P17 := own_step P10 J11
  have P18 := oS (s₁.setTop (mkF m 44 #[.val (.long pa), .second, i_ pb, i_ nn, i_ q0, i_ q1, u_, u_, u_, u_, u_, u_, u_] [])) P17 (by
    intro _ k_
    refine is_ X0 hx hby at_42 (l' := #[.val (.long pa), .second, i_ pb, i_ nn, i_ q0, i_ q1, u_, u_, u_, u_, u_, u_, u_]) rfl ?_
    exact k_)
  obtain ⟨q2, hv19, J19⟩ : ∃ (q2 : Int32), (((2 : Int32) < nn ∧ q2 = ((((pa.toUInt64 >>> ((16 : Int32) &&& 0x3f).toInt64.toUInt64).toInt64) &&& (255 : Int64)).toInt32)) ∨ (¬ ((2 : Int32) < nn) ∧ q2 = (0 : Int32))) ∧ own_Go p e below (s₁.setTop (mkF m 44 #[.val (.long pa), .second, i_ pb, i_ nn, i_ q0, i_ q1, u_, u_, u_, u_, u_, u_, u_] [])) (s₁.setTop (mkF m 62 #[.val (.long pa), .second, i_ pb, i_ nn, i_ q0, i_ q1, u_, u_, u_, u_, u_, u_, u_] [(.int q2)])) := by
    have P20 : own_Go p e below (s₁.setTop (mkF m 44 #[.val (.long pa), .second, i_ pb, i_ nn, i_ q0, i_ q1, u_, u_, u_, u_, u_, u_, u_] [])) (s₁.setTop (mkF m 44 #[.val (.long pa), .second, i_ pb, i_ nn, i_ q0, i_ q1, u_, u_, u_, u_, u_, u_, u_] [])) := fun t_ k_ => k_
    have P21 := oS (s₁.setTop (mkF m 46 #[.val (.long pa), .second, i_ pb, i_ nn, i_ q0, i_ q1, u_, u_, u_, u_, u_, u_, u_] [(.int 2), (.int nn)])) P20 (by
      intro _ k_
      refine iN_ X0 hx hby at_44 rfl ?_
      refine XS.iconst X0.here hx rfl (hb hby at_45) ?_
      exact k_)
    by_cases c22 : (2 : Int32) < nn
    · have P23 := oS (s₁.setTop (mkF m 62 #[.val (.long pa), .second, i_ pb, i_ nn, i_ q0, i_ q1, u_, u_, u_, u_, u_, u_, u_] [(.int ((((pa.toUInt64 >>> ((16 : Int32) &&& 0x3f).toInt64.toUInt64).toInt64) &&& (255 : Int64)).toInt32))])) P21 (by
        intro _ k_
        refine XS.icmpNo X0.here hx rfl (hb hby at_46) rfl (tlt c22).2.2.2 ?_
        refine XS.lloadN X0.here hx rfl (hb hby at_49) rfl ?_
        refine XS.bipush X0.here hx rfl (hb hby at_50) ?_
        refine XS.lushr X0.here hx rfl (hb hby at_52) rfl ?_
        refine X0.ldc2Long hx hown (mvT hZ (own_w hw 1 rfl)) (g := (mkF m 53 #[.val (.long pa), .second, i_ pb, i_ nn, i_ q0, i_ q1, u_, u_, u_, u_, u_, u_, u_] [(.long ((pa.toUInt64 >>> ((16 : Int32) &&& 0x3f).toInt64.toUInt64).toInt64))])) rfl (hb hby at_53) _ ?_
        refine XS.land X0.here hx rfl (hb hby at_56) rfl ?_
        refine XS.l2i X0.here hx rfl (hb hby at_57) rfl ?_
        refine gt_ X0 hx hby at_58 (pc := 58) (pc' := 62) (by decide) ?_
        exact k_)
      exact ⟨((((pa.toUInt64 >>> ((16 : Int32) &&& 0x3f).toInt64.toUInt64).toInt64) &&& (255 : Int64)).toInt32), Or.inl ⟨c22, rfl⟩, P23⟩
    · have P24 := oS (s₁.setTop (mkF m 62 #[.val (.long pa), .second, i_ pb, i_ nn, i_ q0, i_ q1, u_, u_, u_, u_, u_, u_, u_] [(.int 0)])) P21 (by
        intro _ k_
        refine cY_ X0 hx hby at_46 (pc := 46) (pc' := 61) (flt c22).2.2.2 (by decide) ?_
        refine XS.iconst X0.here hx rfl (hb hby at_61) ?_
        exact k_)
      exact ⟨(0 : Int32), Or.inr (⟨c22, rfl⟩), P24⟩
  have P25 := own_step P18 J19
  have P26 := oS (s₁.setTop (mkF m 64 #[.val (.long pa), .second, i_ pb, i_ nn, i_ q0, i_ q1, i_ q2, u_, u_, u_, u_, u_, u_] [])) P25 (by
    intro _ k_
    refine is_ X0 hx hby at_62 (l' := #[.val (.long pa), .second, i_ pb, i_ nn, i_ q0, i_ q1, i_ q2, u_, u_, u_, u_, u_, u_]) rfl ?_
    exact k_)
  obtain ⟨q3, hv27, J27⟩ : ∃ (q3 : Int32), (((3 : Int32) < nn ∧ q3 = ((((pa.toUInt64 >>> ((24 : Int32) &&& 0x3f).toInt64.toUInt64).toInt64) &&& (255 : Int64)).toInt32)) ∨ (¬ ((3 : Int32) < nn) ∧ q3 = (0 : Int32))) ∧ own_Go p e below (s₁.setTop (mkF m 64 #[.val (.long pa), .second, i_ pb, i_ nn, i_ q0, i_ q1, i_ q2, u_, u_, u_, u_, u_, u_] [])) (s₁.setTop (mkF m 82 #[.val (.long pa), .second, i_ pb, i_ nn, i_ q0, i_ q1, i_ q2, u_, u_, u_, u_, u_, u_] [(.int q3)])) := by
    have P28 : own_Go p e below (s₁.setTop (mkF m 64 #[.val (.long pa), .second, i_ pb, i_ nn, i_ q0, i_ q1, i_ q2, u_, u_, u_, u_, u_, u_] [])) (s₁.setTop (mkF m 64 #[.val (.long pa), .second, i_ pb, i_ nn, i_ q0, i_ q1, i_ q2, u_, u_, u_, u_, u_, u_] [])) := fun t_ k_ => k_
    have P29 := oS (s₁.setTop (mkF m 66 #[.val (.long pa), .second, i_ pb, i_ nn, i_ q0, i_ q1, i_ q2, u_, u_, u_, u_, u_, u_] [(.int 3), (.int nn)])) P28 (by
      intro _ k_
      refine iN_ X0 hx hby at_64 rfl ?_
      refine XS.iconst X0.here hx rfl (hb hby at_65) ?_
      exact k_)
    by_cases c30 : (3 : Int32) < nn
    · have P31 := oS (s₁.setTop (mkF m 82 #[.val (.long pa), .second, i_ pb, i_ nn, i_ q0, i_ q1, i_ q2, u_, u_, u_, u_, u_, u_] [(.int ((((pa.toUInt64 >>> ((24 : Int32) &&& 0x3f).toInt64.toUInt64).toInt64) &&& (255 : Int64)).toInt32))])) P29 (by
        intro _ k_
        refine XS.icmpNo X0.here hx rfl (hb hby at_66) rfl (tlt c30).2.2.2 ?_
        refine XS.lloadN X0.here hx rfl (hb hby at_69) rfl ?_
        refine XS.bipush X0.here hx rfl (hb hby at_70) ?_
        refine XS.lushr X0.here hx rfl (hb hby at_72) rfl ?_
        refine X0.ldc2Long hx hown (mvT hZ (own_w hw 1 rfl)) (g := (mkF m 73 #[.val (.long pa), .second, i_ pb, i_ nn, i_ q0, i_ q1, i_ q2, u_, u_, u_, u_, u_, u_] [(.long ((pa.toUInt64 >>> ((24 : Int32) &&& 0x3f).toInt64.toUInt64).toInt64))])) rfl (hb hby at_73) _ ?_
        refine XS.land X0.here hx rfl (hb hby at_76) rfl ?_
        refine XS.l2i X0.here hx rfl (hb hby at_77) rfl ?_
        refine gt_ X0 hx hby at_78 (pc := 78) (pc' := 82) (by decide) ?_
        exact k_)
      exact ⟨((((pa.toUInt64 >>> ((24 : Int32) &&& 0x3f).toInt64.toUInt64).toInt64) &&& (255 : Int64)).toInt32), Or.inl ⟨c30, rfl⟩, P31⟩
    · have P32 := oS (s₁.setTop (mkF m 82 #[.val (.long pa), .second, i_ pb, i_ nn, i_ q0, i_ q1, i_ q2, u_, u_, u_, u_, u_, u_] [(.int 0)])) P29 (by
        intro _ k_
        refine cY_ X0 hx hby at_66 (pc := 66) (pc' := 81) (flt c30).2.2.2 (by decide) ?_
        refine XS.iconst X0.here hx rfl (hb hby at_81) ?_
        exact k_)
      exact ⟨(0 : Int32), Or.inr (⟨c30, rfl⟩), P32⟩
  have P33 := own_step P26 J27
  have P34 := oS (s₁.setTop (mkF m 84 #[.val (.long pa), .second, i_ pb, i_ nn, i_ q0, i_ q1, i_ q2, i_ q3, u_, u_, u_, u_, u_] [])) P33 (by
    intro _ k_
    refine is_ X0 hx hby at_82 (l' := #[.val (.long pa), .second, i_ pb, i_ nn, i_ q0, i_ q1, i_ q2, i_ q3, u_, u_, u_, u_, u_]) rfl ?_
    exact k_)
  obtain ⟨q4, hv35, J35⟩ : ∃ (q4 : Int32), (((4 : Int32) < nn ∧ q4 = ((((pa.toUInt64 >>> ((32 : Int32) &&& 0x3f).toInt64.toUInt64).toInt64) &&& (255 : Int64)).toInt32)) ∨ (¬ ((4 : Int32) < nn) ∧ q4 = (0 : Int32))) ∧ own_Go p e below (s₁.setTop (mkF m 84 #[.val (.long pa), .second, i_ pb, i_ nn, i_ q0, i_ q1, i_ q2, i_ q3, u_, u_, u_, u_, u_] [])) (s₁.setTop (mkF m 102 #[.val (.long pa), .second, i_ pb, i_ nn, i_ q0, i_ q1, i_ q2, i_ q3, u_, u_, u_, u_, u_] [(.int q4)])) := by
    have P36 : own_Go p e below (s₁.setTop (mkF m 84 #[.val (.long pa), .second, i_ pb, i_ nn, i_ q0, i_ q1, i_ q2, i_ q3, u_, u_, u_, u_, u_] [])) (s₁.setTop (mkF m 84 #[.val (.long pa), .second, i_ pb, i_ nn, i_ q0, i_ q1, i_ q2, i_ q3, u_, u_, u_, u_, u_] [])) := fun t_ k_ => k_
    have P37 := oS (s₁.setTop (mkF m 86 #[.val (.long pa), .second, i_ pb, i_ nn, i_ q0, i_ q1, i_ q2, i_ q3, u_, u_, u_, u_, u_] [(.int 4), (.int nn)])) P36 (by
      intro _ k_
      refine iN_ X0 hx hby at_84 rfl ?_
      refine XS.iconst X0.here hx rfl (hb hby at_85) ?_
      exact k_)
    by_cases c38 : (4 : Int32) < nn
    · have P39 := oS (s₁.setTop (mkF m 102 #[.val (.long pa), .second, i_ pb, i_ nn, i_ q0, i_ q1, i_ q2, i_ q3, u_, u_, u_, u_, u_] [(.int ((((pa.toUInt64 >>> ((32 : Int32) &&& 0x3f).toInt64.toUInt64).toInt64) &&& (255 : Int64)).toInt32))])) P37 (by
        intro _ k_
        refine XS.icmpNo X0.here hx rfl (hb hby at_86) rfl (tlt c38).2.2.2 ?_
        refine XS.lloadN X0.here hx rfl (hb hby at_89) rfl ?_
        refine XS.bipush X0.here hx rfl (hb hby at_90) ?_
        refine XS.lushr X0.here hx rfl (hb hby at_92) rfl ?_
        refine X0.ldc2Long hx hown (mvT hZ (own_w hw 1 rfl)) (g := (mkF m 93 #[.val (.long pa), .second, i_ pb, i_ nn, i_ q0, i_ q1, i_ q2, i_ q3, u_, u_, u_, u_, u_] [(.long ((pa.toUInt64 >>> ((32 : Int32) &&& 0x3f).toInt64.toUInt64).toInt64))])) rfl (hb hby at_93) _ ?_
        refine XS.land X0.here hx rfl (hb hby at_96) rfl ?_
        refine XS.l2i X0.here hx rfl (hb hby at_97) rfl ?_
        refine gt_ X0 hx hby at_98 (pc := 98) (pc' := 102) (by decide) ?_
        exact k_)
      exact ⟨((((pa.toUInt64 >>> ((32 : Int32) &&& 0x3f).toInt64.toUInt64).toInt64) &&& (255 : Int64)).toInt32), Or.inl ⟨c38, rfl⟩, P39⟩
    · have P40 := oS (s₁.setTop (mkF m 102 #[.val (.long pa), .second, i_ pb, i_ nn, i_ q0, i_ q1, i_ q2, i_ q3, u_, u_, u_, u_, u_] [(.int 0)])) P37 (by
        intro _ k_
        refine cY_ X0 hx hby at_86 (pc := 86) (pc' := 101) (flt c38).2.2.2 (by decide) ?_
        refine XS.iconst X0.here hx rfl (hb hby at_101) ?_
        exact k_)
      exact ⟨(0 : Int32), Or.inr (⟨c38, rfl⟩), P40⟩
  have P41 := own_step P34 J35
  have P42 := oS (s₁.setTop (mkF m 104 #[.val (.long pa), .second, i_ pb, i_ nn, i_ q0, i_ q1, i_ q2, i_ q3, i_ q4, u_, u_, u_, u_] [])) P41 (by
    intro _ k_
    refine is_ X0 hx hby at_102 (l' := #[.val (.long pa), .second, i_ pb, i_ nn, i_ q0, i_ q1, i_ q2, i_ q3, i_ q4, u_, u_, u_, u_]) rfl ?_
    exact k_)
  have P43 := oS (s₁.setTop (mkF m 111 #[.val (.long pa), .second, i_ pb, i_ nn, i_ q0, i_ q1, i_ q2, i_ q3, i_ q4, u_, u_, u_, u_] [(.int ((((4 : Int32) * nn) + (2 : Int32)) / (3 : Int32)))])) P42 (by
    intro _ k_
    refine XS.iconst X0.here hx rfl (hb hby at_104) ?_
    refine iN_ X0 hx hby at_105 rfl ?_
    refine XS.imul X0.here hx rfl (hb hby at_106) rfl ?_
    refine XS.iconst X0.here hx rfl (hb hby at_107) ?_
    refine XS.iadd X0.here hx rfl (hb hby at_108) rfl ?_
    refine XS.iconst X0.here hx rfl (hb hby at_109) ?_
    refine XS.idiv X0.here hx rfl (hb hby at_110) rfl (by decide) ?_
    exact k_)
  obtain ⟨zl, hzl, P44⟩ := own_name (F := fun z => s₁.setTop (mkF m 111 #[.val (.long pa), .second, i_ pb, i_ nn, i_ q0, i_ q1, i_ q2, i_ q3, i_ q4, u_, u_, u_, u_] [(.int z)])) ((((4 : Int32) * nn) + (2 : Int32)) / (3 : Int32)) P43
  have hcase := own_case hnn hzl
  have P45 := oS (s₁.setTop (mkF m 115 #[.val (.long pa), .second, i_ pb, i_ nn, i_ q0, i_ q1, i_ q2, i_ q3, i_ q4, i_ zl, u_, u_, u_] [(.int 8)])) P44 (by
    intro _ k_
    refine is_ X0 hx hby at_111 (l' := #[.val (.long pa), .second, i_ pb, i_ nn, i_ q0, i_ q1, i_ q2, i_ q3, i_ q4, i_ zl, u_, u_, u_]) rfl ?_
    refine XS.bipush X0.here hx rfl (hb hby at_113) ?_
    exact k_)
  obtain ⟨T46, h46, k46, X46, e46, E46, A46, st46⟩ := newP X0 hx hZ (own_w hw 2 rfl) e0 (g := (mkF m 115 #[.val (.long pa), .second, i_ pb, i_ nn, i_ q0, i_ q1, i_ q2, i_ q3, i_ q4, i_ zl, u_, u_, u_] [(.int 8)])) rfl (hb hby at_115) rfl (by decide) (cap := 8) (by decide) (by decide) (by decide) (by decide)
  obtain ⟨b46, g46⟩ : ∃ z, z = h0.size := ⟨_, rfl⟩
  rw [← g46] at A46 st46
  have ne_de_b46 : de ≠ b46 := Nat.ne_of_lt (Nat.lt_of_lt_of_le Fu.lt (Nat.le_of_eq g46.symm))
  have ne_en_b46 : en ≠ b46 := Nat.ne_of_lt (Nat.lt_of_lt_of_le Fp.lt (Nat.le_of_eq g46.symm))
  have g_b46 : n0 ≤ b46 := Nat.le_trans Z0 (Nat.le_of_eq g46.symm)
  have f47 := O.ext E46
  have f48 := Fu.ext E46
  have f49 := Fm.ext E46
  have f50 := Fp.ext E46
  have f51 := Fl.ext E46
  have f52 := Fe.ext E46
  have f54 := Ee.ext E46
  have f55 := Ed.ext E46
  have Z56 : n0 ≤ h46.size := Nat.le_trans Z0 E46.1
  have V46 : Arv Z h46 b46 k46 .int (8 : Int32) [(.int 0), (.int 0), (.int 0), (.int 0), (.int 0), (.int 0), (.int 0), (.int 0)] (.int 0) := (Arv.new A46 (by decide)).pad (pad_rep [] _ 8)
  have P57 := oS (T46.setTop (mkF m 117 #[.val (.long pa), .second, i_ pb, i_ nn, i_ q0, i_ q1, i_ q2, i_ q3, i_ q4, i_ zl, u_, u_, u_] [(.ref b46)])) P45 (fun t_ k_ => st46 t_ k_)
  have P58 := oS (T46.setTop (mkF m 126 #[.val (.long pa), .second, i_ pb, i_ nn, i_ q0, i_ q1, i_ q2, i_ q3, i_ q4, i_ zl, r_ b46, u_, u_] [(.int (q0 >>> ((2 : Int32) &&& 31))), (.int 0), (.ref b46)])) P57 (by
    intro _ k_
    refine XS.astore X46.here hx rfl (hb hby at_117) rfl rfl (l' := #[.val (.long pa), .second, i_ pb, i_ nn, i_ q0, i_ q1, i_ q2, i_ q3, i_ q4, i_ zl, r_ b46, u_, u_]) rfl ?_
    refine a_ X46 hx hby at_119 rfl rfl ?_
    refine XS.iconst X46.here hx rfl (hb hby at_121) ?_
    refine il_ X46 hx hby at_122 rfl ?_
    refine XS.iconst X46.here hx rfl (hb hby at_124) ?_
    refine XS.ishr X46.here hx rfl (hb hby at_125) rfl ?_
    exact k_)
  obtain ⟨s0, hs0, P59⟩ := own_name (F := fun z => T46.setTop (mkF m 126 #[.val (.long pa), .second, i_ pb, i_ nn, i_ q0, i_ q1, i_ q2, i_ q3, i_ q4, i_ zl, r_ b46, u_, u_] [(.int z), (.int 0), (.ref b46)])) (q0 >>> ((2 : Int32) &&& 31)) P58
  obtain ⟨cl60, Ar60, q60, S60, M60, H60, G60⟩ := id V46
  obtain ⟨T61, h61, X61, e61, W61, st61⟩ := stI X46 hx hZ e46 Ar60 (j := (0 : Int32)) (inb_of S60 (by decide : ¬ (0 : Int32) < 0 ∧ (0 : Int32) < (8 : Int32))) (g := (mkF m 126 #[.val (.long pa), .second, i_ pb, i_ nn, i_ q0, i_ q1, i_ q2, i_ q3, i_ q4, i_ zl, r_ b46, u_, u_] [(.int s0), (.int 0), (.ref b46)])) rfl rfl (hb hby at_126)
  have f62 := f47.wr W61 g_b46
  have f63 := f48.other W61 (Or.inl ne_de_b46)
  have f64 := f49.other W61 (Or.inl ne_de_b46)
  have f65 := f50.other W61 (Or.inl ne_en_b46)
  have f66 := f51.other W61 (Or.inl ne_en_b46)
  have f67 := f52.other W61 (Or.inl ne_en_b46)
  have f69 := f54.wr W61
  have f70 := f55.wr W61
  have Z72 : n0 ≤ h61.size := Nat.le_trans Z56 (Keep.of_wr W61).1
  have V61 : Arv Z h61 b46 k46 .int (8 : Int32) [(.int s0), (.int 0), (.int 0), (.int 0), (.int 0), (.int 0), (.int 0), (.int 0)] (.int 0) := Arv.set Ar60 q60 S60 M60 H60 G60 rfl W61 0 rfl (Nat.le_of_ble_eq_true rfl)
  have N61 := Fr.snoc X61 N0 g_b46
  have P73 := oS (T61.setTop (mkF m 127 #[.val (.long pa), .second, i_ pb, i_ nn, i_ q0, i_ q1, i_ q2, i_ q3, i_ q4, i_ zl, r_ b46, u_, u_] [])) P59 (fun t_ k_ => st61 t_ k_)
  have P74 := oS (T61.setTop (mkF m 141 #[.val (.long pa), .second, i_ pb, i_ nn, i_ q0, i_ q1, i_ q2, i_ q3, i_ q4, i_ zl, r_ b46, u_, u_] [(.int (((q0 &&& 3) <<< ((4 : Int32) &&& 31)) ||| (q1 >>> ((4 : Int32) &&& 31)))), (.int 1), (.ref b46)])) P73 (by
    intro _ k_
    refine a_ X61 hx hby at_127 rfl rfl ?_
    refine XS.iconst X61.here hx rfl (hb hby at_129) ?_
    refine il_ X61 hx hby at_130 rfl ?_
    refine XS.iconst X61.here hx rfl (hb hby at_132) ?_
    refine XS.iand X61.here hx rfl (hb hby at_133) rfl ?_
    refine XS.iconst X61.here hx rfl (hb hby at_134) ?_
    refine XS.ishl X61.here hx rfl (hb hby at_135) rfl ?_
    refine il_ X61 hx hby at_136 rfl ?_
    refine XS.iconst X61.here hx rfl (hb hby at_138) ?_
    refine XS.ishr X61.here hx rfl (hb hby at_139) rfl ?_
    refine XS.ior X61.here hx rfl (hb hby at_140) rfl ?_
    exact k_)
  obtain ⟨s1, hs1, P75⟩ := own_name (F := fun z => T61.setTop (mkF m 141 #[.val (.long pa), .second, i_ pb, i_ nn, i_ q0, i_ q1, i_ q2, i_ q3, i_ q4, i_ zl, r_ b46, u_, u_] [(.int z), (.int 1), (.ref b46)])) (((q0 &&& 3) <<< ((4 : Int32) &&& 31)) ||| (q1 >>> ((4 : Int32) &&& 31))) P74
  obtain ⟨cl76, Ar76, q76, S76, M76, H76, G76⟩ := id V61
  obtain ⟨T77, h77, X77, e77, W77, st77⟩ := stI X61 hx hZ e61 Ar76 (j := (1 : Int32)) (inb_of S76 (by decide : ¬ (1 : Int32) < 0 ∧ (1 : Int32) < (8 : Int32))) (g := (mkF m 141 #[.val (.long pa), .second, i_ pb, i_ nn, i_ q0, i_ q1, i_ q2, i_ q3, i_ q4, i_ zl, r_ b46, u_, u_] [(.int s1), (.int 1), (.ref b46)])) rfl rfl (hb hby at_141)
  have f78 := f62.wr W77 g_b46
  have f79 := f63.other W77 (Or.inl ne_de_b46)
  have f80 := f64.other W77 (Or.inl ne_de_b46)
  have f81 := f65.other W77 (Or.inl ne_en_b46)
  have f82 := f66.other W77 (Or.inl ne_en_b46)
  have f83 := f67.other W77 (Or.inl ne_en_b46)
  have f85 := f69.wr W77
  have f86 := f70.wr W77
  have Z88 : n0 ≤ h77.size := Nat.le_trans Z72 (Keep.of_wr W77).1
  have V77 : Arv Z h77 b46 k46 .int (8 : Int32) [(.int s0), (.int s1), (.int 0), (.int 0), (.int 0), (.int 0), (.int 0), (.int 0)] (.int 0) := Arv.set Ar76 q76 S76 M76 H76 G76 rfl W77 1 rfl (Nat.le_of_ble_eq_true rfl)
  have N77 := Fr.snoc X77 N61 g_b46
  have P89 := oS (T77.setTop (mkF m 142 #[.val (.long pa), .second, i_ pb, i_ nn, i_ q0, i_ q1, i_ q2, i_ q3, i_ q4, i_ zl, r_ b46, u_, u_] [])) P75 (fun t_ k_ => st77 t_ k_)
  have P90 := oS (T77.setTop (mkF m 158 #[.val (.long pa), .second, i_ pb, i_ nn, i_ q0, i_ q1, i_ q2, i_ q3, i_ q4, i_ zl, r_ b46, u_, u_] [(.int (((q1 &&& 15) <<< ((2 : Int32) &&& 31)) ||| (q2 >>> ((6 : Int32) &&& 31)))), (.int 2), (.ref b46)])) P89 (by
    intro _ k_
    refine a_ X77 hx hby at_142 rfl rfl ?_
    refine XS.iconst X77.here hx rfl (hb hby at_144) ?_
    refine il_ X77 hx hby at_145 rfl ?_
    refine XS.bipush X77.here hx rfl (hb hby at_147) ?_
    refine XS.iand X77.here hx rfl (hb hby at_149) rfl ?_
    refine XS.iconst X77.here hx rfl (hb hby at_150) ?_
    refine XS.ishl X77.here hx rfl (hb hby at_151) rfl ?_
    refine il_ X77 hx hby at_152 rfl ?_
    refine XS.bipush X77.here hx rfl (hb hby at_154) ?_
    refine XS.ishr X77.here hx rfl (hb hby at_156) rfl ?_
    refine XS.ior X77.here hx rfl (hb hby at_157) rfl ?_
    exact k_)
  obtain ⟨s2, hs2, P91⟩ := own_name (F := fun z => T77.setTop (mkF m 158 #[.val (.long pa), .second, i_ pb, i_ nn, i_ q0, i_ q1, i_ q2, i_ q3, i_ q4, i_ zl, r_ b46, u_, u_] [(.int z), (.int 2), (.ref b46)])) (((q1 &&& 15) <<< ((2 : Int32) &&& 31)) ||| (q2 >>> ((6 : Int32) &&& 31))) P90
  obtain ⟨cl92, Ar92, q92, S92, M92, H92, G92⟩ := id V77
  obtain ⟨T93, h93, X93, e93, W93, st93⟩ := stI X77 hx hZ e77 Ar92 (j := (2 : Int32)) (inb_of S92 (by decide : ¬ (2 : Int32) < 0 ∧ (2 : Int32) < (8 : Int32))) (g := (mkF m 158 #[.val (.long pa), .second, i_ pb, i_ nn, i_ q0, i_ q1, i_ q2, i_ q3, i_ q4, i_ zl, r_ b46, u_, u_] [(.int s2), (.int 2), (.ref b46)])) rfl rfl (hb hby at_158)
  have f94 := f78.wr W93 g_b46
  have f95 := f79.other W93 (Or.inl ne_de_b46)
  have f96 := f80.other W93 (Or.inl ne_de_b46)
  have f97 := f81.other W93 (Or.inl ne_en_b46)
  have f98 := f82.other W93 (Or.inl ne_en_b46)
  have f99 := f83.other W93 (Or.inl ne_en_b46)
  have f101 := f85.wr W93
  have f102 := f86.wr W93
  have Z104 : n0 ≤ h93.size := Nat.le_trans Z88 (Keep.of_wr W93).1
  have V93 : Arv Z h93 b46 k46 .int (8 : Int32) [(.int s0), (.int s1), (.int s2), (.int 0), (.int 0), (.int 0), (.int 0), (.int 0)] (.int 0) := Arv.set Ar92 q92 S92 M92 H92 G92 rfl W93 2 rfl (Nat.le_of_ble_eq_true rfl)
  have N93 := Fr.snoc X93 N77 g_b46
  have P105 := oS (T93.setTop (mkF m 159 #[.val (.long pa), .second, i_ pb, i_ nn, i_ q0, i_ q1, i_ q2, i_ q3, i_ q4, i_ zl, r_ b46, u_, u_] [])) P91 (fun t_ k_ => st93 t_ k_)
  have P106 := oS (T93.setTop (mkF m 167 #[.val (.long pa), .second, i_ pb, i_ nn, i_ q0, i_ q1, i_ q2, i_ q3, i_ q4, i_ zl, r_ b46, u_, u_] [(.int (q2 &&& 63)), (.int 3), (.ref b46)])) P105 (by
    intro _ k_
    refine a_ X93 hx hby at_159 rfl rfl ?_
    refine XS.iconst X93.here hx rfl (hb hby at_161) ?_
    refine il_ X93 hx hby at_162 rfl ?_
    refine XS.bipush X93.here hx rfl (hb hby at_164) ?_
    refine XS.iand X93.here hx rfl (hb hby at_166) rfl ?_
    exact k_)
  obtain ⟨s3, hs3, P107⟩ := own_name (F := fun z => T93.setTop (mkF m 167 #[.val (.long pa), .second, i_ pb, i_ nn, i_ q0, i_ q1, i_ q2, i_ q3, i_ q4, i_ zl, r_ b46, u_, u_] [(.int z), (.int 3), (.ref b46)])) (q2 &&& 63) P106
  obtain ⟨cl108, Ar108, q108, S108, M108, H108, G108⟩ := id V93
  obtain ⟨T109, h109, X109, e109, W109, st109⟩ := stI X93 hx hZ e93 Ar108 (j := (3 : Int32)) (inb_of S108 (by decide : ¬ (3 : Int32) < 0 ∧ (3 : Int32) < (8 : Int32))) (g := (mkF m 167 #[.val (.long pa), .second, i_ pb, i_ nn, i_ q0, i_ q1, i_ q2, i_ q3, i_ q4, i_ zl, r_ b46, u_, u_] [(.int s3), (.int 3), (.ref b46)])) rfl rfl (hb hby at_167)
  have f110 := f94.wr W109 g_b46
  have f111 := f95.other W109 (Or.inl ne_de_b46)
  have f112 := f96.other W109 (Or.inl ne_de_b46)
  have f113 := f97.other W109 (Or.inl ne_en_b46)
  have f114 := f98.other W109 (Or.inl ne_en_b46)
  have f115 := f99.other W109 (Or.inl ne_en_b46)
  have f117 := f101.wr W109
  have f118 := f102.wr W109
  have Z120 : n0 ≤ h109.size := Nat.le_trans Z104 (Keep.of_wr W109).1
  have V109 : Arv Z h109 b46 k46 .int (8 : Int32) [(.int s0), (.int s1), (.int s2), (.int s3), (.int 0), (.int 0), (.int 0), (.int 0)] (.int 0) := Arv.set Ar108 q108 S108 M108 H108 G108 rfl W109 3 rfl (Nat.le_of_ble_eq_true rfl)
  have N109 := Fr.snoc X109 N93 g_b46
  have P121 := oS (T109.setTop (mkF m 168 #[.val (.long pa), .second, i_ pb, i_ nn, i_ q0, i_ q1, i_ q2, i_ q3, i_ q4, i_ zl, r_ b46, u_, u_] [])) P107 (fun t_ k_ => st109 t_ k_)
  have P122 := oS (T109.setTop (mkF m 175 #[.val (.long pa), .second, i_ pb, i_ nn, i_ q0, i_ q1, i_ q2, i_ q3, i_ q4, i_ zl, r_ b46, u_, u_] [(.int (q3 >>> ((2 : Int32) &&& 31))), (.int 4), (.ref b46)])) P121 (by
    intro _ k_
    refine a_ X109 hx hby at_168 rfl rfl ?_
    refine XS.iconst X109.here hx rfl (hb hby at_170) ?_
    refine il_ X109 hx hby at_171 rfl ?_
    refine XS.iconst X109.here hx rfl (hb hby at_173) ?_
    refine XS.ishr X109.here hx rfl (hb hby at_174) rfl ?_
    exact k_)
  obtain ⟨s4, hs4, P123⟩ := own_name (F := fun z => T109.setTop (mkF m 175 #[.val (.long pa), .second, i_ pb, i_ nn, i_ q0, i_ q1, i_ q2, i_ q3, i_ q4, i_ zl, r_ b46, u_, u_] [(.int z), (.int 4), (.ref b46)])) (q3 >>> ((2 : Int32) &&& 31)) P122
  obtain ⟨cl124, Ar124, q124, S124, M124, H124, G124⟩ := id V109
  obtain ⟨T125, h125, X125, e125, W125, st125⟩ := stI X109 hx hZ e109 Ar124 (j := (4 : Int32)) (inb_of S124 (by decide : ¬ (4 : Int32) < 0 ∧ (4 : Int32) < (8 : Int32))) (g := (mkF m 175 #[.val (.long pa), .second, i_ pb, i_ nn, i_ q0, i_ q1, i_ q2, i_ q3, i_ q4, i_ zl, r_ b46, u_, u_] [(.int s4), (.int 4), (.ref b46)])) rfl rfl (hb hby at_175)
  have f126 := f110.wr W125 g_b46
  have f127 := f111.other W125 (Or.inl ne_de_b46)
  have f128 := f112.other W125 (Or.inl ne_de_b46)
  have f129 := f113.other W125 (Or.inl ne_en_b46)
  have f130 := f114.other W125 (Or.inl ne_en_b46)
  have f131 := f115.other W125 (Or.inl ne_en_b46)
  have f133 := f117.wr W125
  have f134 := f118.wr W125
  have Z136 : n0 ≤ h125.size := Nat.le_trans Z120 (Keep.of_wr W125).1
  have V125 : Arv Z h125 b46 k46 .int (8 : Int32) [(.int s0), (.int s1), (.int s2), (.int s3), (.int s4), (.int 0), (.int 0), (.int 0)] (.int 0) := Arv.set Ar124 q124 S124 M124 H124 G124 rfl W125 4 rfl (Nat.le_of_ble_eq_true rfl)
  have N125 := Fr.snoc X125 N109 g_b46
  have P137 := oS (T125.setTop (mkF m 176 #[.val (.long pa), .second, i_ pb, i_ nn, i_ q0, i_ q1, i_ q2, i_ q3, i_ q4, i_ zl, r_ b46, u_, u_] [])) P123 (fun t_ k_ => st125 t_ k_)
  have P138 := oS (T125.setTop (mkF m 190 #[.val (.long pa), .second, i_ pb, i_ nn, i_ q0, i_ q1, i_ q2, i_ q3, i_ q4, i_ zl, r_ b46, u_, u_] [(.int (((q3 &&& 3) <<< ((4 : Int32) &&& 31)) ||| (q4 >>> ((4 : Int32) &&& 31)))), (.int 5), (.ref b46)])) P137 (by
    intro _ k_
    refine a_ X125 hx hby at_176 rfl rfl ?_
    refine XS.iconst X125.here hx rfl (hb hby at_178) ?_
    refine il_ X125 hx hby at_179 rfl ?_
    refine XS.iconst X125.here hx rfl (hb hby at_181) ?_
    refine XS.iand X125.here hx rfl (hb hby at_182) rfl ?_
    refine XS.iconst X125.here hx rfl (hb hby at_183) ?_
    refine XS.ishl X125.here hx rfl (hb hby at_184) rfl ?_
    refine il_ X125 hx hby at_185 rfl ?_
    refine XS.iconst X125.here hx rfl (hb hby at_187) ?_
    refine XS.ishr X125.here hx rfl (hb hby at_188) rfl ?_
    refine XS.ior X125.here hx rfl (hb hby at_189) rfl ?_
    exact k_)
  obtain ⟨s5, hs5, P139⟩ := own_name (F := fun z => T125.setTop (mkF m 190 #[.val (.long pa), .second, i_ pb, i_ nn, i_ q0, i_ q1, i_ q2, i_ q3, i_ q4, i_ zl, r_ b46, u_, u_] [(.int z), (.int 5), (.ref b46)])) (((q3 &&& 3) <<< ((4 : Int32) &&& 31)) ||| (q4 >>> ((4 : Int32) &&& 31))) P138
  obtain ⟨cl140, Ar140, q140, S140, M140, H140, G140⟩ := id V125
  obtain ⟨T141, h141, X141, e141, W141, st141⟩ := stI X125 hx hZ e125 Ar140 (j := (5 : Int32)) (inb_of S140 (by decide : ¬ (5 : Int32) < 0 ∧ (5 : Int32) < (8 : Int32))) (g := (mkF m 190 #[.val (.long pa), .second, i_ pb, i_ nn, i_ q0, i_ q1, i_ q2, i_ q3, i_ q4, i_ zl, r_ b46, u_, u_] [(.int s5), (.int 5), (.ref b46)])) rfl rfl (hb hby at_190)
  have f142 := f126.wr W141 g_b46
  have f143 := f127.other W141 (Or.inl ne_de_b46)
  have f144 := f128.other W141 (Or.inl ne_de_b46)
  have f145 := f129.other W141 (Or.inl ne_en_b46)
  have f146 := f130.other W141 (Or.inl ne_en_b46)
  have f147 := f131.other W141 (Or.inl ne_en_b46)
  have f149 := f133.wr W141
  have f150 := f134.wr W141
  have Z152 : n0 ≤ h141.size := Nat.le_trans Z136 (Keep.of_wr W141).1
  have V141 : Arv Z h141 b46 k46 .int (8 : Int32) [(.int s0), (.int s1), (.int s2), (.int s3), (.int s4), (.int s5), (.int 0), (.int 0)] (.int 0) := Arv.set Ar140 q140 S140 M140 H140 G140 rfl W141 5 rfl (Nat.le_of_ble_eq_true rfl)
  have N141 := Fr.snoc X141 N125 g_b46
  have P153 := oS (T141.setTop (mkF m 191 #[.val (.long pa), .second, i_ pb, i_ nn, i_ q0, i_ q1, i_ q2, i_ q3, i_ q4, i_ zl, r_ b46, u_, u_] [])) P139 (fun t_ k_ => st141 t_ k_)
  have P154 := oS (T141.setTop (mkF m 202 #[.val (.long pa), .second, i_ pb, i_ nn, i_ q0, i_ q1, i_ q2, i_ q3, i_ q4, i_ zl, r_ b46, u_, u_] [(.int ((q4 &&& 15) <<< ((2 : Int32) &&& 31))), (.int 6), (.ref b46)])) P153 (by
    intro _ k_
    refine a_ X141 hx hby at_191 rfl rfl ?_
    refine XS.bipush X141.here hx rfl (hb hby at_193) ?_
    refine il_ X141 hx hby at_195 rfl ?_
    refine XS.bipush X141.here hx rfl (hb hby at_197) ?_
    refine XS.iand X141.here hx rfl (hb hby at_199) rfl ?_
    refine XS.iconst X141.here hx rfl (hb hby at_200) ?_
    refine XS.ishl X141.here hx rfl (hb hby at_201) rfl ?_
    exact k_)
  obtain ⟨s6, hs6, P155⟩ := own_name (F := fun z => T141.setTop (mkF m 202 #[.val (.long pa), .second, i_ pb, i_ nn, i_ q0, i_ q1, i_ q2, i_ q3, i_ q4, i_ zl, r_ b46, u_, u_] [(.int z), (.int 6), (.ref b46)])) ((q4 &&& 15) <<< ((2 : Int32) &&& 31)) P154
  obtain ⟨cl156, Ar156, q156, S156, M156, H156, G156⟩ := id V141
  obtain ⟨T157, h157, X157, e157, W157, st157⟩ := stI X141 hx hZ e141 Ar156 (j := (6 : Int32)) (inb_of S156 (by decide : ¬ (6 : Int32) < 0 ∧ (6 : Int32) < (8 : Int32))) (g := (mkF m 202 #[.val (.long pa), .second, i_ pb, i_ nn, i_ q0, i_ q1, i_ q2, i_ q3, i_ q4, i_ zl, r_ b46, u_, u_] [(.int s6), (.int 6), (.ref b46)])) rfl rfl (hb hby at_202)
  have f158 := f142.wr W157 g_b46
  have f159 := f143.other W157 (Or.inl ne_de_b46)
  have f160 := f144.other W157 (Or.inl ne_de_b46)
  have f161 := f145.other W157 (Or.inl ne_en_b46)
  have f162 := f146.other W157 (Or.inl ne_en_b46)
  have f163 := f147.other W157 (Or.inl ne_en_b46)
  have f165 := f149.wr W157
  have f166 := f150.wr W157
  have Z168 : n0 ≤ h157.size := Nat.le_trans Z152 (Keep.of_wr W157).1
  have V157 : Arv Z h157 b46 k46 .int (8 : Int32) [(.int s0), (.int s1), (.int s2), (.int s3), (.int s4), (.int s5), (.int s6), (.int 0)] (.int 0) := Arv.set Ar156 q156 S156 M156 H156 G156 rfl W157 6 rfl (Nat.le_of_ble_eq_true rfl)
  have N157 := Fr.snoc X157 N141 g_b46
  have P169 := oS (T157.setTop (mkF m 203 #[.val (.long pa), .second, i_ pb, i_ nn, i_ q0, i_ q1, i_ q2, i_ q3, i_ q4, i_ zl, r_ b46, u_, u_] [])) P155 (fun t_ k_ => st157 t_ k_)
  have P170 := oS (T157.setTop (mkF m 208 #[.val (.long pa), .second, i_ pb, i_ nn, i_ q0, i_ q1, i_ q2, i_ q3, i_ q4, i_ zl, r_ b46, u_, u_] [(.int 0), (.int 7), (.ref b46)])) P169 (by
    intro _ k_
    refine a_ X157 hx hby at_203 rfl rfl ?_
    refine XS.bipush X157.here hx rfl (hb hby at_205) ?_
    refine XS.iconst X157.here hx rfl (hb hby at_207) ?_
    exact k_)
  obtain ⟨cl171, Ar171, q171, S171, M171, H171, G171⟩ := id V157
  obtain ⟨T172, h172, X172, e172, W172, st172⟩ := stI X157 hx hZ e157 Ar171 (j := (7 : Int32)) (inb_of S171 (by decide : ¬ (7 : Int32) < 0 ∧ (7 : Int32) < (8 : Int32))) (g := (mkF m 208 #[.val (.long pa), .second, i_ pb, i_ nn, i_ q0, i_ q1, i_ q2, i_ q3, i_ q4, i_ zl, r_ b46, u_, u_] [(.int 0), (.int 7), (.ref b46)])) rfl rfl (hb hby at_208)
  have f173 := f158.wr W172 g_b46
  have f174 := f159.other W172 (Or.inl ne_de_b46)
  have f175 := f160.other W172 (Or.inl ne_de_b46)
  have f176 := f161.other W172 (Or.inl ne_en_b46)
  have f177 := f162.other W172 (Or.inl ne_en_b46)
  have f178 := f163.other W172 (Or.inl ne_en_b46)
  have f180 := f165.wr W172
  have f181 := f166.wr W172
  have Z183 : n0 ≤ h172.size := Nat.le_trans Z168 (Keep.of_wr W172).1
  have V172 : Arv Z h172 b46 k46 .int (8 : Int32) [(.int s0), (.int s1), (.int s2), (.int s3), (.int s4), (.int s5), (.int s6), (.int 0)] (.int 0) := Arv.set Ar171 q171 S171 M171 H171 G171 rfl W172 7 rfl (Nat.le_of_ble_eq_true rfl)
  have N172 := Fr.snoc X172 N157 g_b46
  have P184 := oS (T172.setTop (mkF m 209 #[.val (.long pa), .second, i_ pb, i_ nn, i_ q0, i_ q1, i_ q2, i_ q3, i_ q4, i_ zl, r_ b46, u_, u_] [])) P170 (fun t_ k_ => st172 t_ k_)
  have HH : own_H q0 q1 q2 s0 s1 s2 s3 := own_HL (own_pB hv3) (own_pB hv11) (own_pB hv19) hs0 hs1 hs2 hs3
  have HI : own_H q3 q4 0 s4 s5 s6 0 := own_HM (own_pB hv27) (own_pB hv35) hs4 hs5 hs6
  have P185 := oS (T172.setTop (mkF m 211 #[.val (.long pa), .second, i_ pb, i_ nn, i_ q0, i_ q1, i_ q2, i_ q3, i_ q4, i_ zl, r_ b46, u_, u_] [(.int zl)])) P184 (by
    intro _ k_
    refine il_ X172 hx hby at_209 rfl ?_
    exact k_)
  obtain ⟨T186, h186, k186, X186, e186, E186, A186, st186⟩ := newP X172 hx hZ (own_w hw 3 rfl) e172 (g := (mkF m 211 #[.val (.long pa), .second, i_ pb, i_ nn, i_ q0, i_ q1, i_ q2, i_ q3, i_ q4, i_ zl, r_ b46, u_, u_] [(.int zl)])) rfl (hb hby at_211) rfl (own_zn hcase) (cap := 8) (own_zc hcase) (by decide) (by decide) (by decide)
  obtain ⟨b186, g186⟩ : ∃ z, z = h172.size := ⟨_, rfl⟩
  rw [← g186] at A186 st186
  have ne_de_b186 : de ≠ b186 := Nat.ne_of_lt (Nat.lt_of_lt_of_le f174.lt (Nat.le_of_eq g186.symm))
  have ne_en_b186 : en ≠ b186 := Nat.ne_of_lt (Nat.lt_of_lt_of_le f176.lt (Nat.le_of_eq g186.symm))
  have ne_b46_b186 : b46 ≠ b186 := Nat.ne_of_lt (Nat.lt_of_lt_of_le V172.lt (Nat.le_of_eq g186.symm))
  have g_b186 : n0 ≤ b186 := Nat.le_trans Z183 (Nat.le_of_eq g186.symm)
  have f187 := f173.ext E186
  have f188 := f174.ext E186
  have f189 := f175.ext E186
  have f190 := f176.ext E186
  have f191 := f177.ext E186
  have f192 := f178.ext E186
  have f194 := f180.ext E186
  have f195 := f181.ext E186
  have f196 := V172.ext E186
  have Z197 : n0 ≤ h186.size := Nat.le_trans Z183 E186.1
  have V186 : Arv Z h186 b186 k186 .char zl [] (.int 0) := Arv.new A186 (own_zn hcase)
  have P198 := oS (T186.setTop (mkF m 213 #[.val (.long pa), .second, i_ pb, i_ nn, i_ q0, i_ q1, i_ q2, i_ q3, i_ q4, i_ zl, r_ b46, u_, u_] [(.ref b186)])) P185 (fun t_ k_ => st186 t_ k_)
  have P199 := oS (T186.setTop (mkF m 217 #[.val (.long pa), .second, i_ pb, i_ nn, i_ q0, i_ q1, i_ q2, i_ q3, i_ q4, i_ zl, r_ b46, r_ b186, u_] [(.int zl)])) P198 (by
    intro _ k_
    refine XS.astore X186.here hx rfl (hb hby at_213) rfl rfl (l' := #[.val (.long pa), .second, i_ pb, i_ nn, i_ q0, i_ q1, i_ q2, i_ q3, i_ q4, i_ zl, r_ b46, r_ b186, u_]) rfl ?_
    refine il_ X186 hx hby at_215 rfl ?_
    exact k_)
  by_cases c0_ : (0 : Int32) < zl
  · have P200 := oS (T186.setTop (mkF m 226 #[.val (.long pa), .second, i_ pb, i_ nn, i_ q0, i_ q1, i_ q2, i_ q3, i_ q4, i_ zl, r_ b46, r_ b186, u_] [(.int 0), (.ref b46), (.int 0), (.ref b186)])) P199 (by
      intro _ k_
      refine XS.ifNo X186.here hx rfl (hb hby at_217) rfl ((if0 _ _).trans (tlt c0_).2.2.2) ?_
      refine a_ X186 hx hby at_220 rfl rfl ?_
      refine XS.iconst X186.here hx rfl (hb hby at_222) ?_
      refine a_ X186 hx hby at_223 rfl rfl ?_
      refine XS.iconst X186.here hx rfl (hb hby at_225) ?_
      exact k_)
    obtain ⟨cl201, Ar201, q201, S201, M201, H201, G201⟩ := id f196
    have hin201 := inb_of S201 (by decide : ¬ (0 : Int32) < 0 ∧ (0 : Int32) < (8 : Int32))
    have hat201 := Has.at H201 hin201 (v := .int s0) rfl
    have P202 := oS (T186.setTop (mkF m 227 #[.val (.long pa), .second, i_ pb, i_ nn, i_ q0, i_ q1, i_ q2, i_ q3, i_ q4, i_ zl, r_ b46, r_ b186, u_] [(.int s0), (.int 0), (.ref b186)])) P200 (by
      intro _ k_
      refine X186.iaload hx (j := (0 : Int32)) (v := (.int s0)) (by rw [e186]; exact Ar201.1) (State.isArrayOf_alike hZ.alike Ar201.2.1) Ar201.2.2 hin201 hat201 (g := (mkF m 226 #[.val (.long pa), .second, i_ pb, i_ nn, i_ q0, i_ q1, i_ q2, i_ q3, i_ q4, i_ zl, r_ b46, r_ b186, u_] [(.int 0), (.ref b46), (.int 0), (.ref b186)])) rfl rfl (hb hby at_226) _ ?_
      exact k_)
    obtain ⟨_, T203, L203, X203, hQ203, P203c⟩ := own_cS (W := 2) (rm_own_al l Z a0 hw [] s0 h186 n0 Z197 ) X186 hx hZ (fun _ _ => trivial) hown (own_w hw 4 rfl) (own_w hw 5 rfl) (own_w hw 6 rfl) (own_w hw 7 rfl) (by decide) P202 hml rfl [(.int s0)] [(.int 0), (.ref b186)] rfl rfl rfl pd24 rfl (hb hby at_227) e186 (by decide)
    obtain ⟨rfl, N203q, e203⟩ := hQ203
    have N203 := Fr.app N172 N203q
    have P204 := own_to (C := T203.setTop (mkF m 230 #[.val (.long pa), .second, i_ pb, i_ nn, i_ q0, i_ q1, i_ q2, i_ q3, i_ q4, i_ zl, r_ b46, r_ b186, u_] [(.int (own_al s0)), (.int 0), (.ref b186)])) P203c
    have Vp205 : Arv Z h186 b186 k186 .char zl [(.int 0)] (.int 0) := V186.pad (pad_rep [] _ 1)
    obtain ⟨cl206, Ar206, q206, S206, M206, H206, G206⟩ := id Vp205
    obtain ⟨T207, h207, X207, e207, W207, st207⟩ := stC X203 hx hZ e203 Ar206 (j := (0 : Int32)) (inb_of S206 ⟨by decide, c0_⟩) (g := (mkF m 230 #[.val (.long pa), .second, i_ pb, i_ nn, i_ q0, i_ q1, i_ q2, i_ q3, i_ q4, i_ zl, r_ b46, r_ b186, u_] [(.int (own_al s0)), (.int 0), (.ref b186)])) rfl rfl (hb hby at_230)
    have f208 := f187.wr W207 g_b186
    have f209 := f188.other W207 (Or.inl ne_de_b186)
    have f210 := f189.other W207 (Or.inl ne_de_b186)
    have f211 := f190.other W207 (Or.inl ne_en_b186)
    have f212 := f191.other W207 (Or.inl ne_en_b186)
    have f213 := f192.other W207 (Or.inl ne_en_b186)
    have f215 := f194.wr W207
    have f216 := f195.wr W207
    have f217 := f196.other W207 ne_b46_b186
    have Z219 : n0 ≤ h207.size := Nat.le_trans Z197 (Keep.of_wr W207).1
    have V207 : Arv Z h207 b186 k186 .char zl [(.int (nar .char (own_al s0)))] (.int 0) := Arv.set Ar206 q206 S206 M206 H206 G206 (fits_nar_char _) W207 0 rfl (Nat.le_of_ble_eq_true rfl)
    have N207 := Fr.snoc X207 N203 g_b186
    have P220 := oS (T207.setTop (mkF m 231 #[.val (.long pa), .second, i_ pb, i_ nn, i_ q0, i_ q1, i_ q2, i_ q3, i_ q4, i_ zl, r_ b46, r_ b186, u_] [])) P204 (fun t_ k_ => st207 t_ k_)
    have P221 := oS (T207.setTop (mkF m 234 #[.val (.long pa), .second, i_ pb, i_ nn, i_ q0, i_ q1, i_ q2, i_ q3, i_ q4, i_ zl, r_ b46, r_ b186, u_] [(.int 1), (.int zl)])) P220 (by
      intro _ k_
      refine il_ X207 hx hby at_231 rfl ?_
      refine XS.iconst X207.here hx rfl (hb hby at_233) ?_
      exact k_)
    have P222 := oS (T207.setTop (mkF m 243 #[.val (.long pa), .second, i_ pb, i_ nn, i_ q0, i_ q1, i_ q2, i_ q3, i_ q4, i_ zl, r_ b46, r_ b186, u_] [(.int 1), (.ref b46), (.int 1), (.ref b186)])) P221 (by
      intro _ k_
      refine XS.icmpNo X207.here hx rfl (hb hby at_234) rfl (tlt (own_c1 hcase c0_)).2.2.2 ?_
      refine a_ X207 hx hby at_237 rfl rfl ?_
      refine XS.iconst X207.here hx rfl (hb hby at_239) ?_
      refine a_ X207 hx hby at_240 rfl rfl ?_
      refine XS.iconst X207.here hx rfl (hb hby at_242) ?_
      exact k_)
    obtain ⟨cl223, Ar223, q223, S223, M223, H223, G223⟩ := id f217
    have hin223 := inb_of S223 (by decide : ¬ (1 : Int32) < 0 ∧ (1 : Int32) < (8 : Int32))
    have hat223 := Has.at H223 hin223 (v := .int s1) rfl
    have P224 := oS (T207.setTop (mkF m 244 #[.val (.long pa), .second, i_ pb, i_ nn, i_ q0, i_ q1, i_ q2, i_ q3, i_ q4, i_ zl, r_ b46, r_ b186, u_] [(.int s1), (.int 1), (.ref b186)])) P222 (by
      intro _ k_
      refine X207.iaload hx (j := (1 : Int32)) (v := (.int s1)) (by rw [e207]; exact Ar223.1) (State.isArrayOf_alike hZ.alike Ar223.2.1) Ar223.2.2 hin223 hat223 (g := (mkF m 243 #[.val (.long pa), .second, i_ pb, i_ nn, i_ q0, i_ q1, i_ q2, i_ q3, i_ q4, i_ zl, r_ b46, r_ b186, u_] [(.int 1), (.ref b46), (.int 1), (.ref b186)])) rfl rfl (hb hby at_243) _ ?_
      exact k_)
    obtain ⟨_, T225, L225, X225, hQ225, P225c⟩ := own_cS (W := 2) (rm_own_al l Z a0 hw [] s1 h207 n0 Z219 ) X207 hx hZ (fun _ _ => trivial) hown (own_w hw 4 rfl) (own_w hw 5 rfl) (own_w hw 6 rfl) (own_w hw 7 rfl) (by decide) P224 hml rfl [(.int s1)] [(.int 1), (.ref b186)] rfl rfl rfl pd24 rfl (hb hby at_244) e207 (by decide)
    obtain ⟨rfl, N225q, e225⟩ := hQ225
    have N225 := Fr.app N207 N225q
    have P226 := own_to (C := T225.setTop (mkF m 247 #[.val (.long pa), .second, i_ pb, i_ nn, i_ q0, i_ q1, i_ q2, i_ q3, i_ q4, i_ zl, r_ b46, r_ b186, u_] [(.int (own_al s1)), (.int 1), (.ref b186)])) P225c
    have Vp227 : Arv Z h207 b186 k186 .char zl [(.int (nar .char (own_al s0))), (.int 0)] (.int 0) := V207.pad (pad_rep [(.int (nar .char (own_al s0)))] _ 1)
    obtain ⟨cl228, Ar228, q228, S228, M228, H228, G228⟩ := id Vp227
    obtain ⟨T229, h229, X229, e229, W229, st229⟩ := stC X225 hx hZ e225 Ar228 (j := (1 : Int32)) (inb_of S228 ⟨by decide, (own_c1 hcase c0_)⟩) (g := (mkF m 247 #[.val (.long pa), .second, i_ pb, i_ nn, i_ q0, i_ q1, i_ q2, i_ q3, i_ q4, i_ zl, r_ b46, r_ b186, u_] [(.int (own_al s1)), (.int 1), (.ref b186)])) rfl rfl (hb hby at_247)
    have f230 := f208.wr W229 g_b186
    have f231 := f209.other W229 (Or.inl ne_de_b186)
    have f232 := f210.other W229 (Or.inl ne_de_b186)
    have f233 := f211.other W229 (Or.inl ne_en_b186)
    have f234 := f212.other W229 (Or.inl ne_en_b186)
    have f235 := f213.other W229 (Or.inl ne_en_b186)
    have f237 := f215.wr W229
    have f238 := f216.wr W229
    have f239 := f217.other W229 ne_b46_b186
    have Z241 : n0 ≤ h229.size := Nat.le_trans Z219 (Keep.of_wr W229).1
    have V229 : Arv Z h229 b186 k186 .char zl [(.int (nar .char (own_al s0))), (.int (nar .char (own_al s1)))] (.int 0) := Arv.set Ar228 q228 S228 M228 H228 G228 (fits_nar_char _) W229 1 rfl (Nat.le_of_ble_eq_true rfl)
    have N229 := Fr.snoc X229 N225 g_b186
    have P242 := oS (T229.setTop (mkF m 248 #[.val (.long pa), .second, i_ pb, i_ nn, i_ q0, i_ q1, i_ q2, i_ q3, i_ q4, i_ zl, r_ b46, r_ b186, u_] [])) P226 (fun t_ k_ => st229 t_ k_)
    have P243 := oS (T229.setTop (mkF m 251 #[.val (.long pa), .second, i_ pb, i_ nn, i_ q0, i_ q1, i_ q2, i_ q3, i_ q4, i_ zl, r_ b46, r_ b186, u_] [(.int 2), (.int zl)])) P242 (by
      intro _ k_
      refine il_ X229 hx hby at_248 rfl ?_
      refine XS.iconst X229.here hx rfl (hb hby at_250) ?_
      exact k_)
    by_cases c2_ : (2 : Int32) < zl
    · have P244 := oS (T229.setTop (mkF m 260 #[.val (.long pa), .second, i_ pb, i_ nn, i_ q0, i_ q1, i_ q2, i_ q3, i_ q4, i_ zl, r_ b46, r_ b186, u_] [(.int 2), (.ref b46), (.int 2), (.ref b186)])) P243 (by
        intro _ k_
        refine XS.icmpNo X229.here hx rfl (hb hby at_251) rfl (tlt c2_).2.2.2 ?_
        refine a_ X229 hx hby at_254 rfl rfl ?_
        refine XS.iconst X229.here hx rfl (hb hby at_256) ?_
        refine a_ X229 hx hby at_257 rfl rfl ?_
        refine XS.iconst X229.here hx rfl (hb hby at_259) ?_
        exact k_)
      obtain ⟨cl245, Ar245, q245, S245, M245, H245, G245⟩ := id f239
      have hin245 := inb_of S245 (by decide : ¬ (2 : Int32) < 0 ∧ (2 : Int32) < (8 : Int32))
      have hat245 := Has.at H245 hin245 (v := .int s2) rfl
      have P246 := oS (T229.setTop (mkF m 261 #[.val (.long pa), .second, i_ pb, i_ nn, i_ q0, i_ q1, i_ q2, i_ q3, i_ q4, i_ zl, r_ b46, r_ b186, u_] [(.int s2), (.int 2), (.ref b186)])) P244 (by
        intro _ k_
        refine X229.iaload hx (j := (2 : Int32)) (v := (.int s2)) (by rw [e229]; exact Ar245.1) (State.isArrayOf_alike hZ.alike Ar245.2.1) Ar245.2.2 hin245 hat245 (g := (mkF m 260 #[.val (.long pa), .second, i_ pb, i_ nn, i_ q0, i_ q1, i_ q2, i_ q3, i_ q4, i_ zl, r_ b46, r_ b186, u_] [(.int 2), (.ref b46), (.int 2), (.ref b186)])) rfl rfl (hb hby at_260) _ ?_
        exact k_)
      obtain ⟨_, T247, L247, X247, hQ247, P247c⟩ := own_cS (W := 2) (rm_own_al l Z a0 hw [] s2 h229 n0 Z241 ) X229 hx hZ (fun _ _ => trivial) hown (own_w hw 4 rfl) (own_w hw 5 rfl) (own_w hw 6 rfl) (own_w hw 7 rfl) (by decide) P246 hml rfl [(.int s2)] [(.int 2), (.ref b186)] rfl rfl rfl pd24 rfl (hb hby at_261) e229 (by decide)
      obtain ⟨rfl, N247q, e247⟩ := hQ247
      have N247 := Fr.app N229 N247q
      have P248 := own_to (C := T247.setTop (mkF m 264 #[.val (.long pa), .second, i_ pb, i_ nn, i_ q0, i_ q1, i_ q2, i_ q3, i_ q4, i_ zl, r_ b46, r_ b186, u_] [(.int (own_al s2)), (.int 2), (.ref b186)])) P247c
      have Vp249 : Arv Z h229 b186 k186 .char zl [(.int (nar .char (own_al s0))), (.int (nar .char (own_al s1))), (.int 0)] (.int 0) := V229.pad (pad_rep [(.int (nar .char (own_al s0))), (.int (nar .char (own_al s1)))] _ 1)
      obtain ⟨cl250, Ar250, q250, S250, M250, H250, G250⟩ := id Vp249
      obtain ⟨T251, h251, X251, e251, W251, st251⟩ := stC X247 hx hZ e247 Ar250 (j := (2 : Int32)) (inb_of S250 ⟨by decide, c2_⟩) (g := (mkF m 264 #[.val (.long pa), .second, i_ pb, i_ nn, i_ q0, i_ q1, i_ q2, i_ q3, i_ q4, i_ zl, r_ b46, r_ b186, u_] [(.int (own_al s2)), (.int 2), (.ref b186)])) rfl rfl (hb hby at_264)
      have f252 := f230.wr W251 g_b186
      have f253 := f231.other W251 (Or.inl ne_de_b186)
      have f254 := f232.other W251 (Or.inl ne_de_b186)
      have f255 := f233.other W251 (Or.inl ne_en_b186)
      have f256 := f234.other W251 (Or.inl ne_en_b186)
      have f257 := f235.other W251 (Or.inl ne_en_b186)
      have f259 := f237.wr W251
      have f260 := f238.wr W251
      have f261 := f239.other W251 ne_b46_b186
      have Z263 : n0 ≤ h251.size := Nat.le_trans Z241 (Keep.of_wr W251).1
      have V251 : Arv Z h251 b186 k186 .char zl [(.int (nar .char (own_al s0))), (.int (nar .char (own_al s1))), (.int (nar .char (own_al s2)))] (.int 0) := Arv.set Ar250 q250 S250 M250 H250 G250 (fits_nar_char _) W251 2 rfl (Nat.le_of_ble_eq_true rfl)
      have N251 := Fr.snoc X251 N247 g_b186
      have P264 := oS (T251.setTop (mkF m 265 #[.val (.long pa), .second, i_ pb, i_ nn, i_ q0, i_ q1, i_ q2, i_ q3, i_ q4, i_ zl, r_ b46, r_ b186, u_] [])) P248 (fun t_ k_ => st251 t_ k_)
      have P265 := oS (T251.setTop (mkF m 268 #[.val (.long pa), .second, i_ pb, i_ nn, i_ q0, i_ q1, i_ q2, i_ q3, i_ q4, i_ zl, r_ b46, r_ b186, u_] [(.int 3), (.int zl)])) P264 (by
        intro _ k_
        refine il_ X251 hx hby at_265 rfl ?_
        refine XS.iconst X251.here hx rfl (hb hby at_267) ?_
        exact k_)
      by_cases c3_ : (3 : Int32) < zl
      · have P266 := oS (T251.setTop (mkF m 277 #[.val (.long pa), .second, i_ pb, i_ nn, i_ q0, i_ q1, i_ q2, i_ q3, i_ q4, i_ zl, r_ b46, r_ b186, u_] [(.int 3), (.ref b46), (.int 3), (.ref b186)])) P265 (by
          intro _ k_
          refine XS.icmpNo X251.here hx rfl (hb hby at_268) rfl (tlt c3_).2.2.2 ?_
          refine a_ X251 hx hby at_271 rfl rfl ?_
          refine XS.iconst X251.here hx rfl (hb hby at_273) ?_
          refine a_ X251 hx hby at_274 rfl rfl ?_
          refine XS.iconst X251.here hx rfl (hb hby at_276) ?_
          exact k_)
        obtain ⟨cl267, Ar267, q267, S267, M267, H267, G267⟩ := id f261
        have hin267 := inb_of S267 (by decide : ¬ (3 : Int32) < 0 ∧ (3 : Int32) < (8 : Int32))
        have hat267 := Has.at H267 hin267 (v := .int s3) rfl
        have P268 := oS (T251.setTop (mkF m 278 #[.val (.long pa), .second, i_ pb, i_ nn, i_ q0, i_ q1, i_ q2, i_ q3, i_ q4, i_ zl, r_ b46, r_ b186, u_] [(.int s3), (.int 3), (.ref b186)])) P266 (by
          intro _ k_
          refine X251.iaload hx (j := (3 : Int32)) (v := (.int s3)) (by rw [e251]; exact Ar267.1) (State.isArrayOf_alike hZ.alike Ar267.2.1) Ar267.2.2 hin267 hat267 (g := (mkF m 277 #[.val (.long pa), .second, i_ pb, i_ nn, i_ q0, i_ q1, i_ q2, i_ q3, i_ q4, i_ zl, r_ b46, r_ b186, u_] [(.int 3), (.ref b46), (.int 3), (.ref b186)])) rfl rfl (hb hby at_277) _ ?_
          exact k_)
        obtain ⟨_, T269, L269, X269, hQ269, P269c⟩ := own_cS (W := 2) (rm_own_al l Z a0 hw [] s3 h251 n0 Z263 ) X251 hx hZ (fun _ _ => trivial) hown (own_w hw 4 rfl) (own_w hw 5 rfl) (own_w hw 6 rfl) (own_w hw 7 rfl) (by decide) P268 hml rfl [(.int s3)] [(.int 3), (.ref b186)] rfl rfl rfl pd24 rfl (hb hby at_278) e251 (by decide)
        obtain ⟨rfl, N269q, e269⟩ := hQ269
        have N269 := Fr.app N251 N269q
        have P270 := own_to (C := T269.setTop (mkF m 281 #[.val (.long pa), .second, i_ pb, i_ nn, i_ q0, i_ q1, i_ q2, i_ q3, i_ q4, i_ zl, r_ b46, r_ b186, u_] [(.int (own_al s3)), (.int 3), (.ref b186)])) P269c
        have Vp271 : Arv Z h251 b186 k186 .char zl [(.int (nar .char (own_al s0))), (.int (nar .char (own_al s1))), (.int (nar .char (own_al s2))), (.int 0)] (.int 0) := V251.pad (pad_rep [(.int (nar .char (own_al s0))), (.int (nar .char (own_al s1))), (.int (nar .char (own_al s2)))] _ 1)
        obtain ⟨cl272, Ar272, q272, S272, M272, H272, G272⟩ := id Vp271
        obtain ⟨T273, h273, X273, e273, W273, st273⟩ := stC X269 hx hZ e269 Ar272 (j := (3 : Int32)) (inb_of S272 ⟨by decide, c3_⟩) (g := (mkF m 281 #[.val (.long pa), .second, i_ pb, i_ nn, i_ q0, i_ q1, i_ q2, i_ q3, i_ q4, i_ zl, r_ b46, r_ b186, u_] [(.int (own_al s3)), (.int 3), (.ref b186)])) rfl rfl (hb hby at_281)
        have f274 := f252.wr W273 g_b186
        have f275 := f253.other W273 (Or.inl ne_de_b186)
        have f276 := f254.other W273 (Or.inl ne_de_b186)
        have f277 := f255.other W273 (Or.inl ne_en_b186)
        have f278 := f256.other W273 (Or.inl ne_en_b186)
        have f279 := f257.other W273 (Or.inl ne_en_b186)
        have f281 := f259.wr W273
        have f282 := f260.wr W273
        have f283 := f261.other W273 ne_b46_b186
        have Z285 : n0 ≤ h273.size := Nat.le_trans Z263 (Keep.of_wr W273).1
        have V273 : Arv Z h273 b186 k186 .char zl [(.int (nar .char (own_al s0))), (.int (nar .char (own_al s1))), (.int (nar .char (own_al s2))), (.int (nar .char (own_al s3)))] (.int 0) := Arv.set Ar272 q272 S272 M272 H272 G272 (fits_nar_char _) W273 3 rfl (Nat.le_of_ble_eq_true rfl)
        have N273 := Fr.snoc X273 N269 g_b186
        have P286 := oS (T273.setTop (mkF m 282 #[.val (.long pa), .second, i_ pb, i_ nn, i_ q0, i_ q1, i_ q2, i_ q3, i_ q4, i_ zl, r_ b46, r_ b186, u_] [])) P270 (fun t_ k_ => st273 t_ k_)
        have P287 := oS (T273.setTop (mkF m 285 #[.val (.long pa), .second, i_ pb, i_ nn, i_ q0, i_ q1, i_ q2, i_ q3, i_ q4, i_ zl, r_ b46, r_ b186, u_] [(.int 4), (.int zl)])) P286 (by
          intro _ k_
          refine il_ X273 hx hby at_282 rfl ?_
          refine XS.iconst X273.here hx rfl (hb hby at_284) ?_
          exact k_)
        by_cases c4_ : (4 : Int32) < zl
        · have P288 := oS (T273.setTop (mkF m 294 #[.val (.long pa), .second, i_ pb, i_ nn, i_ q0, i_ q1, i_ q2, i_ q3, i_ q4, i_ zl, r_ b46, r_ b186, u_] [(.int 4), (.ref b46), (.int 4), (.ref b186)])) P287 (by
            intro _ k_
            refine XS.icmpNo X273.here hx rfl (hb hby at_285) rfl (tlt c4_).2.2.2 ?_
            refine a_ X273 hx hby at_288 rfl rfl ?_
            refine XS.iconst X273.here hx rfl (hb hby at_290) ?_
            refine a_ X273 hx hby at_291 rfl rfl ?_
            refine XS.iconst X273.here hx rfl (hb hby at_293) ?_
            exact k_)
          obtain ⟨cl289, Ar289, q289, S289, M289, H289, G289⟩ := id f283
          have hin289 := inb_of S289 (by decide : ¬ (4 : Int32) < 0 ∧ (4 : Int32) < (8 : Int32))
          have hat289 := Has.at H289 hin289 (v := .int s4) rfl
          have P290 := oS (T273.setTop (mkF m 295 #[.val (.long pa), .second, i_ pb, i_ nn, i_ q0, i_ q1, i_ q2, i_ q3, i_ q4, i_ zl, r_ b46, r_ b186, u_] [(.int s4), (.int 4), (.ref b186)])) P288 (by
            intro _ k_
            refine X273.iaload hx (j := (4 : Int32)) (v := (.int s4)) (by rw [e273]; exact Ar289.1) (State.isArrayOf_alike hZ.alike Ar289.2.1) Ar289.2.2 hin289 hat289 (g := (mkF m 294 #[.val (.long pa), .second, i_ pb, i_ nn, i_ q0, i_ q1, i_ q2, i_ q3, i_ q4, i_ zl, r_ b46, r_ b186, u_] [(.int 4), (.ref b46), (.int 4), (.ref b186)])) rfl rfl (hb hby at_294) _ ?_
            exact k_)
          obtain ⟨_, T291, L291, X291, hQ291, P291c⟩ := own_cS (W := 2) (rm_own_al l Z a0 hw [] s4 h273 n0 Z285 ) X273 hx hZ (fun _ _ => trivial) hown (own_w hw 4 rfl) (own_w hw 5 rfl) (own_w hw 6 rfl) (own_w hw 7 rfl) (by decide) P290 hml rfl [(.int s4)] [(.int 4), (.ref b186)] rfl rfl rfl pd24 rfl (hb hby at_295) e273 (by decide)
          obtain ⟨rfl, N291q, e291⟩ := hQ291
          have N291 := Fr.app N273 N291q
          have P292 := own_to (C := T291.setTop (mkF m 298 #[.val (.long pa), .second, i_ pb, i_ nn, i_ q0, i_ q1, i_ q2, i_ q3, i_ q4, i_ zl, r_ b46, r_ b186, u_] [(.int (own_al s4)), (.int 4), (.ref b186)])) P291c
          have Vp293 : Arv Z h273 b186 k186 .char zl [(.int (nar .char (own_al s0))), (.int (nar .char (own_al s1))), (.int (nar .char (own_al s2))), (.int (nar .char (own_al s3))), (.int 0)] (.int 0) := V273.pad (pad_rep [(.int (nar .char (own_al s0))), (.int (nar .char (own_al s1))), (.int (nar .char (own_al s2))), (.int (nar .char (own_al s3)))] _ 1)
          obtain ⟨cl294, Ar294, q294, S294, M294, H294, G294⟩ := id Vp293
          obtain ⟨T295, h295, X295, e295, W295, st295⟩ := stC X291 hx hZ e291 Ar294 (j := (4 : Int32)) (inb_of S294 ⟨by decide, c4_⟩) (g := (mkF m 298 #[.val (.long pa), .second, i_ pb, i_ nn, i_ q0, i_ q1, i_ q2, i_ q3, i_ q4, i_ zl, r_ b46, r_ b186, u_] [(.int (own_al s4)), (.int 4), (.ref b186)])) rfl rfl (hb hby at_298)
          have f296 := f274.wr W295 g_b186
          have f297 := f275.other W295 (Or.inl ne_de_b186)
          have f298 := f276.other W295 (Or.inl ne_de_b186)
          have f299 := f277.other W295 (Or.inl ne_en_b186)
          have f300 := f278.other W295 (Or.inl ne_en_b186)
          have f301 := f279.other W295 (Or.inl ne_en_b186)
          have f303 := f281.wr W295
          have f304 := f282.wr W295
          have f305 := f283.other W295 ne_b46_b186
          have Z307 : n0 ≤ h295.size := Nat.le_trans Z285 (Keep.of_wr W295).1
          have V295 : Arv Z h295 b186 k186 .char zl [(.int (nar .char (own_al s0))), (.int (nar .char (own_al s1))), (.int (nar .char (own_al s2))), (.int (nar .char (own_al s3))), (.int (nar .char (own_al s4)))] (.int 0) := Arv.set Ar294 q294 S294 M294 H294 G294 (fits_nar_char _) W295 4 rfl (Nat.le_of_ble_eq_true rfl)
          have N295 := Fr.snoc X295 N291 g_b186
          have P308 := oS (T295.setTop (mkF m 299 #[.val (.long pa), .second, i_ pb, i_ nn, i_ q0, i_ q1, i_ q2, i_ q3, i_ q4, i_ zl, r_ b46, r_ b186, u_] [])) P292 (fun t_ k_ => st295 t_ k_)
          have P309 := oS (T295.setTop (mkF m 302 #[.val (.long pa), .second, i_ pb, i_ nn, i_ q0, i_ q1, i_ q2, i_ q3, i_ q4, i_ zl, r_ b46, r_ b186, u_] [(.int 5), (.int zl)])) P308 (by
            intro _ k_
            refine il_ X295 hx hby at_299 rfl ?_
            refine XS.iconst X295.here hx rfl (hb hby at_301) ?_
            exact k_)
          have P310 := oS (T295.setTop (mkF m 311 #[.val (.long pa), .second, i_ pb, i_ nn, i_ q0, i_ q1, i_ q2, i_ q3, i_ q4, i_ zl, r_ b46, r_ b186, u_] [(.int 5), (.ref b46), (.int 5), (.ref b186)])) P309 (by
            intro _ k_
            refine XS.icmpNo X295.here hx rfl (hb hby at_302) rfl (tlt (own_c5 hcase c4_)).2.2.2 ?_
            refine a_ X295 hx hby at_305 rfl rfl ?_
            refine XS.iconst X295.here hx rfl (hb hby at_307) ?_
            refine a_ X295 hx hby at_308 rfl rfl ?_
            refine XS.iconst X295.here hx rfl (hb hby at_310) ?_
            exact k_)
          obtain ⟨cl311, Ar311, q311, S311, M311, H311, G311⟩ := id f305
          have hin311 := inb_of S311 (by decide : ¬ (5 : Int32) < 0 ∧ (5 : Int32) < (8 : Int32))
          have hat311 := Has.at H311 hin311 (v := .int s5) rfl
          have P312 := oS (T295.setTop (mkF m 312 #[.val (.long pa), .second, i_ pb, i_ nn, i_ q0, i_ q1, i_ q2, i_ q3, i_ q4, i_ zl, r_ b46, r_ b186, u_] [(.int s5), (.int 5), (.ref b186)])) P310 (by
            intro _ k_
            refine X295.iaload hx (j := (5 : Int32)) (v := (.int s5)) (by rw [e295]; exact Ar311.1) (State.isArrayOf_alike hZ.alike Ar311.2.1) Ar311.2.2 hin311 hat311 (g := (mkF m 311 #[.val (.long pa), .second, i_ pb, i_ nn, i_ q0, i_ q1, i_ q2, i_ q3, i_ q4, i_ zl, r_ b46, r_ b186, u_] [(.int 5), (.ref b46), (.int 5), (.ref b186)])) rfl rfl (hb hby at_311) _ ?_
            exact k_)
          obtain ⟨_, T313, L313, X313, hQ313, P313c⟩ := own_cS (W := 2) (rm_own_al l Z a0 hw [] s5 h295 n0 Z307 ) X295 hx hZ (fun _ _ => trivial) hown (own_w hw 4 rfl) (own_w hw 5 rfl) (own_w hw 6 rfl) (own_w hw 7 rfl) (by decide) P312 hml rfl [(.int s5)] [(.int 5), (.ref b186)] rfl rfl rfl pd24 rfl (hb hby at_312) e295 (by decide)
          obtain ⟨rfl, N313q, e313⟩ := hQ313
          have N313 := Fr.app N295 N313q
          have P314 := own_to (C := T313.setTop (mkF m 315 #[.val (.long pa), .second, i_ pb, i_ nn, i_ q0, i_ q1, i_ q2, i_ q3, i_ q4, i_ zl, r_ b46, r_ b186, u_] [(.int (own_al s5)), (.int 5), (.ref b186)])) P313c
          have Vp315 : Arv Z h295 b186 k186 .char zl [(.int (nar .char (own_al s0))), (.int (nar .char (own_al s1))), (.int (nar .char (own_al s2))), (.int (nar .char (own_al s3))), (.int (nar .char (own_al s4))), (.int 0)] (.int 0) := V295.pad (pad_rep [(.int (nar .char (own_al s0))), (.int (nar .char (own_al s1))), (.int (nar .char (own_al s2))), (.int (nar .char (own_al s3))), (.int (nar .char (own_al s4)))] _ 1)
          obtain ⟨cl316, Ar316, q316, S316, M316, H316, G316⟩ := id Vp315
          obtain ⟨T317, h317, X317, e317, W317, st317⟩ := stC X313 hx hZ e313 Ar316 (j := (5 : Int32)) (inb_of S316 ⟨by decide, (own_c5 hcase c4_)⟩) (g := (mkF m 315 #[.val (.long pa), .second, i_ pb, i_ nn, i_ q0, i_ q1, i_ q2, i_ q3, i_ q4, i_ zl, r_ b46, r_ b186, u_] [(.int (own_al s5)), (.int 5), (.ref b186)])) rfl rfl (hb hby at_315)
          have f318 := f296.wr W317 g_b186
          have f319 := f297.other W317 (Or.inl ne_de_b186)
          have f320 := f298.other W317 (Or.inl ne_de_b186)
          have f321 := f299.other W317 (Or.inl ne_en_b186)
          have f322 := f300.other W317 (Or.inl ne_en_b186)
          have f323 := f301.other W317 (Or.inl ne_en_b186)
          have f325 := f303.wr W317
          have f326 := f304.wr W317
          have f327 := f305.other W317 ne_b46_b186
          have Z329 : n0 ≤ h317.size := Nat.le_trans Z307 (Keep.of_wr W317).1
          have V317 : Arv Z h317 b186 k186 .char zl [(.int (nar .char (own_al s0))), (.int (nar .char (own_al s1))), (.int (nar .char (own_al s2))), (.int (nar .char (own_al s3))), (.int (nar .char (own_al s4))), (.int (nar .char (own_al s5)))] (.int 0) := Arv.set Ar316 q316 S316 M316 H316 G316 (fits_nar_char _) W317 5 rfl (Nat.le_of_ble_eq_true rfl)
          have N317 := Fr.snoc X317 N313 g_b186
          have P330 := oS (T317.setTop (mkF m 316 #[.val (.long pa), .second, i_ pb, i_ nn, i_ q0, i_ q1, i_ q2, i_ q3, i_ q4, i_ zl, r_ b46, r_ b186, u_] [])) P314 (fun t_ k_ => st317 t_ k_)
          have P331 := oS (T317.setTop (mkF m 320 #[.val (.long pa), .second, i_ pb, i_ nn, i_ q0, i_ q1, i_ q2, i_ q3, i_ q4, i_ zl, r_ b46, r_ b186, u_] [(.int 6), (.int zl)])) P330 (by
            intro _ k_
            refine il_ X317 hx hby at_316 rfl ?_
            refine XS.bipush X317.here hx rfl (hb hby at_318) ?_
            exact k_)
          by_cases c6_ : (6 : Int32) < zl
          · have P332 := oS (T317.setTop (mkF m 331 #[.val (.long pa), .second, i_ pb, i_ nn, i_ q0, i_ q1, i_ q2, i_ q3, i_ q4, i_ zl, r_ b46, r_ b186, u_] [(.int 6), (.ref b46), (.int 6), (.ref b186)])) P331 (by
              intro _ k_
              refine XS.icmpNo X317.here hx rfl (hb hby at_320) rfl (tlt c6_).2.2.2 ?_
              refine a_ X317 hx hby at_323 rfl rfl ?_
              refine XS.bipush X317.here hx rfl (hb hby at_325) ?_
              refine a_ X317 hx hby at_327 rfl rfl ?_
              refine XS.bipush X317.here hx rfl (hb hby at_329) ?_
              exact k_)
            obtain ⟨cl333, Ar333, q333, S333, M333, H333, G333⟩ := id f327
            have hin333 := inb_of S333 (by decide : ¬ (6 : Int32) < 0 ∧ (6 : Int32) < (8 : Int32))
            have hat333 := Has.at H333 hin333 (v := .int s6) rfl
            have P334 := oS (T317.setTop (mkF m 332 #[.val (.long pa), .second, i_ pb, i_ nn, i_ q0, i_ q1, i_ q2, i_ q3, i_ q4, i_ zl, r_ b46, r_ b186, u_] [(.int s6), (.int 6), (.ref b186)])) P332 (by
              intro _ k_
              refine X317.iaload hx (j := (6 : Int32)) (v := (.int s6)) (by rw [e317]; exact Ar333.1) (State.isArrayOf_alike hZ.alike Ar333.2.1) Ar333.2.2 hin333 hat333 (g := (mkF m 331 #[.val (.long pa), .second, i_ pb, i_ nn, i_ q0, i_ q1, i_ q2, i_ q3, i_ q4, i_ zl, r_ b46, r_ b186, u_] [(.int 6), (.ref b46), (.int 6), (.ref b186)])) rfl rfl (hb hby at_331) _ ?_
              exact k_)
            obtain ⟨_, T335, L335, X335, hQ335, P335c⟩ := own_cS (W := 2) (rm_own_al l Z a0 hw [] s6 h317 n0 Z329 ) X317 hx hZ (fun _ _ => trivial) hown (own_w hw 4 rfl) (own_w hw 5 rfl) (own_w hw 6 rfl) (own_w hw 7 rfl) (by decide) P334 hml rfl [(.int s6)] [(.int 6), (.ref b186)] rfl rfl rfl pd24 rfl (hb hby at_332) e317 (by decide)
            obtain ⟨rfl, N335q, e335⟩ := hQ335
            have N335 := Fr.app N317 N335q
            have P336 := own_to (C := T335.setTop (mkF m 335 #[.val (.long pa), .second, i_ pb, i_ nn, i_ q0, i_ q1, i_ q2, i_ q3, i_ q4, i_ zl, r_ b46, r_ b186, u_] [(.int (own_al s6)), (.int 6), (.ref b186)])) P335c
            have Vp337 : Arv Z h317 b186 k186 .char zl [(.int (nar .char (own_al s0))), (.int (nar .char (own_al s1))), (.int (nar .char (own_al s2))), (.int (nar .char (own_al s3))), (.int (nar .char (own_al s4))), (.int (nar .char (own_al s5))), (.int 0)] (.int 0) := V317.pad (pad_rep [(.int (nar .char (own_al s0))), (.int (nar .char (own_al s1))), (.int (nar .char (own_al s2))), (.int (nar .char (own_al s3))), (.int (nar .char (own_al s4))), (.int (nar .char (own_al s5)))] _ 1)
            obtain ⟨cl338, Ar338, q338, S338, M338, H338, G338⟩ := id Vp337
            obtain ⟨T339, h339, X339, e339, W339, st339⟩ := stC X335 hx hZ e335 Ar338 (j := (6 : Int32)) (inb_of S338 ⟨by decide, c6_⟩) (g := (mkF m 335 #[.val (.long pa), .second, i_ pb, i_ nn, i_ q0, i_ q1, i_ q2, i_ q3, i_ q4, i_ zl, r_ b46, r_ b186, u_] [(.int (own_al s6)), (.int 6), (.ref b186)])) rfl rfl (hb hby at_335)
            have f340 := f318.wr W339 g_b186
            have f341 := f319.other W339 (Or.inl ne_de_b186)
            have f342 := f320.other W339 (Or.inl ne_de_b186)
            have f343 := f321.other W339 (Or.inl ne_en_b186)
            have f344 := f322.other W339 (Or.inl ne_en_b186)
            have f345 := f323.other W339 (Or.inl ne_en_b186)
            have f347 := f325.wr W339
            have f348 := f326.wr W339
            have Z351 : n0 ≤ h339.size := Nat.le_trans Z329 (Keep.of_wr W339).1
            have V339 : Arv Z h339 b186 k186 .char zl [(.int (nar .char (own_al s0))), (.int (nar .char (own_al s1))), (.int (nar .char (own_al s2))), (.int (nar .char (own_al s3))), (.int (nar .char (own_al s4))), (.int (nar .char (own_al s5))), (.int (nar .char (own_al s6)))] (.int 0) := Arv.set Ar338 q338 S338 M338 H338 G338 (fits_nar_char _) W339 6 rfl (Nat.le_of_ble_eq_true rfl)
            have N339 := Fr.snoc X339 N335 g_b186
            have P352 := oS (T339.setTop (mkF m 336 #[.val (.long pa), .second, i_ pb, i_ nn, i_ q0, i_ q1, i_ q2, i_ q3, i_ q4, i_ zl, r_ b46, r_ b186, u_] [])) P336 (fun t_ k_ => st339 t_ k_)
            obtain ⟨rfl, rfl⟩ := own_q7 hcase c6_
            have P353 := own_to (C := T339.setTop (mkF m 336 #[.val (.long pa), .second, i_ pb, i_ 5, i_ q0, i_ q1, i_ q2, i_ q3, i_ q4, i_ 7, r_ b46, r_ b186, u_] [])) P352
            obtain ⟨T354, h354, X354, e354, E354, A354, D354, -, st354⟩ := newO X339 hx hZ hown (own_w hw 8 rfl) (own_w hw 9 rfl) (own_w hw 10 rfl) e339 (g := (mkF m 336 #[.val (.long pa), .second, i_ pb, i_ 5, i_ q0, i_ q1, i_ q2, i_ q3, i_ q4, i_ 7, r_ b46, r_ b186, u_] [])) rfl (hb hby at_336) (by decide) (by decide)
            obtain ⟨b354, g354⟩ : ∃ z, z = h339.size := ⟨_, rfl⟩
            rw [← g354] at A354 D354 st354
            have ne_de_b354 : de ≠ b354 := Nat.ne_of_lt (Nat.lt_of_lt_of_le f341.lt (Nat.le_of_eq g354.symm))
            have ne_en_b354 : en ≠ b354 := Nat.ne_of_lt (Nat.lt_of_lt_of_le f343.lt (Nat.le_of_eq g354.symm))
            have g_b354 : n0 ≤ b354 := Nat.le_trans Z351 (Nat.le_of_eq g354.symm)
            have f355 := f340.ext E354
            have f356 := f341.ext E354
            have f357 := f342.ext E354
            have f358 := f343.ext E354
            have f359 := f344.ext E354
            have f360 := f345.ext E354
            have f362 := f347.ext E354
            have f363 := f348.ext E354
            have f365 := V339.ext E354
            have Z366 : n0 ≤ h354.size := Nat.le_trans Z351 E354.1
            have f367 : Fld Z h354 b354 "java/lang/String" "coder" "B" (.int 0) := D354 (Or.inr (own_w hw 34 rfl)) (ty := .byte) (by decide)
            have f368 : Fld Z h354 b354 "java/lang/String" "value" "[B" .null := D354 (Or.inr (own_w hw 36 rfl)) (ty := (.array .byte)) (by decide)
            have P369 := oS (T354.setTop (mkF m 339 #[.val (.long pa), .second, i_ pb, i_ 5, i_ q0, i_ q1, i_ q2, i_ q3, i_ q4, i_ 7, r_ b46, r_ b186, u_] [(.ref b354)])) P353 (fun t_ k_ => st354 t_ k_)
            have P370 := oS (T354.setTop (mkF m 342 #[.val (.long pa), .second, i_ pb, i_ 5, i_ q0, i_ q1, i_ q2, i_ q3, i_ q4, i_ 7, r_ b46, r_ b186, u_] [(.ref b186), (.ref b354), (.ref b354)])) P369 (by
              intro _ k_
              refine XS.dup X354.here hx rfl (hb hby at_339) rfl rfl ?_
              refine a_ X354 hx hby at_340 rfl rfl ?_
              exact k_)
            obtain ⟨_, T371, L371, X371, hQ371, P371c⟩ := own_cI (W := 1) (rm_initC l Z a0 hw [] b354 b186 k186 (7 : Int32) [own_ch s0, own_ch s1, own_ch s2, own_ch s3, own_ch s4, own_ch s5, own_ch s6] cs h354 n0 Z366 f355 Scs hcs A354 f368 f367 g_b354 f365 ⟨(own_sign (own_s63 HH).1).1, (own_sign (own_s63 HH).2.1).1, (own_sign (own_s63 HH).2.2.1).1, (own_sign (own_s63 HH).2.2.2).1, (own_sign (own_s63 HI).1).1, (own_sign (own_s63 HI).2.1).1, (own_sign (own_s63 HI).2.2.1).1, trivial⟩ rfl (by decide) (by decide) (by decide) (by decide +kernel)) X354 hx hZ (fun _ _ => trivial) hown rfl (own_w hw 11 rfl) (own_w hw 12 rfl) (own_w hw 10 rfl) (own_w hw 13 rfl) (by decide) P370 hml rfl [(.ref b186)] [(.ref b354)] rfl rfl rfl pd25 rfl (hb hby at_342) e354 (by decide)
            obtain ⟨x371, kk371, rfl, N371q, K371, f372, f373, f374, f375, f376, f377⟩ := hQ371
            have N371 := Fr.app N339 N371q
            have f378 := f355.keep K371 (allS g_b354 all0)
            have f379 := f356.keep K371 (ninS ne_de_b354 nin0)
            have f380 := f357.keep K371 (ninS ne_de_b354 nin0)
            have f381 := f358.keep K371 (ninS ne_en_b354 nin0)
            have f382 := f359.keep K371 (ninS ne_en_b354 nin0)
            have f383 := f360.keep K371 (ninS ne_en_b354 nin0)
            have f385 := f362.keep K371
            have f386 := f363.keep K371
            have Z392 : n0 ≤ T371.heap.size := Nat.le_trans Z366 K371.1
            have P393 := own_to (C := T371.setTop (mkF m 345 #[.val (.long pa), .second, i_ pb, i_ 5, i_ q0, i_ q1, i_ q2, i_ q3, i_ q4, i_ 7, r_ b46, r_ b186, u_] [(.ref b354)])) P371c
            have f375_ : Arv Z T371.heap x371 kk371 .byte (7 : Int32) ([own_sg s0, own_sg s1, own_sg s2, own_sg s3, own_sg s4, own_sg s5, own_sg s6].map Value.int) (.int 0) := f375
            have Hd0 : HD0 l Z (7 : Int32) (5 : Int32) ([own_sg s0, own_sg s1, own_sg s2, own_sg s3, own_sg s4, own_sg s5, own_sg s6].map Value.int) [(.int (q0.toInt8.toInt32)), (.int (q1.toInt8.toInt32)), (.int (q2.toInt8.toInt32)), (.int (q3.toInt8.toInt32)), (.int (q4.toInt8.toInt32))] := (rm_dec0_7 l Z a0 hw (own_sg s0) (own_sg s1) (own_sg s2) (own_sg s3) (own_sg s4) (own_sg s5) (own_sg s6) s0 s1 s2 s3 s4 s5 s6 (q0.toInt8.toInt32) (q1.toInt8.toInt32) (q2.toInt8.toInt32) (q3.toInt8.toInt32) (q4.toInt8.toInt32) rdt kdt Sdt Vdt (own_sign (own_s63 HH).1).2.1 (own_sign (own_s63 HH).1).2.2.1 (own_sign (own_s63 HH).1).2.2.2.1 (own_sign (own_s63 HH).2.1).2.1 (own_sign (own_s63 HH).2.1).2.2.1 (own_sign (own_s63 HH).2.1).2.2.2.1 (own_sign (own_s63 HH).2.2.1).2.1 (own_sign (own_s63 HH).2.2.1).2.2.1 (own_sign (own_s63 HH).2.2.1).2.2.2.1 (own_sign (own_s63 HH).2.2.2).2.1 (own_sign (own_s63 HH).2.2.2).2.2.1 (own_sign (own_s63 HH).2.2.2).2.2.2.1 (own_sign (own_s63 HI).1).2.1 (own_sign (own_s63 HI).1).2.2.1 (own_sign (own_s63 HI).1).2.2.2.1 (own_sign (own_s63 HI).2.1).2.1 (own_sign (own_s63 HI).2.1).2.2.1 (own_sign (own_s63 HI).2.1).2.2.2.1 (own_sign (own_s63 HI).2.2.1).2.1 (own_sign (own_s63 HI).2.2.1).2.2.1 (own_sign (own_s63 HI).2.2.1).2.2.2.1 (own_or4 HH) (own_r50 HH) (own_r51 HH) (own_r52 HH) (own_r30 HI) (own_r31 HI))
            have He0 : HE0 l Z (5 : Int32) (7 : Int32) [(.int (q0.toInt8.toInt32)), (.int (q1.toInt8.toInt32)), (.int (q2.toInt8.toInt32)), (.int (q3.toInt8.toInt32)), (.int (q4.toInt8.toInt32))] ([own_sg s0, own_sg s1, own_sg s2, own_sg s3, own_sg s4, own_sg s5, own_sg s6].map Value.int) := (rm_enc0_5 l Z a0 hw (q0.toInt8.toInt32) (q1.toInt8.toInt32) (q2.toInt8.toInt32) (q3.toInt8.toInt32) (q4.toInt8.toInt32) (own_ch s0) (own_ch s1) (own_ch s2) (own_ch s3) (own_ch s4) (own_ch s5) (own_ch s6) (own_sg s0) (own_sg s1) (own_sg s2) (own_sg s3) (own_sg s4) (own_sg s5) (own_sg s6) ret_ ket Set Vet (own_rk (own_k0 HH) (own_sign (own_s63 HH).1).2.2.2.2.2.1) (own_rv (own_k0 HH) (own_sign (own_s63 HH).1).2.2.2.2.2.2) rfl (own_rk (own_k1 HH) (own_sign (own_s63 HH).2.1).2.2.2.2.2.1) (own_rv (own_k1 HH) (own_sign (own_s63 HH).2.1).2.2.2.2.2.2) rfl (own_rk (own_k2 HH) (own_sign (own_s63 HH).2.2.1).2.2.2.2.2.1) (own_rv (own_k2 HH) (own_sign (own_s63 HH).2.2.1).2.2.2.2.2.2) rfl (own_rk (own_k3 HH) (own_sign (own_s63 HH).2.2.2).2.2.2.2.2.1) (own_rv (own_k3 HH) (own_sign (own_s63 HH).2.2.2).2.2.2.2.2.2) rfl (own_rk (own_i0 HI) (own_sign (own_s63 HI).1).2.2.2.2.2.1) (own_rv (own_i0 HI) (own_sign (own_s63 HI).1).2.2.2.2.2.2) rfl (own_rk (own_i1b HI) (own_sign (own_s63 HI).2.1).2.2.2.2.2.1) (own_rv (own_i1b HI) (own_sign (own_s63 HI).2.1).2.2.2.2.2.2) rfl (own_rk (own_i2a HI rfl) (own_sign (own_s63 HI).2.2.1).2.2.2.2.2.1) (own_rv (own_i2a HI rfl) (own_sign (own_s63 HI).2.2.1).2.2.2.2.2.2) rfl)
            obtain ⟨_, T394, L394, X394, hQ394, P394c⟩ := own_cSH (W := 0) (rm_buD_0 l Z a0 hw [] b354 de x371 kk371 (7 : Int32) (5 : Int32) [own_sg s0, own_sg s1, own_sg s2, own_sg s3, own_sg s4, own_sg s5, own_sg s6] [(.int (q0.toInt8.toInt32)), (.int (q1.toInt8.toInt32)), (.int (q2.toInt8.toInt32)), (.int (q3.toInt8.toInt32)), (.int (q4.toInt8.toInt32))] rdt riso rutf cs en (4 : Int32) fm T371.heap n0 Z392 f378 Scs hcs Siso Sutf nci Sdt f386 f379 f380 f372 f373 f374 f375_ f377 (by decide) (fun _ => ⟨by decide, by decide, own_sg s6, rfl, (own_sign (own_s63 HI).2.2.1).2.2.2.2.1⟩) (by decide +kernel) (by decide) (by decide) Hd0 Sfm hfm f385 f381 f382 f383 (by decide +kernel) (by decide) He0 (by decide) (by decide) (by decide) (by decide) Senc Sdec) X371 hx hZ (fun _ _ => trivial) hown (own_w hw 37 rfl) (own_w hw 38 rfl) (own_w hw 39 rfl) (own_w hw 40 rfl) (by decide) P393 hml rfl [(.ref b354)] [] rfl rfl rfl pd20 rfl (hb hby at_345) (rfl : T371.heap = _) (by decide)
            obtain ⟨xq394, kk394, rfl, N394q, K394, f395, f396⟩ := hQ394
            have N394 := Fr.app N371 N394q
            have P414 := own_to (C := T394.setTop (mkF m 348 #[.val (.long pa), .second, i_ pb, i_ 5, i_ q0, i_ q1, i_ q2, i_ q3, i_ q4, i_ 7, r_ b46, r_ b186, u_] [(.ref xq394)])) P394c
            have P415 := oS (T394.setTop (mkF m 352 #[.val (.long pa), .second, i_ pb, i_ 5, i_ q0, i_ q1, i_ q2, i_ q3, i_ q4, i_ 7, r_ b46, r_ b186, r_ xq394] [(.ref xq394)])) P414 (by
              intro _ k_
              refine XS.astore X394.here hx rfl (hb hby at_348) rfl rfl (l' := #[.val (.long pa), .second, i_ pb, i_ 5, i_ q0, i_ q1, i_ q2, i_ q3, i_ q4, i_ 7, r_ b46, r_ b186, r_ xq394]) rfl ?_
              refine a_ X394 hx hby at_350 rfl rfl ?_
              exact k_)
            obtain ⟨cl416, Ar416, q416, S416, M416, H416, G416⟩ := id f396
            have P417 := oS (T394.setTop (mkF m 353 #[.val (.long pa), .second, i_ pb, i_ 5, i_ q0, i_ q1, i_ q2, i_ q3, i_ q4, i_ 7, r_ b46, r_ b186, r_ xq394] [(.int 5)])) P415 (by
              intro _ k_
              refine X394.arraylength hx Ar416.1 (State.isArrayOf_alike hZ.alike Ar416.2.1) (g := (mkF m 352 #[.val (.long pa), .second, i_ pb, i_ 5, i_ q0, i_ q1, i_ q2, i_ q3, i_ q4, i_ 7, r_ b46, r_ b186, r_ xq394] [(.ref xq394)])) rfl rfl (hb hby at_352) _ ?_
              rw [len_of S416 M416]
              exact k_)
            have P418 := oS (T394.setTop (mkF m 354 #[.val (.long pa), .second, i_ pb, i_ 5, i_ q0, i_ q1, i_ q2, i_ q3, i_ q4, i_ 7, r_ b46, r_ b186, r_ xq394] [(.int 5), (.int 5)])) P417 (by
              intro _ k_
              refine iN_ X394 hx hby at_353 rfl ?_
              exact k_)
            have P419 := oS (T394.setTop (mkF m 361 #[.val (.long pa), .second, i_ pb, i_ 5, i_ q0, i_ q1, i_ q2, i_ q3, i_ q4, i_ 7, r_ b46, r_ b186, r_ xq394] [(.int 1), (.int 5)])) P418 (by
              intro _ k_
              refine cY_ X394 hx hby at_354 (pc := 354) (pc' := 359) (teq (by decide : (5 : Int32) = (5 : Int32))).1 (by decide) ?_
              refine iN_ X394 hx hby at_359 rfl ?_
              refine XS.iconst X394.here hx rfl (hb hby at_360) ?_
              exact k_)
            have P420 := oS (T394.setTop (mkF m 367 #[.val (.long pa), .second, i_ pb, i_ 5, i_ q0, i_ q1, i_ q2, i_ q3, i_ q4, i_ 7, r_ b46, r_ b186, r_ xq394] [(.int 0), (.ref xq394)])) P419 (by
              intro _ k_
              refine XS.icmpNo X394.here hx rfl (hb hby at_361) rfl (flt (by decide : ¬ ((5 : Int32) < (1 : Int32)))).1 ?_
              refine a_ X394 hx hby at_364 rfl rfl ?_
              refine XS.iconst X394.here hx rfl (hb hby at_366) ?_
              exact k_)
            obtain ⟨cl421, Ar421, q421, S421, M421, H421, G421⟩ := id f396
            have hin421 := inb_of S421 (by decide : ¬ (0 : Int32) < 0 ∧ (0 : Int32) < (5 : Int32))
            have hat421 := Has.at H421 hin421 (v := .int (q0.toInt8.toInt32)) rfl
            have P422 := oS (T394.setTop (mkF m 368 #[.val (.long pa), .second, i_ pb, i_ 5, i_ q0, i_ q1, i_ q2, i_ q3, i_ q4, i_ 7, r_ b46, r_ b186, r_ xq394] [(.int (q0.toInt8.toInt32))])) P420 (by
              intro _ k_
              refine X394.baloadBytes hx (j := (0 : Int32)) (v := (.int (q0.toInt8.toInt32))) Ar421.1 (State.isArrayOf_alike hZ.alike Ar421.2.1) Ar421.2.2 hin421 hat421 (g := (mkF m 367 #[.val (.long pa), .second, i_ pb, i_ 5, i_ q0, i_ q1, i_ q2, i_ q3, i_ q4, i_ 7, r_ b46, r_ b186, r_ xq394] [(.int 0), (.ref xq394)])) rfl rfl (hb hby at_367) _ ?_
              exact k_)
            have P423 := oS (T394.setTop (mkF m 371 #[.val (.long pa), .second, i_ pb, i_ 5, i_ q0, i_ q1, i_ q2, i_ q3, i_ q4, i_ 7, r_ b46, r_ b186, r_ xq394] [(.int (q0.toInt8.toInt32)), (.int (q0.toInt8.toInt32))])) P422 (by
              intro _ k_
              refine il_ X394 hx hby at_368 rfl ?_
              refine XS.i2b X394.here hx rfl (hb hby at_370) rfl ?_
              exact k_)
            have P424 := oS (T394.setTop (mkF m 376 #[.val (.long pa), .second, i_ pb, i_ 5, i_ q0, i_ q1, i_ q2, i_ q3, i_ q4, i_ 7, r_ b46, r_ b186, r_ xq394] [(.int 2), (.int 5)])) P423 (by
              intro _ k_
              refine XS.icmpNo X394.here hx rfl (hb hby at_371) rfl (teq (rfl : (q0.toInt8.toInt32) = (q0.toInt8.toInt32))).2 ?_
              refine iN_ X394 hx hby at_374 rfl ?_
              refine XS.iconst X394.here hx rfl (hb hby at_375) ?_
              exact k_)
            have P425 := oS (T394.setTop (mkF m 382 #[.val (.long pa), .second, i_ pb, i_ 5, i_ q0, i_ q1, i_ q2, i_ q3, i_ q4, i_ 7, r_ b46, r_ b186, r_ xq394] [(.int 1), (.ref xq394)])) P424 (by
              intro _ k_
              refine XS.icmpNo X394.here hx rfl (hb hby at_376) rfl (flt (by decide : ¬ ((5 : Int32) < (2 : Int32)))).1 ?_
              refine a_ X394 hx hby at_379 rfl rfl ?_
              refine XS.iconst X394.here hx rfl (hb hby at_381) ?_
              exact k_)
            obtain ⟨cl426, Ar426, q426, S426, M426, H426, G426⟩ := id f396
            have hin426 := inb_of S426 (by decide : ¬ (1 : Int32) < 0 ∧ (1 : Int32) < (5 : Int32))
            have hat426 := Has.at H426 hin426 (v := .int (q1.toInt8.toInt32)) rfl
            have P427 := oS (T394.setTop (mkF m 383 #[.val (.long pa), .second, i_ pb, i_ 5, i_ q0, i_ q1, i_ q2, i_ q3, i_ q4, i_ 7, r_ b46, r_ b186, r_ xq394] [(.int (q1.toInt8.toInt32))])) P425 (by
              intro _ k_
              refine X394.baloadBytes hx (j := (1 : Int32)) (v := (.int (q1.toInt8.toInt32))) Ar426.1 (State.isArrayOf_alike hZ.alike Ar426.2.1) Ar426.2.2 hin426 hat426 (g := (mkF m 382 #[.val (.long pa), .second, i_ pb, i_ 5, i_ q0, i_ q1, i_ q2, i_ q3, i_ q4, i_ 7, r_ b46, r_ b186, r_ xq394] [(.int 1), (.ref xq394)])) rfl rfl (hb hby at_382) _ ?_
              exact k_)
            have P428 := oS (T394.setTop (mkF m 386 #[.val (.long pa), .second, i_ pb, i_ 5, i_ q0, i_ q1, i_ q2, i_ q3, i_ q4, i_ 7, r_ b46, r_ b186, r_ xq394] [(.int (q1.toInt8.toInt32)), (.int (q1.toInt8.toInt32))])) P427 (by
              intro _ k_
              refine il_ X394 hx hby at_383 rfl ?_
              refine XS.i2b X394.here hx rfl (hb hby at_385) rfl ?_
              exact k_)
            have P429 := oS (T394.setTop (mkF m 391 #[.val (.long pa), .second, i_ pb, i_ 5, i_ q0, i_ q1, i_ q2, i_ q3, i_ q4, i_ 7, r_ b46, r_ b186, r_ xq394] [(.int 3), (.int 5)])) P428 (by
              intro _ k_
              refine XS.icmpNo X394.here hx rfl (hb hby at_386) rfl (teq (rfl : (q1.toInt8.toInt32) = (q1.toInt8.toInt32))).2 ?_
              refine iN_ X394 hx hby at_389 rfl ?_
              refine XS.iconst X394.here hx rfl (hb hby at_390) ?_
              exact k_)
            have P430 := oS (T394.setTop (mkF m 397 #[.val (.long pa), .second, i_ pb, i_ 5, i_ q0, i_ q1, i_ q2, i_ q3, i_ q4, i_ 7, r_ b46, r_ b186, r_ xq394] [(.int 2), (.ref xq394)])) P429 (by
              intro _ k_
              refine XS.icmpNo X394.here hx rfl (hb hby at_391) rfl (flt (by decide : ¬ ((5 : Int32) < (3 : Int32)))).1 ?_
              refine a_ X394 hx hby at_394 rfl rfl ?_
              refine XS.iconst X394.here hx rfl (hb hby at_396) ?_
              exact k_)
            obtain ⟨cl431, Ar431, q431, S431, M431, H431, G431⟩ := id f396
            have hin431 := inb_of S431 (by decide : ¬ (2 : Int32) < 0 ∧ (2 : Int32) < (5 : Int32))
            have hat431 := Has.at H431 hin431 (v := .int (q2.toInt8.toInt32)) rfl
            have P432 := oS (T394.setTop (mkF m 398 #[.val (.long pa), .second, i_ pb, i_ 5, i_ q0, i_ q1, i_ q2, i_ q3, i_ q4, i_ 7, r_ b46, r_ b186, r_ xq394] [(.int (q2.toInt8.toInt32))])) P430 (by
              intro _ k_
              refine X394.baloadBytes hx (j := (2 : Int32)) (v := (.int (q2.toInt8.toInt32))) Ar431.1 (State.isArrayOf_alike hZ.alike Ar431.2.1) Ar431.2.2 hin431 hat431 (g := (mkF m 397 #[.val (.long pa), .second, i_ pb, i_ 5, i_ q0, i_ q1, i_ q2, i_ q3, i_ q4, i_ 7, r_ b46, r_ b186, r_ xq394] [(.int 2), (.ref xq394)])) rfl rfl (hb hby at_397) _ ?_
              exact k_)
            have P433 := oS (T394.setTop (mkF m 401 #[.val (.long pa), .second, i_ pb, i_ 5, i_ q0, i_ q1, i_ q2, i_ q3, i_ q4, i_ 7, r_ b46, r_ b186, r_ xq394] [(.int (q2.toInt8.toInt32)), (.int (q2.toInt8.toInt32))])) P432 (by
              intro _ k_
              refine il_ X394 hx hby at_398 rfl ?_
              refine XS.i2b X394.here hx rfl (hb hby at_400) rfl ?_
              exact k_)
            have P434 := oS (T394.setTop (mkF m 406 #[.val (.long pa), .second, i_ pb, i_ 5, i_ q0, i_ q1, i_ q2, i_ q3, i_ q4, i_ 7, r_ b46, r_ b186, r_ xq394] [(.int 4), (.int 5)])) P433 (by
              intro _ k_
              refine XS.icmpNo X394.here hx rfl (hb hby at_401) rfl (teq (rfl : (q2.toInt8.toInt32) = (q2.toInt8.toInt32))).2 ?_
              refine iN_ X394 hx hby at_404 rfl ?_
              refine XS.iconst X394.here hx rfl (hb hby at_405) ?_
              exact k_)
            have P435 := oS (T394.setTop (mkF m 412 #[.val (.long pa), .second, i_ pb, i_ 5, i_ q0, i_ q1, i_ q2, i_ q3, i_ q4, i_ 7, r_ b46, r_ b186, r_ xq394] [(.int 3), (.ref xq394)])) P434 (by
              intro _ k_
              refine XS.icmpNo X394.here hx rfl (hb hby at_406) rfl (flt (by decide : ¬ ((5 : Int32) < (4 : Int32)))).1 ?_
              refine a_ X394 hx hby at_409 rfl rfl ?_
              refine XS.iconst X394.here hx rfl (hb hby at_411) ?_
              exact k_)
            obtain ⟨cl436, Ar436, q436, S436, M436, H436, G436⟩ := id f396
            have hin436 := inb_of S436 (by decide : ¬ (3 : Int32) < 0 ∧ (3 : Int32) < (5 : Int32))
            have hat436 := Has.at H436 hin436 (v := .int (q3.toInt8.toInt32)) rfl
            have P437 := oS (T394.setTop (mkF m 413 #[.val (.long pa), .second, i_ pb, i_ 5, i_ q0, i_ q1, i_ q2, i_ q3, i_ q4, i_ 7, r_ b46, r_ b186, r_ xq394] [(.int (q3.toInt8.toInt32))])) P435 (by
              intro _ k_
              refine X394.baloadBytes hx (j := (3 : Int32)) (v := (.int (q3.toInt8.toInt32))) Ar436.1 (State.isArrayOf_alike hZ.alike Ar436.2.1) Ar436.2.2 hin436 hat436 (g := (mkF m 412 #[.val (.long pa), .second, i_ pb, i_ 5, i_ q0, i_ q1, i_ q2, i_ q3, i_ q4, i_ 7, r_ b46, r_ b186, r_ xq394] [(.int 3), (.ref xq394)])) rfl rfl (hb hby at_412) _ ?_
              exact k_)
            have P438 := oS (T394.setTop (mkF m 416 #[.val (.long pa), .second, i_ pb, i_ 5, i_ q0, i_ q1, i_ q2, i_ q3, i_ q4, i_ 7, r_ b46, r_ b186, r_ xq394] [(.int (q3.toInt8.toInt32)), (.int (q3.toInt8.toInt32))])) P437 (by
              intro _ k_
              refine il_ X394 hx hby at_413 rfl ?_
              refine XS.i2b X394.here hx rfl (hb hby at_415) rfl ?_
              exact k_)
            have P439 := oS (T394.setTop (mkF m 421 #[.val (.long pa), .second, i_ pb, i_ 5, i_ q0, i_ q1, i_ q2, i_ q3, i_ q4, i_ 7, r_ b46, r_ b186, r_ xq394] [(.int 5), (.int 5)])) P438 (by
              intro _ k_
              refine XS.icmpNo X394.here hx rfl (hb hby at_416) rfl (teq (rfl : (q3.toInt8.toInt32) = (q3.toInt8.toInt32))).2 ?_
              refine iN_ X394 hx hby at_419 rfl ?_
              refine XS.iconst X394.here hx rfl (hb hby at_420) ?_
              exact k_)
            have P440 := oS (T394.setTop (mkF m 427 #[.val (.long pa), .second, i_ pb, i_ 5, i_ q0, i_ q1, i_ q2, i_ q3, i_ q4, i_ 7, r_ b46, r_ b186, r_ xq394] [(.int 4), (.ref xq394)])) P439 (by
              intro _ k_
              refine XS.icmpNo X394.here hx rfl (hb hby at_421) rfl (flt (by decide : ¬ ((5 : Int32) < (5 : Int32)))).1 ?_
              refine a_ X394 hx hby at_424 rfl rfl ?_
              refine XS.iconst X394.here hx rfl (hb hby at_426) ?_
              exact k_)
            obtain ⟨cl441, Ar441, q441, S441, M441, H441, G441⟩ := id f396
            have hin441 := inb_of S441 (by decide : ¬ (4 : Int32) < 0 ∧ (4 : Int32) < (5 : Int32))
            have hat441 := Has.at H441 hin441 (v := .int (q4.toInt8.toInt32)) rfl
            have P442 := oS (T394.setTop (mkF m 428 #[.val (.long pa), .second, i_ pb, i_ 5, i_ q0, i_ q1, i_ q2, i_ q3, i_ q4, i_ 7, r_ b46, r_ b186, r_ xq394] [(.int (q4.toInt8.toInt32))])) P440 (by
              intro _ k_
              refine X394.baloadBytes hx (j := (4 : Int32)) (v := (.int (q4.toInt8.toInt32))) Ar441.1 (State.isArrayOf_alike hZ.alike Ar441.2.1) Ar441.2.2 hin441 hat441 (g := (mkF m 427 #[.val (.long pa), .second, i_ pb, i_ 5, i_ q0, i_ q1, i_ q2, i_ q3, i_ q4, i_ 7, r_ b46, r_ b186, r_ xq394] [(.int 4), (.ref xq394)])) rfl rfl (hb hby at_427) _ ?_
              exact k_)
            have P443 := oS (T394.setTop (mkF m 431 #[.val (.long pa), .second, i_ pb, i_ 5, i_ q0, i_ q1, i_ q2, i_ q3, i_ q4, i_ 7, r_ b46, r_ b186, r_ xq394] [(.int (q4.toInt8.toInt32)), (.int (q4.toInt8.toInt32))])) P442 (by
              intro _ k_
              refine il_ X394 hx hby at_428 rfl ?_
              refine XS.i2b X394.here hx rfl (hb hby at_430) rfl ?_
              exact k_)
            have P444 := oS (T394.setTop (mkF m 439 #[.val (.long pa), .second, i_ pb, i_ 5, i_ q0, i_ q1, i_ q2, i_ q3, i_ q4, i_ 7, r_ b46, r_ b186, r_ xq394] [(.int 1)])) P443 (by
              intro _ k_
              refine XS.icmpNo X394.here hx rfl (hb hby at_431) rfl (teq (rfl : (q4.toInt8.toInt32) = (q4.toInt8.toInt32))).2 ?_
              refine XS.iconst X394.here hx rfl (hb hby at_434) ?_
              refine gt_ X394 hx hby at_435 (pc := 435) (pc' := 439) (by decide) ?_
              exact k_)
            obtain ⟨fs, hr, hrun, hended, hW, hsame⟩ := X394.leave (v := some (.int 1)) (fun h => by rw [Bd.returns] at h; cases h)
            refine ⟨_, _, P444 _ ?_, hrun, hended, _, _, rfl, ?_, wide ⟨⟨_, rfl⟩, hW, hsame.mono (by decide) (by decide)⟩⟩
            · exact retN X394 hx (t := .boolean) Bd.returns (by simp) (hb hby at_439) hr
            · show Q0 Z _ _ _ _ _ _ _ _ _ _ _ _ h0 n0 _ T394.heap _
              exact ⟨rfl, N394⟩
          · have P445 := oS (T317.setTop (mkF m 336 #[.val (.long pa), .second, i_ pb, i_ nn, i_ q0, i_ q1, i_ q2, i_ q3, i_ q4, i_ zl, r_ b46, r_ b186, u_] [])) P331 (by
              intro _ k_
              refine cY_ X317 hx hby at_320 (pc := 320) (pc' := 336) (flt c6_).2.2.2 (by decide) ?_
              exact k_)
            obtain ⟨rfl, rfl⟩ := own_q6 hcase c4_ c6_
            have P446 := own_to (C := T317.setTop (mkF m 336 #[.val (.long pa), .second, i_ pb, i_ 4, i_ q0, i_ q1, i_ q2, i_ q3, i_ q4, i_ 6, r_ b46, r_ b186, u_] [])) P445
            obtain ⟨T447, h447, X447, e447, E447, A447, D447, -, st447⟩ := newO X317 hx hZ hown (own_w hw 8 rfl) (own_w hw 9 rfl) (own_w hw 10 rfl) e317 (g := (mkF m 336 #[.val (.long pa), .second, i_ pb, i_ 4, i_ q0, i_ q1, i_ q2, i_ q3, i_ q4, i_ 6, r_ b46, r_ b186, u_] [])) rfl (hb hby at_336) (by decide) (by decide)
            obtain ⟨b447, g447⟩ : ∃ z, z = h317.size := ⟨_, rfl⟩
            rw [← g447] at A447 D447 st447
            have ne_de_b447 : de ≠ b447 := Nat.ne_of_lt (Nat.lt_of_lt_of_le f319.lt (Nat.le_of_eq g447.symm))
            have ne_en_b447 : en ≠ b447 := Nat.ne_of_lt (Nat.lt_of_lt_of_le f321.lt (Nat.le_of_eq g447.symm))
            have g_b447 : n0 ≤ b447 := Nat.le_trans Z329 (Nat.le_of_eq g447.symm)
            have f448 := f318.ext E447
            have f449 := f319.ext E447
            have f450 := f320.ext E447
            have f451 := f321.ext E447
            have f452 := f322.ext E447
            have f453 := f323.ext E447
            have f455 := f325.ext E447
            have f456 := f326.ext E447
            have f458 := V317.ext E447
            have Z459 : n0 ≤ h447.size := Nat.le_trans Z329 E447.1
            have f460 : Fld Z h447 b447 "java/lang/String" "coder" "B" (.int 0) := D447 (Or.inr (own_w hw 34 rfl)) (ty := .byte) (by decide)
            have f461 : Fld Z h447 b447 "java/lang/String" "value" "[B" .null := D447 (Or.inr (own_w hw 36 rfl)) (ty := (.array .byte)) (by decide)
            have P462 := oS (T447.setTop (mkF m 339 #[.val (.long pa), .second, i_ pb, i_ 4, i_ q0, i_ q1, i_ q2, i_ q3, i_ q4, i_ 6, r_ b46, r_ b186, u_] [(.ref b447)])) P446 (fun t_ k_ => st447 t_ k_)
            have P463 := oS (T447.setTop (mkF m 342 #[.val (.long pa), .second, i_ pb, i_ 4, i_ q0, i_ q1, i_ q2, i_ q3, i_ q4, i_ 6, r_ b46, r_ b186, u_] [(.ref b186), (.ref b447), (.ref b447)])) P462 (by
              intro _ k_
              refine XS.dup X447.here hx rfl (hb hby at_339) rfl rfl ?_
              refine a_ X447 hx hby at_340 rfl rfl ?_
              exact k_)
            obtain ⟨_, T464, L464, X464, hQ464, P464c⟩ := own_cI (W := 1) (rm_initC l Z a0 hw [] b447 b186 k186 (6 : Int32) [own_ch s0, own_ch s1, own_ch s2, own_ch s3, own_ch s4, own_ch s5] cs h447 n0 Z459 f448 Scs hcs A447 f461 f460 g_b447 f458 ⟨(own_sign (own_s63 HH).1).1, (own_sign (own_s63 HH).2.1).1, (own_sign (own_s63 HH).2.2.1).1, (own_sign (own_s63 HH).2.2.2).1, (own_sign (own_s63 HI).1).1, (own_sign (own_s63 HI).2.1).1, trivial⟩ rfl (by decide) (by decide) (by decide) (by decide +kernel)) X447 hx hZ (fun _ _ => trivial) hown rfl (own_w hw 11 rfl) (own_w hw 12 rfl) (own_w hw 10 rfl) (own_w hw 13 rfl) (by decide) P463 hml rfl [(.ref b186)] [(.ref b447)] rfl rfl rfl pd25 rfl (hb hby at_342) e447 (by decide)
            obtain ⟨x464, kk464, rfl, N464q, K464, f465, f466, f467, f468, f469, f470⟩ := hQ464
            have N464 := Fr.app N317 N464q
            have f471 := f448.keep K464 (allS g_b447 all0)
            have f472 := f449.keep K464 (ninS ne_de_b447 nin0)
            have f473 := f450.keep K464 (ninS ne_de_b447 nin0)
            have f474 := f451.keep K464 (ninS ne_en_b447 nin0)
            have f475 := f452.keep K464 (ninS ne_en_b447 nin0)
            have f476 := f453.keep K464 (ninS ne_en_b447 nin0)
            have f478 := f455.keep K464
            have f479 := f456.keep K464
            have Z485 : n0 ≤ T464.heap.size := Nat.le_trans Z459 K464.1
            have P486 := own_to (C := T464.setTop (mkF m 345 #[.val (.long pa), .second, i_ pb, i_ 4, i_ q0, i_ q1, i_ q2, i_ q3, i_ q4, i_ 6, r_ b46, r_ b186, u_] [(.ref b447)])) P464c
            have f468_ : Arv Z T464.heap x464 kk464 .byte (6 : Int32) ([own_sg s0, own_sg s1, own_sg s2, own_sg s3, own_sg s4, own_sg s5].map Value.int) (.int 0) := f468
            have Hd0 : HD0 l Z (6 : Int32) (4 : Int32) ([own_sg s0, own_sg s1, own_sg s2, own_sg s3, own_sg s4, own_sg s5].map Value.int) [(.int (q0.toInt8.toInt32)), (.int (q1.toInt8.toInt32)), (.int (q2.toInt8.toInt32)), (.int (q3.toInt8.toInt32))] := (rm_dec0_6 l Z a0 hw (own_sg s0) (own_sg s1) (own_sg s2) (own_sg s3) (own_sg s4) (own_sg s5) s0 s1 s2 s3 s4 s5 (q0.toInt8.toInt32) (q1.toInt8.toInt32) (q2.toInt8.toInt32) (q3.toInt8.toInt32) rdt kdt Sdt Vdt (own_sign (own_s63 HH).1).2.1 (own_sign (own_s63 HH).1).2.2.1 (own_sign (own_s63 HH).1).2.2.2.1 (own_sign (own_s63 HH).2.1).2.1 (own_sign (own_s63 HH).2.1).2.2.1 (own_sign (own_s63 HH).2.1).2.2.2.1 (own_sign (own_s63 HH).2.2.1).2.1 (own_sign (own_s63 HH).2.2.1).2.2.1 (own_sign (own_s63 HH).2.2.1).2.2.2.1 (own_sign (own_s63 HH).2.2.2).2.1 (own_sign (own_s63 HH).2.2.2).2.2.1 (own_sign (own_s63 HH).2.2.2).2.2.2.1 (own_sign (own_s63 HI).1).2.1 (own_sign (own_s63 HI).1).2.2.1 (own_sign (own_s63 HI).1).2.2.2.1 (own_sign (own_s63 HI).2.1).2.1 (own_sign (own_s63 HI).2.1).2.2.1 (own_sign (own_s63 HI).2.1).2.2.2.1 (own_or4 HH) (own_r50 HH) (own_r51 HH) (own_r52 HH) (own_r2 HI))
            have He0 : HE0 l Z (4 : Int32) (6 : Int32) [(.int (q0.toInt8.toInt32)), (.int (q1.toInt8.toInt32)), (.int (q2.toInt8.toInt32)), (.int (q3.toInt8.toInt32))] ([own_sg s0, own_sg s1, own_sg s2, own_sg s3, own_sg s4, own_sg s5].map Value.int) := (rm_enc0_4 l Z a0 hw (q0.toInt8.toInt32) (q1.toInt8.toInt32) (q2.toInt8.toInt32) (q3.toInt8.toInt32) (own_ch s0) (own_ch s1) (own_ch s2) (own_ch s3) (own_ch s4) (own_ch s5) (own_sg s0) (own_sg s1) (own_sg s2) (own_sg s3) (own_sg s4) (own_sg s5) ret_ ket Set Vet (own_rk (own_k0 HH) (own_sign (own_s63 HH).1).2.2.2.2.2.1) (own_rv (own_k0 HH) (own_sign (own_s63 HH).1).2.2.2.2.2.2) rfl (own_rk (own_k1 HH) (own_sign (own_s63 HH).2.1).2.2.2.2.2.1) (own_rv (own_k1 HH) (own_sign (own_s63 HH).2.1).2.2.2.2.2.2) rfl (own_rk (own_k2 HH) (own_sign (own_s63 HH).2.2.1).2.2.2.2.2.1) (own_rv (own_k2 HH) (own_sign (own_s63 HH).2.2.1).2.2.2.2.2.2) rfl (own_rk (own_k3 HH) (own_sign (own_s63 HH).2.2.2).2.2.2.2.2.1) (own_rv (own_k3 HH) (own_sign (own_s63 HH).2.2.2).2.2.2.2.2.2) rfl (own_rk (own_i0 HI) (own_sign (own_s63 HI).1).2.2.2.2.2.1) (own_rv (own_i0 HI) (own_sign (own_s63 HI).1).2.2.2.2.2.2) rfl (own_rk (own_i1a HI (own_p0 hv35 (by decide))) (own_sign (own_s63 HI).2.1).2.2.2.2.2.1) (own_rv (own_i1a HI (own_p0 hv35 (by decide))) (own_sign (own_s63 HI).2.1).2.2.2.2.2.2) rfl)
            obtain ⟨_, T487, L487, X487, hQ487, P487c⟩ := own_cSH (W := 0) (rm_buD_0 l Z a0 hw [] b447 de x464 kk464 (6 : Int32) (4 : Int32) [own_sg s0, own_sg s1, own_sg s2, own_sg s3, own_sg s4, own_sg s5] [(.int (q0.toInt8.toInt32)), (.int (q1.toInt8.toInt32)), (.int (q2.toInt8.toInt32)), (.int (q3.toInt8.toInt32))] rdt riso rutf cs en (4 : Int32) fm T464.heap n0 Z485 f471 Scs hcs Siso Sutf nci Sdt f479 f472 f473 f465 f466 f467 f468_ f470 (by decide) (fun _ => ⟨by decide, by decide, own_sg s5, rfl, (own_sign (own_s63 HI).2.1).2.2.2.2.1⟩) (by decide +kernel) (by decide) (by decide) Hd0 Sfm hfm f478 f474 f475 f476 (by decide +kernel) (by decide) He0 (by decide) (by decide) (by decide) (by decide) Senc Sdec) X464 hx hZ (fun _ _ => trivial) hown (own_w hw 37 rfl) (own_w hw 38 rfl) (own_w hw 39 rfl) (own_w hw 40 rfl) (by decide) P486 hml rfl [(.ref b447)] [] rfl rfl rfl pd20 rfl (hb hby at_345) (rfl : T464.heap = _) (by decide)
            obtain ⟨xq487, kk487, rfl, N487q, K487, f488, f489⟩ := hQ487
            have N487 := Fr.app N464 N487q
            have P507 := own_to (C := T487.setTop (mkF m 348 #[.val (.long pa), .second, i_ pb, i_ 4, i_ q0, i_ q1, i_ q2, i_ q3, i_ q4, i_ 6, r_ b46, r_ b186, u_] [(.ref xq487)])) P487c
            have P508 := oS (T487.setTop (mkF m 352 #[.val (.long pa), .second, i_ pb, i_ 4, i_ q0, i_ q1, i_ q2, i_ q3, i_ q4, i_ 6, r_ b46, r_ b186, r_ xq487] [(.ref xq487)])) P507 (by
              intro _ k_
              refine XS.astore X487.here hx rfl (hb hby at_348) rfl rfl (l' := #[.val (.long pa), .second, i_ pb, i_ 4, i_ q0, i_ q1, i_ q2, i_ q3, i_ q4, i_ 6, r_ b46, r_ b186, r_ xq487]) rfl ?_
              refine a_ X487 hx hby at_350 rfl rfl ?_
              exact k_)
            obtain ⟨cl509, Ar509, q509, S509, M509, H509, G509⟩ := id f489
            have P510 := oS (T487.setTop (mkF m 353 #[.val (.long pa), .second, i_ pb, i_ 4, i_ q0, i_ q1, i_ q2, i_ q3, i_ q4, i_ 6, r_ b46, r_ b186, r_ xq487] [(.int 4)])) P508 (by
              intro _ k_
              refine X487.arraylength hx Ar509.1 (State.isArrayOf_alike hZ.alike Ar509.2.1) (g := (mkF m 352 #[.val (.long pa), .second, i_ pb, i_ 4, i_ q0, i_ q1, i_ q2, i_ q3, i_ q4, i_ 6, r_ b46, r_ b186, r_ xq487] [(.ref xq487)])) rfl rfl (hb hby at_352) _ ?_
              rw [len_of S509 M509]
              exact k_)
            have P511 := oS (T487.setTop (mkF m 354 #[.val (.long pa), .second, i_ pb, i_ 4, i_ q0, i_ q1, i_ q2, i_ q3, i_ q4, i_ 6, r_ b46, r_ b186, r_ xq487] [(.int 4), (.int 4)])) P510 (by
              intro _ k_
              refine iN_ X487 hx hby at_353 rfl ?_
              exact k_)
            have P512 := oS (T487.setTop (mkF m 361 #[.val (.long pa), .second, i_ pb, i_ 4, i_ q0, i_ q1, i_ q2, i_ q3, i_ q4, i_ 6, r_ b46, r_ b186, r_ xq487] [(.int 1), (.int 4)])) P511 (by
              intro _ k_
              refine cY_ X487 hx hby at_354 (pc := 354) (pc' := 359) (teq (by decide : (4 : Int32) = (4 : Int32))).1 (by decide) ?_
              refine iN_ X487 hx hby at_359 rfl ?_
              refine XS.iconst X487.here hx rfl (hb hby at_360) ?_
              exact k_)
            have P513 := oS (T487.setTop (mkF m 367 #[.val (.long pa), .second, i_ pb, i_ 4, i_ q0, i_ q1, i_ q2, i_ q3, i_ q4, i_ 6, r_ b46, r_ b186, r_ xq487] [(.int 0), (.ref xq487)])) P512 (by
              intro _ k_
              refine XS.icmpNo X487.here hx rfl (hb hby at_361) rfl (flt (by decide : ¬ ((4 : Int32) < (1 : Int32)))).1 ?_
              refine a_ X487 hx hby at_364 rfl rfl ?_
              refine XS.iconst X487.here hx rfl (hb hby at_366) ?_
              exact k_)
            obtain ⟨cl514, Ar514, q514, S514, M514, H514, G514⟩ := id f489
            have hin514 := inb_of S514 (by decide : ¬ (0 : Int32) < 0 ∧ (0 : Int32) < (4 : Int32))
            have hat514 := Has.at H514 hin514 (v := .int (q0.toInt8.toInt32)) rfl
            have P515 := oS (T487.setTop (mkF m 368 #[.val (.long pa), .second, i_ pb, i_ 4, i_ q0, i_ q1, i_ q2, i_ q3, i_ q4, i_ 6, r_ b46, r_ b186, r_ xq487] [(.int (q0.toInt8.toInt32))])) P513 (by
              intro _ k_
              refine X487.baloadBytes hx (j := (0 : Int32)) (v := (.int (q0.toInt8.toInt32))) Ar514.1 (State.isArrayOf_alike hZ.alike Ar514.2.1) Ar514.2.2 hin514 hat514 (g := (mkF m 367 #[.val (.long pa), .second, i_ pb, i_ 4, i_ q0, i_ q1, i_ q2, i_ q3, i_ q4, i_ 6, r_ b46, r_ b186, r_ xq487] [(.int 0), (.ref xq487)])) rfl rfl (hb hby at_367) _ ?_
              exact k_)
            have P516 := oS (T487.setTop (mkF m 371 #[.val (.long pa), .second, i_ pb, i_ 4, i_ q0, i_ q1, i_ q2, i_ q3, i_ q4, i_ 6, r_ b46, r_ b186, r_ xq487] [(.int (q0.toInt8.toInt32)), (.int (q0.toInt8.toInt32))])) P515 (by
              intro _ k_
              refine il_ X487 hx hby at_368 rfl ?_
              refine XS.i2b X487.here hx rfl (hb hby at_370) rfl ?_
              exact k_)
            have P517 := oS (T487.setTop (mkF m 376 #[.val (.long pa), .second, i_ pb, i_ 4, i_ q0, i_ q1, i_ q2, i_ q3, i_ q4, i_ 6, r_ b46, r_ b186, r_ xq487] [(.int 2), (.int 4)])) P516 (by
              intro _ k_
              refine XS.icmpNo X487.here hx rfl (hb hby at_371) rfl (teq (rfl : (q0.toInt8.toInt32) = (q0.toInt8.toInt32))).2 ?_
              refine iN_ X487 hx hby at_374 rfl ?_
              refine XS.iconst X487.here hx rfl (hb hby at_375) ?_
              exact k_)
            have P518 := oS (T487.setTop (mkF m 382 #[.val (.long pa), .second, i_ pb, i_ 4, i_ q0, i_ q1, i_ q2, i_ q3, i_ q4, i_ 6, r_ b46, r_ b186, r_ xq487] [(.int 1), (.ref xq487)])) P517 (by
              intro _ k_
              refine XS.icmpNo X487.here hx rfl (hb hby at_376) rfl (flt (by decide : ¬ ((4 : Int32) < (2 : Int32)))).1 ?_
              refine a_ X487 hx hby at_379 rfl rfl ?_
              refine XS.iconst X487.here hx rfl (hb hby at_381) ?_
              exact k_)
            obtain ⟨cl519, Ar519, q519, S519, M519, H519, G519⟩ := id f489
            have hin519 := inb_of S519 (by decide : ¬ (1 : Int32) < 0 ∧ (1 : Int32) < (4 : Int32))
            have hat519 := Has.at H519 hin519 (v := .int (q1.toInt8.toInt32)) rfl
            have P520 := oS (T487.setTop (mkF m 383 #[.val (.long pa), .second, i_ pb, i_ 4, i_ q0, i_ q1, i_ q2, i_ q3, i_ q4, i_ 6, r_ b46, r_ b186, r_ xq487] [(.int (q1.toInt8.toInt32))])) P518 (by
              intro _ k_
              refine X487.baloadBytes hx (j := (1 : Int32)) (v := (.int (q1.toInt8.toInt32))) Ar519.1 (State.isArrayOf_alike hZ.alike Ar519.2.1) Ar519.2.2 hin519 hat519 (g := (mkF m 382 #[.val (.long pa), .second, i_ pb, i_ 4, i_ q0, i_ q1, i_ q2, i_ q3, i_ q4, i_ 6, r_ b46, r_ b186, r_ xq487] [(.int 1), (.ref xq487)])) rfl rfl (hb hby at_382) _ ?_
              exact k_)
            have P521 := oS (T487.setTop (mkF m 386 #[.val (.long pa), .second, i_ pb, i_ 4, i_ q0, i_ q1, i_ q2, i_ q3, i_ q4, i_ 6, r_ b46, r_ b186, r_ xq487] [(.int (q1.toInt8.toInt32)), (.int (q1.toInt8.toInt32))])) P520 (by
              intro _ k_
              refine il_ X487 hx hby at_383 rfl ?_
              refine XS.i2b X487.here hx rfl (hb hby at_385) rfl ?_
              exact k_)
            have P522 := oS (T487.setTop (mkF m 391 #[.val (.long pa), .second, i_ pb, i_ 4, i_ q0, i_ q1, i_ q2, i_ q3, i_ q4, i_ 6, r_ b46, r_ b186, r_ xq487] [(.int 3), (.int 4)])) P521 (by
              intro _ k_
              refine XS.icmpNo X487.here hx rfl (hb hby at_386) rfl (teq (rfl : (q1.toInt8.toInt32) = (q1.toInt8.toInt32))).2 ?_
              refine iN_ X487 hx hby at_389 rfl ?_
              refine XS.iconst X487.here hx rfl (hb hby at_390) ?_
              exact k_)
            have P523 := oS (T487.setTop (mkF m 397 #[.val (.long pa), .second, i_ pb, i_ 4, i_ q0, i_ q1, i_ q2, i_ q3, i_ q4, i_ 6, r_ b46, r_ b186, r_ xq487] [(.int 2), (.ref xq487)])) P522 (by
              intro _ k_
              refine XS.icmpNo X487.here hx rfl (hb hby at_391) rfl (flt (by decide : ¬ ((4 : Int32) < (3 : Int32)))).1 ?_
              refine a_ X487 hx hby at_394 rfl rfl ?_
              refine XS.iconst X487.here hx rfl (hb hby at_396) ?_
              exact k_)
            obtain ⟨cl524, Ar524, q524, S524, M524, H524, G524⟩ := id f489
            have hin524 := inb_of S524 (by decide : ¬ (2 : Int32) < 0 ∧ (2 : Int32) < (4 : Int32))
            have hat524 := Has.at H524 hin524 (v := .int (q2.toInt8.toInt32)) rfl
            have P525 := oS (T487.setTop (mkF m 398 #[.val (.long pa), .second, i_ pb, i_ 4, i_ q0, i_ q1, i_ q2, i_ q3, i_ q4, i_ 6, r_ b46, r_ b186, r_ xq487] [(.int (q2.toInt8.toInt32))])) P523 (by
              intro _ k_
              refine X487.baloadBytes hx (j := (2 : Int32)) (v := (.int (q2.toInt8.toInt32))) Ar524.1 (State.isArrayOf_alike hZ.alike Ar524.2.1) Ar524.2.2 hin524 hat524 (g := (mkF m 397 #[.val (.long pa), .second, i_ pb, i_ 4, i_ q0, i_ q1, i_ q2, i_ q3, i_ q4, i_ 6, r_ b46, r_ b186, r_ xq487] [(.int 2), (.ref xq487)])) rfl rfl (hb hby at_397) _ ?_
              exact k_)
            have P526 := oS (T487.setTop (mkF m 401 #[.val (.long pa), .second, i_ pb, i_ 4, i_ q0, i_ q1, i_ q2, i_ q3, i_ q4, i_ 6, r_ b46, r_ b186, r_ xq487] [(.int (q2.toInt8.toInt32)), (.int (q2.toInt8.toInt32))])) P525 (by
              intro _ k_
              refine il_ X487 hx hby at_398 rfl ?_
              refine XS.i2b X487.here hx rfl (hb hby at_400) rfl ?_
              exact k_)
            have P527 := oS (T487.setTop (mkF m 406 #[.val (.long pa), .second, i_ pb, i_ 4, i_ q0, i_ q1, i_ q2, i_ q3, i_ q4, i_ 6, r_ b46, r_ b186, r_ xq487] [(.int 4), (.int 4)])) P526 (by
              intro _ k_
              refine XS.icmpNo X487.here hx rfl (hb hby at_401) rfl (teq (rfl : (q2.toInt8.toInt32) = (q2.toInt8.toInt32))).2 ?_
              refine iN_ X487 hx hby at_404 rfl ?_
              refine XS.iconst X487.here hx rfl (hb hby at_405) ?_
              exact k_)
            have P528 := oS (T487.setTop (mkF m 412 #[.val (.long pa), .second, i_ pb, i_ 4, i_ q0, i_ q1, i_ q2, i_ q3, i_ q4, i_ 6, r_ b46, r_ b186, r_ xq487] [(.int 3), (.ref xq487)])) P527 (by
              intro _ k_
              refine XS.icmpNo X487.here hx rfl (hb hby at_406) rfl (flt (by decide : ¬ ((4 : Int32) < (4 : Int32)))).1 ?_
              refine a_ X487 hx hby at_409 rfl rfl ?_
              refine XS.iconst X487.here hx rfl (hb hby at_411) ?_
              exact k_)
            obtain ⟨cl529, Ar529, q529, S529, M529, H529, G529⟩ := id f489
            have hin529 := inb_of S529 (by decide : ¬ (3 : Int32) < 0 ∧ (3 : Int32) < (4 : Int32))
            have hat529 := Has.at H529 hin529 (v := .int (q3.toInt8.toInt32)) rfl
            have P530 := oS (T487.setTop (mkF m 413 #[.val (.long pa), .second, i_ pb, i_ 4, i_ q0, i_ q1, i_ q2, i_ q3, i_ q4, i_ 6, r_ b46, r_ b186, r_ xq487] [(.int (q3.toInt8.toInt32))])) P528 (by
              intro _ k_
              refine X487.baloadBytes hx (j := (3 : Int32)) (v := (.int (q3.toInt8.toInt32))) Ar529.1 (State.isArrayOf_alike hZ.alike Ar529.2.1) Ar529.2.2 hin529 hat529 (g := (mkF m 412 #[.val (.long pa), .second, i_ pb, i_ 4, i_ q0, i_ q1, i_ q2, i_ q3, i_ q4, i_ 6, r_ b46, r_ b186, r_ xq487] [(.int 3), (.ref xq487)])) rfl rfl (hb hby at_412) _ ?_
              exact k_)
            have P531 := oS (T487.setTop (mkF m 416 #[.val (.long pa), .second, i_ pb, i_ 4, i_ q0, i_ q1, i_ q2, i_ q3, i_ q4, i_ 6, r_ b46, r_ b186, r_ xq487] [(.int (q3.toInt8.toInt32)), (.int (q3.toInt8.toInt32))])) P530 (by
              intro _ k_
              refine il_ X487 hx hby at_413 rfl ?_
              refine XS.i2b X487.here hx rfl (hb hby at_415) rfl ?_
              exact k_)
            have P532 := oS (T487.setTop (mkF m 421 #[.val (.long pa), .second, i_ pb, i_ 4, i_ q0, i_ q1, i_ q2, i_ q3, i_ q4, i_ 6, r_ b46, r_ b186, r_ xq487] [(.int 5), (.int 4)])) P531 (by
              intro _ k_
              refine XS.icmpNo X487.here hx rfl (hb hby at_416) rfl (teq (rfl : (q3.toInt8.toInt32) = (q3.toInt8.toInt32))).2 ?_
              refine iN_ X487 hx hby at_419 rfl ?_
              refine XS.iconst X487.here hx rfl (hb hby at_420) ?_
              exact k_)
            have P533 := oS (T487.setTop (mkF m 439 #[.val (.long pa), .second, i_ pb, i_ 4, i_ q0, i_ q1, i_ q2, i_ q3, i_ q4, i_ 6, r_ b46, r_ b186, r_ xq487] [(.int 1)])) P532 (by
              intro _ k_
              refine cY_ X487 hx hby at_421 (pc := 421) (pc' := 434) (tlt (by decide : (4 : Int32) < (5 : Int32))).1 (by decide) ?_
              refine XS.iconst X487.here hx rfl (hb hby at_434) ?_
              refine gt_ X487 hx hby at_435 (pc := 435) (pc' := 439) (by decide) ?_
              exact k_)
            obtain ⟨fs, hr, hrun, hended, hW, hsame⟩ := X487.leave (v := some (.int 1)) (fun h => by rw [Bd.returns] at h; cases h)
            refine ⟨_, _, P533 _ ?_, hrun, hended, _, _, rfl, ?_, wide ⟨⟨_, rfl⟩, hW, hsame.mono (by decide) (by decide)⟩⟩
            · exact retN X487 hx (t := .boolean) Bd.returns (by simp) (hb hby at_439) hr
            · show Q0 Z _ _ _ _ _ _ _ _ _ _ _ _ h0 n0 _ T487.heap _
              exact ⟨rfl, N487⟩
        · have P534 := oS (T273.setTop (mkF m 299 #[.val (.long pa), .second, i_ pb, i_ nn, i_ q0, i_ q1, i_ q2, i_ q3, i_ q4, i_ zl, r_ b46, r_ b186, u_] [])) P287 (by
            intro _ k_
            refine cY_ X273 hx hby at_285 (pc := 285) (pc' := 299) (flt c4_).2.2.2 (by decide) ?_
            exact k_)
          obtain ⟨rfl, rfl⟩ := own_q4 hcase c3_ c4_
          have P535 := own_to (C := T273.setTop (mkF m 299 #[.val (.long pa), .second, i_ pb, i_ 3, i_ q0, i_ q1, i_ q2, i_ q3, i_ q4, i_ 4, r_ b46, r_ b186, u_] [])) P534
          have P536 := oS (T273.setTop (mkF m 302 #[.val (.long pa), .second, i_ pb, i_ 3, i_ q0, i_ q1, i_ q2, i_ q3, i_ q4, i_ 4, r_ b46, r_ b186, u_] [(.int 5), (.int 4)])) P535 (by
            intro _ k_
            refine il_ X273 hx hby at_299 rfl ?_
            refine XS.iconst X273.here hx rfl (hb hby at_301) ?_
            exact k_)
          have P537 := oS (T273.setTop (mkF m 320 #[.val (.long pa), .second, i_ pb, i_ 3, i_ q0, i_ q1, i_ q2, i_ q3, i_ q4, i_ 4, r_ b46, r_ b186, u_] [(.int 6), (.int 4)])) P536 (by
            intro _ k_
            refine cY_ X273 hx hby at_302 (pc := 302) (pc' := 316) (flt (by decide : ¬ ((5 : Int32) < (4 : Int32)))).2.2.2 (by decide) ?_
            refine il_ X273 hx hby at_316 rfl ?_
            refine XS.bipush X273.here hx rfl (hb hby at_318) ?_
            exact k_)
          have P538 := oS (T273.setTop (mkF m 336 #[.val (.long pa), .second, i_ pb, i_ 3, i_ q0, i_ q1, i_ q2, i_ q3, i_ q4, i_ 4, r_ b46, r_ b186, u_] [])) P537 (by
            intro _ k_
            refine cY_ X273 hx hby at_320 (pc := 320) (pc' := 336) (flt (by decide : ¬ ((6 : Int32) < (4 : Int32)))).2.2.2 (by decide) ?_
            exact k_)
          obtain ⟨T539, h539, X539, e539, E539, A539, D539, -, st539⟩ := newO X273 hx hZ hown (own_w hw 8 rfl) (own_w hw 9 rfl) (own_w hw 10 rfl) e273 (g := (mkF m 336 #[.val (.long pa), .second, i_ pb, i_ 3, i_ q0, i_ q1, i_ q2, i_ q3, i_ q4, i_ 4, r_ b46, r_ b186, u_] [])) rfl (hb hby at_336) (by decide) (by decide)
          obtain ⟨b539, g539⟩ : ∃ z, z = h273.size := ⟨_, rfl⟩
          rw [← g539] at A539 D539 st539
          have ne_de_b539 : de ≠ b539 := Nat.ne_of_lt (Nat.lt_of_lt_of_le f275.lt (Nat.le_of_eq g539.symm))
          have ne_en_b539 : en ≠ b539 := Nat.ne_of_lt (Nat.lt_of_lt_of_le f277.lt (Nat.le_of_eq g539.symm))
          have g_b539 : n0 ≤ b539 := Nat.le_trans Z285 (Nat.le_of_eq g539.symm)
          have f540 := f274.ext E539
          have f541 := f275.ext E539
          have f542 := f276.ext E539
          have f543 := f277.ext E539
          have f544 := f278.ext E539
          have f545 := f279.ext E539
          have f547 := f281.ext E539
          have f548 := f282.ext E539
          have f550 := V273.ext E539
          have Z551 : n0 ≤ h539.size := Nat.le_trans Z285 E539.1
          have f552 : Fld Z h539 b539 "java/lang/String" "coder" "B" (.int 0) := D539 (Or.inr (own_w hw 34 rfl)) (ty := .byte) (by decide)
          have f553 : Fld Z h539 b539 "java/lang/String" "value" "[B" .null := D539 (Or.inr (own_w hw 36 rfl)) (ty := (.array .byte)) (by decide)
          have P554 := oS (T539.setTop (mkF m 339 #[.val (.long pa), .second, i_ pb, i_ 3, i_ q0, i_ q1, i_ q2, i_ q3, i_ q4, i_ 4, r_ b46, r_ b186, u_] [(.ref b539)])) P538 (fun t_ k_ => st539 t_ k_)
          have P555 := oS (T539.setTop (mkF m 342 #[.val (.long pa), .second, i_ pb, i_ 3, i_ q0, i_ q1, i_ q2, i_ q3, i_ q4, i_ 4, r_ b46, r_ b186, u_] [(.ref b186), (.ref b539), (.ref b539)])) P554 (by
            intro _ k_
            refine XS.dup X539.here hx rfl (hb hby at_339) rfl rfl ?_
            refine a_ X539 hx hby at_340 rfl rfl ?_
            exact k_)
          obtain ⟨_, T556, L556, X556, hQ556, P556c⟩ := own_cI (W := 1) (rm_initC l Z a0 hw [] b539 b186 k186 (4 : Int32) [own_ch s0, own_ch s1, own_ch s2, own_ch s3] cs h539 n0 Z551 f540 Scs hcs A539 f553 f552 g_b539 f550 ⟨(own_sign (own_s63 HH).1).1, (own_sign (own_s63 HH).2.1).1, (own_sign (own_s63 HH).2.2.1).1, (own_sign (own_s63 HH).2.2.2).1, trivial⟩ rfl (by decide) (by decide) (by decide) (by decide +kernel)) X539 hx hZ (fun _ _ => trivial) hown rfl (own_w hw 11 rfl) (own_w hw 12 rfl) (own_w hw 10 rfl) (own_w hw 13 rfl) (by decide) P555 hml rfl [(.ref b186)] [(.ref b539)] rfl rfl rfl pd25 rfl (hb hby at_342) e539 (by decide)
          obtain ⟨x556, kk556, rfl, N556q, K556, f557, f558, f559, f560, f561, f562⟩ := hQ556
          have N556 := Fr.app N273 N556q
          have f563 := f540.keep K556 (allS g_b539 all0)
          have f564 := f541.keep K556 (ninS ne_de_b539 nin0)
          have f565 := f542.keep K556 (ninS ne_de_b539 nin0)
          have f566 := f543.keep K556 (ninS ne_en_b539 nin0)
          have f567 := f544.keep K556 (ninS ne_en_b539 nin0)
          have f568 := f545.keep K556 (ninS ne_en_b539 nin0)
          have f570 := f547.keep K556
          have f571 := f548.keep K556
          have Z577 : n0 ≤ T556.heap.size := Nat.le_trans Z551 K556.1
          have P578 := own_to (C := T556.setTop (mkF m 345 #[.val (.long pa), .second, i_ pb, i_ 3, i_ q0, i_ q1, i_ q2, i_ q3, i_ q4, i_ 4, r_ b46, r_ b186, u_] [(.ref b539)])) P556c
          have f560_ : Arv Z T556.heap x556 kk556 .byte (4 : Int32) ([own_sg s0, own_sg s1, own_sg s2, own_sg s3].map Value.int) (.int 0) := f560
          have Hd0 : HD0 l Z (4 : Int32) (3 : Int32) ([own_sg s0, own_sg s1, own_sg s2, own_sg s3].map Value.int) [(.int (q0.toInt8.toInt32)), (.int (q1.toInt8.toInt32)), (.int (q2.toInt8.toInt32))] := (rm_dec0_4 l Z a0 hw (own_sg s0) (own_sg s1) (own_sg s2) (own_sg s3) s0 s1 s2 s3 (q0.toInt8.toInt32) (q1.toInt8.toInt32) (q2.toInt8.toInt32) rdt kdt Sdt Vdt (own_sign (own_s63 HH).1).2.1 (own_sign (own_s63 HH).1).2.2.1 (own_sign (own_s63 HH).1).2.2.2.1 (own_sign (own_s63 HH).2.1).2.1 (own_sign (own_s63 HH).2.1).2.2.1 (own_sign (own_s63 HH).2.1).2.2.2.1 (own_sign (own_s63 HH).2.2.1).2.1 (own_sign (own_s63 HH).2.2.1).2.2.1 (own_sign (own_s63 HH).2.2.1).2.2.2.1 (own_sign (own_s63 HH).2.2.2).2.1 (own_sign (own_s63 HH).2.2.2).2.2.1 (own_sign (own_s63 HH).2.2.2).2.2.2.1 (own_r40 HH) (own_r41 HH) (own_r42 HH))
          have He0 : HE0 l Z (3 : Int32) (4 : Int32) [(.int (q0.toInt8.toInt32)), (.int (q1.toInt8.toInt32)), (.int (q2.toInt8.toInt32))] ([own_sg s0, own_sg s1, own_sg s2, own_sg s3].map Value.int) := (rm_enc0_3 l Z a0 hw (q0.toInt8.toInt32) (q1.toInt8.toInt32) (q2.toInt8.toInt32) (own_ch s0) (own_ch s1) (own_ch s2) (own_ch s3) (own_sg s0) (own_sg s1) (own_sg s2) (own_sg s3) ret_ ket Set Vet (own_rk (own_k0 HH) (own_sign (own_s63 HH).1).2.2.2.2.2.1) (own_rv (own_k0 HH) (own_sign (own_s63 HH).1).2.2.2.2.2.2) rfl (own_rk (own_k1 HH) (own_sign (own_s63 HH).2.1).2.2.2.2.2.1) (own_rv (own_k1 HH) (own_sign (own_s63 HH).2.1).2.2.2.2.2.2) rfl (own_rk (own_k2 HH) (own_sign (own_s63 HH).2.2.1).2.2.2.2.2.1) (own_rv (own_k2 HH) (own_sign (own_s63 HH).2.2.1).2.2.2.2.2.2) rfl (own_rk (own_k3 HH) (own_sign (own_s63 HH).2.2.2).2.2.2.2.2.1) (own_rv (own_k3 HH) (own_sign (own_s63 HH).2.2.2).2.2.2.2.2.2) rfl)
          obtain ⟨_, T579, L579, X579, hQ579, P579c⟩ := own_cSH (W := 0) (rm_buD_0 l Z a0 hw [] b539 de x556 kk556 (4 : Int32) (3 : Int32) [own_sg s0, own_sg s1, own_sg s2, own_sg s3] [(.int (q0.toInt8.toInt32)), (.int (q1.toInt8.toInt32)), (.int (q2.toInt8.toInt32))] rdt riso rutf cs en (4 : Int32) fm T556.heap n0 Z577 f563 Scs hcs Siso Sutf nci Sdt f571 f564 f565 f557 f558 f559 f560_ f562 (by decide) (fun _ => ⟨by decide, by decide, own_sg s3, rfl, (own_sign (own_s63 HH).2.2.2).2.2.2.2.1⟩) (by decide +kernel) (by decide) (by decide) Hd0 Sfm hfm f570 f566 f567 f568 (by decide +kernel) (by decide) He0 (by decide) (by decide) (by decide) (by decide) Senc Sdec) X556 hx hZ (fun _ _ => trivial) hown (own_w hw 37 rfl) (own_w hw 38 rfl) (own_w hw 39 rfl) (own_w hw 40 rfl) (by decide) P578 hml rfl [(.ref b539)] [] rfl rfl rfl pd20 rfl (hb hby at_345) (rfl : T556.heap = _) (by decide)
          obtain ⟨xq579, kk579, rfl, N579q, K579, f580, f581⟩ := hQ579
          have N579 := Fr.app N556 N579q
          have P599 := own_to (C := T579.setTop (mkF m 348 #[.val (.long pa), .second, i_ pb, i_ 3, i_ q0, i_ q1, i_ q2, i_ q3, i_ q4, i_ 4, r_ b46, r_ b186, u_] [(.ref xq579)])) P579c
          have P600 := oS (T579.setTop (mkF m 352 #[.val (.long pa), .second, i_ pb, i_ 3, i_ q0, i_ q1, i_ q2, i_ q3, i_ q4, i_ 4, r_ b46, r_ b186, r_ xq579] [(.ref xq579)])) P599 (by
            intro _ k_
            refine XS.astore X579.here hx rfl (hb hby at_348) rfl rfl (l' := #[.val (.long pa), .second, i_ pb, i_ 3, i_ q0, i_ q1, i_ q2, i_ q3, i_ q4, i_ 4, r_ b46, r_ b186, r_ xq579]) rfl ?_
            refine a_ X579 hx hby at_350 rfl rfl ?_
            exact k_)
          obtain ⟨cl601, Ar601, q601, S601, M601, H601, G601⟩ := id f581
          have P602 := oS (T579.setTop (mkF m 353 #[.val (.long pa), .second, i_ pb, i_ 3, i_ q0, i_ q1, i_ q2, i_ q3, i_ q4, i_ 4, r_ b46, r_ b186, r_ xq579] [(.int 3)])) P600 (by
            intro _ k_
            refine X579.arraylength hx Ar601.1 (State.isArrayOf_alike hZ.alike Ar601.2.1) (g := (mkF m 352 #[.val (.long pa), .second, i_ pb, i_ 3, i_ q0, i_ q1, i_ q2, i_ q3, i_ q4, i_ 4, r_ b46, r_ b186, r_ xq579] [(.ref xq579)])) rfl rfl (hb hby at_352) _ ?_
            rw [len_of S601 M601]
            exact k_)
          have P603 := oS (T579.setTop (mkF m 354 #[.val (.long pa), .second, i_ pb, i_ 3, i_ q0, i_ q1, i_ q2, i_ q3, i_ q4, i_ 4, r_ b46, r_ b186, r_ xq579] [(.int 3), (.int 3)])) P602 (by
            intro _ k_
            refine iN_ X579 hx hby at_353 rfl ?_
            exact k_)
          have P604 := oS (T579.setTop (mkF m 361 #[.val (.long pa), .second, i_ pb, i_ 3, i_ q0, i_ q1, i_ q2, i_ q3, i_ q4, i_ 4, r_ b46, r_ b186, r_ xq579] [(.int 1), (.int 3)])) P603 (by
            intro _ k_
            refine cY_ X579 hx hby at_354 (pc := 354) (pc' := 359) (teq (by decide : (3 : Int32) = (3 : Int32))).1 (by decide) ?_
            refine iN_ X579 hx hby at_359 rfl ?_
            refine XS.iconst X579.here hx rfl (hb hby at_360) ?_
            exact k_)
          have P605 := oS (T579.setTop (mkF m 367 #[.val (.long pa), .second, i_ pb, i_ 3, i_ q0, i_ q1, i_ q2, i_ q3, i_ q4, i_ 4, r_ b46, r_ b186, r_ xq579] [(.int 0), (.ref xq579)])) P604 (by
            intro _ k_
            refine XS.icmpNo X579.here hx rfl (hb hby at_361) rfl (flt (by decide : ¬ ((3 : Int32) < (1 : Int32)))).1 ?_
            refine a_ X579 hx hby at_364 rfl rfl ?_
            refine XS.iconst X579.here hx rfl (hb hby at_366) ?_
            exact k_)
          obtain ⟨cl606, Ar606, q606, S606, M606, H606, G606⟩ := id f581
          have hin606 := inb_of S606 (by decide : ¬ (0 : Int32) < 0 ∧ (0 : Int32) < (3 : Int32))
          have hat606 := Has.at H606 hin606 (v := .int (q0.toInt8.toInt32)) rfl
          have P607 := oS (T579.setTop (mkF m 368 #[.val (.long pa), .second, i_ pb, i_ 3, i_ q0, i_ q1, i_ q2, i_ q3, i_ q4, i_ 4, r_ b46, r_ b186, r_ xq579] [(.int (q0.toInt8.toInt32))])) P605 (by
            intro _ k_
            refine X579.baloadBytes hx (j := (0 : Int32)) (v := (.int (q0.toInt8.toInt32))) Ar606.1 (State.isArrayOf_alike hZ.alike Ar606.2.1) Ar606.2.2 hin606 hat606 (g := (mkF m 367 #[.val (.long pa), .second, i_ pb, i_ 3, i_ q0, i_ q1, i_ q2, i_ q3, i_ q4, i_ 4, r_ b46, r_ b186, r_ xq579] [(.int 0), (.ref xq579)])) rfl rfl (hb hby at_367) _ ?_
            exact k_)
          have P608 := oS (T579.setTop (mkF m 371 #[.val (.long pa), .second, i_ pb, i_ 3, i_ q0, i_ q1, i_ q2, i_ q3, i_ q4, i_ 4, r_ b46, r_ b186, r_ xq579] [(.int (q0.toInt8.toInt32)), (.int (q0.toInt8.toInt32))])) P607 (by
            intro _ k_
            refine il_ X579 hx hby at_368 rfl ?_
            refine XS.i2b X579.here hx rfl (hb hby at_370) rfl ?_
            exact k_)
          have P609 := oS (T579.setTop (mkF m 376 #[.val (.long pa), .second, i_ pb, i_ 3, i_ q0, i_ q1, i_ q2, i_ q3, i_ q4, i_ 4, r_ b46, r_ b186, r_ xq579] [(.int 2), (.int 3)])) P608 (by
            intro _ k_
            refine XS.icmpNo X579.here hx rfl (hb hby at_371) rfl (teq (rfl : (q0.toInt8.toInt32) = (q0.toInt8.toInt32))).2 ?_
            refine iN_ X579 hx hby at_374 rfl ?_
            refine XS.iconst X579.here hx rfl (hb hby at_375) ?_
            exact k_)
          have P610 := oS (T579.setTop (mkF m 382 #[.val (.long pa), .second, i_ pb, i_ 3, i_ q0, i_ q1, i_ q2, i_ q3, i_ q4, i_ 4, r_ b46, r_ b186, r_ xq579] [(.int 1), (.ref xq579)])) P609 (by
            intro _ k_
            refine XS.icmpNo X579.here hx rfl (hb hby at_376) rfl (flt (by decide : ¬ ((3 : Int32) < (2 : Int32)))).1 ?_
            refine a_ X579 hx hby at_379 rfl rfl ?_
            refine XS.iconst X579.here hx rfl (hb hby at_381) ?_
            exact k_)
          obtain ⟨cl611, Ar611, q611, S611, M611, H611, G611⟩ := id f581
          have hin611 := inb_of S611 (by decide : ¬ (1 : Int32) < 0 ∧ (1 : Int32) < (3 : Int32))
          have hat611 := Has.at H611 hin611 (v := .int (q1.toInt8.toInt32)) rfl
          have P612 := oS (T579.setTop (mkF m 383 #[.val (.long pa), .second, i_ pb, i_ 3, i_ q0, i_ q1, i_ q2, i_ q3, i_ q4, i_ 4, r_ b46, r_ b186, r_ xq579] [(.int (q1.toInt8.toInt32))])) P610 (by
            intro _ k_
            refine X579.baloadBytes hx (j := (1 : Int32)) (v := (.int (q1.toInt8.toInt32))) Ar611.1 (State.isArrayOf_alike hZ.alike Ar611.2.1) Ar611.2.2 hin611 hat611 (g := (mkF m 382 #[.val (.long pa), .second, i_ pb, i_ 3, i_ q0, i_ q1, i_ q2, i_ q3, i_ q4, i_ 4, r_ b46, r_ b186, r_ xq579] [(.int 1), (.ref xq579)])) rfl rfl (hb hby at_382) _ ?_
            exact k_)
          have P613 := oS (T579.setTop (mkF m 386 #[.val (.long pa), .second, i_ pb, i_ 3, i_ q0, i_ q1, i_ q2, i_ q3, i_ q4, i_ 4, r_ b46, r_ b186, r_ xq579] [(.int (q1.toInt8.toInt32)), (.int (q1.toInt8.toInt32))])) P612 (by
            intro _ k_
            refine il_ X579 hx hby at_383 rfl ?_
            refine XS.i2b X579.here hx rfl (hb hby at_385) rfl ?_
            exact k_)
          have P614 := oS (T579.setTop (mkF m 391 #[.val (.long pa), .second, i_ pb, i_ 3, i_ q0, i_ q1, i_ q2, i_ q3, i_ q4, i_ 4, r_ b46, r_ b186, r_ xq579] [(.int 3), (.int 3)])) P613 (by
            intro _ k_
            refine XS.icmpNo X579.here hx rfl (hb hby at_386) rfl (teq (rfl : (q1.toInt8.toInt32) = (q1.toInt8.toInt32))).2 ?_
            refine iN_ X579 hx hby at_389 rfl ?_
            refine XS.iconst X579.here hx rfl (hb hby at_390) ?_
            exact k_)
          have P615 := oS (T579.setTop (mkF m 397 #[.val (.long pa), .second, i_ pb, i_ 3, i_ q0, i_ q1, i_ q2, i_ q3, i_ q4, i_ 4, r_ b46, r_ b186, r_ xq579] [(.int 2), (.ref xq579)])) P614 (by
            intro _ k_
            refine XS.icmpNo X579.here hx rfl (hb hby at_391) rfl (flt (by decide : ¬ ((3 : Int32) < (3 : Int32)))).1 ?_
            refine a_ X579 hx hby at_394 rfl rfl ?_
            refine XS.iconst X579.here hx rfl (hb hby at_396) ?_
            exact k_)
          obtain ⟨cl616, Ar616, q616, S616, M616, H616, G616⟩ := id f581
          have hin616 := inb_of S616 (by decide : ¬ (2 : Int32) < 0 ∧ (2 : Int32) < (3 : Int32))
          have hat616 := Has.at H616 hin616 (v := .int (q2.toInt8.toInt32)) rfl
          have P617 := oS (T579.setTop (mkF m 398 #[.val (.long pa), .second, i_ pb, i_ 3, i_ q0, i_ q1, i_ q2, i_ q3, i_ q4, i_ 4, r_ b46, r_ b186, r_ xq579] [(.int (q2.toInt8.toInt32))])) P615 (by
            intro _ k_
            refine X579.baloadBytes hx (j := (2 : Int32)) (v := (.int (q2.toInt8.toInt32))) Ar616.1 (State.isArrayOf_alike hZ.alike Ar616.2.1) Ar616.2.2 hin616 hat616 (g := (mkF m 397 #[.val (.long pa), .second, i_ pb, i_ 3, i_ q0, i_ q1, i_ q2, i_ q3, i_ q4, i_ 4, r_ b46, r_ b186, r_ xq579] [(.int 2), (.ref xq579)])) rfl rfl (hb hby at_397) _ ?_
            exact k_)
          have P618 := oS (T579.setTop (mkF m 401 #[.val (.long pa), .second, i_ pb, i_ 3, i_ q0, i_ q1, i_ q2, i_ q3, i_ q4, i_ 4, r_ b46, r_ b186, r_ xq579] [(.int (q2.toInt8.toInt32)), (.int (q2.toInt8.toInt32))])) P617 (by
            intro _ k_
            refine il_ X579 hx hby at_398 rfl ?_
            refine XS.i2b X579.here hx rfl (hb hby at_400) rfl ?_
            exact k_)
          have P619 := oS (T579.setTop (mkF m 406 #[.val (.long pa), .second, i_ pb, i_ 3, i_ q0, i_ q1, i_ q2, i_ q3, i_ q4, i_ 4, r_ b46, r_ b186, r_ xq579] [(.int 4), (.int 3)])) P618 (by
            intro _ k_
            refine XS.icmpNo X579.here hx rfl (hb hby at_401) rfl (teq (rfl : (q2.toInt8.toInt32) = (q2.toInt8.toInt32))).2 ?_
            refine iN_ X579 hx hby at_404 rfl ?_
            refine XS.iconst X579.here hx rfl (hb hby at_405) ?_
            exact k_)
          have P620 := oS (T579.setTop (mkF m 421 #[.val (.long pa), .second, i_ pb, i_ 3, i_ q0, i_ q1, i_ q2, i_ q3, i_ q4, i_ 4, r_ b46, r_ b186, r_ xq579] [(.int 5), (.int 3)])) P619 (by
            intro _ k_
            refine cY_ X579 hx hby at_406 (pc := 406) (pc' := 419) (tlt (by decide : (3 : Int32) < (4 : Int32))).1 (by decide) ?_
            refine iN_ X579 hx hby at_419 rfl ?_
            refine XS.iconst X579.here hx rfl (hb hby at_420) ?_
            exact k_)
          have P621 := oS (T579.setTop (mkF m 439 #[.val (.long pa), .second, i_ pb, i_ 3, i_ q0, i_ q1, i_ q2, i_ q3, i_ q4, i_ 4, r_ b46, r_ b186, r_ xq579] [(.int 1)])) P620 (by
            intro _ k_
            refine cY_ X579 hx hby at_421 (pc := 421) (pc' := 434) (tlt (by decide : (3 : Int32) < (5 : Int32))).1 (by decide) ?_
            refine XS.iconst X579.here hx rfl (hb hby at_434) ?_
            refine gt_ X579 hx hby at_435 (pc := 435) (pc' := 439) (by decide) ?_
            exact k_)
          obtain ⟨fs, hr, hrun, hended, hW, hsame⟩ := X579.leave (v := some (.int 1)) (fun h => by rw [Bd.returns] at h; cases h)
          refine ⟨_, _, P621 _ ?_, hrun, hended, _, _, rfl, ?_, wide ⟨⟨_, rfl⟩, hW, hsame.mono (by decide) (by decide)⟩⟩
          · exact retN X579 hx (t := .boolean) Bd.returns (by simp) (hb hby at_439) hr
          · show Q0 Z _ _ _ _ _ _ _ _ _ _ _ _ h0 n0 _ T579.heap _
            exact ⟨rfl, N579⟩
      · have P622 := oS (T251.setTop (mkF m 282 #[.val (.long pa), .second, i_ pb, i_ nn, i_ q0, i_ q1, i_ q2, i_ q3, i_ q4, i_ zl, r_ b46, r_ b186, u_] [])) P265 (by
          intro _ k_
          refine cY_ X251 hx hby at_268 (pc := 268) (pc' := 282) (flt c3_).2.2.2 (by decide) ?_
          exact k_)
        obtain ⟨rfl, rfl⟩ := own_q3 hcase c2_ c3_
        have P623 := own_to (C := T251.setTop (mkF m 282 #[.val (.long pa), .second, i_ pb, i_ 2, i_ q0, i_ q1, i_ q2, i_ q3, i_ q4, i_ 3, r_ b46, r_ b186, u_] [])) P622
        have P624 := oS (T251.setTop (mkF m 285 #[.val (.long pa), .second, i_ pb, i_ 2, i_ q0, i_ q1, i_ q2, i_ q3, i_ q4, i_ 3, r_ b46, r_ b186, u_] [(.int 4), (.int 3)])) P623 (by
          intro _ k_
          refine il_ X251 hx hby at_282 rfl ?_
          refine XS.iconst X251.here hx rfl (hb hby at_284) ?_
          exact k_)
        have P625 := oS (T251.setTop (mkF m 302 #[.val (.long pa), .second, i_ pb, i_ 2, i_ q0, i_ q1, i_ q2, i_ q3, i_ q4, i_ 3, r_ b46, r_ b186, u_] [(.int 5), (.int 3)])) P624 (by
          intro _ k_
          refine cY_ X251 hx hby at_285 (pc := 285) (pc' := 299) (flt (by decide : ¬ ((4 : Int32) < (3 : Int32)))).2.2.2 (by decide) ?_
          refine il_ X251 hx hby at_299 rfl ?_
          refine XS.iconst X251.here hx rfl (hb hby at_301) ?_
          exact k_)
        have P626 := oS (T251.setTop (mkF m 320 #[.val (.long pa), .second, i_ pb, i_ 2, i_ q0, i_ q1, i_ q2, i_ q3, i_ q4, i_ 3, r_ b46, r_ b186, u_] [(.int 6), (.int 3)])) P625 (by
          intro _ k_
          refine cY_ X251 hx hby at_302 (pc := 302) (pc' := 316) (flt (by decide : ¬ ((5 : Int32) < (3 : Int32)))).2.2.2 (by decide) ?_
          refine il_ X251 hx hby at_316 rfl ?_
          refine XS.bipush X251.here hx rfl (hb hby at_318) ?_
          exact k_)
        have P627 := oS (T251.setTop (mkF m 336 #[.val (.long pa), .second, i_ pb, i_ 2, i_ q0, i_ q1, i_ q2, i_ q3, i_ q4, i_ 3, r_ b46, r_ b186, u_] [])) P626 (by
          intro _ k_
          refine cY_ X251 hx hby at_320 (pc := 320) (pc' := 336) (flt (by decide : ¬ ((6 : Int32) < (3 : Int32)))).2.2.2 (by decide) ?_
          exact k_)
        obtain ⟨T628, h628, X628, e628, E628, A628, D628, -, st628⟩ := newO X251 hx hZ hown (own_w hw 8 rfl) (own_w hw 9 rfl) (own_w hw 10 rfl) e251 (g := (mkF m 336 #[.val (.long pa), .second, i_ pb, i_ 2, i_ q0, i_ q1, i_ q2, i_ q3, i_ q4, i_ 3, r_ b46, r_ b186, u_] [])) rfl (hb hby at_336) (by decide) (by decide)
        obtain ⟨b628, g628⟩ : ∃ z, z = h251.size := ⟨_, rfl⟩
        rw [← g628] at A628 D628 st628
        have ne_de_b628 : de ≠ b628 := Nat.ne_of_lt (Nat.lt_of_lt_of_le f253.lt (Nat.le_of_eq g628.symm))
        have ne_en_b628 : en ≠ b628 := Nat.ne_of_lt (Nat.lt_of_lt_of_le f255.lt (Nat.le_of_eq g628.symm))
        have g_b628 : n0 ≤ b628 := Nat.le_trans Z263 (Nat.le_of_eq g628.symm)
        have f629 := f252.ext E628
        have f630 := f253.ext E628
        have f631 := f254.ext E628
        have f632 := f255.ext E628
        have f633 := f256.ext E628
        have f634 := f257.ext E628
        have f636 := f259.ext E628
        have f637 := f260.ext E628
        have f639 := V251.ext E628
        have Z640 : n0 ≤ h628.size := Nat.le_trans Z263 E628.1
        have f641 : Fld Z h628 b628 "java/lang/String" "coder" "B" (.int 0) := D628 (Or.inr (own_w hw 34 rfl)) (ty := .byte) (by decide)
        have f642 : Fld Z h628 b628 "java/lang/String" "value" "[B" .null := D628 (Or.inr (own_w hw 36 rfl)) (ty := (.array .byte)) (by decide)
        have P643 := oS (T628.setTop (mkF m 339 #[.val (.long pa), .second, i_ pb, i_ 2, i_ q0, i_ q1, i_ q2, i_ q3, i_ q4, i_ 3, r_ b46, r_ b186, u_] [(.ref b628)])) P627 (fun t_ k_ => st628 t_ k_)
        have P644 := oS (T628.setTop (mkF m 342 #[.val (.long pa), .second, i_ pb, i_ 2, i_ q0, i_ q1, i_ q2, i_ q3, i_ q4, i_ 3, r_ b46, r_ b186, u_] [(.ref b186), (.ref b628), (.ref b628)])) P643 (by
          intro _ k_
          refine XS.dup X628.here hx rfl (hb hby at_339) rfl rfl ?_
          refine a_ X628 hx hby at_340 rfl rfl ?_
          exact k_)
        obtain ⟨_, T645, L645, X645, hQ645, P645c⟩ := own_cI (W := 1) (rm_initC l Z a0 hw [] b628 b186 k186 (3 : Int32) [own_ch s0, own_ch s1, own_ch s2] cs h628 n0 Z640 f629 Scs hcs A628 f642 f641 g_b628 f639 ⟨(own_sign (own_s63 HH).1).1, (own_sign (own_s63 HH).2.1).1, (own_sign (own_s63 HH).2.2.1).1, trivial⟩ rfl (by decide) (by decide) (by decide) (by decide +kernel)) X628 hx hZ (fun _ _ => trivial) hown rfl (own_w hw 11 rfl) (own_w hw 12 rfl) (own_w hw 10 rfl) (own_w hw 13 rfl) (by decide) P644 hml rfl [(.ref b186)] [(.ref b628)] rfl rfl rfl pd25 rfl (hb hby at_342) e628 (by decide)
        obtain ⟨x645, kk645, rfl, N645q, K645, f646, f647, f648, f649, f650, f651⟩ := hQ645
        have N645 := Fr.app N251 N645q
        have f652 := f629.keep K645 (allS g_b628 all0)
        have f653 := f630.keep K645 (ninS ne_de_b628 nin0)
        have f654 := f631.keep K645 (ninS ne_de_b628 nin0)
        have f655 := f632.keep K645 (ninS ne_en_b628 nin0)
        have f656 := f633.keep K645 (ninS ne_en_b628 nin0)
        have f657 := f634.keep K645 (ninS ne_en_b628 nin0)
        have f659 := f636.keep K645
        have f660 := f637.keep K645
        have Z666 : n0 ≤ T645.heap.size := Nat.le_trans Z640 K645.1
        have P667 := own_to (C := T645.setTop (mkF m 345 #[.val (.long pa), .second, i_ pb, i_ 2, i_ q0, i_ q1, i_ q2, i_ q3, i_ q4, i_ 3, r_ b46, r_ b186, u_] [(.ref b628)])) P645c
        have f649_ : Arv Z T645.heap x645 kk645 .byte (3 : Int32) ([own_sg s0, own_sg s1, own_sg s2].map Value.int) (.int 0) := f649
        have Hd0 : HD0 l Z (3 : Int32) (2 : Int32) ([own_sg s0, own_sg s1, own_sg s2].map Value.int) [(.int (q0.toInt8.toInt32)), (.int (q1.toInt8.toInt32))] := (rm_dec0_3 l Z a0 hw (own_sg s0) (own_sg s1) (own_sg s2) s0 s1 s2 (q0.toInt8.toInt32) (q1.toInt8.toInt32) rdt kdt Sdt Vdt (own_sign (own_s63 HH).1).2.1 (own_sign (own_s63 HH).1).2.2.1 (own_sign (own_s63 HH).1).2.2.2.1 (own_sign (own_s63 HH).2.1).2.1 (own_sign (own_s63 HH).2.1).2.2.1 (own_sign (own_s63 HH).2.1).2.2.2.1 (own_sign (own_s63 HH).2.2.1).2.1 (own_sign (own_s63 HH).2.2.1).2.2.1 (own_sign (own_s63 HH).2.2.1).2.2.2.1 (own_r30 HH) (own_r31 HH))
        have He0 : HE0 l Z (2 : Int32) (3 : Int32) [(.int (q0.toInt8.toInt32)), (.int (q1.toInt8.toInt32))] ([own_sg s0, own_sg s1, own_sg s2].map Value.int) := (rm_enc0_2 l Z a0 hw (q0.toInt8.toInt32) (q1.toInt8.toInt32) (own_ch s0) (own_ch s1) (own_ch s2) (own_sg s0) (own_sg s1) (own_sg s2) ret_ ket Set Vet (own_rk (own_i0 HH) (own_sign (own_s63 HH).1).2.2.2.2.2.1) (own_rv (own_i0 HH) (own_sign (own_s63 HH).1).2.2.2.2.2.2) rfl (own_rk (own_i1b HH) (own_sign (own_s63 HH).2.1).2.2.2.2.2.1) (own_rv (own_i1b HH) (own_sign (own_s63 HH).2.1).2.2.2.2.2.2) rfl (own_rk (own_i2a HH (own_p0 hv19 (by decide))) (own_sign (own_s63 HH).2.2.1).2.2.2.2.2.1) (own_rv (own_i2a HH (own_p0 hv19 (by decide))) (own_sign (own_s63 HH).2.2.1).2.2.2.2.2.2) rfl)
        obtain ⟨_, T668, L668, X668, hQ668, P668c⟩ := own_cSH (W := 0) (rm_buD_0 l Z a0 hw [] b628 de x645 kk645 (3 : Int32) (2 : Int32) [own_sg s0, own_sg s1, own_sg s2] [(.int (q0.toInt8.toInt32)), (.int (q1.toInt8.toInt32))] rdt riso rutf cs en (0 : Int32) fm T645.heap n0 Z666 f652 Scs hcs Siso Sutf nci Sdt f660 f653 f654 f646 f647 f648 f649_ f651 (by decide) (fun _ => ⟨by decide, by decide, own_sg s2, rfl, (own_sign (own_s63 HH).2.2.1).2.2.2.2.1⟩) (by decide +kernel) (by decide) (by decide) Hd0 Sfm hfm f659 f655 f656 f657 (by decide +kernel) (by decide) He0 (by decide) (by decide) (by decide) (by decide) Senc Sdec) X645 hx hZ (fun _ _ => trivial) hown (own_w hw 37 rfl) (own_w hw 38 rfl) (own_w hw 39 rfl) (own_w hw 40 rfl) (by decide) P667 hml rfl [(.ref b628)] [] rfl rfl rfl pd20 rfl (hb hby at_345) (rfl : T645.heap = _) (by decide)
        obtain ⟨xq668, kk668, rfl, N668q, K668, f669, f670⟩ := hQ668
        have N668 := Fr.app N645 N668q
        have P688 := own_to (C := T668.setTop (mkF m 348 #[.val (.long pa), .second, i_ pb, i_ 2, i_ q0, i_ q1, i_ q2, i_ q3, i_ q4, i_ 3, r_ b46, r_ b186, u_] [(.ref xq668)])) P668c
        have P689 := oS (T668.setTop (mkF m 352 #[.val (.long pa), .second, i_ pb, i_ 2, i_ q0, i_ q1, i_ q2, i_ q3, i_ q4, i_ 3, r_ b46, r_ b186, r_ xq668] [(.ref xq668)])) P688 (by
          intro _ k_
          refine XS.astore X668.here hx rfl (hb hby at_348) rfl rfl (l' := #[.val (.long pa), .second, i_ pb, i_ 2, i_ q0, i_ q1, i_ q2, i_ q3, i_ q4, i_ 3, r_ b46, r_ b186, r_ xq668]) rfl ?_
          refine a_ X668 hx hby at_350 rfl rfl ?_
          exact k_)
        obtain ⟨cl690, Ar690, q690, S690, M690, H690, G690⟩ := id f670
        have P691 := oS (T668.setTop (mkF m 353 #[.val (.long pa), .second, i_ pb, i_ 2, i_ q0, i_ q1, i_ q2, i_ q3, i_ q4, i_ 3, r_ b46, r_ b186, r_ xq668] [(.int 2)])) P689 (by
          intro _ k_
          refine X668.arraylength hx Ar690.1 (State.isArrayOf_alike hZ.alike Ar690.2.1) (g := (mkF m 352 #[.val (.long pa), .second, i_ pb, i_ 2, i_ q0, i_ q1, i_ q2, i_ q3, i_ q4, i_ 3, r_ b46, r_ b186, r_ xq668] [(.ref xq668)])) rfl rfl (hb hby at_352) _ ?_
          rw [len_of S690 M690]
          exact k_)
        have P692 := oS (T668.setTop (mkF m 354 #[.val (.long pa), .second, i_ pb, i_ 2, i_ q0, i_ q1, i_ q2, i_ q3, i_ q4, i_ 3, r_ b46, r_ b186, r_ xq668] [(.int 2), (.int 2)])) P691 (by
          intro _ k_
          refine iN_ X668 hx hby at_353 rfl ?_
          exact k_)
        have P693 := oS (T668.setTop (mkF m 361 #[.val (.long pa), .second, i_ pb, i_ 2, i_ q0, i_ q1, i_ q2, i_ q3, i_ q4, i_ 3, r_ b46, r_ b186, r_ xq668] [(.int 1), (.int 2)])) P692 (by
          intro _ k_
          refine cY_ X668 hx hby at_354 (pc := 354) (pc' := 359) (teq (by decide : (2 : Int32) = (2 : Int32))).1 (by decide) ?_
          refine iN_ X668 hx hby at_359 rfl ?_
          refine XS.iconst X668.here hx rfl (hb hby at_360) ?_
          exact k_)
        have P694 := oS (T668.setTop (mkF m 367 #[.val (.long pa), .second, i_ pb, i_ 2, i_ q0, i_ q1, i_ q2, i_ q3, i_ q4, i_ 3, r_ b46, r_ b186, r_ xq668] [(.int 0), (.ref xq668)])) P693 (by
          intro _ k_
          refine XS.icmpNo X668.here hx rfl (hb hby at_361) rfl (flt (by decide : ¬ ((2 : Int32) < (1 : Int32)))).1 ?_
          refine a_ X668 hx hby at_364 rfl rfl ?_
          refine XS.iconst X668.here hx rfl (hb hby at_366) ?_
          exact k_)
        obtain ⟨cl695, Ar695, q695, S695, M695, H695, G695⟩ := id f670
        have hin695 := inb_of S695 (by decide : ¬ (0 : Int32) < 0 ∧ (0 : Int32) < (2 : Int32))
        have hat695 := Has.at H695 hin695 (v := .int (q0.toInt8.toInt32)) rfl
        have P696 := oS (T668.setTop (mkF m 368 #[.val (.long pa), .second, i_ pb, i_ 2, i_ q0, i_ q1, i_ q2, i_ q3, i_ q4, i_ 3, r_ b46, r_ b186, r_ xq668] [(.int (q0.toInt8.toInt32))])) P694 (by
          intro _ k_
          refine X668.baloadBytes hx (j := (0 : Int32)) (v := (.int (q0.toInt8.toInt32))) Ar695.1 (State.isArrayOf_alike hZ.alike Ar695.2.1) Ar695.2.2 hin695 hat695 (g := (mkF m 367 #[.val (.long pa), .second, i_ pb, i_ 2, i_ q0, i_ q1, i_ q2, i_ q3, i_ q4, i_ 3, r_ b46, r_ b186, r_ xq668] [(.int 0), (.ref xq668)])) rfl rfl (hb hby at_367) _ ?_
          exact k_)
        have P697 := oS (T668.setTop (mkF m 371 #[.val (.long pa), .second, i_ pb, i_ 2, i_ q0, i_ q1, i_ q2, i_ q3, i_ q4, i_ 3, r_ b46, r_ b186, r_ xq668] [(.int (q0.toInt8.toInt32)), (.int (q0.toInt8.toInt32))])) P696 (by
          intro _ k_
          refine il_ X668 hx hby at_368 rfl ?_
          refine XS.i2b X668.here hx rfl (hb hby at_370) rfl ?_
          exact k_)
        have P698 := oS (T668.setTop (mkF m 376 #[.val (.long pa), .second, i_ pb, i_ 2, i_ q0, i_ q1, i_ q2, i_ q3, i_ q4, i_ 3, r_ b46, r_ b186, r_ xq668] [(.int 2), (.int 2)])) P697 (by
          intro _ k_
          refine XS.icmpNo X668.here hx rfl (hb hby at_371) rfl (teq (rfl : (q0.toInt8.toInt32) = (q0.toInt8.toInt32))).2 ?_
          refine iN_ X668 hx hby at_374 rfl ?_
          refine XS.iconst X668.here hx rfl (hb hby at_375) ?_
          exact k_)
        have P699 := oS (T668.setTop (mkF m 382 #[.val (.long pa), .second, i_ pb, i_ 2, i_ q0, i_ q1, i_ q2, i_ q3, i_ q4, i_ 3, r_ b46, r_ b186, r_ xq668] [(.int 1), (.ref xq668)])) P698 (by
          intro _ k_
          refine XS.icmpNo X668.here hx rfl (hb hby at_376) rfl (flt (by decide : ¬ ((2 : Int32) < (2 : Int32)))).1 ?_
          refine a_ X668 hx hby at_379 rfl rfl ?_
          refine XS.iconst X668.here hx rfl (hb hby at_381) ?_
          exact k_)
        obtain ⟨cl700, Ar700, q700, S700, M700, H700, G700⟩ := id f670
        have hin700 := inb_of S700 (by decide : ¬ (1 : Int32) < 0 ∧ (1 : Int32) < (2 : Int32))
        have hat700 := Has.at H700 hin700 (v := .int (q1.toInt8.toInt32)) rfl
        have P701 := oS (T668.setTop (mkF m 383 #[.val (.long pa), .second, i_ pb, i_ 2, i_ q0, i_ q1, i_ q2, i_ q3, i_ q4, i_ 3, r_ b46, r_ b186, r_ xq668] [(.int (q1.toInt8.toInt32))])) P699 (by
          intro _ k_
          refine X668.baloadBytes hx (j := (1 : Int32)) (v := (.int (q1.toInt8.toInt32))) Ar700.1 (State.isArrayOf_alike hZ.alike Ar700.2.1) Ar700.2.2 hin700 hat700 (g := (mkF m 382 #[.val (.long pa), .second, i_ pb, i_ 2, i_ q0, i_ q1, i_ q2, i_ q3, i_ q4, i_ 3, r_ b46, r_ b186, r_ xq668] [(.int 1), (.ref xq668)])) rfl rfl (hb hby at_382) _ ?_
          exact k_)
        have P702 := oS (T668.setTop (mkF m 386 #[.val (.long pa), .second, i_ pb, i_ 2, i_ q0, i_ q1, i_ q2, i_ q3, i_ q4, i_ 3, r_ b46, r_ b186, r_ xq668] [(.int (q1.toInt8.toInt32)), (.int (q1.toInt8.toInt32))])) P701 (by
          intro _ k_
          refine il_ X668 hx hby at_383 rfl ?_
          refine XS.i2b X668.here hx rfl (hb hby at_385) rfl ?_
          exact k_)
        have P703 := oS (T668.setTop (mkF m 391 #[.val (.long pa), .second, i_ pb, i_ 2, i_ q0, i_ q1, i_ q2, i_ q3, i_ q4, i_ 3, r_ b46, r_ b186, r_ xq668] [(.int 3), (.int 2)])) P702 (by
          intro _ k_
          refine XS.icmpNo X668.here hx rfl (hb hby at_386) rfl (teq (rfl : (q1.toInt8.toInt32) = (q1.toInt8.toInt32))).2 ?_
          refine iN_ X668 hx hby at_389 rfl ?_
          refine XS.iconst X668.here hx rfl (hb hby at_390) ?_
          exact k_)
        have P704 := oS (T668.setTop (mkF m 406 #[.val (.long pa), .second, i_ pb, i_ 2, i_ q0, i_ q1, i_ q2, i_ q3, i_ q4, i_ 3, r_ b46, r_ b186, r_ xq668] [(.int 4), (.int 2)])) P703 (by
          intro _ k_
          refine cY_ X668 hx hby at_391 (pc := 391) (pc' := 404) (tlt (by decide : (2 : Int32) < (3 : Int32))).1 (by decide) ?_
          refine iN_ X668 hx hby at_404 rfl ?_
          refine XS.iconst X668.here hx rfl (hb hby at_405) ?_
          exact k_)
        have P705 := oS (T668.setTop (mkF m 421 #[.val (.long pa), .second, i_ pb, i_ 2, i_ q0, i_ q1, i_ q2, i_ q3, i_ q4, i_ 3, r_ b46, r_ b186, r_ xq668] [(.int 5), (.int 2)])) P704 (by
          intro _ k_
          refine cY_ X668 hx hby at_406 (pc := 406) (pc' := 419) (tlt (by decide : (2 : Int32) < (4 : Int32))).1 (by decide) ?_
          refine iN_ X668 hx hby at_419 rfl ?_
          refine XS.iconst X668.here hx rfl (hb hby at_420) ?_
          exact k_)
        have P706 := oS (T668.setTop (mkF m 439 #[.val (.long pa), .second, i_ pb, i_ 2, i_ q0, i_ q1, i_ q2, i_ q3, i_ q4, i_ 3, r_ b46, r_ b186, r_ xq668] [(.int 1)])) P705 (by
          intro _ k_
          refine cY_ X668 hx hby at_421 (pc := 421) (pc' := 434) (tlt (by decide : (2 : Int32) < (5 : Int32))).1 (by decide) ?_
          refine XS.iconst X668.here hx rfl (hb hby at_434) ?_
          refine gt_ X668 hx hby at_435 (pc := 435) (pc' := 439) (by decide) ?_
          exact k_)
        obtain ⟨fs, hr, hrun, hended, hW, hsame⟩ := X668.leave (v := some (.int 1)) (fun h => by rw [Bd.returns] at h; cases h)
        refine ⟨_, _, P706 _ ?_, hrun, hended, _, _, rfl, ?_, wide ⟨⟨_, rfl⟩, hW, hsame.mono (by decide) (by decide)⟩⟩
        · exact retN X668 hx (t := .boolean) Bd.returns (by simp) (hb hby at_439) hr
        · show Q0 Z _ _ _ _ _ _ _ _ _ _ _ _ h0 n0 _ T668.heap _
          exact ⟨rfl, N668⟩
    · have P707 := oS (T229.setTop (mkF m 265 #[.val (.long pa), .second, i_ pb, i_ nn, i_ q0, i_ q1, i_ q2, i_ q3, i_ q4, i_ zl, r_ b46, r_ b186, u_] [])) P243 (by
        intro _ k_
        refine cY_ X229 hx hby at_251 (pc := 251) (pc' := 265) (flt c2_).2.2.2 (by decide) ?_
        exact k_)
      obtain ⟨rfl, rfl⟩ := own_q2 hcase c0_ c2_
      have P708 := own_to (C := T229.setTop (mkF m 265 #[.val (.long pa), .second, i_ pb, i_ 1, i_ q0, i_ q1, i_ q2, i_ q3, i_ q4, i_ 2, r_ b46, r_ b186, u_] [])) P707
      have P709 := oS (T229.setTop (mkF m 268 #[.val (.long pa), .second, i_ pb, i_ 1, i_ q0, i_ q1, i_ q2, i_ q3, i_ q4, i_ 2, r_ b46, r_ b186, u_] [(.int 3), (.int 2)])) P708 (by
        intro _ k_
        refine il_ X229 hx hby at_265 rfl ?_
        refine XS.iconst X229.here hx rfl (hb hby at_267) ?_
        exact k_)
      have P710 := oS (T229.setTop (mkF m 285 #[.val (.long pa), .second, i_ pb, i_ 1, i_ q0, i_ q1, i_ q2, i_ q3, i_ q4, i_ 2, r_ b46, r_ b186, u_] [(.int 4), (.int 2)])) P709 (by
        intro _ k_
        refine cY_ X229 hx hby at_268 (pc := 268) (pc' := 282) (flt (by decide : ¬ ((3 : Int32) < (2 : Int32)))).2.2.2 (by decide) ?_
        refine il_ X229 hx hby at_282 rfl ?_
        refine XS.iconst X229.here hx rfl (hb hby at_284) ?_
        exact k_)
      have P711 := oS (T229.setTop (mkF m 302 #[.val (.long pa), .second, i_ pb, i_ 1, i_ q0, i_ q1, i_ q2, i_ q3, i_ q4, i_ 2, r_ b46, r_ b186, u_] [(.int 5), (.int 2)])) P710 (by
        intro _ k_
        refine cY_ X229 hx hby at_285 (pc := 285) (pc' := 299) (flt (by decide : ¬ ((4 : Int32) < (2 : Int32)))).2.2.2 (by decide) ?_
        refine il_ X229 hx hby at_299 rfl ?_
        refine XS.iconst X229.here hx rfl (hb hby at_301) ?_
        exact k_)
      have P712 := oS (T229.setTop (mkF m 320 #[.val (.long pa), .second, i_ pb, i_ 1, i_ q0, i_ q1, i_ q2, i_ q3, i_ q4, i_ 2, r_ b46, r_ b186, u_] [(.int 6), (.int 2)])) P711 (by
        intro _ k_
        refine cY_ X229 hx hby at_302 (pc := 302) (pc' := 316) (flt (by decide : ¬ ((5 : Int32) < (2 : Int32)))).2.2.2 (by decide) ?_
        refine il_ X229 hx hby at_316 rfl ?_
        refine XS.bipush X229.here hx rfl (hb hby at_318) ?_
        exact k_)
      have P713 := oS (T229.setTop (mkF m 336 #[.val (.long pa), .second, i_ pb, i_ 1, i_ q0, i_ q1, i_ q2, i_ q3, i_ q4, i_ 2, r_ b46, r_ b186, u_] [])) P712 (by
        intro _ k_
        refine cY_ X229 hx hby at_320 (pc := 320) (pc' := 336) (flt (by decide : ¬ ((6 : Int32) < (2 : Int32)))).2.2.2 (by decide) ?_
        exact k_)
      obtain ⟨T714, h714, X714, e714, E714, A714, D714, -, st714⟩ := newO X229 hx hZ hown (own_w hw 8 rfl) (own_w hw 9 rfl) (own_w hw 10 rfl) e229 (g := (mkF m 336 #[.val (.long pa), .second, i_ pb, i_ 1, i_ q0, i_ q1, i_ q2, i_ q3, i_ q4, i_ 2, r_ b46, r_ b186, u_] [])) rfl (hb hby at_336) (by decide) (by decide)
      obtain ⟨b714, g714⟩ : ∃ z, z = h229.size := ⟨_, rfl⟩
      rw [← g714] at A714 D714 st714
      have ne_de_b714 : de ≠ b714 := Nat.ne_of_lt (Nat.lt_of_lt_of_le f231.lt (Nat.le_of_eq g714.symm))
      have ne_en_b714 : en ≠ b714 := Nat.ne_of_lt (Nat.lt_of_lt_of_le f233.lt (Nat.le_of_eq g714.symm))
      have g_b714 : n0 ≤ b714 := Nat.le_trans Z241 (Nat.le_of_eq g714.symm)
      have f715 := f230.ext E714
      have f716 := f231.ext E714
      have f717 := f232.ext E714
      have f718 := f233.ext E714
      have f719 := f234.ext E714
      have f720 := f235.ext E714
      have f722 := f237.ext E714
      have f723 := f238.ext E714
      have f725 := V229.ext E714
      have Z726 : n0 ≤ h714.size := Nat.le_trans Z241 E714.1
      have f727 : Fld Z h714 b714 "java/lang/String" "coder" "B" (.int 0) := D714 (Or.inr (own_w hw 34 rfl)) (ty := .byte) (by decide)
      have f728 : Fld Z h714 b714 "java/lang/String" "value" "[B" .null := D714 (Or.inr (own_w hw 36 rfl)) (ty := (.array .byte)) (by decide)
      have P729 := oS (T714.setTop (mkF m 339 #[.val (.long pa), .second, i_ pb, i_ 1, i_ q0, i_ q1, i_ q2, i_ q3, i_ q4, i_ 2, r_ b46, r_ b186, u_] [(.ref b714)])) P713 (fun t_ k_ => st714 t_ k_)
      have P730 := oS (T714.setTop (mkF m 342 #[.val (.long pa), .second, i_ pb, i_ 1, i_ q0, i_ q1, i_ q2, i_ q3, i_ q4, i_ 2, r_ b46, r_ b186, u_] [(.ref b186), (.ref b714), (.ref b714)])) P729 (by
        intro _ k_
        refine XS.dup X714.here hx rfl (hb hby at_339) rfl rfl ?_
        refine a_ X714 hx hby at_340 rfl rfl ?_
        exact k_)
      obtain ⟨_, T731, L731, X731, hQ731, P731c⟩ := own_cI (W := 1) (rm_initC l Z a0 hw [] b714 b186 k186 (2 : Int32) [own_ch s0, own_ch s1] cs h714 n0 Z726 f715 Scs hcs A714 f728 f727 g_b714 f725 ⟨(own_sign (own_s63 HH).1).1, (own_sign (own_s63 HH).2.1).1, trivial⟩ rfl (by decide) (by decide) (by decide) (by decide +kernel)) X714 hx hZ (fun _ _ => trivial) hown rfl (own_w hw 11 rfl) (own_w hw 12 rfl) (own_w hw 10 rfl) (own_w hw 13 rfl) (by decide) P730 hml rfl [(.ref b186)] [(.ref b714)] rfl rfl rfl pd25 rfl (hb hby at_342) e714 (by decide)
      obtain ⟨x731, kk731, rfl, N731q, K731, f732, f733, f734, f735, f736, f737⟩ := hQ731
      have N731 := Fr.app N229 N731q
      have f738 := f715.keep K731 (allS g_b714 all0)
      have f739 := f716.keep K731 (ninS ne_de_b714 nin0)
      have f740 := f717.keep K731 (ninS ne_de_b714 nin0)
      have f741 := f718.keep K731 (ninS ne_en_b714 nin0)
      have f742 := f719.keep K731 (ninS ne_en_b714 nin0)
      have f743 := f720.keep K731 (ninS ne_en_b714 nin0)
      have f745 := f722.keep K731
      have f746 := f723.keep K731
      have Z752 : n0 ≤ T731.heap.size := Nat.le_trans Z726 K731.1
      have P753 := own_to (C := T731.setTop (mkF m 345 #[.val (.long pa), .second, i_ pb, i_ 1, i_ q0, i_ q1, i_ q2, i_ q3, i_ q4, i_ 2, r_ b46, r_ b186, u_] [(.ref b714)])) P731c
      have f735_ : Arv Z T731.heap x731 kk731 .byte (2 : Int32) ([own_sg s0, own_sg s1].map Value.int) (.int 0) := f735
      have Hd0 : HD0 l Z (2 : Int32) (1 : Int32) ([own_sg s0, own_sg s1].map Value.int) [(.int (q0.toInt8.toInt32))] := (rm_dec0_2 l Z a0 hw (own_sg s0) (own_sg s1) s0 s1 (q0.toInt8.toInt32) rdt kdt Sdt Vdt (own_sign (own_s63 HH).1).2.1 (own_sign (own_s63 HH).1).2.2.1 (own_sign (own_s63 HH).1).2.2.2.1 (own_sign (own_s63 HH).2.1).2.1 (own_sign (own_s63 HH).2.1).2.2.1 (own_sign (own_s63 HH).2.1).2.2.2.1 (own_r2 HH))
      have He0 : HE0 l Z (1 : Int32) (2 : Int32) [(.int (q0.toInt8.toInt32))] ([own_sg s0, own_sg s1].map Value.int) := (rm_enc0_1 l Z a0 hw (q0.toInt8.toInt32) (own_ch s0) (own_ch s1) (own_sg s0) (own_sg s1) ret_ ket Set Vet (own_rk (own_i0 HH) (own_sign (own_s63 HH).1).2.2.2.2.2.1) (own_rv (own_i0 HH) (own_sign (own_s63 HH).1).2.2.2.2.2.2) rfl (own_rk (own_i1a HH (own_p0 hv11 (by decide))) (own_sign (own_s63 HH).2.1).2.2.2.2.2.1) (own_rv (own_i1a HH (own_p0 hv11 (by decide))) (own_sign (own_s63 HH).2.1).2.2.2.2.2.2) rfl)
      obtain ⟨_, T754, L754, X754, hQ754, P754c⟩ := own_cSH (W := 0) (rm_buD_0 l Z a0 hw [] b714 de x731 kk731 (2 : Int32) (1 : Int32) [own_sg s0, own_sg s1] [(.int (q0.toInt8.toInt32))] rdt riso rutf cs en (0 : Int32) fm T731.heap n0 Z752 f738 Scs hcs Siso Sutf nci Sdt f746 f739 f740 f732 f733 f734 f735_ f737 (by decide) (fun _ => ⟨by decide, by decide, own_sg s1, rfl, (own_sign (own_s63 HH).2.1).2.2.2.2.1⟩) (by decide +kernel) (by decide) (by decide) Hd0 Sfm hfm f745 f741 f742 f743 (by decide +kernel) (by decide) He0 (by decide) (by decide) (by decide) (by decide) Senc Sdec) X731 hx hZ (fun _ _ => trivial) hown (own_w hw 37 rfl) (own_w hw 38 rfl) (own_w hw 39 rfl) (own_w hw 40 rfl) (by decide) P753 hml rfl [(.ref b714)] [] rfl rfl rfl pd20 rfl (hb hby at_345) (rfl : T731.heap = _) (by decide)
      obtain ⟨xq754, kk754, rfl, N754q, K754, f755, f756⟩ := hQ754
      have N754 := Fr.app N731 N754q
      have P774 := own_to (C := T754.setTop (mkF m 348 #[.val (.long pa), .second, i_ pb, i_ 1, i_ q0, i_ q1, i_ q2, i_ q3, i_ q4, i_ 2, r_ b46, r_ b186, u_] [(.ref xq754)])) P754c
      have P775 := oS (T754.setTop (mkF m 352 #[.val (.long pa), .second, i_ pb, i_ 1, i_ q0, i_ q1, i_ q2, i_ q3, i_ q4, i_ 2, r_ b46, r_ b186, r_ xq754] [(.ref xq754)])) P774 (by
        intro _ k_
        refine XS.astore X754.here hx rfl (hb hby at_348) rfl rfl (l' := #[.val (.long pa), .second, i_ pb, i_ 1, i_ q0, i_ q1, i_ q2, i_ q3, i_ q4, i_ 2, r_ b46, r_ b186, r_ xq754]) rfl ?_
        refine a_ X754 hx hby at_350 rfl rfl ?_
        exact k_)
      obtain ⟨cl776, Ar776, q776, S776, M776, H776, G776⟩ := id f756
      have P777 := oS (T754.setTop (mkF m 353 #[.val (.long pa), .second, i_ pb, i_ 1, i_ q0, i_ q1, i_ q2, i_ q3, i_ q4, i_ 2, r_ b46, r_ b186, r_ xq754] [(.int 1)])) P775 (by
        intro _ k_
        refine X754.arraylength hx Ar776.1 (State.isArrayOf_alike hZ.alike Ar776.2.1) (g := (mkF m 352 #[.val (.long pa), .second, i_ pb, i_ 1, i_ q0, i_ q1, i_ q2, i_ q3, i_ q4, i_ 2, r_ b46, r_ b186, r_ xq754] [(.ref xq754)])) rfl rfl (hb hby at_352) _ ?_
        rw [len_of S776 M776]
        exact k_)
      have P778 := oS (T754.setTop (mkF m 354 #[.val (.long pa), .second, i_ pb, i_ 1, i_ q0, i_ q1, i_ q2, i_ q3, i_ q4, i_ 2, r_ b46, r_ b186, r_ xq754] [(.int 1), (.int 1)])) P777 (by
        intro _ k_
        refine iN_ X754 hx hby at_353 rfl ?_
        exact k_)
      have P779 := oS (T754.setTop (mkF m 361 #[.val (.long pa), .second, i_ pb, i_ 1, i_ q0, i_ q1, i_ q2, i_ q3, i_ q4, i_ 2, r_ b46, r_ b186, r_ xq754] [(.int 1), (.int 1)])) P778 (by
        intro _ k_
        refine cY_ X754 hx hby at_354 (pc := 354) (pc' := 359) (teq (by decide : (1 : Int32) = (1 : Int32))).1 (by decide) ?_
        refine iN_ X754 hx hby at_359 rfl ?_
        refine XS.iconst X754.here hx rfl (hb hby at_360) ?_
        exact k_)
      have P780 := oS (T754.setTop (mkF m 367 #[.val (.long pa), .second, i_ pb, i_ 1, i_ q0, i_ q1, i_ q2, i_ q3, i_ q4, i_ 2, r_ b46, r_ b186, r_ xq754] [(.int 0), (.ref xq754)])) P779 (by
        intro _ k_
        refine XS.icmpNo X754.here hx rfl (hb hby at_361) rfl (flt (by decide : ¬ ((1 : Int32) < (1 : Int32)))).1 ?_
        refine a_ X754 hx hby at_364 rfl rfl ?_
        refine XS.iconst X754.here hx rfl (hb hby at_366) ?_
        exact k_)
      obtain ⟨cl781, Ar781, q781, S781, M781, H781, G781⟩ := id f756
      have hin781 := inb_of S781 (by decide : ¬ (0 : Int32) < 0 ∧ (0 : Int32) < (1 : Int32))
      have hat781 := Has.at H781 hin781 (v := .int (q0.toInt8.toInt32)) rfl
      have P782 := oS (T754.setTop (mkF m 368 #[.val (.long pa), .second, i_ pb, i_ 1, i_ q0, i_ q1, i_ q2, i_ q3, i_ q4, i_ 2, r_ b46, r_ b186, r_ xq754] [(.int (q0.toInt8.toInt32))])) P780 (by
        intro _ k_
        refine X754.baloadBytes hx (j := (0 : Int32)) (v := (.int (q0.toInt8.toInt32))) Ar781.1 (State.isArrayOf_alike hZ.alike Ar781.2.1) Ar781.2.2 hin781 hat781 (g := (mkF m 367 #[.val (.long pa), .second, i_ pb, i_ 1, i_ q0, i_ q1, i_ q2, i_ q3, i_ q4, i_ 2, r_ b46, r_ b186, r_ xq754] [(.int 0), (.ref xq754)])) rfl rfl (hb hby at_367) _ ?_
        exact k_)
      have P783 := oS (T754.setTop (mkF m 371 #[.val (.long pa), .second, i_ pb, i_ 1, i_ q0, i_ q1, i_ q2, i_ q3, i_ q4, i_ 2, r_ b46, r_ b186, r_ xq754] [(.int (q0.toInt8.toInt32)), (.int (q0.toInt8.toInt32))])) P782 (by
        intro _ k_
        refine il_ X754 hx hby at_368 rfl ?_
        refine XS.i2b X754.here hx rfl (hb hby at_370) rfl ?_
        exact k_)
      have P784 := oS (T754.setTop (mkF m 376 #[.val (.long pa), .second, i_ pb, i_ 1, i_ q0, i_ q1, i_ q2, i_ q3, i_ q4, i_ 2, r_ b46, r_ b186, r_ xq754] [(.int 2), (.int 1)])) P783 (by
        intro _ k_
        refine XS.icmpNo X754.here hx rfl (hb hby at_371) rfl (teq (rfl : (q0.toInt8.toInt32) = (q0.toInt8.toInt32))).2 ?_
        refine iN_ X754 hx hby at_374 rfl ?_
        refine XS.iconst X754.here hx rfl (hb hby at_375) ?_
        exact k_)
      have P785 := oS (T754.setTop (mkF m 391 #[.val (.long pa), .second, i_ pb, i_ 1, i_ q0, i_ q1, i_ q2, i_ q3, i_ q4, i_ 2, r_ b46, r_ b186, r_ xq754] [(.int 3), (.int 1)])) P784 (by
        intro _ k_
        refine cY_ X754 hx hby at_376 (pc := 376) (pc' := 389) (tlt (by decide : (1 : Int32) < (2 : Int32))).1 (by decide) ?_
        refine iN_ X754 hx hby at_389 rfl ?_
        refine XS.iconst X754.here hx rfl (hb hby at_390) ?_
        exact k_)
      have P786 := oS (T754.setTop (mkF m 406 #[.val (.long pa), .second, i_ pb, i_ 1, i_ q0, i_ q1, i_ q2, i_ q3, i_ q4, i_ 2, r_ b46, r_ b186, r_ xq754] [(.int 4), (.int 1)])) P785 (by
        intro _ k_
        refine cY_ X754 hx hby at_391 (pc := 391) (pc' := 404) (tlt (by decide : (1 : Int32) < (3 : Int32))).1 (by decide) ?_
        refine iN_ X754 hx hby at_404 rfl ?_
        refine XS.iconst X754.here hx rfl (hb hby at_405) ?_
        exact k_)
      have P787 := oS (T754.setTop (mkF m 421 #[.val (.long pa), .second, i_ pb, i_ 1, i_ q0, i_ q1, i_ q2, i_ q3, i_ q4, i_ 2, r_ b46, r_ b186, r_ xq754] [(.int 5), (.int 1)])) P786 (by
        intro _ k_
        refine cY_ X754 hx hby at_406 (pc := 406) (pc' := 419) (tlt (by decide : (1 : Int32) < (4 : Int32))).1 (by decide) ?_
        refine iN_ X754 hx hby at_419 rfl ?_
        refine XS.iconst X754.here hx rfl (hb hby at_420) ?_
        exact k_)
      have P788 := oS (T754.setTop (mkF m 439 #[.val (.long pa), .second, i_ pb, i_ 1, i_ q0, i_ q1, i_ q2, i_ q3, i_ q4, i_ 2, r_ b46, r_ b186, r_ xq754] [(.int 1)])) P787 (by
        intro _ k_
        refine cY_ X754 hx hby at_421 (pc := 421) (pc' := 434) (tlt (by decide : (1 : Int32) < (5 : Int32))).1 (by decide) ?_
        refine XS.iconst X754.here hx rfl (hb hby at_434) ?_
        refine gt_ X754 hx hby at_435 (pc := 435) (pc' := 439) (by decide) ?_
        exact k_)
      obtain ⟨fs, hr, hrun, hended, hW, hsame⟩ := X754.leave (v := some (.int 1)) (fun h => by rw [Bd.returns] at h; cases h)
      refine ⟨_, _, P788 _ ?_, hrun, hended, _, _, rfl, ?_, wide ⟨⟨_, rfl⟩, hW, hsame.mono (by decide) (by decide)⟩⟩
      · exact retN X754 hx (t := .boolean) Bd.returns (by simp) (hb hby at_439) hr
      · show Q0 Z _ _ _ _ _ _ _ _ _ _ _ _ h0 n0 _ T754.heap _
        exact ⟨rfl, N754⟩
  · have P789 := oS (T186.setTop (mkF m 231 #[.val (.long pa), .second, i_ pb, i_ nn, i_ q0, i_ q1, i_ q2, i_ q3, i_ q4, i_ zl, r_ b46, r_ b186, u_] [])) P199 (by
      intro _ k_
      refine fY_ X186 hx hby at_217 (pc := 217) (pc' := 231) ((if0 _ _).trans (flt c0_).2.2.2) (by decide) ?_
      exact k_)
    obtain ⟨rfl, rfl⟩ := own_q0 hcase c0_
    have P790 := own_to (C := T186.setTop (mkF m 231 #[.val (.long pa), .second, i_ pb, i_ 0, i_ q0, i_ q1, i_ q2, i_ q3, i_ q4, i_ 0, r_ b46, r_ b186, u_] [])) P789
    have P791 := oS (T186.setTop (mkF m 234 #[.val (.long pa), .second, i_ pb, i_ 0, i_ q0, i_ q1, i_ q2, i_ q3, i_ q4, i_ 0, r_ b46, r_ b186, u_] [(.int 1), (.int 0)])) P790 (by
      intro _ k_
      refine il_ X186 hx hby at_231 rfl ?_
      refine XS.iconst X186.here hx rfl (hb hby at_233) ?_
      exact k_)
    have P792 := oS (T186.setTop (mkF m 251 #[.val (.long pa), .second, i_ pb, i_ 0, i_ q0, i_ q1, i_ q2, i_ q3, i_ q4, i_ 0, r_ b46, r_ b186, u_] [(.int 2), (.int 0)])) P791 (by
      intro _ k_
      refine cY_ X186 hx hby at_234 (pc := 234) (pc' := 248) (flt (by decide : ¬ ((1 : Int32) < (0 : Int32)))).2.2.2 (by decide) ?_
      refine il_ X186 hx hby at_248 rfl ?_
      refine XS.iconst X186.here hx rfl (hb hby at_250) ?_
      exact k_)
    have P793 := oS (T186.setTop (mkF m 268 #[.val (.long pa), .second, i_ pb, i_ 0, i_ q0, i_ q1, i_ q2, i_ q3, i_ q4, i_ 0, r_ b46, r_ b186, u_] [(.int 3), (.int 0)])) P792 (by
      intro _ k_
      refine cY_ X186 hx hby at_251 (pc := 251) (pc' := 265) (flt (by decide : ¬ ((2 : Int32) < (0 : Int32)))).2.2.2 (by decide) ?_
      refine il_ X186 hx hby at_265 rfl ?_
      refine XS.iconst X186.here hx rfl (hb hby at_267) ?_
      exact k_)
    have P794 := oS (T186.setTop (mkF m 285 #[.val (.long pa), .second, i_ pb, i_ 0, i_ q0, i_ q1, i_ q2, i_ q3, i_ q4, i_ 0, r_ b46, r_ b186, u_] [(.int 4), (.int 0)])) P793 (by
      intro _ k_
      refine cY_ X186 hx hby at_268 (pc := 268) (pc' := 282) (flt (by decide : ¬ ((3 : Int32) < (0 : Int32)))).2.2.2 (by decide) ?_
      refine il_ X186 hx hby at_282 rfl ?_
      refine XS.iconst X186.here hx rfl (hb hby at_284) ?_
      exact k_)
    have P795 := oS (T186.setTop (mkF m 302 #[.val (.long pa), .second, i_ pb, i_ 0, i_ q0, i_ q1, i_ q2, i_ q3, i_ q4, i_ 0, r_ b46, r_ b186, u_] [(.int 5), (.int 0)])) P794 (by
      intro _ k_
      refine cY_ X186 hx hby at_285 (pc := 285) (pc' := 299) (flt (by decide : ¬ ((4 : Int32) < (0 : Int32)))).2.2.2 (by decide) ?_
      refine il_ X186 hx hby at_299 rfl ?_
      refine XS.iconst X186.here hx rfl (hb hby at_301) ?_
      exact k_)
    have P796 := oS (T186.setTop (mkF m 320 #[.val (.long pa), .second, i_ pb, i_ 0, i_ q0, i_ q1, i_ q2, i_ q3, i_ q4, i_ 0, r_ b46, r_ b186, u_] [(.int 6), (.int 0)])) P795 (by
      intro _ k_
      refine cY_ X186 hx hby at_302 (pc := 302) (pc' := 316) (flt (by decide : ¬ ((5 : Int32) < (0 : Int32)))).2.2.2 (by decide) ?_
      refine il_ X186 hx hby at_316 rfl ?_
      refine XS.bipush X186.here hx rfl (hb hby at_318) ?_
      exact k_)
    have P797 := oS (T186.setTop (mkF m 336 #[.val (.long pa), .second, i_ pb, i_ 0, i_ q0, i_ q1, i_ q2, i_ q3, i_ q4, i_ 0, r_ b46, r_ b186, u_] [])) P796 (by
      intro _ k_
      refine cY_ X186 hx hby at_320 (pc := 320) (pc' := 336) (flt (by decide : ¬ ((6 : Int32) < (0 : Int32)))).2.2.2 (by decide) ?_
      exact k_)
    obtain ⟨T798, h798, X798, e798, E798, A798, D798, -, st798⟩ := newO X186 hx hZ hown (own_w hw 8 rfl) (own_w hw 9 rfl) (own_w hw 10 rfl) e186 (g := (mkF m 336 #[.val (.long pa), .second, i_ pb, i_ 0, i_ q0, i_ q1, i_ q2, i_ q3, i_ q4, i_ 0, r_ b46, r_ b186, u_] [])) rfl (hb hby at_336) (by decide) (by decide)
    obtain ⟨b798, g798⟩ : ∃ z, z = h186.size := ⟨_, rfl⟩
    rw [← g798] at A798 D798 st798
    have ne_de_b798 : de ≠ b798 := Nat.ne_of_lt (Nat.lt_of_lt_of_le f188.lt (Nat.le_of_eq g798.symm))
    have ne_en_b798 : en ≠ b798 := Nat.ne_of_lt (Nat.lt_of_lt_of_le f190.lt (Nat.le_of_eq g798.symm))
    have g_b798 : n0 ≤ b798 := Nat.le_trans Z197 (Nat.le_of_eq g798.symm)
    have f799 := f187.ext E798
    have f800 := f188.ext E798
    have f801 := f189.ext E798
    have f802 := f190.ext E798
    have f803 := f191.ext E798
    have f804 := f192.ext E798
    have f806 := f194.ext E798
    have f807 := f195.ext E798
    have f809 := V186.ext E798
    have Z810 : n0 ≤ h798.size := Nat.le_trans Z197 E798.1
    have f811 : Fld Z h798 b798 "java/lang/String" "coder" "B" (.int 0) := D798 (Or.inr (own_w hw 34 rfl)) (ty := .byte) (by decide)
    have f812 : Fld Z h798 b798 "java/lang/String" "value" "[B" .null := D798 (Or.inr (own_w hw 36 rfl)) (ty := (.array .byte)) (by decide)
    have P813 := oS (T798.setTop (mkF m 339 #[.val (.long pa), .second, i_ pb, i_ 0, i_ q0, i_ q1, i_ q2, i_ q3, i_ q4, i_ 0, r_ b46, r_ b186, u_] [(.ref b798)])) P797 (fun t_ k_ => st798 t_ k_)
    have P814 := oS (T798.setTop (mkF m 342 #[.val (.long pa), .second, i_ pb, i_ 0, i_ q0, i_ q1, i_ q2, i_ q3, i_ q4, i_ 0, r_ b46, r_ b186, u_] [(.ref b186), (.ref b798), (.ref b798)])) P813 (by
      intro _ k_
      refine XS.dup X798.here hx rfl (hb hby at_339) rfl rfl ?_
      refine a_ X798 hx hby at_340 rfl rfl ?_
      exact k_)
    obtain ⟨_, _, ⟨T815, L815, k815, n815⟩, -, X815, hS815, hgr815, ⟨Lc815, la815, hQ815, hLt815, l815, y815, z815⟩, st815⟩ := X798.specialBackS hx (y := (⟨"java/lang/String", "<init>", "([C)V"⟩ : MethodName)) rfl hown (mvT hZ (own_w hw 11 rfl)) (mvT hZ (own_w hw 12 rfl)) (mvT hZ (own_w hw 13 rfl)) (by decide) (own_backI2 (W := 1) (rm_zC0 l Z a0 hw [] b798 b186 k186 cs h798 n0 Z810 f799 Scs hcs hheld hcw A798 f812 f811 g_b798 f809) hZ hIB (own_w hw 13 rfl) (own_w hw 10 rfl) (by decide) (by decide)) (g := (mkF m 342 #[.val (.long pa), .second, i_ pb, i_ 0, i_ q0, i_ q1, i_ q2, i_ q3, i_ q4, i_ 0, r_ b46, r_ b186, u_] [(.ref b186), (.ref b798), (.ref b798)])) rfl (by rw [hml]; rfl) (Steps.refl _) (a := b798) (argsL := [(.ref b186)]) (rest := [(.ref b798)]) (lenOf pd25 rfl) rfl (by show 2 * 0 + _ ≤ _; exact Nat.le_of_eq rfl) (hb hby at_342) (fun _ _ => ⟨rfl, e798, (by decide : 3 + 2 ≤ _), (by decide : 20 + 4 ≤ _)⟩)
    dsimp only [Pt.U, Pt.locs, Pt.cells, Pt.slots] at X815 l815 y815 z815 st815 hQ815 hS815 hgr815
    subst l815 y815 z815
    have hZw815 : Z.Warmed39 T815.vm := State.Warmed39.trans (t := s) hZ hS815.1
    have hownw815 : T815.vm.findClass "com/example/verified_health_identity/verifiedhealthidentity/jose/Base64urlDecodePinLaw" = some m.cls := by rw [hS815.1.alike.findClass]; exact hown
    obtain ⟨lb815, kl815, rfl, N815q, K815, f816, f817, f818, f819, f820, f821, f822⟩ := hQ815
    have N815 := Fr.app N172 N815q
    have f823 := f799.keep K815 (allS g_b798 all0)
    have f824 := f800.keep K815 (ninS ne_de_b798 nin0)
    have f825 := f801.keep K815 (ninS ne_de_b798 nin0)
    have f826 := f802.keep K815 (ninS ne_en_b798 nin0)
    have f827 := f803.keep K815 (ninS ne_en_b798 nin0)
    have f828 := f804.keep K815 (ninS ne_en_b798 nin0)
    have f830 := f806.keep K815
    have f831 := f807.keep K815
    have Z837 : n0 ≤ T815.heap.size := Nat.le_trans Z810 K815.1
    have P838 := oS (T815.setTop (mkF m 345 #[.val (.long pa), .second, i_ pb, i_ 0, i_ q0, i_ q1, i_ q2, i_ q3, i_ q4, i_ 0, r_ b46, r_ b186, u_] [(.ref b798)])) P814 (fun t_ k_ => st815.trans k_)
    have hLs : Lit (s.setVm T815.vm) "java/lang/String" 7 la815 := hLt815
    have Hd0 : HD0 l Z (0 : Int32) (0 : Int32) ([].map Value.int) [] := (rm_dec0_0 l Z a0 hw rdt kdt Sdt Vdt)
    have He0 : HE0 l Z (0 : Int32) (0 : Int32) [] ([].map Value.int) := (rm_enc0_0 l Z a0 hw ret_ ket Set Vet)
    obtain ⟨_, T839, L839, X839, hQ839, P839c⟩ := own_cSH (W := 0) (rm_buD_1 l Z a0 hw [] b798 de lb815 kl815 rdt riso rutf cs en fm la815 lb815 kl815 T815.heap n0 Z837 f823 Scs hcs Siso Sutf nci Sdt f831 f824 f825 f816 f817 f818 f819 f820 (by decide) (fun q => absurd (by decide) q) (by decide +kernel) (by decide) (by decide) Hd0 Sfm hfm f830 f826 f827 f828 (by decide +kernel) (by decide) He0 f821 f822 f819 f820 Senc Sdec) X815 hx hZw815 (fun _ q_ => own_litU hLs q_) hownw815 (own_w hw 37 rfl) (own_w hw 38 rfl) (own_w hw 39 rfl) (own_w hw 40 rfl) (by decide) P838 hml rfl [(.ref b798)] [] rfl rfl rfl pd20 rfl (hb hby at_345) (rfl : T815.heap = _) (by decide)
    obtain ⟨xq839, kk839, rfl, N839q, K839, f840, f841⟩ := hQ839
    have N839 := Fr.app N815 N839q
    have kz861 := Nat.le_trans (Nat.le_refl T815.heap.size) K839.1
    have P862 := own_to (C := T839.setTop (mkF m 348 #[.val (.long pa), .second, i_ pb, i_ 0, i_ q0, i_ q1, i_ q2, i_ q3, i_ q4, i_ 0, r_ b46, r_ b186, u_] [(.ref xq839)])) P839c
    have P863 := oS (T839.setTop (mkF m 352 #[.val (.long pa), .second, i_ pb, i_ 0, i_ q0, i_ q1, i_ q2, i_ q3, i_ q4, i_ 0, r_ b46, r_ b186, r_ xq839] [(.ref xq839)])) P862 (by
      intro _ k_
      refine XS.astore X839.here hx rfl (hb hby at_348) rfl rfl (l' := #[.val (.long pa), .second, i_ pb, i_ 0, i_ q0, i_ q1, i_ q2, i_ q3, i_ q4, i_ 0, r_ b46, r_ b186, r_ xq839]) rfl ?_
      refine a_ X839 hx hby at_350 rfl rfl ?_
      exact k_)
    obtain ⟨cl864, Ar864, q864, S864, M864, H864, G864⟩ := id f841
    have P865 := oS (T839.setTop (mkF m 353 #[.val (.long pa), .second, i_ pb, i_ 0, i_ q0, i_ q1, i_ q2, i_ q3, i_ q4, i_ 0, r_ b46, r_ b186, r_ xq839] [(.int 0)])) P863 (by
      intro _ k_
      refine X839.arraylength hx Ar864.1 (State.isArrayOf_alike hZw815.alike Ar864.2.1) (g := (mkF m 352 #[.val (.long pa), .second, i_ pb, i_ 0, i_ q0, i_ q1, i_ q2, i_ q3, i_ q4, i_ 0, r_ b46, r_ b186, r_ xq839] [(.ref xq839)])) rfl rfl (hb hby at_352) _ ?_
      rw [len_of S864 M864]
      exact k_)
    have P866 := oS (T839.setTop (mkF m 354 #[.val (.long pa), .second, i_ pb, i_ 0, i_ q0, i_ q1, i_ q2, i_ q3, i_ q4, i_ 0, r_ b46, r_ b186, r_ xq839] [(.int 0), (.int 0)])) P865 (by
      intro _ k_
      refine iN_ X839 hx hby at_353 rfl ?_
      exact k_)
    have P867 := oS (T839.setTop (mkF m 361 #[.val (.long pa), .second, i_ pb, i_ 0, i_ q0, i_ q1, i_ q2, i_ q3, i_ q4, i_ 0, r_ b46, r_ b186, r_ xq839] [(.int 1), (.int 0)])) P866 (by
      intro _ k_
      refine cY_ X839 hx hby at_354 (pc := 354) (pc' := 359) (teq (by decide : (0 : Int32) = (0 : Int32))).1 (by decide) ?_
      refine iN_ X839 hx hby at_359 rfl ?_
      refine XS.iconst X839.here hx rfl (hb hby at_360) ?_
      exact k_)
    have P868 := oS (T839.setTop (mkF m 376 #[.val (.long pa), .second, i_ pb, i_ 0, i_ q0, i_ q1, i_ q2, i_ q3, i_ q4, i_ 0, r_ b46, r_ b186, r_ xq839] [(.int 2), (.int 0)])) P867 (by
      intro _ k_
      refine cY_ X839 hx hby at_361 (pc := 361) (pc' := 374) (tlt (by decide : (0 : Int32) < (1 : Int32))).1 (by decide) ?_
      refine iN_ X839 hx hby at_374 rfl ?_
      refine XS.iconst X839.here hx rfl (hb hby at_375) ?_
      exact k_)
    have P869 := oS (T839.setTop (mkF m 391 #[.val (.long pa), .second, i_ pb, i_ 0, i_ q0, i_ q1, i_ q2, i_ q3, i_ q4, i_ 0, r_ b46, r_ b186, r_ xq839] [(.int 3), (.int 0)])) P868 (by
      intro _ k_
      refine cY_ X839 hx hby at_376 (pc := 376) (pc' := 389) (tlt (by decide : (0 : Int32) < (2 : Int32))).1 (by decide) ?_
      refine iN_ X839 hx hby at_389 rfl ?_
      refine XS.iconst X839.here hx rfl (hb hby at_390) ?_
      exact k_)
    have P870 := oS (T839.setTop (mkF m 406 #[.val (.long pa), .second, i_ pb, i_ 0, i_ q0, i_ q1, i_ q2, i_ q3, i_ q4, i_ 0, r_ b46, r_ b186, r_ xq839] [(.int 4), (.int 0)])) P869 (by
      intro _ k_
      refine cY_ X839 hx hby at_391 (pc := 391) (pc' := 404) (tlt (by decide : (0 : Int32) < (3 : Int32))).1 (by decide) ?_
      refine iN_ X839 hx hby at_404 rfl ?_
      refine XS.iconst X839.here hx rfl (hb hby at_405) ?_
      exact k_)
    have P871 := oS (T839.setTop (mkF m 421 #[.val (.long pa), .second, i_ pb, i_ 0, i_ q0, i_ q1, i_ q2, i_ q3, i_ q4, i_ 0, r_ b46, r_ b186, r_ xq839] [(.int 5), (.int 0)])) P870 (by
      intro _ k_
      refine cY_ X839 hx hby at_406 (pc := 406) (pc' := 419) (tlt (by decide : (0 : Int32) < (4 : Int32))).1 (by decide) ?_
      refine iN_ X839 hx hby at_419 rfl ?_
      refine XS.iconst X839.here hx rfl (hb hby at_420) ?_
      exact k_)
    have P872 := oS (T839.setTop (mkF m 439 #[.val (.long pa), .second, i_ pb, i_ 0, i_ q0, i_ q1, i_ q2, i_ q3, i_ q4, i_ 0, r_ b46, r_ b186, r_ xq839] [(.int 1)])) P871 (by
      intro _ k_
      refine cY_ X839 hx hby at_421 (pc := 421) (pc' := 434) (tlt (by decide : (0 : Int32) < (5 : Int32))).1 (by decide) ?_
      refine XS.iconst X839.here hx rfl (hb hby at_434) ?_
      refine gt_ X839 hx hby at_435 (pc := 435) (pc' := 439) (by decide) ?_
      exact k_)
    obtain ⟨fs, hr, hrun, hended, hW⟩ := X839.leaveW hS815 kz861 (v := some (.int 1)) (fun h => by rw [Bd.returns] at h; cases h)
    refine ⟨_, _, P872 _ ?_, hrun, hended, _, _, rfl, ?_, ⟨hW.1, hW.2.1, hW.2.2.1, hW.2.2.2.mono (by decide) (by decide)⟩⟩
    · exact retN X839 hx (t := .boolean) Bd.returns (by simp) (hb hby at_439) hr
    · show Q0 Z _ _ _ _ _ _ _ _ _ _ _ _ h0 n0 _ T839.heap _
      exact ⟨rfl, N839⟩
theorem own_cs {args : Array Value} {s : State} {cs : Int32} (e : (Term.static "java/lang/String" "COMPACT_STRINGS" "Z").eval args s none [] s = some (.int cs)) (h : Jvm.Lit.compactW.before args s = true) : ¬ (cs = (0 : Int32)) := by
  have a1 := not_v (Cond.before_iff.mp (show (Cond.not (.eq (.static "java/lang/String" "COMPACT_STRINGS" "Z") (.int 0))).before args s = true from h))
  intro q; subst q
  have b1 := eq_i e (Term.int_eval (0)) rfl
  rw [b1] at a1; cases a1

set_option maxRecDepth 65536 in
set_option maxHeartbeats 40000000 in
theorem comes_1 {Post : Tables → Env → Array Value → State → Outcome → State → Prop} (hpost : ∀ tb e args s v u, (limb_1_1.after args s (.returned v) u = true ∧ limb_1_2.after args s (.returned v) u = true ∧ True) → ReturnedEndW s (.returned v) u (Jvm.fieldLocs frame_1_writes args s ++ Jvm.arrayLocs frame_1_arrays args s ++ Jvm.staticLocs frame_1_statics s) 32 1216 → Post tb e args s (.returned v) u) :
    ArmFor flags0 classFile x code maxLocals ret World_1 tables_1 room_1 Calls_1 rest_1 Pre_1 Post := by
  intro l hfl _ _ p e ha hc hk s m args below hf hA hF happ hP
  obtain ⟨hcalls, hrest, hpre⟩ := hP
  obtain ⟨-, -, -, hnamed, -, -, -, hat⟩ := (Spec.applies_iff hf).mp happ
  obtain ⟨hg, hn⟩ := and_e (Cond.before_iff.mp (show (Jvm.Cond.and given_1 narrow_1).before args s = true from hpre))
  obtain ⟨hgc, hg0⟩ := and_e hg
  obtain ⟨ha0, hg1⟩ := and_e hg0
  have ha1 := hg1
  obtain ⟨w0, w1, rfl⟩ : ∃ w0 w1 : Value, args = #[w0, w1] := by
    have hs : args.size = 2 := by simpa [Cond.value, given_1] using hgc
    obtain ⟨L⟩ := args
    match L, hs with
    | [w0, w1], _ => exact ⟨w0, w1, rfl⟩
  have hw := fun d (hd : d ∈ tables_1) => atoms_spec (ws := Jvm.Cond.code x code maxLocals ret :: tables_1) hat d (List.mem_cons_of_mem _ hd)
  have hfit : Fit s := fun {y c} hc i hi => by
    obtain ⟨ha, rfl⟩ := Array.getElem?_eq_some_iff.mp hc
    have q := List.all_eq_true.mp ((Array.all_eq_true_iff_forall_mem.mp hF) _ (Array.getElem_mem ha)) i (List.mem_range.mpr hi)
    simpa [Array.getElem?_eq_getElem hi] using q
  obtain ⟨hsets, hown0⟩ := atoms_of _ (rest_1_c_eq ▸ (show rest_1_c.before _ s = true from hrest))
  obtain ⟨i0, ei0⟩ := isL_v ha0
  obtain rfl : w0 = (.long i0) := Option.some.inj ei0
  obtain ⟨i1, ei1⟩ := is_v ha1
  obtain rfl : w1 = (.int i1) := Option.some.inj ei1
  have hheld : Jvm.Lit.constHeld s "java/lang/String" 7 := hcalls.1 _ (List.mem_of_getElem? (i := 0) rfl)
  have hcw : Jvm.Lit.compactW.before _ s = true := hsets _ (List.mem_of_getElem? (i := 2) rfl)
  obtain ⟨cs, ecs⟩ := is_v (Cond.before_iff.mp (hsets _ (List.mem_of_getElem? (i := 1) rfl)))
  have Scs := Sta.start ecs (Or.inl (hsets _ (List.mem_of_getElem? (i := 0) rfl)))
  have hcs : ¬ (cs = (0 : Int32)) := own_cs ecs hcw
  obtain ⟨fm, efm, rfm⟩ := isR_v (Cond.before_iff.mp (hsets _ (List.mem_of_getElem? (i := 8) rfl)))
  have Sfm := Sta.start efm (Or.inl (hsets _ (List.mem_of_getElem? (i := 7) rfl)))
  have hfm : fm.category = 1 := by rcases ref_cases rfm with rfl | ⟨_, rfl⟩ <;> rfl
  obtain ⟨hn1, hn⟩ := and_e hn
  obtain ⟨hn2, hn⟩ := and_e hn
  obtain ⟨hn3, hn⟩ := and_e hn
  obtain ⟨hn4, hn⟩ := and_e hn
  obtain ⟨hn5, hn⟩ := and_e hn
  obtain ⟨hn6, hn⟩ := and_e hn
  obtain ⟨de, evd, Ed⟩ := own_exS (Cond.before_iff.mpr hn1)
  have Fu := own_fldS evd (Cond.before_iff.mpr hn2)
  have Fm := own_fldS evd (Cond.before_iff.mpr hn3)
  obtain ⟨en, eve, Ee⟩ := own_exS (Cond.before_iff.mpr hn4)
  have Fp := own_fldS eve (Cond.before_iff.mpr hn5)
  have Fl := own_fldS eve (Cond.before_iff.mpr hn6)
  have Fe := own_fldS eve (Cond.before_iff.mpr hn)
  have Sdec := Sta.start evd (Or.inr ⟨(own_w hw 39 rfl), (own_w hw 42 rfl)⟩)
  have Senc := Sta.start eve (Or.inr ⟨(own_w hw 39 rfl), (own_w hw 108 rfl)⟩)
  obtain ⟨riso, evi, Xi⟩ := own_exS (hsets _ (List.mem_of_getElem? (i := 11) rfl))
  have Siso := Sta.start evi (Or.inl (hsets _ (List.mem_of_getElem? (i := 10) rfl)))
  obtain ⟨rutf, evu, Xu⟩ := own_exS (hsets _ (List.mem_of_getElem? (i := 14) rfl))
  have Sutf := Sta.start evu (Or.inl (hsets _ (List.mem_of_getElem? (i := 13) rfl)))
  have nci : riso ≠ rutf := ne_exa Xi Xu (by decide)
  obtain ⟨rdt, evt, -⟩ := own_exS (hsets _ (List.mem_of_getElem? (i := 18) rfl))
  have Sdt := Sta.start evt (Or.inl (hsets _ (List.mem_of_getElem? (i := 16) rfl)))
  obtain ⟨kdt, Vdt⟩ := own_tabS (L := own_decI) hfit evt (hsets _ (List.mem_of_getElem? (i := 17) rfl)) (hsets _ (List.mem_of_getElem? (i := 19) rfl)) (by decide) (by decide +kernel) (fun d hd => hsets d (List.mem_of_mem_drop (List.mem_of_mem_take (own_t1 ▸ hd))))
  obtain ⟨ret_, evt2, -⟩ := own_exS (hsets _ (List.mem_of_getElem? (i := 279) rfl))
  have Set := Sta.start evt2 (Or.inl (hsets _ (List.mem_of_getElem? (i := 277) rfl)))
  obtain ⟨ket, Vet⟩ := own_tabS (L := own_encI) hfit evt2 (hsets _ (List.mem_of_getElem? (i := 278) rfl)) (hsets _ (List.mem_of_getElem? (i := 280) rfl)) (by decide) (by decide +kernel) (fun d hd => hsets d (List.mem_of_mem_drop (List.mem_of_mem_take (own_t2 ▸ hd))))
  obtain ⟨n, o, h1, h2, h3, _, L, rfl, ⟨rfl, N⟩, hq⟩ := rm0 l s _ hw tables_1 i0 i1 fm cs riso rutf rdt kdt ret_ ket de en s.heap s.heap.size (Nat.le_refl _) (Old.start s) Scs hcs Sfm hfm Siso Sutf nci Sdt Vdt Set Vet Ed Fu Fm Ee Fp Fl Fe Sdec Senc hheld hcw p e ha hc hk s m _ below hf ((Spec.applies_iff_loose hf).mp happ).1 ⟨rfl, State.Warmed39.refl s, rfl, IB.start⟩ trivial
  exact ⟨n, _, h1, h2, h3, hpost _ _ _ _ _ _ ⟨Cond.after_iff.mpr rfl, Cond.after_iff.mpr (eq_i res_at (Term.int_eval (1)) rfl), trivial⟩ ⟨hq.1, hq.2.1, hq.2.2.1, (hq.2.2.2.sift fun y hy => Or.inr (N y hy)).mono (by decide) (by decide)⟩⟩
theorem main_1_1 : Claimed_1_1 := comes_1 fun _ _ _ _ _ _ h hF => ⟨h.1, hF⟩
theorem main_1_2 : Claimed_1_2 := comes_1 fun _ _ _ _ _ _ h hF => ⟨h.2.1, hF⟩
end Jvm.Pilot.@@N@@
namespace Jvm.Pilot.@@N@@
open Jvm Jvm.ClassFile Sem Op Lib Jvm.Free Jvm.Stand Jvm.Pilot.@@N@@.Jvm.D
/-! MADE BY PROGRAM (witnessworld.py) out of the Statement's table words and the real class files: 29 classes; the members and pool entries that the words name. The judged class is class 1, her method 2. -/
namespace start1
open Jvm.ClassFile
def u (s : String) : CpInfo := .utf8 (stringToUtf16 s)
/-- a pool by its gaps: so many unusable entries, then the entry; so many at the end -/
def gap : Nat → List CpInfo → List CpInfo
  | 0, r => r
  | n + 1, r => .unusable :: gap n r
def poolList (es : List (Nat × CpInfo)) (last : Nat) : List CpInfo := es.foldr (fun e r => gap e.1 (e.2 :: r)) (gap last [])
def pool (es : List (Nat × CpInfo)) (last : Nat) : Array CpInfo := ⟨poolList es last⟩
def fileOf (pool : Array CpInfo) (this : Nat) (attrs : Array Attribute := #[]) (ms : Array MethodInfo := #[]) (fl : Nat := 33) (sup : Nat := 0) (ifs : Array Nat := #[]) (fds : Array FieldInfo := #[]) : ClassFile where
  minorVersion := 0
  majorVersion := 65
  constantPool := pool
  accessFlags := fl
  thisClass := this
  superClass := sup
  interfaces := ifs
  fields := fds
  methods := ms
  attributes := attrs
def plain (name : String) (sup : Option ClassId) : Class where
  name := name
  kind := .ordinary
  loader := none
  accessFlags := 33
  super := sup
  interfaces := #[]
  cf := none
  fields := #[]
  methods := #[]
  instanceTypes := #[]
  staticTypes := #[]
  resolved := #[]
  callSites := []
  init := .initialized
  statics := none
  mirror := none

def pool0 : Array CpInfo := pool [(5, u "<init>"), (0, u "()V"), (1, .class_ 10), (1, u "java/lang/Object"), (85, u "clone"), (0, u "()Ljava/lang/Object;")] 26

def k0c0 : Code := { maxStack := 0, maxLocals := 1, code := object_method_1_code, exceptionTable := #[], attributes := #[] }
def k0m0 : Method := { name := "<init>", desc := "()V", sig := { parameters := [], returnType := none }, accessFlags := 1, code := some k0c0 }
def k0m1 : Method := { name := "clone", desc := "()Ljava/lang/Object;", sig := { parameters := [], returnType := some (.object "java/lang/Object") }, accessFlags := 260, code := none }
/-- java/lang/Object -/
def k0 : Class := { plain "java/lang/Object" none with
  accessFlags := 33
  interfaces := #[]
  cf := some (fileOf pool0 8 #[] #[{ accessFlags := 1, nameIndex := 5, descriptorIndex := 6, attributes := #[] }, { accessFlags := 260, nameIndex := 96, descriptorIndex := 97, attributes := #[] }] 33 0 #[] #[])
  fields := #[]
  methods := #[k0m0, k0m1]
  instanceTypes := #[]
  staticTypes := #[]
  resolved := Array.replicate 124 none
  statics := none }

def pool1 : Array CpInfo := pool [(2, .class_ 4), (1, u "java/lang/Object"), (0, u "<init>"), (0, u "()V"), (0, .integer 2147483647), (0, .long 255), (1, .methodref 11 12), (0, .class_ 13), (0, .nameAndType 14 15), (0, u "com/example/verified_health_identity/verifiedhealthidentity/jose/Base64urlDecodePinLaw"), (0, u "alpha"), (0, u "(I)C"), (0, .class_ 17), (0, u "java/lang/String"), (0, .methodref 16 19), (0, .nameAndType 5 20), (0, u "([C)V"), (0, .methodref 22 23), (0, .class_ 24), (0, .nameAndType 25 26), (0, u "com/example/verified_health_identity/verifiedhealthidentity/jose/Base64url"), (0, u "decode"), (0, u "(Ljava/lang/String;)[B"), (3, u "law"), (0, u "(JI)Z")] 11

def k1m0 : Method := { name := "<init>", desc := "()V", sig := { parameters := [], returnType := none }, accessFlags := 2, code := none }
def k1c1 : Code := { maxStack := 3, maxLocals := 1, code := method_2_code, exceptionTable := #[], attributes := #[] }
def k1m1 : Method := { name := "alpha", desc := "(I)C", sig := { parameters := [.int], returnType := some .char }, accessFlags := 10, code := some k1c1 }
def k1c2 : Code := { maxStack := 5, maxLocals := 13, code := code, exceptionTable := #[], attributes := #[] }
def k1m2 : Method := { name := "law", desc := "(JI)Z", sig := { parameters := [.long, .int], returnType := some .boolean }, accessFlags := 9, code := some k1c2 }
/-- com/example/verified_health_identity/verifiedhealthidentity/jose/Base64urlDecodePinLaw -/
def k1 : Class := { plain "com/example/verified_health_identity/verifiedhealthidentity/jose/Base64urlDecodePinLaw" (some 0) with
  accessFlags := 49
  interfaces := #[]
  cf := some (fileOf pool1 11 #[] #[{ accessFlags := 2, nameIndex := 5, descriptorIndex := 6, attributes := #[] }, { accessFlags := 10, nameIndex := 14, descriptorIndex := 15, attributes := #[] }, { accessFlags := 9, nameIndex := 30, descriptorIndex := 31, attributes := #[] }] 49 2 #[] #[])
  fields := #[]
  methods := #[k1m0, k1m1, k1m2]
  instanceTypes := #[]
  staticTypes := #[]
  resolved := Array.replicate 43 none
  statics := none }

def pool2 : Array CpInfo := pool [(1, .class_ 2), (0, u "java/io/Serializable"), (0, .class_ 4), (0, u "java/lang/Object")] 2

/-- java/io/Serializable -/
def k2 : Class := { plain "java/io/Serializable" (some 0) with
  accessFlags := 1537
  interfaces := #[]
  cf := some (fileOf pool2 1 #[] #[] 1537 3 #[] #[])
  fields := #[]
  methods := #[]
  instanceTypes := #[]
  staticTypes := #[]
  resolved := Array.replicate 7 none
  statics := none }

def pool3 : Array CpInfo := pool [(1, .class_ 2), (0, u "java/lang/Comparable"), (0, .class_ 4), (0, u "java/lang/Object")] 7

/-- java/lang/Comparable -/
def k3 : Class := { plain "java/lang/Comparable" (some 0) with
  accessFlags := 1537
  interfaces := #[]
  cf := some (fileOf pool3 1 #[] #[] 1537 3 #[] #[])
  fields := #[]
  methods := #[]
  instanceTypes := #[]
  staticTypes := #[]
  resolved := Array.replicate 12 none
  statics := none }

def pool4 : Array CpInfo := pool [(2, .class_ 4), (1, u "java/lang/CharSequence"), (42, .class_ 48), (0, u "java/lang/CharSequence$1CodePointIterator"), (10, .class_ 60), (0, u "java/lang/CharSequence$1CharIterator"), (5, .class_ 67), (0, u "java/lang/Object")] 63

/-- java/lang/CharSequence -/
def k4 : Class := { plain "java/lang/CharSequence" (some 0) with
  accessFlags := 1537
  interfaces := #[]
  cf := some (fileOf pool4 2 #[.nestMembers #[47, 59]] #[] 1537 66 #[] #[])
  fields := #[]
  methods := #[]
  instanceTypes := #[]
  staticTypes := #[]
  resolved := Array.replicate 131 none
  statics := none }

def pool5 : Array CpInfo := pool [(1, .class_ 2), (0, u "java/lang/constant/Constable"), (0, .class_ 4), (0, u "java/lang/Object")] 6

/-- java/lang/constant/Constable -/
def k5 : Class := { plain "java/lang/constant/Constable" (some 0) with
  accessFlags := 1537
  interfaces := #[]
  cf := some (fileOf pool5 1 #[] #[] 1537 3 #[] #[])
  fields := #[]
  methods := #[]
  instanceTypes := #[]
  staticTypes := #[]
  resolved := Array.replicate 11 none
  statics := none }

def pool6 : Array CpInfo := pool [(1, .class_ 2), (0, u "java/lang/constant/ConstantDesc"), (0, .class_ 4), (0, u "java/lang/Object")] 32

/-- java/lang/constant/ConstantDesc -/
def k6 : Class := { plain "java/lang/constant/ConstantDesc" (some 0) with
  accessFlags := 1537
  interfaces := #[]
  cf := some (fileOf pool6 1 #[] #[] 1537 3 #[] #[])
  fields := #[]
  methods := #[]
  instanceTypes := #[]
  staticTypes := #[]
  resolved := Array.replicate 37 none
  statics := none }

def pool7 : Array CpInfo := pool [(1, .methodref 2 3), (0, .class_ 4), (0, .nameAndType 5 6), (0, u "java/lang/Object"), (0, u "<init>"), (0, u "()V"), (0, .string 8), (0, u ""), (0, .fieldref 10 11), (0, .class_ 12), (0, .nameAndType 13 14), (0, u "java/lang/String"), (0, u "value"), (0, u "[B"), (0, .fieldref 10 16), (0, .nameAndType 17 18), (0, u "coder"), (0, u "B"), (2, u "hash"), (0, u "I"), (2, u "hashIsZero"), (0, u "Z"), (0, .methodref 10 28), (0, .nameAndType 5 29), (0, u "([CIILjava/lang/Void;)V"), (4, .methodref 10 35), (0, .nameAndType 36 37), (0, u "checkBoundsOffCount"), (0, u "(III)I"), (0, .fieldref 10 39), (0, .nameAndType 40 26), (0, u "COMPACT_STRINGS"), (1, .class_ 44), (1, u "java/lang/StringUTF16"), (0, u "compress"), (1, .methodref 42 48), (0, .nameAndType 49 50), (0, u "coderFromArrayLen"), (0, u "([BI)B"), (3, .methodref 55 56), (0, .class_ 57), (0, .nameAndType 58 59), (0, u "java/util/Arrays"), (0, u "copyOfRange"), (0, u "([BII)[B"), (10, u "([BIII)V"), (15, .fieldref 87 88), (0, .class_ 89), (0, .nameAndType 90 91), (0, u "sun/nio/cs/UTF_8"), (0, u "INSTANCE"), (0, u "Lsun/nio/cs/UTF_8;"), (15, .class_ 109), (1, u "java/lang/StringLatin1"), (6, .fieldref 117 118), (0, .class_ 119), (0, .nameAndType 90 120), (0, u "sun/nio/cs/ISO_8859_1"), (0, u "Lsun/nio/cs/ISO_8859_1;"), (56, .methodref 42 178), (0, .nameAndType 45 179), (0, u "([CII)[B"), (75, u "(B[BZ)[B"), (0, .methodref 10 257), (0, .nameAndType 258 259), (0, u "encode8859_1"), (0, u "(B[B)[B"), (19, .methodref 280 281), (0, .class_ 14), (0, .nameAndType 282 283), (0, u "clone"), (0, u "()Ljava/lang/Object;"), (33, u "encode"), (17, .methodref 10 336), (0, .nameAndType 17 337), (0, u "()B"), (13, .methodref 10 352), (0, .nameAndType 258 255), (179, u "getBytes"), (2, .methodref 10 536), (0, .nameAndType 317 537), (0, u "(Ljava/nio/charset/Charset;B[B)[B"), (3, .methodref 107 542), (0, .nameAndType 543 544), (0, u "equals"), (0, u "([B[B)Z"), (28, u "(Ljava/lang/Object;)Z"), (1, .class_ 576), (0, u "java/lang/CharSequence"), (22, u "CASE_INSENSITIVE_ORDER"), (0, u "Ljava/util/Comparator;"), (409, u "([C)V"), (42, .fieldref 1054 1055), (0, .class_ 1056), (0, .nameAndType 1057 1058), (0, u "jdk/internal/util/Preconditions"), (0, u "SIOOBE_FORMATTER"), (0, u "Ljava/util/function/BiFunction;"), (5, u "(IIILjava/util/function/BiFunction;)I"), (0, .methodref 1054 1066), (0, .nameAndType 1067 1064), (0, u "checkFromIndexSize"), (33, u "serialPersistentFields"), (0, u "[Ljava/io/ObjectStreamField;"), (0, .class_ 1104), (0, u "java/lang/String$CaseInsensitiveComparator"), (1, .class_ 1107), (0, u "java/io/Serializable"), (0, .class_ 1109), (0, u "java/lang/Comparable"), (0, .class_ 1111), (0, u "java/lang/constant/Constable"), (0, .class_ 1113), (0, u "java/lang/constant/ConstantDesc"), (2, u "serialVersionUID"), (0, u "J"), (3, u "REPL"), (0, u "C"), (2, u "LATIN1"), (1, u "UTF16"), (117, u "(Ljava/nio/charset/Charset;)[B")] 205

def k7m0 : Method := { name := "<init>", desc := "()V", sig := { parameters := [], returnType := none }, accessFlags := 1, code := none }
def k7c1 : Code := { maxStack := 5, maxLocals := 2, code := jdk_42_method_3_code, exceptionTable := #[], attributes := #[] }
def k7m1 : Method := { name := "<init>", desc := "([C)V", sig := { parameters := [(.array .char)], returnType := none }, accessFlags := 1, code := some k7c1 }
def k7c2 : Code := { maxStack := 5, maxLocals := 7, code := jdk_42_method_7_code, exceptionTable := #[], attributes := #[] }
def k7m2 : Method := { name := "<init>", desc := "([BIII)V", sig := { parameters := [(.array .byte), .int, .int, .int], returnType := none }, accessFlags := 1, code := some k7c2 }
def k7c3 : Code := { maxStack := 4, maxLocals := 3, code := jdk_42_method_18_code, exceptionTable := #[], attributes := #[] }
def k7m3 : Method := { name := "encode", desc := "(Ljava/nio/charset/Charset;B[B)[B", sig := { parameters := [(.object "java/nio/charset/Charset"), .byte, (.array .byte)], returnType := some (.array .byte) }, accessFlags := 10, code := some k7c3 }
def k7c4 : Code := { maxStack := 3, maxLocals := 2, code := jdk_42_method_26_code, exceptionTable := #[], attributes := #[] }
def k7m4 : Method := { name := "encode8859_1", desc := "(B[B)[B", sig := { parameters := [.byte, (.array .byte)], returnType := some (.array .byte) }, accessFlags := 10, code := some k7c4 }
def k7c5 : Code := { maxStack := 5, maxLocals := 10, code := jdk_42_method_27_code, exceptionTable := #[], attributes := #[] }
def k7m5 : Method := { name := "encode8859_1", desc := "(B[BZ)[B", sig := { parameters := [.byte, (.array .byte), .boolean], returnType := some (.array .byte) }, accessFlags := 10, code := some k7c5 }
def k7c6 : Code := { maxStack := 3, maxLocals := 2, code := jdk_42_method_64_code, exceptionTable := #[], attributes := #[] }
def k7m6 : Method := { name := "getBytes", desc := "(Ljava/nio/charset/Charset;)[B", sig := { parameters := [(.object "java/nio/charset/Charset")], returnType := some (.array .byte) }, accessFlags := 1, code := some k7c6 }
def k7c7 : Code := { maxStack := 2, maxLocals := 3, code := jdk_42_method_66_code, exceptionTable := #[], attributes := #[] }
def k7m7 : Method := { name := "equals", desc := "(Ljava/lang/Object;)Z", sig := { parameters := [(.object "java/lang/Object")], returnType := some .boolean }, accessFlags := 1, code := some k7c7 }
def k7c8 : Code := { maxStack := 4, maxLocals := 6, code := jdk_42_method_149_code, exceptionTable := #[], attributes := #[] }
def k7m8 : Method := { name := "<init>", desc := "([CIILjava/lang/Void;)V", sig := { parameters := [(.array .char), .int, .int, (.object "java/lang/Void")], returnType := none }, accessFlags := 2, code := some k7c8 }
def k7c9 : Code := { maxStack := 1, maxLocals := 1, code := jdk_42_method_152_code, exceptionTable := #[], attributes := #[] }
def k7m9 : Method := { name := "coder", desc := "()B", sig := { parameters := [], returnType := some .byte }, accessFlags := 0, code := some k7c9 }
def k7c10 : Code := { maxStack := 4, maxLocals := 3, code := jdk_42_method_157_code, exceptionTable := #[], attributes := #[] }
def k7m10 : Method := { name := "checkBoundsOffCount", desc := "(III)I", sig := { parameters := [.int, .int, .int], returnType := some .int }, accessFlags := 8, code := some k7c10 }
/-- java/lang/String -/
def k7 : Class := { plain "java/lang/String" (some 0) with
  accessFlags := 49
  interfaces := #[2, 3, 4, 5, 6]
  cf := some (fileOf pool7 10 #[.nestMembers #[1103]] #[{ accessFlags := 1, nameIndex := 5, descriptorIndex := 6, attributes := #[] }, { accessFlags := 1, nameIndex := 5, descriptorIndex := 1010, attributes := #[] }, { accessFlags := 1, nameIndex := 5, descriptorIndex := 70, attributes := #[] }, { accessFlags := 10, nameIndex := 317, descriptorIndex := 537, attributes := #[] }, { accessFlags := 10, nameIndex := 258, descriptorIndex := 259, attributes := #[] }, { accessFlags := 10, nameIndex := 258, descriptorIndex := 255, attributes := #[] }, { accessFlags := 1, nameIndex := 532, descriptorIndex := 1245, attributes := #[] }, { accessFlags := 1, nameIndex := 543, descriptorIndex := 573, attributes := #[] }, { accessFlags := 2, nameIndex := 5, descriptorIndex := 29, attributes := #[] }, { accessFlags := 0, nameIndex := 17, descriptorIndex := 337, attributes := #[] }, { accessFlags := 8, nameIndex := 36, descriptorIndex := 37, attributes := #[] }] 49 2 #[1106, 1108, 575, 1110, 1112] #[{ accessFlags := 18, nameIndex := 13, descriptorIndex := 14, attributes := #[] }, { accessFlags := 18, nameIndex := 17, descriptorIndex := 18, attributes := #[] }, { accessFlags := 2, nameIndex := 21, descriptorIndex := 22, attributes := #[] }, { accessFlags := 2, nameIndex := 25, descriptorIndex := 26, attributes := #[] }, { accessFlags := 26, nameIndex := 1116, descriptorIndex := 1117, attributes := #[] }, { accessFlags := 24, nameIndex := 40, descriptorIndex := 26, attributes := #[] }, { accessFlags := 26, nameIndex := 1101, descriptorIndex := 1102, attributes := #[] }, { accessFlags := 26, nameIndex := 1121, descriptorIndex := 1122, attributes := #[] }, { accessFlags := 25, nameIndex := 599, descriptorIndex := 600, attributes := #[] }, { accessFlags := 24, nameIndex := 1125, descriptorIndex := 18, attributes := #[] }, { accessFlags := 24, nameIndex := 1127, descriptorIndex := 18, attributes := #[] }])
  fields := #[{ name := "value", type := (.array .byte), accessFlags := 18, slot := 0, constantValue := 0 }, { name := "coder", type := .byte, accessFlags := 18, slot := 1, constantValue := 0 }, { name := "hash", type := .int, accessFlags := 2, slot := 2, constantValue := 0 }, { name := "hashIsZero", type := .boolean, accessFlags := 2, slot := 3, constantValue := 0 }, { name := "serialVersionUID", type := .long, accessFlags := 26, slot := 0, constantValue := 0 }, { name := "COMPACT_STRINGS", type := .boolean, accessFlags := 24, slot := 1, constantValue := 0 }, { name := "serialPersistentFields", type := (.array (.object "java/io/ObjectStreamField")), accessFlags := 26, slot := 2, constantValue := 0 }, { name := "REPL", type := .char, accessFlags := 26, slot := 3, constantValue := 0 }, { name := "CASE_INSENSITIVE_ORDER", type := (.object "java/util/Comparator"), accessFlags := 25, slot := 4, constantValue := 0 }, { name := "LATIN1", type := .byte, accessFlags := 24, slot := 5, constantValue := 0 }, { name := "UTF16", type := .byte, accessFlags := 24, slot := 6, constantValue := 0 }]
  methods := #[k7m0, k7m1, k7m2, k7m3, k7m4, k7m5, k7m6, k7m7, k7m8, k7m9, k7m10]
  instanceTypes := #[(.array .byte), .byte, .int, .boolean]
  staticTypes := #[.long, .boolean, (.array (.object "java/io/ObjectStreamField")), .char, (.object "java/util/Comparator"), .byte, .byte]
  resolved := Array.replicate 1451 none
  statics := some 0 }

def pool8 : Array CpInfo := pool [(6, .class_ 8), (1, u "java/lang/Object"), (0, u "<init>"), (0, u "()V"), (1, .class_ 14), (1, u "java/lang/StringUTF16"), (31, u "$assertionsDisabled"), (0, u "Z"), (13, u "HI_BYTE_SHIFT"), (0, u "I"), (2, u "LO_BYTE_SHIFT"), (49, .methodref 12 116), (0, .nameAndType 117 118), (0, u "compress"), (0, u "([CI[BII)I"), (3, u "([CII)[B"), (138, u "coderFromArrayLen"), (0, u "([BI)B"), (106, .class_ 371), (1, u "java/lang/StringUTF16$LinesSpliterator"), (58, u "MAX_LENGTH"), (196, .class_ 628), (0, u "java/lang/StringUTF16$CodePointsSpliterator"), (0, .class_ 630), (0, u "java/lang/StringUTF16$CharsSpliterator")] 4

def k8m0 : Method := { name := "<init>", desc := "()V", sig := { parameters := [], returnType := none }, accessFlags := 0, code := none }
def k8c1 : Code := { maxStack := 2, maxLocals := 2, code := jdk_52_method_15_code, exceptionTable := #[], attributes := #[] }
def k8m1 : Method := { name := "coderFromArrayLen", desc := "([BI)B", sig := { parameters := [(.array .byte), .int], returnType := some .byte }, accessFlags := 8, code := some k8c1 }
def k8c2 : Code := { maxStack := 5, maxLocals := 6, code := jdk_52_method_16_code, exceptionTable := #[], attributes := #[] }
def k8m2 : Method := { name := "compress", desc := "([CII)[B", sig := { parameters := [(.array .char), .int, .int], returnType := some (.array .byte) }, accessFlags := 9, code := some k8c2 }
def k8c3 : Code := { maxStack := 3, maxLocals := 7, code := jdk_52_method_21_code, exceptionTable := #[], attributes := #[] }
def k8m3 : Method := { name := "compress", desc := "([CI[BII)I", sig := { parameters := [(.array .char), .int, (.array .byte), .int, .int], returnType := some .int }, accessFlags := 9, code := some k8c3 }
/-- java/lang/StringUTF16 -/
def k8 : Class := { plain "java/lang/StringUTF16" (some 0) with
  accessFlags := 48
  interfaces := #[]
  cf := some (fileOf pool8 12 #[.nestMembers #[627, 629, 369]] #[{ accessFlags := 0, nameIndex := 9, descriptorIndex := 10, attributes := #[] }, { accessFlags := 8, nameIndex := 261, descriptorIndex := 262, attributes := #[] }, { accessFlags := 9, nameIndex := 117, descriptorIndex := 122, attributes := #[] }, { accessFlags := 9, nameIndex := 117, descriptorIndex := 118, attributes := #[] }] 48 6 #[] #[{ accessFlags := 26, nameIndex := 61, descriptorIndex := 62, attributes := #[] }, { accessFlags := 26, nameIndex := 65, descriptorIndex := 62, attributes := #[] }, { accessFlags := 24, nameIndex := 430, descriptorIndex := 62, attributes := #[] }, { accessFlags := 4120, nameIndex := 46, descriptorIndex := 47, attributes := #[] }])
  fields := #[{ name := "HI_BYTE_SHIFT", type := .int, accessFlags := 26, slot := 0, constantValue := 0 }, { name := "LO_BYTE_SHIFT", type := .int, accessFlags := 26, slot := 1, constantValue := 0 }, { name := "MAX_LENGTH", type := .int, accessFlags := 24, slot := 2, constantValue := 0 }, { name := "$assertionsDisabled", type := .boolean, accessFlags := 4120, slot := 3, constantValue := 0 }]
  methods := #[k8m0, k8m1, k8m2, k8m3]
  instanceTypes := #[]
  staticTypes := #[.int, .int, .int, .boolean]
  resolved := Array.replicate 635 none
  statics := none }

def pool9 : Array CpInfo := pool [(2, .class_ 4), (1, u "java/lang/Object"), (0, u "<init>"), (0, u "()V"), (0, .fieldref 8 9), (0, .class_ 10), (0, .nameAndType 11 12), (0, u "com/example/verified_health_identity/verifiedhealthidentity/jose/Base64url"), (0, u "ENCODER"), (0, u "Ljava/util/Base64$Encoder;"), (0, .methodref 14 15), (0, .class_ 16), (0, .nameAndType 17 18), (0, u "java/util/Base64$Encoder"), (0, u "encodeToString"), (0, u "([B)Ljava/lang/String;"), (0, .fieldref 8 20), (0, .nameAndType 21 22), (0, u "DECODER"), (0, u "Ljava/util/Base64$Decoder;"), (0, .methodref 24 25), (0, .class_ 26), (0, .nameAndType 27 28), (0, u "java/util/Base64$Decoder"), (0, u "decode"), (0, u "(Ljava/lang/String;)[B"), (9, .methodref 8 39), (0, .nameAndType 40 18), (0, u "encode"), (0, .methodref 42 43), (0, .class_ 44), (0, .nameAndType 45 46), (0, u "java/lang/String"), (0, u "equals"), (0, u "(Ljava/lang/Object;)Z"), (25, u "NOT_BASE64URL"), (0, u "Ljava/lang/String;")] 30

def k9m0 : Method := { name := "<init>", desc := "()V", sig := { parameters := [], returnType := none }, accessFlags := 2, code := none }
def k9c1 : Code := { maxStack := 2, maxLocals := 1, code := prog_16_method_2_code, exceptionTable := #[], attributes := #[] }
def k9m1 : Method := { name := "encode", desc := "([B)Ljava/lang/String;", sig := { parameters := [(.array .byte)], returnType := some (.object "java/lang/String") }, accessFlags := 8, code := some k9c1 }
def k9c2 : Code := { maxStack := 4, maxLocals := 3, code := prog_16_method_3_code, exceptionTable := #[{ startPc := 0, endPc := 8, handlerPc := 11, catchType := 29 }], attributes := #[] }
def k9m2 : Method := { name := "decode", desc := "(Ljava/lang/String;)[B", sig := { parameters := [(.object "java/lang/String")], returnType := some (.array .byte) }, accessFlags := 9, code := some k9c2 }
/-- com/example/verified_health_identity/verifiedhealthidentity/jose/Base64url -/
def k9 : Class := { plain "com/example/verified_health_identity/verifiedhealthidentity/jose/Base64url" (some 0) with
  accessFlags := 49
  interfaces := #[]
  cf := some (fileOf pool9 8 #[] #[{ accessFlags := 2, nameIndex := 5, descriptorIndex := 6, attributes := #[] }, { accessFlags := 8, nameIndex := 40, descriptorIndex := 18, attributes := #[] }, { accessFlags := 9, nameIndex := 27, descriptorIndex := 28, attributes := #[] }] 49 2 #[] #[{ accessFlags := 26, nameIndex := 11, descriptorIndex := 12, attributes := #[] }, { accessFlags := 26, nameIndex := 21, descriptorIndex := 22, attributes := #[] }, { accessFlags := 26, nameIndex := 72, descriptorIndex := 73, attributes := #[] }])
  fields := #[{ name := "ENCODER", type := (.object "java/util/Base64$Encoder"), accessFlags := 26, slot := 0, constantValue := 0 }, { name := "DECODER", type := (.object "java/util/Base64$Decoder"), accessFlags := 26, slot := 1, constantValue := 0 }, { name := "NOT_BASE64URL", type := (.object "java/lang/String"), accessFlags := 26, slot := 2, constantValue := 0 }]
  methods := #[k9m0, k9m1, k9m2]
  instanceTypes := #[]
  staticTypes := #[(.object "java/util/Base64$Encoder"), (.object "java/util/Base64$Decoder"), (.object "java/lang/String")]
  resolved := Array.replicate 104 none
  statics := some 1 }

def pool10 : Array CpInfo := pool [(2, .class_ 4), (1, u "java/lang/Object"), (2, .fieldref 8 9), (0, .class_ 10), (0, .nameAndType 11 12), (0, u "java/util/Base64$Decoder"), (0, u "isURL"), (0, u "Z"), (0, .fieldref 8 14), (0, .nameAndType 15 12), (0, u "isMIME"), (0, .methodref 8 17), (0, .nameAndType 18 19), (0, u "decodedOutLength"), (0, u "([BII)I"), (0, .methodref 8 21), (0, .nameAndType 22 23), (0, u "decode0"), (0, u "([BII[B)I"), (6, .fieldref 31 32), (0, .class_ 33), (0, .nameAndType 34 35), (0, u "sun/nio/cs/ISO_8859_1"), (0, u "INSTANCE"), (0, u "Lsun/nio/cs/ISO_8859_1;"), (0, .methodref 37 38), (0, .class_ 39), (0, .nameAndType 40 41), (0, u "java/lang/String"), (0, u "getBytes"), (0, u "(Ljava/nio/charset/Charset;)[B"), (0, .methodref 8 43), (0, .nameAndType 44 45), (0, u "decode"), (0, u "([B)[B"), (49, .fieldref 8 96), (0, .nameAndType 97 98), (0, u "fromBase64URL"), (0, u "[I"), (2, u "fromBase64"), (5, .long 3), (1, .long 4), (1, .methodref 8 112), (0, .nameAndType 113 114), (0, u "decodeBlock"), (0, u "([BII[BIZZ)I"), (45, u "RFC4648"), (0, u "Ljava/util/Base64$Decoder;"), (2, u "RFC4648_URLSAFE"), (2, u "RFC2045"), (11, u "(Ljava/lang/String;)[B"), (40, .class_ 221), (0, u "java/util/Base64")] 4

def k10c0 : Code := { maxStack := 5, maxLocals := 4, code := jdk_2450_method_2_code, exceptionTable := #[], attributes := #[] }
def k10m0 : Method := { name := "decode", desc := "([B)[B", sig := { parameters := [(.array .byte)], returnType := some (.array .byte) }, accessFlags := 1, code := some k10c0 }
def k10c1 : Code := { maxStack := 3, maxLocals := 2, code := jdk_2450_method_3_code, exceptionTable := #[], attributes := #[] }
def k10m1 : Method := { name := "decode", desc := "(Ljava/lang/String;)[B", sig := { parameters := [(.object "java/lang/String")], returnType := some (.array .byte) }, accessFlags := 1, code := some k10c1 }
def k10c2 : Code := { maxStack := 5, maxLocals := 9, code := jdk_2450_method_7_code, exceptionTable := #[], attributes := #[] }
def k10m2 : Method := { name := "decodedOutLength", desc := "([BII)I", sig := { parameters := [(.array .byte), .int, .int], returnType := some .int }, accessFlags := 2, code := some k10c2 }
def k10c3 : Code := { maxStack := 4, maxLocals := 16, code := jdk_2450_method_8_code, exceptionTable := #[], attributes := #[] }
def k10m3 : Method := { name := "decodeBlock", desc := "([BII[BIZZ)I", sig := { parameters := [(.array .byte), .int, .int, (.array .byte), .int, .boolean, .boolean], returnType := some .int }, accessFlags := 2, code := some k10c3 }
def k10c4 : Code := { maxStack := 8, maxLocals := 11, code := jdk_2450_method_9_code, exceptionTable := #[], attributes := #[] }
def k10m4 : Method := { name := "decode0", desc := "([BII[B)I", sig := { parameters := [(.array .byte), .int, .int, (.array .byte)], returnType := some .int }, accessFlags := 2, code := some k10c4 }
/-- java/util/Base64$Decoder -/
def k10 : Class := { plain "java/util/Base64$Decoder" (some 0) with
  accessFlags := 33
  interfaces := #[]
  cf := some (fileOf pool10 8 #[.nestHost 220] #[{ accessFlags := 1, nameIndex := 44, descriptorIndex := 45, attributes := #[] }, { accessFlags := 1, nameIndex := 44, descriptorIndex := 179, attributes := #[] }, { accessFlags := 2, nameIndex := 18, descriptorIndex := 19, attributes := #[] }, { accessFlags := 2, nameIndex := 113, descriptorIndex := 114, attributes := #[] }, { accessFlags := 2, nameIndex := 22, descriptorIndex := 23, attributes := #[] }] 33 2 #[] #[{ accessFlags := 18, nameIndex := 11, descriptorIndex := 12, attributes := #[] }, { accessFlags := 18, nameIndex := 15, descriptorIndex := 12, attributes := #[] }, { accessFlags := 26, nameIndex := 101, descriptorIndex := 98, attributes := #[] }, { accessFlags := 26, nameIndex := 97, descriptorIndex := 98, attributes := #[] }, { accessFlags := 24, nameIndex := 160, descriptorIndex := 161, attributes := #[] }, { accessFlags := 24, nameIndex := 164, descriptorIndex := 161, attributes := #[] }, { accessFlags := 24, nameIndex := 167, descriptorIndex := 161, attributes := #[] }])
  fields := #[{ name := "isURL", type := .boolean, accessFlags := 18, slot := 0, constantValue := 0 }, { name := "isMIME", type := .boolean, accessFlags := 18, slot := 1, constantValue := 0 }, { name := "fromBase64", type := (.array .int), accessFlags := 26, slot := 0, constantValue := 0 }, { name := "fromBase64URL", type := (.array .int), accessFlags := 26, slot := 1, constantValue := 0 }, { name := "RFC4648", type := (.object "java/util/Base64$Decoder"), accessFlags := 24, slot := 2, constantValue := 0 }, { name := "RFC4648_URLSAFE", type := (.object "java/util/Base64$Decoder"), accessFlags := 24, slot := 3, constantValue := 0 }, { name := "RFC2045", type := (.object "java/util/Base64$Decoder"), accessFlags := 24, slot := 4, constantValue := 0 }]
  methods := #[k10m0, k10m1, k10m2, k10m3, k10m4]
  instanceTypes := #[.boolean, .boolean]
  staticTypes := #[(.array .int), (.array .int), (.object "java/util/Base64$Decoder"), (.object "java/util/Base64$Decoder"), (.object "java/util/Base64$Decoder")]
  resolved := Array.replicate 226 none
  statics := some 2 }

def pool11 : Array CpInfo := pool [(18, .class_ 20), (1, u "java/nio/charset/Charset"), (0, u "cache1"), (0, u "[Ljava/lang/Object;"), (2, u "cache2"), (0, .class_ 27), (0, u "java/lang/Object"), (0, .class_ 29), (0, u "java/nio/charset/Charset$1"), (4, .class_ 36), (1, u "java/nio/charset/Charset$ThreadTrackHolder"), (21, .class_ 59), (0, u "java/nio/charset/Charset$2"), (11, .class_ 73), (1, u "java/nio/charset/Charset$ExtendedProviderHolder"), (22, u "standardProvider"), (0, u "Ljava/nio/charset/spi/CharsetProvider;"), (29, u "name"), (7, .class_ 136), (0, u "java/nio/charset/Charset$3"), (5, u "defaultCharset"), (0, u "Ljava/nio/charset/Charset;"), (14, u "zeroAliases"), (0, u "[Ljava/lang/String;"), (29, u "Ljava/lang/String;"), (2, u "aliases"), (2, u "aliasSet"), (0, u "Ljava/util/Set;"), (82, .class_ 280), (0, u "java/lang/Comparable"), (84, .class_ 366), (0, u "java/nio/charset/Charset$ExtendedProviderHolder$1")] 3

/-- java/nio/charset/Charset -/
def k11 : Class := { plain "java/nio/charset/Charset" (some 0) with
  accessFlags := 1057
  interfaces := #[3]
  cf := some (fileOf pool11 18 #[.nestMembers #[71, 365, 34, 135, 58, 28]] #[] 1057 26 #[279] #[{ accessFlags := 26, nameIndex := 96, descriptorIndex := 97, attributes := #[] }, { accessFlags := 26, nameIndex := 158, descriptorIndex := 159, attributes := #[] }, { accessFlags := 74, nameIndex := 21, descriptorIndex := 22, attributes := #[] }, { accessFlags := 74, nameIndex := 25, descriptorIndex := 22, attributes := #[] }, { accessFlags := 10, nameIndex := 142, descriptorIndex := 143, attributes := #[] }, { accessFlags := 18, nameIndex := 127, descriptorIndex := 189, attributes := #[] }, { accessFlags := 18, nameIndex := 192, descriptorIndex := 159, attributes := #[] }, { accessFlags := 2, nameIndex := 195, descriptorIndex := 196, attributes := #[] }])
  fields := #[{ name := "standardProvider", type := (.object "java/nio/charset/spi/CharsetProvider"), accessFlags := 26, slot := 0, constantValue := 0 }, { name := "zeroAliases", type := (.array (.object "java/lang/String")), accessFlags := 26, slot := 1, constantValue := 0 }, { name := "cache1", type := (.array (.object "java/lang/Object")), accessFlags := 74, slot := 2, constantValue := 0 }, { name := "cache2", type := (.array (.object "java/lang/Object")), accessFlags := 74, slot := 3, constantValue := 0 }, { name := "defaultCharset", type := (.object "java/nio/charset/Charset"), accessFlags := 10, slot := 4, constantValue := 0 }, { name := "name", type := (.object "java/lang/String"), accessFlags := 18, slot := 0, constantValue := 0 }, { name := "aliases", type := (.array (.object "java/lang/String")), accessFlags := 18, slot := 1, constantValue := 0 }, { name := "aliasSet", type := (.object "java/util/Set"), accessFlags := 2, slot := 2, constantValue := 0 }]
  methods := #[]
  instanceTypes := #[(.object "java/lang/String"), (.array (.object "java/lang/String")), (.object "java/util/Set")]
  staticTypes := #[(.object "java/nio/charset/spi/CharsetProvider"), (.array (.object "java/lang/String")), (.array (.object "java/lang/Object")), (.array (.object "java/lang/Object")), (.object "java/nio/charset/Charset")]
  resolved := Array.replicate 370 none
  statics := none }

def pool12 : Array CpInfo := pool [(1, .class_ 2), (0, u "sun/nio/cs/HistoricallyNamedCharset"), (0, .class_ 4), (0, u "java/lang/Object")] 4

/-- sun/nio/cs/HistoricallyNamedCharset -/
def k12 : Class := { plain "sun/nio/cs/HistoricallyNamedCharset" (some 0) with
  accessFlags := 1537
  interfaces := #[]
  cf := some (fileOf pool12 1 #[] #[] 1537 3 #[] #[])
  fields := #[]
  methods := #[]
  instanceTypes := #[]
  staticTypes := #[]
  resolved := Array.replicate 9 none
  statics := none }

def pool13 : Array CpInfo := pool [(10, .class_ 12), (1, u "java/nio/charset/Charset"), (0, u "<init>"), (5, .class_ 20), (0, u "sun/nio/cs/ISO_8859_1"), (0, .class_ 22), (0, u "sun/nio/cs/ISO_8859_1$Decoder"), (3, .class_ 27), (0, u "sun/nio/cs/ISO_8859_1$Encoder"), (3, u "()V"), (2, u "INSTANCE"), (0, u "Lsun/nio/cs/ISO_8859_1;"), (0, .class_ 37), (0, u "sun/nio/cs/HistoricallyNamedCharset")] 22

def k13m0 : Method := { name := "<init>", desc := "()V", sig := { parameters := [], returnType := none }, accessFlags := 1, code := none }
/-- sun/nio/cs/ISO_8859_1 -/
def k13 : Class := { plain "sun/nio/cs/ISO_8859_1" (some 11) with
  accessFlags := 33
  interfaces := #[12]
  cf := some (fileOf pool13 19 #[.nestMembers #[26, 21]] #[{ accessFlags := 1, nameIndex := 13, descriptorIndex := 31, attributes := #[] }] 33 10 #[36] #[{ accessFlags := 25, nameIndex := 34, descriptorIndex := 35, attributes := #[] }])
  fields := #[{ name := "INSTANCE", type := (.object "sun/nio/cs/ISO_8859_1"), accessFlags := 25, slot := 0, constantValue := 0 }]
  methods := #[k13m0]
  instanceTypes := #[(.object "java/lang/String"), (.array (.object "java/lang/String")), (.object "java/util/Set")]
  staticTypes := #[(.object "sun/nio/cs/ISO_8859_1")]
  resolved := Array.replicate 60 none
  statics := some 3 }

def pool14 : Array CpInfo := pool [(2, .class_ 4), (1, u "java/nio/charset/Charset"), (130, .class_ 136), (0, u "sun/nio/cs/Unicode"), (0, .class_ 138), (0, u "sun/nio/cs/HistoricallyNamedCharset")] 15

/-- sun/nio/cs/Unicode -/
def k14 : Class := { plain "sun/nio/cs/Unicode" (some 11) with
  accessFlags := 1056
  interfaces := #[12]
  cf := some (fileOf pool14 135 #[] #[] 1056 2 #[137] #[])
  fields := #[]
  methods := #[]
  instanceTypes := #[(.object "java/lang/String"), (.array (.object "java/lang/String")), (.object "java/util/Set")]
  staticTypes := #[]
  resolved := Array.replicate 154 none
  statics := none }

def pool15 : Array CpInfo := pool [(10, .class_ 12), (1, u "sun/nio/cs/Unicode"), (0, u "<init>"), (3, .class_ 18), (0, u "sun/nio/cs/UTF_8$Decoder"), (3, .class_ 23), (0, u "sun/nio/cs/UTF_8$Encoder"), (15, .class_ 40), (0, u "sun/nio/cs/UTF_8"), (2, u "()V"), (2, u "INSTANCE"), (0, u "Lsun/nio/cs/UTF_8;"), (8, u "JLA"), (0, u "Ljdk/internal/access/JavaLangAccess;")] 26

def k15m0 : Method := { name := "<init>", desc := "()V", sig := { parameters := [], returnType := none }, accessFlags := 1, code := none }
/-- sun/nio/cs/UTF_8 -/
def k15 : Class := { plain "sun/nio/cs/UTF_8" (some 14) with
  accessFlags := 49
  interfaces := #[]
  cf := some (fileOf pool15 39 #[.nestMembers #[22, 17]] #[{ accessFlags := 1, nameIndex := 13, descriptorIndex := 43, attributes := #[] }] 49 10 #[] #[{ accessFlags := 25, nameIndex := 46, descriptorIndex := 47, attributes := #[] }, { accessFlags := 26, nameIndex := 56, descriptorIndex := 57, attributes := #[] }])
  fields := #[{ name := "INSTANCE", type := (.object "sun/nio/cs/UTF_8"), accessFlags := 25, slot := 0, constantValue := 0 }, { name := "JLA", type := (.object "jdk/internal/access/JavaLangAccess"), accessFlags := 26, slot := 1, constantValue := 0 }]
  methods := #[k15m0]
  instanceTypes := #[(.object "java/lang/String"), (.array (.object "java/lang/String")), (.object "java/util/Set")]
  staticTypes := #[(.object "sun/nio/cs/UTF_8"), (.object "jdk/internal/access/JavaLangAccess")]
  resolved := Array.replicate 84 none
  statics := some 4 }

def pool16 : Array CpInfo := pool [(1, .class_ 2), (0, u "java/lang/Cloneable"), (0, .class_ 4), (0, u "java/lang/Object")] 2

/-- java/lang/Cloneable -/
def k16 : Class := { plain "java/lang/Cloneable" (some 0) with
  accessFlags := 1537
  interfaces := #[]
  cf := some (fileOf pool16 1 #[] #[] 1537 3 #[] #[])
  fields := #[]
  methods := #[]
  instanceTypes := #[]
  staticTypes := #[]
  resolved := Array.replicate 7 none
  statics := none }

def pool17 : Array CpInfo := pool [(2, .class_ 4), (1, u "java/lang/Object"), (0, u "<init>"), (1, .fieldref 8 9), (0, .class_ 10), (0, .nameAndType 11 12), (0, u "java/util/Base64$Encoder"), (0, u "isURL"), (0, u "Z"), (2, u "newline"), (0, u "[B"), (0, .fieldref 8 18), (0, .nameAndType 19 20), (0, u "linemax"), (0, u "I"), (0, .fieldref 8 22), (0, .nameAndType 23 12), (0, u "doPadding"), (0, .methodref 25 26), (0, .class_ 27), (0, .nameAndType 28 29), (0, u "java/lang/Math"), (0, u "addExact"), (0, u "(II)I"), (0, .methodref 25 31), (0, .nameAndType 32 29), (0, u "multiplyExact"), (9, .methodref 8 43), (0, .nameAndType 44 45), (0, u "encodedOutLength"), (0, u "(IZ)I"), (0, .methodref 8 47), (0, .nameAndType 48 49), (0, u "encode0"), (0, u "([BII[B)I"), (11, .methodref 8 62), (0, .nameAndType 63 64), (0, u "encode"), (0, u "([B)[B"), (0, .class_ 66), (0, u "java/lang/String"), (0, .methodref 65 68), (0, .nameAndType 5 69), (0, u "([BIII)V"), (41, .fieldref 8 112), (0, .nameAndType 113 114), (0, u "toBase64URL"), (0, u "[C"), (2, u "toBase64"), (6, .methodref 25 125), (0, .nameAndType 126 29), (0, u "min"), (0, .methodref 8 128), (0, .nameAndType 129 130), (0, u "encodeBlock"), (0, u "([BII[BIZ)V"), (2, u "CRLF"), (2, u "RFC4648"), (0, u "Ljava/util/Base64$Encoder;"), (2, u "RFC4648_URLSAFE"), (2, u "RFC2045"), (0, u "MIMELINEMAX"), (18, u "encodeToString"), (0, u "([B)Ljava/lang/String;"), (34, .class_ 200), (0, u "java/util/Base64")] 3

def k17c0 : Code := { maxStack := 3, maxLocals := 5, code := jdk_2452_method_2_code, exceptionTable := #[{ startPc := 2, endPc := 79, handlerPc := 82, catchType := 33 }], attributes := #[] }
def k17m0 : Method := { name := "encodedOutLength", desc := "(IZ)I", sig := { parameters := [.int, .boolean], returnType := some .int }, accessFlags := 18, code := some k17c0 }
def k17c1 : Code := { maxStack := 5, maxLocals := 5, code := jdk_2452_method_3_code, exceptionTable := #[], attributes := #[] }
def k17m1 : Method := { name := "encode", desc := "([B)[B", sig := { parameters := [(.array .byte)], returnType := some (.array .byte) }, accessFlags := 1, code := some k17c1 }
def k17c2 : Code := { maxStack := 6, maxLocals := 3, code := jdk_2452_method_5_code, exceptionTable := #[], attributes := #[] }
def k17m2 : Method := { name := "encodeToString", desc := "([B)Ljava/lang/String;", sig := { parameters := [(.array .byte)], returnType := some (.object "java/lang/String") }, accessFlags := 1, code := some k17c2 }
def k17c3 : Code := { maxStack := 5, maxLocals := 11, code := jdk_2452_method_9_code, exceptionTable := #[], attributes := #[] }
def k17m3 : Method := { name := "encodeBlock", desc := "([BII[BIZ)V", sig := { parameters := [(.array .byte), .int, .int, (.array .byte), .int, .boolean], returnType := none }, accessFlags := 2, code := some k17c3 }
def k17c4 : Code := { maxStack := 7, maxLocals := 16, code := jdk_2452_method_10_code, exceptionTable := #[], attributes := #[] }
def k17m4 : Method := { name := "encode0", desc := "([BII[B)I", sig := { parameters := [(.array .byte), .int, .int, (.array .byte)], returnType := some .int }, accessFlags := 2, code := some k17c4 }
/-- java/util/Base64$Encoder -/
def k17 : Class := { plain "java/util/Base64$Encoder" (some 0) with
  accessFlags := 33
  interfaces := #[]
  cf := some (fileOf pool17 8 #[.nestHost 199] #[{ accessFlags := 18, nameIndex := 44, descriptorIndex := 45, attributes := #[] }, { accessFlags := 1, nameIndex := 63, descriptorIndex := 64, attributes := #[] }, { accessFlags := 1, nameIndex := 163, descriptorIndex := 164, attributes := #[] }, { accessFlags := 2, nameIndex := 129, descriptorIndex := 130, attributes := #[] }, { accessFlags := 2, nameIndex := 48, descriptorIndex := 49, attributes := #[] }] 33 2 #[] #[{ accessFlags := 18, nameIndex := 15, descriptorIndex := 16, attributes := #[] }, { accessFlags := 18, nameIndex := 19, descriptorIndex := 20, attributes := #[] }, { accessFlags := 18, nameIndex := 11, descriptorIndex := 12, attributes := #[] }, { accessFlags := 18, nameIndex := 23, descriptorIndex := 12, attributes := #[] }, { accessFlags := 26, nameIndex := 117, descriptorIndex := 114, attributes := #[] }, { accessFlags := 26, nameIndex := 113, descriptorIndex := 114, attributes := #[] }, { accessFlags := 26, nameIndex := 144, descriptorIndex := 20, attributes := #[] }, { accessFlags := 26, nameIndex := 133, descriptorIndex := 16, attributes := #[] }, { accessFlags := 24, nameIndex := 136, descriptorIndex := 137, attributes := #[] }, { accessFlags := 24, nameIndex := 140, descriptorIndex := 137, attributes := #[] }, { accessFlags := 24, nameIndex := 143, descriptorIndex := 137, attributes := #[] }])
  fields := #[{ name := "newline", type := (.array .byte), accessFlags := 18, slot := 0, constantValue := 0 }, { name := "linemax", type := .int, accessFlags := 18, slot := 1, constantValue := 0 }, { name := "isURL", type := .boolean, accessFlags := 18, slot := 2, constantValue := 0 }, { name := "doPadding", type := .boolean, accessFlags := 18, slot := 3, constantValue := 0 }, { name := "toBase64", type := (.array .char), accessFlags := 26, slot := 0, constantValue := 0 }, { name := "toBase64URL", type := (.array .char), accessFlags := 26, slot := 1, constantValue := 0 }, { name := "MIMELINEMAX", type := .int, accessFlags := 26, slot := 2, constantValue := 0 }, { name := "CRLF", type := (.array .byte), accessFlags := 26, slot := 3, constantValue := 0 }, { name := "RFC4648", type := (.object "java/util/Base64$Encoder"), accessFlags := 24, slot := 4, constantValue := 0 }, { name := "RFC4648_URLSAFE", type := (.object "java/util/Base64$Encoder"), accessFlags := 24, slot := 5, constantValue := 0 }, { name := "RFC2045", type := (.object "java/util/Base64$Encoder"), accessFlags := 24, slot := 6, constantValue := 0 }]
  methods := #[k17m0, k17m1, k17m2, k17m3, k17m4]
  instanceTypes := #[(.array .byte), .int, .boolean, .boolean]
  staticTypes := #[(.array .char), (.array .char), .int, (.array .byte), (.object "java/util/Base64$Encoder"), (.object "java/util/Base64$Encoder"), (.object "java/util/Base64$Encoder")]
  resolved := Array.replicate 204 none
  statics := some 5 }

def pool18 : Array CpInfo := pool [(1, .class_ 2), (0, u "java/lang/Math"), (1, .class_ 6), (1, u "java/lang/Object"), (0, u "<init>"), (0, u "()V"), (89, .class_ 100), (1, u "java/lang/Math$RandomNumberGeneratorHolder"), (19, u "multiplyExact"), (51, u "negativeZeroFloatBits"), (0, u "J"), (2, u "negativeZeroDoubleBits"), (24, u "min"), (43, u "$assertionsDisabled"), (0, u "Z"), (88, u "(II)I"), (2, u "twoToTheDoubleScaleDown"), (0, u "D"), (4, u "twoToTheDoubleScaleUp"), (9, u "E"), (3, u "PI"), (2, u "TAU"), (2, u "DEGREES_TO_RADIANS"), (0, u "RADIANS_TO_DEGREES"), (27, u "addExact")] 66

def k18m0 : Method := { name := "<init>", desc := "()V", sig := { parameters := [], returnType := none }, accessFlags := 2, code := none }
def k18c1 : Code := { maxStack := 3, maxLocals := 3, code := jdk_29_method_24_code, exceptionTable := #[], attributes := #[] }
def k18m1 : Method := { name := "addExact", desc := "(II)I", sig := { parameters := [.int, .int], returnType := some .int }, accessFlags := 9, code := some k18c1 }
def k18c2 : Code := { maxStack := 4, maxLocals := 4, code := jdk_29_method_28_code, exceptionTable := #[], attributes := #[] }
def k18m2 : Method := { name := "multiplyExact", desc := "(II)I", sig := { parameters := [.int, .int], returnType := some .int }, accessFlags := 9, code := some k18c2 }
def k18c3 : Code := { maxStack := 2, maxLocals := 2, code := jdk_29_method_69_code, exceptionTable := #[], attributes := #[] }
def k18m3 : Method := { name := "min", desc := "(II)I", sig := { parameters := [.int, .int], returnType := some .int }, accessFlags := 9, code := some k18c3 }
/-- java/lang/Math -/
def k18 : Class := { plain "java/lang/Math" (some 0) with
  accessFlags := 49
  interfaces := #[]
  cf := some (fileOf pool18 1 #[.nestMembers #[98]] #[{ accessFlags := 2, nameIndex := 7, descriptorIndex := 8, attributes := #[] }, { accessFlags := 9, nameIndex := 393, descriptorIndex := 335, attributes := #[] }, { accessFlags := 9, nameIndex := 120, descriptorIndex := 335, attributes := #[] }, { accessFlags := 9, nameIndex := 201, descriptorIndex := 335, attributes := #[] }] 49 4 #[] #[{ accessFlags := 25, nameIndex := 354, descriptorIndex := 339, attributes := #[] }, { accessFlags := 25, nameIndex := 358, descriptorIndex := 339, attributes := #[] }, { accessFlags := 25, nameIndex := 361, descriptorIndex := 339, attributes := #[] }, { accessFlags := 26, nameIndex := 364, descriptorIndex := 339, attributes := #[] }, { accessFlags := 26, nameIndex := 365, descriptorIndex := 339, attributes := #[] }, { accessFlags := 26, nameIndex := 172, descriptorIndex := 173, attributes := #[] }, { accessFlags := 26, nameIndex := 176, descriptorIndex := 173, attributes := #[] }, { accessFlags := 8, nameIndex := 344, descriptorIndex := 339, attributes := #[] }, { accessFlags := 8, nameIndex := 338, descriptorIndex := 339, attributes := #[] }, { accessFlags := 4120, nameIndex := 245, descriptorIndex := 246, attributes := #[] }])
  fields := #[{ name := "E", type := .double, accessFlags := 25, slot := 0, constantValue := 0 }, { name := "PI", type := .double, accessFlags := 25, slot := 1, constantValue := 0 }, { name := "TAU", type := .double, accessFlags := 25, slot := 2, constantValue := 0 }, { name := "DEGREES_TO_RADIANS", type := .double, accessFlags := 26, slot := 3, constantValue := 0 }, { name := "RADIANS_TO_DEGREES", type := .double, accessFlags := 26, slot := 4, constantValue := 0 }, { name := "negativeZeroFloatBits", type := .long, accessFlags := 26, slot := 5, constantValue := 0 }, { name := "negativeZeroDoubleBits", type := .long, accessFlags := 26, slot := 6, constantValue := 0 }, { name := "twoToTheDoubleScaleUp", type := .double, accessFlags := 8, slot := 7, constantValue := 0 }, { name := "twoToTheDoubleScaleDown", type := .double, accessFlags := 8, slot := 8, constantValue := 0 }, { name := "$assertionsDisabled", type := .boolean, accessFlags := 4120, slot := 9, constantValue := 0 }]
  methods := #[k18m0, k18m1, k18m2, k18m3]
  instanceTypes := #[]
  staticTypes := #[.double, .double, .double, .double, .double, .long, .long, .double, .double, .boolean]
  resolved := Array.replicate 460 none
  statics := none }

def pool19 : Array CpInfo := pool [(2, .class_ 4), (1, u "java/lang/Object"), (0, u "<init>"), (0, u "()V"), (17, .class_ 26), (1, u "jdk/internal/util/Preconditions"), (22, u "checkFromIndexSize"), (5, .class_ 56), (0, u "jdk/internal/util/Preconditions$4"), (57, .class_ 115), (0, u "jdk/internal/util/Preconditions$1"), (7, u "SIOOBE_FORMATTER"), (0, u "Ljava/util/function/BiFunction;"), (0, .class_ 126), (0, u "jdk/internal/util/Preconditions$2"), (3, u "AIOOBE_FORMATTER"), (0, .class_ 132), (0, u "jdk/internal/util/Preconditions$3"), (3, u "IOOBE_FORMATTER"), (46, u "(IIILjava/util/function/BiFunction;)I")] 10

def k19m0 : Method := { name := "<init>", desc := "()V", sig := { parameters := [], returnType := none }, accessFlags := 1, code := none }
def k19c1 : Code := { maxStack := 4, maxLocals := 4, code := jdk_41_method_13_code, exceptionTable := #[], attributes := #[] }
def k19m1 : Method := { name := "checkFromIndexSize", desc := "(IIILjava/util/function/BiFunction;)I", sig := { parameters := [.int, .int, .int, (.object "java/util/function/BiFunction")], returnType := some .int }, accessFlags := 9, code := some k19c1 }
/-- jdk/internal/util/Preconditions -/
def k19 : Class := { plain "jdk/internal/util/Preconditions" (some 0) with
  accessFlags := 33
  interfaces := #[]
  cf := some (fileOf pool19 24 #[.nestMembers #[55, 131, 125, 114]] #[{ accessFlags := 1, nameIndex := 5, descriptorIndex := 6, attributes := #[] }, { accessFlags := 9, nameIndex := 49, descriptorIndex := 183, attributes := #[] }] 33 2 #[] #[{ accessFlags := 25, nameIndex := 123, descriptorIndex := 124, attributes := #[] }, { accessFlags := 25, nameIndex := 130, descriptorIndex := 124, attributes := #[] }, { accessFlags := 25, nameIndex := 136, descriptorIndex := 124, attributes := #[] }])
  fields := #[{ name := "SIOOBE_FORMATTER", type := (.object "java/util/function/BiFunction"), accessFlags := 25, slot := 0, constantValue := 0 }, { name := "AIOOBE_FORMATTER", type := (.object "java/util/function/BiFunction"), accessFlags := 25, slot := 1, constantValue := 0 }, { name := "IOOBE_FORMATTER", type := (.object "java/util/function/BiFunction"), accessFlags := 25, slot := 2, constantValue := 0 }]
  methods := #[k19m0, k19m1]
  instanceTypes := #[]
  staticTypes := #[(.object "java/util/function/BiFunction"), (.object "java/util/function/BiFunction"), (.object "java/util/function/BiFunction")]
  resolved := Array.replicate 194 none
  statics := some 6 }

def pool20 : Array CpInfo := pool [(2, .class_ 4), (1, u "java/lang/Object"), (0, u "<init>"), (0, u "()V"), (7, .class_ 16), (1, u "java/util/Arrays"), (57, .class_ 76), (1, u "java/util/Arrays$NaturalOrder"), (32, u "()Ljava/lang/Object;"), (3, .class_ 115), (1, u "java/util/Arrays$LegacyMergeSort"), (1, u "Z"), (10, .nameAndType 129 109), (0, u "clone"), (9, u "copyOfRange"), (170, .methodref 311 128), (0, .class_ 312), (0, u "[B"), (29, u "([BII)[B"), (32, .class_ 376), (0, u "java/util/Arrays$ArrayList"), (68, u "$assertionsDisabled"), (269, u "MIN_ARRAY_SORT_GRAN"), (0, u "I"), (2, u "INSERTIONSORT_THRESHOLD"), (255, .class_ 976), (0, u "java/util/Arrays$ArrayItr")] 52

def k20m0 : Method := { name := "<init>", desc := "()V", sig := { parameters := [], returnType := none }, accessFlags := 2, code := none }
def k20c1 : Code := { maxStack := 3, maxLocals := 3, code := jdk_65_method_132_code, exceptionTable := #[], attributes := #[] }
def k20m1 : Method := { name := "copyOfRange", desc := "([BII)[B", sig := { parameters := [(.array .byte), .int, .int], returnType := some (.array .byte) }, accessFlags := 9, code := some k20c1 }
/-- java/util/Arrays -/
def k20 : Class := { plain "java/util/Arrays" (some 0) with
  accessFlags := 49
  interfaces := #[]
  cf := some (fileOf pool20 14 #[.nestMembers #[975, 375, 113, 74]] #[{ accessFlags := 2, nameIndex := 5, descriptorIndex := 6, attributes := #[] }, { accessFlags := 9, nameIndex := 139, descriptorIndex := 342, attributes := #[] }] 49 2 #[] #[{ accessFlags := 26, nameIndex := 715, descriptorIndex := 716, attributes := #[] }, { accessFlags := 26, nameIndex := 719, descriptorIndex := 716, attributes := #[] }, { accessFlags := 4120, nameIndex := 445, descriptorIndex := 117, attributes := #[] }])
  fields := #[{ name := "MIN_ARRAY_SORT_GRAN", type := .int, accessFlags := 26, slot := 0, constantValue := 0 }, { name := "INSERTIONSORT_THRESHOLD", type := .int, accessFlags := 26, slot := 1, constantValue := 0 }, { name := "$assertionsDisabled", type := .boolean, accessFlags := 4120, slot := 2, constantValue := 0 }]
  methods := #[k20m0, k20m1]
  instanceTypes := #[]
  staticTypes := #[.int, .int, .boolean]
  resolved := Array.replicate 1029 none
  statics := none }

def pool21 : Array CpInfo := pool [(4, .class_ 6), (1, u "java/lang/Object"), (0, u "<init>"), (0, u "()V"), (5, .class_ 16), (1, u "java/lang/StringLatin1"), (104, u "$assertionsDisabled"), (0, u "Z"), (98, .class_ 223), (1, u "java/lang/StringLatin1$LinesSpliterator"), (57, u "equals"), (0, u "([B[B)Z"), (107, .class_ 391), (0, u "java/lang/StringLatin1$CharsSpliterator")] 3

def k21m0 : Method := { name := "<init>", desc := "()V", sig := { parameters := [], returnType := none }, accessFlags := 0, code := none }
def k21c1 : Code := { maxStack := 3, maxLocals := 3, code := jdk_43_method_13_code, exceptionTable := #[], attributes := #[] }
def k21m1 : Method := { name := "equals", desc := "([B[B)Z", sig := { parameters := [(.array .byte), (.array .byte)], returnType := some .boolean }, accessFlags := 9, code := some k21c1 }
/-- java/lang/StringLatin1 -/
def k21 : Class := { plain "java/lang/StringLatin1" (some 0) with
  accessFlags := 48
  interfaces := #[]
  cf := some (fileOf pool21 14 #[.nestMembers #[390, 221]] #[{ accessFlags := 0, nameIndex := 7, descriptorIndex := 8, attributes := #[] }, { accessFlags := 9, nameIndex := 281, descriptorIndex := 282, attributes := #[] }] 48 4 #[] #[{ accessFlags := 4120, nameIndex := 121, descriptorIndex := 122, attributes := #[] }])
  fields := #[{ name := "$assertionsDisabled", type := .boolean, accessFlags := 4120, slot := 0, constantValue := 0 }]
  methods := #[k21m0, k21m1]
  instanceTypes := #[]
  staticTypes := #[.boolean]
  resolved := Array.replicate 395 none
  statics := none }

def pool22 : Array CpInfo := pool [(9, u "<init>"), (6, .class_ 18), (1, u "java/lang/Object"), (0, u "()V"), (1, .class_ 23), (1, u "jdk/internal/util/ArraysSupport"), (0, u "LOG2_ARRAY_LONG_INDEX_SCALE"), (0, u "I"), (2, u "U"), (0, u "Ljdk/internal/misc/Unsafe;"), (8, u "BIG_ENDIAN"), (0, u "Z"), (8, u "LOG2_BYTE_BIT_SIZE"), (4, u "LOG2_ARRAY_INT_INDEX_SCALE"), (54, u "JLA"), (0, u "Ljdk/internal/access/JavaLangAccess;"), (11, u "LOG2_ARRAY_BOOLEAN_INDEX_SCALE"), (9, u "LOG2_ARRAY_BYTE_INDEX_SCALE"), (5, u "LOG2_ARRAY_CHAR_INDEX_SCALE"), (5, u "LOG2_ARRAY_SHORT_INDEX_SCALE"), (18, u "LOG2_ARRAY_FLOAT_INDEX_SCALE"), (24, u "LOG2_ARRAY_DOUBLE_INDEX_SCALE"), (89, u "T_BOOLEAN"), (2, u "T_CHAR"), (1, u "T_FLOAT"), (1, u "T_DOUBLE"), (1, u "T_BYTE"), (1, u "T_SHORT"), (1, u "T_INT"), (1, u "T_LONG"), (1, u "SOFT_MAX_ARRAY_LENGTH")] 83

def k22m0 : Method := { name := "<init>", desc := "()V", sig := { parameters := [], returnType := none }, accessFlags := 2, code := none }
/-- jdk/internal/util/ArraysSupport -/
def k22 : Class := { plain "jdk/internal/util/ArraysSupport" (some 0) with
  accessFlags := 33
  interfaces := #[]
  cf := some (fileOf pool22 21 #[] #[{ accessFlags := 2, nameIndex := 9, descriptorIndex := 19, attributes := #[] }] 33 16 #[] #[{ accessFlags := 24, nameIndex := 28, descriptorIndex := 29, attributes := #[] }, { accessFlags := 26, nameIndex := 38, descriptorIndex := 39, attributes := #[] }, { accessFlags := 25, nameIndex := 121, descriptorIndex := 25, attributes := #[] }, { accessFlags := 25, nameIndex := 131, descriptorIndex := 25, attributes := #[] }, { accessFlags := 25, nameIndex := 137, descriptorIndex := 25, attributes := #[] }, { accessFlags := 25, nameIndex := 143, descriptorIndex := 25, attributes := #[] }, { accessFlags := 25, nameIndex := 53, descriptorIndex := 25, attributes := #[] }, { accessFlags := 25, nameIndex := 24, descriptorIndex := 25, attributes := #[] }, { accessFlags := 25, nameIndex := 162, descriptorIndex := 25, attributes := #[] }, { accessFlags := 25, nameIndex := 187, descriptorIndex := 25, attributes := #[] }, { accessFlags := 26, nameIndex := 48, descriptorIndex := 25, attributes := #[] }, { accessFlags := 25, nameIndex := 277, descriptorIndex := 25, attributes := #[] }, { accessFlags := 25, nameIndex := 280, descriptorIndex := 25, attributes := #[] }, { accessFlags := 25, nameIndex := 282, descriptorIndex := 25, attributes := #[] }, { accessFlags := 25, nameIndex := 284, descriptorIndex := 25, attributes := #[] }, { accessFlags := 25, nameIndex := 286, descriptorIndex := 25, attributes := #[] }, { accessFlags := 25, nameIndex := 288, descriptorIndex := 25, attributes := #[] }, { accessFlags := 25, nameIndex := 290, descriptorIndex := 25, attributes := #[] }, { accessFlags := 25, nameIndex := 292, descriptorIndex := 25, attributes := #[] }, { accessFlags := 26, nameIndex := 108, descriptorIndex := 109, attributes := #[] }, { accessFlags := 25, nameIndex := 294, descriptorIndex := 25, attributes := #[] }])
  fields := #[{ name := "U", type := (.object "jdk/internal/misc/Unsafe"), accessFlags := 24, slot := 0, constantValue := 0 }, { name := "BIG_ENDIAN", type := .boolean, accessFlags := 26, slot := 1, constantValue := 0 }, { name := "LOG2_ARRAY_BOOLEAN_INDEX_SCALE", type := .int, accessFlags := 25, slot := 2, constantValue := 0 }, { name := "LOG2_ARRAY_BYTE_INDEX_SCALE", type := .int, accessFlags := 25, slot := 3, constantValue := 0 }, { name := "LOG2_ARRAY_CHAR_INDEX_SCALE", type := .int, accessFlags := 25, slot := 4, constantValue := 0 }, { name := "LOG2_ARRAY_SHORT_INDEX_SCALE", type := .int, accessFlags := 25, slot := 5, constantValue := 0 }, { name := "LOG2_ARRAY_INT_INDEX_SCALE", type := .int, accessFlags := 25, slot := 6, constantValue := 0 }, { name := "LOG2_ARRAY_LONG_INDEX_SCALE", type := .int, accessFlags := 25, slot := 7, constantValue := 0 }, { name := "LOG2_ARRAY_FLOAT_INDEX_SCALE", type := .int, accessFlags := 25, slot := 8, constantValue := 0 }, { name := "LOG2_ARRAY_DOUBLE_INDEX_SCALE", type := .int, accessFlags := 25, slot := 9, constantValue := 0 }, { name := "LOG2_BYTE_BIT_SIZE", type := .int, accessFlags := 26, slot := 10, constantValue := 0 }, { name := "T_BOOLEAN", type := .int, accessFlags := 25, slot := 11, constantValue := 0 }, { name := "T_CHAR", type := .int, accessFlags := 25, slot := 12, constantValue := 0 }, { name := "T_FLOAT", type := .int, accessFlags := 25, slot := 13, constantValue := 0 }, { name := "T_DOUBLE", type := .int, accessFlags := 25, slot := 14, constantValue := 0 }, { name := "T_BYTE", type := .int, accessFlags := 25, slot := 15, constantValue := 0 }, { name := "T_SHORT", type := .int, accessFlags := 25, slot := 16, constantValue := 0 }, { name := "T_INT", type := .int, accessFlags := 25, slot := 17, constantValue := 0 }, { name := "T_LONG", type := .int, accessFlags := 25, slot := 18, constantValue := 0 }, { name := "JLA", type := (.object "jdk/internal/access/JavaLangAccess"), accessFlags := 26, slot := 19, constantValue := 0 }, { name := "SOFT_MAX_ARRAY_LENGTH", type := .int, accessFlags := 25, slot := 20, constantValue := 0 }]
  methods := #[k22m0]
  instanceTypes := #[]
  staticTypes := #[(.object "jdk/internal/misc/Unsafe"), .boolean, .int, .int, .int, .int, .int, .int, .int, .int, .int, .int, .int, .int, .int, .int, .int, .int, .int, (.object "jdk/internal/access/JavaLangAccess"), .int]
  resolved := Array.replicate 378 none
  statics := some 7 }

/-- the primitive byte -/
def k23 : Class := { plain "byte" none with kind := .primitive 'B', accessFlags := 0x411 }
/-- [B -/
def k24 : Class := { plain "[B" (some 0) with kind := .array 23 .byte, interfaces := #[16, 2], accessFlags := 1041 }

/-- the primitive char -/
def k25 : Class := { plain "char" none with kind := .primitive 'C', accessFlags := 0x411 }
/-- [C -/
def k26 : Class := { plain "[C" (some 0) with kind := .array 25 .char, interfaces := #[16, 2], accessFlags := 1041 }

/-- the primitive int -/
def k27 : Class := { plain "int" none with kind := .primitive 'I', accessFlags := 0x411 }
/-- [I -/
def k28 : Class := { plain "[I" (some 0) with kind := .array 27 .int, interfaces := #[16, 2], accessFlags := 1041 }

def heap : Heap := #[{ cls := 7, slots := #[.long 0, .int 1, .null, .int 0, .null, .int 0, .int 0], vm := .statics 7 },
  { cls := 9, slots := #[.ref 9, .ref 8, .null], vm := .statics 9 },
  { cls := 10, slots := #[.null, .ref 12, .null, .null, .null], vm := .statics 10 },
  { cls := 13, slots := #[.ref 10], vm := .statics 13 },
  { cls := 15, slots := #[.ref 11, .null], vm := .statics 15 },
  { cls := 17, slots := #[.null, .ref 13, .int 0, .null, .null, .null, .null], vm := .statics 17 },
  { cls := 19, slots := #[.null, .null, .null], vm := .statics 19 },
  { cls := 22, slots := #[.null, .int 0, .int 0, .int 0, .int 0, .int 0, .int 0, .int 3, .int 0, .int 0, .int 0, .int 0, .int 0, .int 0, .int 0, .int 0, .int 0, .int 0, .int 0, .null, .int 0], vm := .statics 22 },
  { cls := 10, slots := #[.int 1, .int 0], vm := .none },
  { cls := 17, slots := #[.null, .int (-1), .int 1, .int 0], vm := .none },
  { cls := 13, slots := #[.null, .null, .null], vm := .none },
  { cls := 15, slots := #[.null, .null, .null], vm := .none },
  { cls := 28, slots := #[.int (-1), .int (-1), .int (-1), .int (-1), .int (-1), .int (-1), .int (-1), .int (-1), .int (-1), .int (-1), .int (-1), .int (-1), .int (-1), .int (-1), .int (-1), .int (-1), .int (-1), .int (-1), .int (-1), .int (-1), .int (-1), .int (-1), .int (-1), .int (-1), .int (-1), .int (-1), .int (-1), .int (-1), .int (-1), .int (-1), .int (-1), .int (-1), .int (-1), .int (-1), .int (-1), .int (-1), .int (-1), .int (-1), .int (-1), .int (-1), .int (-1), .int (-1), .int (-1), .int (-1), .int (-1), .int 62, .int (-1), .int (-1), .int 52, .int 53, .int 54, .int 55, .int 56, .int 57, .int 58, .int 59, .int 60, .int 61, .int (-1), .int (-1), .int (-1), .int (-2), .int (-1), .int (-1), .int (-1), .int 0, .int 1, .int 2, .int 3, .int 4, .int 5, .int 6, .int 7, .int 8, .int 9, .int 10, .int 11, .int 12, .int 13, .int 14, .int 15, .int 16, .int 17, .int 18, .int 19, .int 20, .int 21, .int 22, .int 23, .int 24, .int 25, .int (-1), .int (-1), .int (-1), .int (-1), .int 63, .int (-1), .int 26, .int 27, .int 28, .int 29, .int 30, .int 31, .int 32, .int 33, .int 34, .int 35, .int 36, .int 37, .int 38, .int 39, .int 40, .int 41, .int 42, .int 43, .int 44, .int 45, .int 46, .int 47, .int 48, .int 49, .int 50, .int 51, .int (-1), .int (-1), .int (-1), .int (-1), .int (-1), .int (-1), .int (-1), .int (-1), .int (-1), .int (-1), .int (-1), .int (-1), .int (-1), .int (-1), .int (-1), .int (-1), .int (-1), .int (-1), .int (-1), .int (-1), .int (-1), .int (-1), .int (-1), .int (-1), .int (-1), .int (-1), .int (-1), .int (-1), .int (-1), .int (-1), .int (-1), .int (-1), .int (-1), .int (-1), .int (-1), .int (-1), .int (-1), .int (-1), .int (-1), .int (-1), .int (-1), .int (-1), .int (-1), .int (-1), .int (-1), .int (-1), .int (-1), .int (-1), .int (-1), .int (-1), .int (-1), .int (-1), .int (-1), .int (-1), .int (-1), .int (-1), .int (-1), .int (-1), .int (-1), .int (-1), .int (-1), .int (-1), .int (-1), .int (-1), .int (-1), .int (-1), .int (-1), .int (-1), .int (-1), .int (-1), .int (-1), .int (-1), .int (-1), .int (-1), .int (-1), .int (-1), .int (-1), .int (-1), .int (-1), .int (-1), .int (-1), .int (-1), .int (-1), .int (-1), .int (-1), .int (-1), .int (-1), .int (-1), .int (-1), .int (-1), .int (-1), .int (-1), .int (-1), .int (-1), .int (-1), .int (-1), .int (-1), .int (-1), .int (-1), .int (-1), .int (-1), .int (-1), .int (-1), .int (-1), .int (-1), .int (-1), .int (-1), .int (-1), .int (-1), .int (-1), .int (-1), .int (-1), .int (-1), .int (-1), .int (-1), .int (-1), .int (-1), .int (-1), .int (-1), .int (-1), .int (-1), .int (-1), .int (-1), .int (-1), .int (-1), .int (-1), .int (-1), .int (-1), .int (-1), .int (-1), .int (-1), .int (-1), .int (-1)], vm := .none },
  { cls := 26, slots := #[.int 65, .int 66, .int 67, .int 68, .int 69, .int 70, .int 71, .int 72, .int 73, .int 74, .int 75, .int 76, .int 77, .int 78, .int 79, .int 80, .int 81, .int 82, .int 83, .int 84, .int 85, .int 86, .int 87, .int 88, .int 89, .int 90, .int 97, .int 98, .int 99, .int 100, .int 101, .int 102, .int 103, .int 104, .int 105, .int 106, .int 107, .int 108, .int 109, .int 110, .int 111, .int 112, .int 113, .int 114, .int 115, .int 116, .int 117, .int 118, .int 119, .int 120, .int 121, .int 122, .int 48, .int 49, .int 50, .int 51, .int 52, .int 53, .int 54, .int 55, .int 56, .int 57, .int 45, .int 95], vm := .none }]
def classes : Array Class := #[k0, k1, k2, k3, k4, k5, k6, k7, k8, k9, k10, k11, k12, k13, k14, k15, k16, k17, k18, k19, k20, k21, k22, k23, k24, k25, k26, k27, k28]
def interned : List (Array UInt16 × Addr) := []
def slotsUsed : Nat := 381
def theMethod : MethodId := ⟨1, 2⟩
def args0 : Array Value := #[.long 5, .int 2]
def aboutOver (below : List Frame) : State where
  vm := { classes := classes, interned := interned.toArray }
  heap := heap
  slotsUsed := slotsUsed
  threads := #[{ frames := .invoking theMethod args0 :: below }]
def below0 : List Frame := [.native { method := ⟨0, 0⟩, args := #[] }]
def about1 : State := aboutOver below0
def p0 : Program := .bare "" "" ""
def e0 : Env := launch0.env 0 0 0
theorem w_frames : about1.frames = Frame.invoking theMethod args0 :: below0 := rfl
set_option maxRecDepth 65536 in
theorem w_args : argsFit about1.vm theMethod args0 = true := by decide +kernel
set_option maxRecDepth 65536 in
theorem w_heap : heapFits about1 = true := by decide +kernel
set_option maxRecDepth 65536 in
theorem w_runnable : about1.curStatus? = some .runnable := by decide +kernel
set_option maxRecDepth 65536 in
theorem w_alone : about1.alone = true := by decide +kernel
set_option maxRecDepth 65536 in
theorem w_named : about1.methodNamed? x = some theMethod := by decide +kernel
set_option maxRecDepth 65536 in
theorem w_hears : about1.hears theMethod below0 = true := by decide +kernel
set_option maxRecDepth 65536 in
theorem w_ripe : about1.ripe theMethod args0 below0 = true := by decide +kernel
theorem w_running : about1.status = .running := rfl
set_option maxRecDepth 65536 in
theorem w_room : about1.hasRoom e0.platform room_1 = true :=
  launch0.hasRoom_least _ room_1 (by decide +kernel) (by decide +kernel) (by decide +kernel) (by decide +kernel) (by decide +kernel) (by decide +kernel)
theorem allAtoms_all (ts : List Jvm.Cond) (a : Array Jvm.Value) (st : Jvm.State) : (allAtoms ts).before a st = ts.all (fun c => c.before a st) := by
  induction ts with
  | nil => rfl
  | cons c t ih =>
    show (Jvm.Cond.and c (allAtoms t)).before a st = _
    rw [Jvm.Cond.before_and, ih, List.all_cons]
def words1 : List Jvm.Cond := Jvm.Cond.code x code maxLocals ret :: tables_1
/-- a 'code' word, met by the world's own term for the bytes: nothing is compared byte by byte -/
theorem code_word {y : MethodName} {bytes : ByteArray} {mx : Nat} {rt : Option FieldType} {a : Array Value} {s : State} {m : MethodId} {meth : Method} {c : Code} (h1 : s.methodNamed? y = some m) (h2 : s.vm.method? m = some meth) (h3 : meth.code = some c) (h4 : c.code = bytes)
    (h5 : (c.maxLocals == mx && c.exceptionTable.isEmpty && decide (c.maxStack ≤ mostOperands) && decide (meth.sig.returnType = rt) && !meth.locks && decide (parseMethodDescriptor y.desc = some meth.sig)) = true) : (Jvm.Cond.code y bytes mx rt).before a s = true := by
  simp only [Bool.and_eq_true, beq_iff_eq, Bool.not_eq_true', decide_eq_true_eq] at h5
  obtain ⟨⟨⟨⟨⟨g1, g2⟩, g3⟩, g4⟩, g5⟩, g6⟩ := h5
  simp [Cond.before, Cond.holds, Cond.value, h1, h2, h3, h4, g1, g2, g3, g4, g5, g6]
def isCode : Jvm.Cond → Bool
  | .code _ _ _ _ => true
  | _ => false
theorem all_split {L : List Jvm.Cond} {P : Jvm.Cond → Bool} (h1 : L.all (fun c => isCode c || P c) = true) (h2 : ∀ c ∈ L.filter isCode, P c = true) : L.all P = true := by
  refine List.all_eq_true.mpr fun c hc => ?_
  have h := List.all_eq_true.mp h1 c hc
  rcases Bool.eq_false_or_eq_true (isCode c) with hi | hi
  · exact h2 c (List.mem_filter.mpr ⟨hc, hi⟩)
  · simpa [hi] using h
set_option maxRecDepth 65536 in
theorem w_c0 : (Jvm.Cond.code x code maxLocals ret).before args0 about1 = true := code_word (m := ⟨1, 2⟩) (meth := k1m2) (c := k1c2) (by decide +kernel) rfl rfl rfl (by decide +kernel)
set_option maxRecDepth 65536 in
theorem w_c1 : (Jvm.Cond.code ({ cls := "com/example/verified_health_identity/verifiedhealthidentity/jose/Base64urlDecodePinLaw", name := "alpha", desc := "(I)C" } : Jvm.MethodName) method_2_code (1 : Nat) (Option.some Jvm.ClassFile.FieldType.char)).before args0 about1 = true := code_word (m := ⟨1, 1⟩) (meth := k1m1) (c := k1c1) (by decide +kernel) rfl rfl rfl (by decide +kernel)
set_option maxRecDepth 65536 in
theorem w_c2 : (Jvm.Cond.code ({ cls := "java/lang/String", name := "<init>", desc := "([C)V" } : Jvm.MethodName) jdk_42_method_3_code (2 : Nat) (Option.none : Option Jvm.ClassFile.FieldType)).before args0 about1 = true := code_word (m := ⟨7, 1⟩) (meth := k7m1) (c := k7c1) (by decide +kernel) rfl rfl rfl (by decide +kernel)
set_option maxRecDepth 65536 in
theorem w_c3 : (Jvm.Cond.code ({ cls := "java/lang/String", name := "<init>", desc := "([CIILjava/lang/Void;)V" } : Jvm.MethodName) jdk_42_method_149_code (6 : Nat) (Option.none : Option Jvm.ClassFile.FieldType)).before args0 about1 = true := code_word (m := ⟨7, 8⟩) (meth := k7m8) (c := k7c8) (by decide +kernel) rfl rfl rfl (by decide +kernel)
set_option maxRecDepth 65536 in
theorem w_c4 : (Jvm.Cond.code ({ cls := "java/lang/Object", name := "<init>", desc := "()V" } : Jvm.MethodName) object_method_1_code (1 : Nat) (Option.none : Option Jvm.ClassFile.FieldType)).before args0 about1 = true := code_word (m := ⟨0, 0⟩) (meth := k0m0) (c := k0c0) (by decide +kernel) rfl rfl rfl (by decide +kernel)
set_option maxRecDepth 65536 in
theorem w_c5 : (Jvm.Cond.code ({ cls := "java/lang/StringUTF16", name := "compress", desc := "([CII)[B" } : Jvm.MethodName) jdk_52_method_16_code (6 : Nat) (Option.some (Jvm.ClassFile.FieldType.array Jvm.ClassFile.FieldType.byte))).before args0 about1 = true := code_word (m := ⟨8, 2⟩) (meth := k8m2) (c := k8c2) (by decide +kernel) rfl rfl rfl (by decide +kernel)
set_option maxRecDepth 65536 in
theorem w_c6 : (Jvm.Cond.code ({ cls := "java/lang/StringUTF16", name := "compress", desc := "([CI[BII)I" } : Jvm.MethodName) jdk_52_method_21_code (7 : Nat) (Option.some Jvm.ClassFile.FieldType.int)).before args0 about1 = true := code_word (m := ⟨8, 3⟩) (meth := k8m3) (c := k8c3) (by decide +kernel) rfl rfl rfl (by decide +kernel)
set_option maxRecDepth 65536 in
theorem w_c7 : (Jvm.Cond.code ({ cls := "java/lang/StringUTF16", name := "coderFromArrayLen", desc := "([BI)B" } : Jvm.MethodName) jdk_52_method_15_code (2 : Nat) (Option.some Jvm.ClassFile.FieldType.byte)).before args0 about1 = true := code_word (m := ⟨8, 1⟩) (meth := k8m1) (c := k8c1) (by decide +kernel) rfl rfl rfl (by decide +kernel)
set_option maxRecDepth 65536 in
theorem w_c8 : (Jvm.Cond.code ({ cls := "java/util/Base64$Decoder", name := "decode", desc := "(Ljava/lang/String;)[B" } : Jvm.MethodName) jdk_2450_method_3_code (2 : Nat) (Option.some (Jvm.ClassFile.FieldType.array Jvm.ClassFile.FieldType.byte))).before args0 about1 = true := code_word (m := ⟨10, 1⟩) (meth := k10m1) (c := k10c1) (by decide +kernel) rfl rfl rfl (by decide +kernel)
set_option maxRecDepth 65536 in
theorem w_c9 : (Jvm.Cond.code ({ cls := "java/lang/String", name := "getBytes", desc := "(Ljava/nio/charset/Charset;)[B" } : Jvm.MethodName) jdk_42_method_64_code (2 : Nat) (Option.some (Jvm.ClassFile.FieldType.array Jvm.ClassFile.FieldType.byte))).before args0 about1 = true := code_word (m := ⟨7, 6⟩) (meth := k7m6) (c := k7c6) (by decide +kernel) rfl rfl rfl (by decide +kernel)
set_option maxRecDepth 65536 in
theorem w_c10 : (Jvm.Cond.code ({ cls := "java/lang/String", name := "coder", desc := "()B" } : Jvm.MethodName) jdk_42_method_152_code (1 : Nat) (Option.some Jvm.ClassFile.FieldType.byte)).before args0 about1 = true := code_word (m := ⟨7, 9⟩) (meth := k7m9) (c := k7c9) (by decide +kernel) rfl rfl rfl (by decide +kernel)
set_option maxRecDepth 65536 in
theorem w_c11 : (Jvm.Cond.code ({ cls := "java/lang/String", name := "encode", desc := "(Ljava/nio/charset/Charset;B[B)[B" } : Jvm.MethodName) jdk_42_method_18_code (3 : Nat) (Option.some (Jvm.ClassFile.FieldType.array Jvm.ClassFile.FieldType.byte))).before args0 about1 = true := code_word (m := ⟨7, 3⟩) (meth := k7m3) (c := k7c3) (by decide +kernel) rfl rfl rfl (by decide +kernel)
set_option maxRecDepth 65536 in
theorem w_c12 : (Jvm.Cond.code ({ cls := "java/lang/String", name := "encode8859_1", desc := "(B[B)[B" } : Jvm.MethodName) jdk_42_method_26_code (2 : Nat) (Option.some (Jvm.ClassFile.FieldType.array Jvm.ClassFile.FieldType.byte))).before args0 about1 = true := code_word (m := ⟨7, 4⟩) (meth := k7m4) (c := k7c4) (by decide +kernel) rfl rfl rfl (by decide +kernel)
set_option maxRecDepth 65536 in
theorem w_c13 : (Jvm.Cond.code ({ cls := "java/lang/String", name := "encode8859_1", desc := "(B[BZ)[B" } : Jvm.MethodName) jdk_42_method_27_code (10 : Nat) (Option.some (Jvm.ClassFile.FieldType.array Jvm.ClassFile.FieldType.byte))).before args0 about1 = true := code_word (m := ⟨7, 5⟩) (meth := k7m5) (c := k7c5) (by decide +kernel) rfl rfl rfl (by decide +kernel)
set_option maxRecDepth 65536 in
theorem w_c14 : (Jvm.Cond.code ({ cls := "java/util/Base64$Decoder", name := "decode", desc := "([B)[B" } : Jvm.MethodName) jdk_2450_method_2_code (4 : Nat) (Option.some (Jvm.ClassFile.FieldType.array Jvm.ClassFile.FieldType.byte))).before args0 about1 = true := code_word (m := ⟨10, 0⟩) (meth := k10m0) (c := k10c0) (by decide +kernel) rfl rfl rfl (by decide +kernel)
set_option maxRecDepth 65536 in
theorem w_c15 : (Jvm.Cond.code ({ cls := "java/util/Base64$Decoder", name := "decodedOutLength", desc := "([BII)I" } : Jvm.MethodName) jdk_2450_method_7_code (9 : Nat) (Option.some Jvm.ClassFile.FieldType.int)).before args0 about1 = true := code_word (m := ⟨10, 2⟩) (meth := k10m2) (c := k10c2) (by decide +kernel) rfl rfl rfl (by decide +kernel)
set_option maxRecDepth 65536 in
theorem w_c16 : (Jvm.Cond.code ({ cls := "java/util/Base64$Decoder", name := "decode0", desc := "([BII[B)I" } : Jvm.MethodName) jdk_2450_method_9_code (11 : Nat) (Option.some Jvm.ClassFile.FieldType.int)).before args0 about1 = true := code_word (m := ⟨10, 4⟩) (meth := k10m4) (c := k10c4) (by decide +kernel) rfl rfl rfl (by decide +kernel)
set_option maxRecDepth 65536 in
theorem w_c17 : (Jvm.Cond.code ({ cls := "com/example/verified_health_identity/verifiedhealthidentity/jose/Base64url", name := "encode", desc := "([B)Ljava/lang/String;" } : Jvm.MethodName) prog_16_method_2_code (1 : Nat) (Option.some (Jvm.ClassFile.FieldType.object "java/lang/String"))).before args0 about1 = true := code_word (m := ⟨9, 1⟩) (meth := k9m1) (c := k9c1) (by decide +kernel) rfl rfl rfl (by decide +kernel)
set_option maxRecDepth 65536 in
theorem w_c18 : (Jvm.Cond.code ({ cls := "java/util/Base64$Encoder", name := "encodeToString", desc := "([B)Ljava/lang/String;" } : Jvm.MethodName) jdk_2452_method_5_code (3 : Nat) (Option.some (Jvm.ClassFile.FieldType.object "java/lang/String"))).before args0 about1 = true := code_word (m := ⟨17, 2⟩) (meth := k17m2) (c := k17c2) (by decide +kernel) rfl rfl rfl (by decide +kernel)
set_option maxRecDepth 65536 in
theorem w_c19 : (Jvm.Cond.code ({ cls := "java/util/Base64$Encoder", name := "encode", desc := "([B)[B" } : Jvm.MethodName) jdk_2452_method_3_code (5 : Nat) (Option.some (Jvm.ClassFile.FieldType.array Jvm.ClassFile.FieldType.byte))).before args0 about1 = true := code_word (m := ⟨17, 1⟩) (meth := k17m1) (c := k17c1) (by decide +kernel) rfl rfl rfl (by decide +kernel)
set_option maxRecDepth 65536 in
theorem w_c20 : (Jvm.Cond.code ({ cls := "java/lang/Math", name := "multiplyExact", desc := "(II)I" } : Jvm.MethodName) jdk_29_method_28_code (4 : Nat) (Option.some Jvm.ClassFile.FieldType.int)).before args0 about1 = true := code_word (m := ⟨18, 2⟩) (meth := k18m2) (c := k18c2) (by decide +kernel) rfl rfl rfl (by decide +kernel)
set_option maxRecDepth 65536 in
theorem w_c21 : (Jvm.Cond.code ({ cls := "java/lang/Math", name := "addExact", desc := "(II)I" } : Jvm.MethodName) jdk_29_method_24_code (3 : Nat) (Option.some Jvm.ClassFile.FieldType.int)).before args0 about1 = true := code_word (m := ⟨18, 1⟩) (meth := k18m1) (c := k18c1) (by decide +kernel) rfl rfl rfl (by decide +kernel)
set_option maxRecDepth 65536 in
theorem w_c22 : (Jvm.Cond.code ({ cls := "java/util/Base64$Encoder", name := "encode0", desc := "([BII[B)I" } : Jvm.MethodName) jdk_2452_method_10_code (16 : Nat) (Option.some Jvm.ClassFile.FieldType.int)).before args0 about1 = true := code_word (m := ⟨17, 4⟩) (meth := k17m4) (c := k17c4) (by decide +kernel) rfl rfl rfl (by decide +kernel)
set_option maxRecDepth 65536 in
theorem w_c23 : (Jvm.Cond.code ({ cls := "java/lang/String", name := "<init>", desc := "([BIII)V" } : Jvm.MethodName) jdk_42_method_7_code (7 : Nat) (Option.none : Option Jvm.ClassFile.FieldType)).before args0 about1 = true := code_word (m := ⟨7, 2⟩) (meth := k7m2) (c := k7c2) (by decide +kernel) rfl rfl rfl (by decide +kernel)
set_option maxRecDepth 65536 in
theorem w_c24 : (Jvm.Cond.code ({ cls := "java/lang/String", name := "checkBoundsOffCount", desc := "(III)I" } : Jvm.MethodName) jdk_42_method_157_code (3 : Nat) (Option.some Jvm.ClassFile.FieldType.int)).before args0 about1 = true := code_word (m := ⟨7, 10⟩) (meth := k7m10) (c := k7c10) (by decide +kernel) rfl rfl rfl (by decide +kernel)
set_option maxRecDepth 65536 in
theorem w_c25 : (Jvm.Cond.code ({ cls := "jdk/internal/util/Preconditions", name := "checkFromIndexSize", desc := "(IIILjava/util/function/BiFunction;)I" } : Jvm.MethodName) jdk_41_method_13_code (4 : Nat) (Option.some Jvm.ClassFile.FieldType.int)).before args0 about1 = true := code_word (m := ⟨19, 1⟩) (meth := k19m1) (c := k19c1) (by decide +kernel) rfl rfl rfl (by decide +kernel)
set_option maxRecDepth 65536 in
theorem w_c26 : (Jvm.Cond.code ({ cls := "java/util/Arrays", name := "copyOfRange", desc := "([BII)[B" } : Jvm.MethodName) jdk_65_method_132_code (3 : Nat) (Option.some (Jvm.ClassFile.FieldType.array Jvm.ClassFile.FieldType.byte))).before args0 about1 = true := code_word (m := ⟨20, 1⟩) (meth := k20m1) (c := k20c1) (by decide +kernel) rfl rfl rfl (by decide +kernel)
set_option maxRecDepth 65536 in
theorem w_c27 : (Jvm.Cond.code ({ cls := "java/lang/String", name := "equals", desc := "(Ljava/lang/Object;)Z" } : Jvm.MethodName) jdk_42_method_66_code (3 : Nat) (Option.some Jvm.ClassFile.FieldType.boolean)).before args0 about1 = true := code_word (m := ⟨7, 7⟩) (meth := k7m7) (c := k7c7) (by decide +kernel) rfl rfl rfl (by decide +kernel)
set_option maxRecDepth 65536 in
theorem w_c28 : (Jvm.Cond.code ({ cls := "java/lang/StringLatin1", name := "equals", desc := "([B[B)Z" } : Jvm.MethodName) jdk_43_method_13_code (3 : Nat) (Option.some Jvm.ClassFile.FieldType.boolean)).before args0 about1 = true := code_word (m := ⟨21, 1⟩) (meth := k21m1) (c := k21c1) (by decide +kernel) rfl rfl rfl (by decide +kernel)
set_option maxRecDepth 65536 in
theorem w_c29 : (Jvm.Cond.code ({ cls := "java/util/Base64$Decoder", name := "decodeBlock", desc := "([BII[BIZZ)I" } : Jvm.MethodName) jdk_2450_method_8_code (16 : Nat) (Option.some Jvm.ClassFile.FieldType.int)).before args0 about1 = true := code_word (m := ⟨10, 3⟩) (meth := k10m3) (c := k10c3) (by decide +kernel) rfl rfl rfl (by decide +kernel)
set_option maxRecDepth 65536 in
theorem w_c30 : (Jvm.Cond.code ({ cls := "java/lang/Math", name := "min", desc := "(II)I" } : Jvm.MethodName) jdk_29_method_69_code (2 : Nat) (Option.some Jvm.ClassFile.FieldType.int)).before args0 about1 = true := code_word (m := ⟨18, 3⟩) (meth := k18m3) (c := k18c3) (by decide +kernel) rfl rfl rfl (by decide +kernel)
set_option maxRecDepth 65536 in
theorem w_c31 : (Jvm.Cond.code ({ cls := "java/util/Base64$Encoder", name := "encodeBlock", desc := "([BII[BIZ)V" } : Jvm.MethodName) jdk_2452_method_9_code (11 : Nat) (Option.none : Option Jvm.ClassFile.FieldType)).before args0 about1 = true := code_word (m := ⟨17, 3⟩) (meth := k17m3) (c := k17c3) (by decide +kernel) rfl rfl rfl (by decide +kernel)
def codes1 : List Jvm.Cond := [Jvm.Cond.code x code maxLocals ret, Jvm.Cond.code ({ cls := "com/example/verified_health_identity/verifiedhealthidentity/jose/Base64urlDecodePinLaw", name := "alpha", desc := "(I)C" } : Jvm.MethodName) method_2_code (1 : Nat) (Option.some Jvm.ClassFile.FieldType.char), Jvm.Cond.code ({ cls := "java/lang/String", name := "<init>", desc := "([C)V" } : Jvm.MethodName) jdk_42_method_3_code (2 : Nat) (Option.none : Option Jvm.ClassFile.FieldType), Jvm.Cond.code ({ cls := "java/lang/String", name := "<init>", desc := "([CIILjava/lang/Void;)V" } : Jvm.MethodName) jdk_42_method_149_code (6 : Nat) (Option.none : Option Jvm.ClassFile.FieldType), Jvm.Cond.code ({ cls := "java/lang/Object", name := "<init>", desc := "()V" } : Jvm.MethodName) object_method_1_code (1 : Nat) (Option.none : Option Jvm.ClassFile.FieldType), Jvm.Cond.code ({ cls := "java/lang/StringUTF16", name := "compress", desc := "([CII)[B" } : Jvm.MethodName) jdk_52_method_16_code (6 : Nat) (Option.some (Jvm.ClassFile.FieldType.array Jvm.ClassFile.FieldType.byte)), Jvm.Cond.code ({ cls := "java/lang/StringUTF16", name := "compress", desc := "([CI[BII)I" } : Jvm.MethodName) jdk_52_method_21_code (7 : Nat) (Option.some Jvm.ClassFile.FieldType.int), Jvm.Cond.code ({ cls := "java/lang/StringUTF16", name := "coderFromArrayLen", desc := "([BI)B" } : Jvm.MethodName) jdk_52_method_15_code (2 : Nat) (Option.some Jvm.ClassFile.FieldType.byte), Jvm.Cond.code ({ cls := "java/util/Base64$Decoder", name := "decode", desc := "(Ljava/lang/String;)[B" } : Jvm.MethodName) jdk_2450_method_3_code (2 : Nat) (Option.some (Jvm.ClassFile.FieldType.array Jvm.ClassFile.FieldType.byte)), Jvm.Cond.code ({ cls := "java/lang/String", name := "getBytes", desc := "(Ljava/nio/charset/Charset;)[B" } : Jvm.MethodName) jdk_42_method_64_code (2 : Nat) (Option.some (Jvm.ClassFile.FieldType.array Jvm.ClassFile.FieldType.byte)), Jvm.Cond.code ({ cls := "java/lang/String", name := "coder", desc := "()B" } : Jvm.MethodName) jdk_42_method_152_code (1 : Nat) (Option.some Jvm.ClassFile.FieldType.byte), Jvm.Cond.code ({ cls := "java/lang/String", name := "encode", desc := "(Ljava/nio/charset/Charset;B[B)[B" } : Jvm.MethodName) jdk_42_method_18_code (3 : Nat) (Option.some (Jvm.ClassFile.FieldType.array Jvm.ClassFile.FieldType.byte)), Jvm.Cond.code ({ cls := "java/lang/String", name := "encode8859_1", desc := "(B[B)[B" } : Jvm.MethodName) jdk_42_method_26_code (2 : Nat) (Option.some (Jvm.ClassFile.FieldType.array Jvm.ClassFile.FieldType.byte)), Jvm.Cond.code ({ cls := "java/lang/String", name := "encode8859_1", desc := "(B[BZ)[B" } : Jvm.MethodName) jdk_42_method_27_code (10 : Nat) (Option.some (Jvm.ClassFile.FieldType.array Jvm.ClassFile.FieldType.byte)), Jvm.Cond.code ({ cls := "java/util/Base64$Decoder", name := "decode", desc := "([B)[B" } : Jvm.MethodName) jdk_2450_method_2_code (4 : Nat) (Option.some (Jvm.ClassFile.FieldType.array Jvm.ClassFile.FieldType.byte)), Jvm.Cond.code ({ cls := "java/util/Base64$Decoder", name := "decodedOutLength", desc := "([BII)I" } : Jvm.MethodName) jdk_2450_method_7_code (9 : Nat) (Option.some Jvm.ClassFile.FieldType.int), Jvm.Cond.code ({ cls := "java/util/Base64$Decoder", name := "decode0", desc := "([BII[B)I" } : Jvm.MethodName) jdk_2450_method_9_code (11 : Nat) (Option.some Jvm.ClassFile.FieldType.int), Jvm.Cond.code ({ cls := "com/example/verified_health_identity/verifiedhealthidentity/jose/Base64url", name := "encode", desc := "([B)Ljava/lang/String;" } : Jvm.MethodName) prog_16_method_2_code (1 : Nat) (Option.some (Jvm.ClassFile.FieldType.object "java/lang/String")), Jvm.Cond.code ({ cls := "java/util/Base64$Encoder", name := "encodeToString", desc := "([B)Ljava/lang/String;" } : Jvm.MethodName) jdk_2452_method_5_code (3 : Nat) (Option.some (Jvm.ClassFile.FieldType.object "java/lang/String")), Jvm.Cond.code ({ cls := "java/util/Base64$Encoder", name := "encode", desc := "([B)[B" } : Jvm.MethodName) jdk_2452_method_3_code (5 : Nat) (Option.some (Jvm.ClassFile.FieldType.array Jvm.ClassFile.FieldType.byte)), Jvm.Cond.code ({ cls := "java/lang/Math", name := "multiplyExact", desc := "(II)I" } : Jvm.MethodName) jdk_29_method_28_code (4 : Nat) (Option.some Jvm.ClassFile.FieldType.int), Jvm.Cond.code ({ cls := "java/lang/Math", name := "addExact", desc := "(II)I" } : Jvm.MethodName) jdk_29_method_24_code (3 : Nat) (Option.some Jvm.ClassFile.FieldType.int), Jvm.Cond.code ({ cls := "java/util/Base64$Encoder", name := "encode0", desc := "([BII[B)I" } : Jvm.MethodName) jdk_2452_method_10_code (16 : Nat) (Option.some Jvm.ClassFile.FieldType.int), Jvm.Cond.code ({ cls := "java/lang/String", name := "<init>", desc := "([BIII)V" } : Jvm.MethodName) jdk_42_method_7_code (7 : Nat) (Option.none : Option Jvm.ClassFile.FieldType), Jvm.Cond.code ({ cls := "java/lang/String", name := "checkBoundsOffCount", desc := "(III)I" } : Jvm.MethodName) jdk_42_method_157_code (3 : Nat) (Option.some Jvm.ClassFile.FieldType.int), Jvm.Cond.code ({ cls := "jdk/internal/util/Preconditions", name := "checkFromIndexSize", desc := "(IIILjava/util/function/BiFunction;)I" } : Jvm.MethodName) jdk_41_method_13_code (4 : Nat) (Option.some Jvm.ClassFile.FieldType.int), Jvm.Cond.code ({ cls := "java/util/Arrays", name := "copyOfRange", desc := "([BII)[B" } : Jvm.MethodName) jdk_65_method_132_code (3 : Nat) (Option.some (Jvm.ClassFile.FieldType.array Jvm.ClassFile.FieldType.byte)), Jvm.Cond.code ({ cls := "java/lang/String", name := "equals", desc := "(Ljava/lang/Object;)Z" } : Jvm.MethodName) jdk_42_method_66_code (3 : Nat) (Option.some Jvm.ClassFile.FieldType.boolean), Jvm.Cond.code ({ cls := "java/lang/StringLatin1", name := "equals", desc := "([B[B)Z" } : Jvm.MethodName) jdk_43_method_13_code (3 : Nat) (Option.some Jvm.ClassFile.FieldType.boolean), Jvm.Cond.code ({ cls := "java/util/Base64$Decoder", name := "decodeBlock", desc := "([BII[BIZZ)I" } : Jvm.MethodName) jdk_2450_method_8_code (16 : Nat) (Option.some Jvm.ClassFile.FieldType.int), Jvm.Cond.code ({ cls := "java/lang/Math", name := "min", desc := "(II)I" } : Jvm.MethodName) jdk_29_method_69_code (2 : Nat) (Option.some Jvm.ClassFile.FieldType.int), Jvm.Cond.code ({ cls := "java/util/Base64$Encoder", name := "encodeBlock", desc := "([BII[BIZ)V" } : Jvm.MethodName) jdk_2452_method_9_code (11 : Nat) (Option.none : Option Jvm.ClassFile.FieldType)]
set_option maxRecDepth 65536 in
theorem codes_eq : words1.filter isCode = codes1 := rfl
theorem w_codes : ∀ c ∈ words1.filter isCode, c.before args0 about1 = true := by
  rw [codes_eq]
  intro c hc
  simp only [codes1, List.mem_cons, List.not_mem_nil, or_false] at hc
  rcases hc with rfl | rfl | rfl | rfl | rfl | rfl | rfl | rfl | rfl | rfl | rfl | rfl | rfl | rfl | rfl | rfl | rfl | rfl | rfl | rfl | rfl | rfl | rfl | rfl | rfl | rfl | rfl | rfl | rfl | rfl | rfl | rfl
  · exact w_c0
  · exact w_c1
  · exact w_c2
  · exact w_c3
  · exact w_c4
  · exact w_c5
  · exact w_c6
  · exact w_c7
  · exact w_c8
  · exact w_c9
  · exact w_c10
  · exact w_c11
  · exact w_c12
  · exact w_c13
  · exact w_c14
  · exact w_c15
  · exact w_c16
  · exact w_c17
  · exact w_c18
  · exact w_c19
  · exact w_c20
  · exact w_c21
  · exact w_c22
  · exact w_c23
  · exact w_c24
  · exact w_c25
  · exact w_c26
  · exact w_c27
  · exact w_c28
  · exact w_c29
  · exact w_c30
  · exact w_c31
set_option maxRecDepth 65536 in
theorem w_t1 : (words1.take 24).all (fun c => isCode c || c.before args0 about1) = true := by decide +kernel
set_option maxRecDepth 65536 in
theorem w_t2 : ((words1.drop 24).take 24).all (fun c => isCode c || c.before args0 about1) = true := by decide +kernel
set_option maxRecDepth 65536 in
theorem w_t3 : (((words1.drop 24).drop 24).take 24).all (fun c => isCode c || c.before args0 about1) = true := by decide +kernel
set_option maxRecDepth 65536 in
theorem w_t4 : ((((words1.drop 24).drop 24).drop 24).take 24).all (fun c => isCode c || c.before args0 about1) = true := by decide +kernel
set_option maxRecDepth 65536 in
theorem w_t5 : (((((words1.drop 24).drop 24).drop 24).drop 24).take 24).all (fun c => isCode c || c.before args0 about1) = true := by decide +kernel
set_option maxRecDepth 65536 in
theorem w_t6 : ((((((words1.drop 24).drop 24).drop 24).drop 24).drop 24).take 24).all (fun c => isCode c || c.before args0 about1) = true := by decide +kernel
set_option maxRecDepth 65536 in
theorem w_t7 : (((((((words1.drop 24).drop 24).drop 24).drop 24).drop 24).drop 24).take 24).all (fun c => isCode c || c.before args0 about1) = true := by decide +kernel
set_option maxRecDepth 65536 in
theorem w_t8 : (((((((words1.drop 24).drop 24).drop 24).drop 24).drop 24).drop 24).drop 24).all (fun c => isCode c || c.before args0 about1) = true := by decide +kernel
theorem w_tables : (allAtoms (Jvm.Cond.code x code maxLocals ret :: tables_1)).before args0 about1 = true := by
  rw [allAtoms_all]
  show words1.all (fun c => c.before args0 about1) = true
  refine all_split ?_ w_codes
  rw [← List.take_append_drop 24 words1, List.all_append, w_t1, ← List.take_append_drop 24 (words1.drop 24), List.all_append, w_t2, ← List.take_append_drop 24 ((words1.drop 24).drop 24), List.all_append, w_t3, ← List.take_append_drop 24 (((words1.drop 24).drop 24).drop 24), List.all_append, w_t4, ← List.take_append_drop 24 ((((words1.drop 24).drop 24).drop 24).drop 24), List.all_append, w_t5, ← List.take_append_drop 24 (((((words1.drop 24).drop 24).drop 24).drop 24).drop 24), List.all_append, w_t6, ← List.take_append_drop 24 ((((((words1.drop 24).drop 24).drop 24).drop 24).drop 24).drop 24), List.all_append, w_t7, w_t8]
  rfl
set_option maxRecDepth 65536 in
theorem w_rest : rest_1_c.before args0 about1 = true := by decide +kernel
set_option maxRecDepth 65536 in
theorem w_case : (Jvm.Cond.and given_1 narrow_1).before args0 about1 = true := by decide +kernel
set_option maxRecDepth 65536 in
theorem w_consts : constsHeld consts_1 about1 := Jvm.Lit.constsHeldB_iff.mp (by decide +kernel)
theorem w_applies : (headSpec (Jvm.Cond.code x code maxLocals ret :: tables_1) room_1).applies x e0.platform about1 = true :=
  (Spec.applies_iff w_frames).mpr ⟨w_running, w_runnable, w_alone, w_named, w_hears, w_ripe, w_room, w_tables⟩
theorem atStart : AtStart classFile x code maxLocals ret World_1 tables_1 room_1 Calls_1 rest_1 Pre_1 launch0 p0 e0 about1 theMethod args0 below0 :=
  ⟨lists_1, trivial, launch0.admits_env _ _ _, launch0.least_env, fairChoices_fair.cas, fairChoices_fair.clock, w_frames, w_args, w_heap, w_applies, ⟨w_consts, trivial⟩, w_rest, w_case⟩
end start1
theorem witness_1 : WitnessClaimed_1 := ⟨start1.p0, start1.e0, start1.about1, start1.theMethod, start1.args0, start1.below0, start1.atStart⟩
end Jvm.Pilot.@@N@@
