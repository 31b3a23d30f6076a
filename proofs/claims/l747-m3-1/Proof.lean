import JvmDerived
import JvmDerived.Pilot.@@N@@Statement
import JvmDerived.Pilot.@@N@@Code
set_option linter.unusedVariables false
set_option linter.unusedSimpArgs false
namespace Jvm.RoadKit
open Sem ClassFile Op Lib Jvm.Stand Jvm.Free Jvm.LawKit
abbrev own_Go (p : Program) (e : Env) (below : List Frame) (A B : State) : Prop := ∀ t, Steps p.tables e below B t → Steps p.tables e below A t
theorem own_name {p : Program} {e : Env} {below : List Frame} {A : State} {α : Type} {F : α → State} (x : α) (P : own_Go p e below A (F x)) : ∃ z, z = x ∧ own_Go p e below A (F z) := ⟨x, rfl, P⟩
theorem own_step {p : Program} {e : Env} {below : List Frame} {A B C : State} (P : own_Go p e below A B) (q : own_Go p e below B C) : own_Go p e below A C := fun t_ k_ => P t_ (q t_ k_)
theorem own_IB {Z s U : State} {Ts : List String} (I : IB Z s.vm Ts) (w : s.WarmedH U.vm) : IB Z U.vm Ts := by
  obtain ⟨more, e, hm⟩ := I
  exact ⟨more, w.interned_eq.trans e, hm⟩
theorem own_backI {p : Program} {l : Launch} {e : Env} {R : Room} {s Z : State} {args a0 : Array Value} {below : List Frame} {h : Heap} {y : MethodName} {bytes : ByteArray} {maxL : Nat} {ret : Option FieldType} {rm : Room} {len W : Nat} {as' : Array Value} {Ts : List String} {Q : Option Value → Heap → List Loc → Prop}
    (hM : MetFree l y (head1 [Cond.code y bytes maxL ret] rm) (fun a U => a = as' ∧ Z.Warmed39 U.vm ∧ U.heap = h ∧ IB Z U.vm Ts) (fun _ _ _ _ _ => True) (fun _ U o U' => ∃ v L, o = .returned v ∧ Q v U'.heap L ∧ ReturnedEndW U o U' L rm.cells rm.slots))
    (hZ : Z.Warmed39 s.vm) (hI : IB Z s.vm Ts) (wc : (Cond.code y bytes maxL ret).before a0 Z = true) (wz : (Cond.initialized y.cls).before a0 Z = true) (hf : rm.frames + 1 ≤ R.frames) (hl : W + (maxL + 11) + rm.locals ≤ R.locals) :
    BackS l R p e below s args y len W (fun A a => a = as' ∧ A.U.heap = h ∧ A.cells + rm.cells ≤ R.cells ∧ A.slots + rm.slots ≤ R.slots) (fun A _ v B => ∃ L, Q v B.U.heap L ∧ B.locs = A.locs ++ L ∧ B.cells = A.cells + rm.cells ∧ B.slots = A.slots + rm.slots) := by
  refine BackS.of_freeW (bytes := bytes) (maxL := maxL) (ret := ret) (E := fun _ _ o t L k n => k = rm.cells ∧ n = rm.slots ∧ ∃ v, o = .returned v ∧ Q v t.heap L) hM hf hl ?_ ?_ (fun _ _ _ _ _ _ _ _ _ => trivial) ?_ ?_
  · intro m meth c A a Y hp
    have hU : Z.Warmed39 A.U.vm := wtrans hZ Y.warmed
    refine ⟨?_, mv hU wc, mv hU wz, hp.2.2.1, hp.2.2.2⟩
    show (Cond.and _ .tt).before a A.U = true
    rw [Cond.before_and, mv hU wc]; rfl
  · intro m meth c A a g mk Y hp
    exact ⟨hp.1, wtrans hZ Y.warmed, hp.2.1, own_IB hI Y.warmed⟩
  · rintro _ _ _ _ ⟨v, L, h1, h2, h3⟩
    exact ⟨L, _, _, h3, rfl, rfl, v, h1, h2⟩
  · intro m meth c A a g mk v t L k n Y hp _ _ q
    obtain ⟨e1, e2, v', e3, e4⟩ := q
    cases e3; subst e1 e2; exact ⟨L, e4, rfl, rfl, rfl⟩
section New
variable {p : Program} {l : Launch} {e : Env} {R : Room} {s : State} {m : MethodId} {args : Array Value} {below : List Frame} {meth : Method} {c : Code} {T : State} {locs : List Loc} {cells slots : Nat}
theorem retI (X : Stand p l e R s m args below meth c T locs cells slots) (hx : p.tables.exec = Jvm.exec) {pc : Nat} {Ls : Array Slot} {z : Int32} {rest : List Value} (hret : meth.sig.returnType = some .int) (hd : decode c.code pc = .ok (.ireturn, 1)) {fs : List Frame}
    (hl : ∀ (f : JFrame) (acts : List Action), f.method = m → f.locked = none → f.entered = [] → (doReturn e (T.setTop f) acts (some (.int z))).1 = T.setFrames fs) : Steps p.tables e below (T.setTop (mkF m pc Ls (.int z :: rest))) (T.setFrames fs) := by
  have hm' : T.vm.method? m = some meth := X.method'
  have hn : narrow .int (.int z) = .int z := rfl
  show Steps p.tables e below (T.setTop { method := m, pc := pc, locals := Ls, stack := _ :: rest, locked := none }) _
  jvm_step X.here [X.here.top, hx, hd, hm', hret, hn]
  first | (intro acts; rw [hl _ acts rfl rfl rfl]) | rw [hl _ _ rfl rfl rfl]
  exact Steps.refl _
end New
section PrivH
variable {p : Program} {l : Launch} {e : Env} {R : Jvm.Room} {s : State} {m : MethodId} {args : Array Value} {below : List Frame} {meth : Method} {c : Code} {T : State} {locs : List Loc} {cells slots : Nat}
theorem own_privateH (X : Stand p l e R s m args below meth c T locs cells slots) (hexec : p.tables.exec = Jvm.exec) {own : String} {index : Nat} {y : MethodName} {bytes : ByteArray} {maxL : Nat} {ret : Option FieldType} {hs : List (Nat × Nat × Nat × Nat)}
    (hown : s.vm.findClass own = some m.cls) (hlink : (Cond.methodLink own index y).before args s = true) (hinst : (Cond.instanceMethod y).before args s = true) (hsel : (Cond.selects y.cls y y).before args s = true)
    (hpriv : s.PrivateAt y) (hcode : (Cond.codeWith y bytes maxL ret hs).before args s = true) (hy : y.cls ≠ "java/lang/invoke/MethodHandle" ∧ y.cls ≠ "java/lang/invoke/VarHandle")
    {W : Nat} {Pre : Free.Pt → Array Value → Prop} {Post : Free.Pt → Array Value → Option Value → Free.Pt → Prop} (hK : Free.Back l R p e below s args y 3 W Pre Post)
    {g : JFrame} (hg : g.method = m) (hsize : g.locals.size = c.maxLocals) {s₀ : State} (hcome : Steps p.tables e below s₀ (T.setTop g)) {a : Addr} {cell : Cell} (hcell : T.heap[a]? = some cell) (hobj : ∀ q, cell.vm ≠ .statics q)
    {argsL rest : List Value} (hlen : ∀ sig, parseMethodDescriptor y.desc = some sig → argsL.length = sig.parameters.length)
    (hstack : g.stack = argsL.reverse ++ .ref a :: rest) (hW : 2 * g.monitorRoom + (rest.map fun v => v.category).sum ≤ W) (hdg : decode c.code g.pc = .ok (.invokevirtual index, 3))
    (hpre : ∀ vm₁, s.WarmedH vm₁ → Pre ⟨T.setVm vm₁, locs, cells, slots⟩ (.ref a :: argsL).toArray) :
    ∃ (v : Option Value) (vm₁ : Vm) (B : Free.Pt), s.WarmedH vm₁ ∧ Stand p l e R s m args below meth c B.U B.locs B.cells B.slots ∧ Post ⟨T.setVm vm₁, locs, cells, slots⟩ (.ref a :: argsL).toArray v B ∧
      Steps p.tables e below s₀ (B.U.setTop { g with pc := g.pc + 3, stack := v.toList ++ rest }) := by
  obtain ⟨mk, methM, hnamed, hmethM, hstM, habM⟩ := Cond.instanceMethod_spec hinst
  obtain ⟨mk', methM', cM, hnamed', hmethM', -, -, -, -, -, -, hsigM⟩ := Cond.codeWith_spec hcode
  cases hnamed.symm.trans hnamed'
  cases hmethM.symm.trans hmethM'
  obtain ⟨c2, r2, m2, -, -, q3, -, kP, hkP, hkPi⟩ := Cond.selects_spec hsel
  cases hnamed.symm.trans q3
  have hselP : selectMethod e.platform s.vm cell.cls mk = .method mk := selectMethod_private hmethM (hpriv mk methM hnamed hmethM)
  obtain ⟨vm₁, X₁, hstep₁⟩ := X.invokevirtual hexec hown hlink hnamed hmethM hstM hkP hkPi hy (a := a) (cell := cell) hcell hobj hselP hmethM habM hkP hkPi (g := g) hg (argsL := argsL) (rest := rest) (hlen _ hsigM) hstack hdg
  have hW₁ : s.WarmedH vm₁ := X₁.warmed
  obtain ⟨v, B, X', hpost, hsteps⟩ := hK m meth c ⟨T.setVm vm₁, locs, cells, slots⟩ { g with stack := rest } (.invokevirtual index) mk (.ref a :: argsL).toArray X₁ hg hsize hdg hW (X₁.named hnamed) (hpre vm₁ hW₁)
  exact ⟨v, vm₁, B, hW₁, X', hpost, (hcome.trans (hstep₁ _ fun acts => by rw [doInvoke_state]; exact Steps.refl _)).trans hsteps⟩
end PrivH
section Compact
abbrev i_ (z : Int32) : Slot := .val (.int z)
abbrev r_ (a : Addr) : Slot := .val (.ref a)
abbrev u_ : Slot := .unset
theorem own_w {ws : List Cond} {a0 : Array Value} {Z : State} {d : Cond} (hw : ∀ d ∈ ws, d.before a0 Z = true) (i : Nat) (q : ws[i]? = some d) : d.before a0 Z = true := hw _ (List.mem_of_getElem? q)
abbrev own_d (c : ByteArray) (pc : Nat) (i : Instr) (n : Nat) : Prop := decode c pc = .ok (i, n)
abbrev own_MF (l : Launch) (y : MethodName) (cw : Cond) (ws : List Cond) (rm : Jvm.Room) (as : Array Value) (Z : State) (h0 : Heap) (E : State → Prop) (Q : Option Value → Heap → List Loc → Prop) : Prop :=
  MetFree l y (head1 (cw :: ws) rm) (fun a U => a = as ∧ Z.Warmed39 U.vm ∧ U.heap = h0 ∧ E U) (fun _ _ _ _ _ => True) (fun _ U o V => ∃ v L, o = .returned v ∧ Q v V.heap L ∧ FrameEnd U o V L rm.cells rm.slots)
abbrev own_T : State → Prop := fun _ => True
def own_G (p : Program) (e : Env) (below : List Frame) (A s : State) (rm : Jvm.Room) (Q : Option Value → Heap → List Loc → Prop) : Prop :=
  ∃ s₂ o, Steps p.tables e below A s₂ ∧ s₂.status = .running ∧ Ended s₂ below o ∧ ∃ v L, o = .returned v ∧ Q v s₂.heap L ∧ FrameEnd s o s₂ L rm.cells rm.slots
theorem own_in {l : Launch} {y : MethodName} {cw : Cond} {ws : List Cond} {rm : Jvm.Room} {as : Array Value} {Z : State} {h0 : Heap} {E : State → Prop} {Q : Option Value → Heap → List Loc → Prop} {code : ByteArray} {maxL : Nat} {ret : Option FieldType} {L0 : Array Slot} (own : String) (ho : y.cls = own)
    (pl : plainFor y = true) (his : ∀ args (s : State) m, (head1 (cw :: ws) rm).pre.before args s = true → s.methodNamed? y = some m → ∃ meth c, s.vm.method? m = some meth ∧ meth.code = some c ∧ c.code = code ∧ c.maxLocals = maxL ∧ meth.sig.returnType = ret ∧ meth.locks = false)
    (ef : ∀ m, entryFrame m as maxL = mkF m 0 L0 [])
    (B : ∀ p e s m below meth c s₁ A, p.tables.exec = Jvm.exec → c.code = code → c.maxLocals = maxL → s.vm.findClass own = some m.cls → meth.name = y.name → meth.sig.returnType = ret → meth.locks = false → Z.Warmed39 s.vm → E s → Stand p l e rm s m as below meth c s₁ [] 0 0 → s₁.heap = h0 → own_Go p e below A (s₁.setTop (mkF m 0 L0 [])) → own_G p e below A s rm Q) :
    own_MF l y cw ws rm as Z h0 E Q := by
  refine MetFree.of_bodySF pl his ?_
  intro p e s m args below meth c s₁ Bd hml hP _
  obtain ⟨rfl, hZ, hh, hE⟩ := hP
  subst ho
  have X0 : Stand p l e rm s m args below meth c s₁ [] 0 0 := Stand.of_body Bd
  exact B p e s m below meth c s₁ _ Bd.exec Bd.bytes hml (findClass_of_methodNamed Bd.named) (name_of_methodNamed Bd.named Bd.method).1 Bd.returns Bd.notSynchronized hZ hE X0 (by rw [← hh, Bd.state]; rfl) (fun t_ k_ => castTop (ef m) k_)
variable {p : Program} {l : Launch} {e : Env} {R rm : Jvm.Room} {s : State} {m : MethodId} {args : Array Value} {below : List Frame} {meth : Method} {c : Code} {T A Z : State} {locs : List Loc} {cells slots : Nat} {a0 : Array Value} {h : Heap} {pc : Nat} {Ls : Array Slot} {st : List Value} {own : String} {index : Nat} {E : State → Prop} {Q : Option Value → Heap → List Loc → Prop} {as : Array Value} {bytes : ByteArray} {maxL : Nat} {ret : Option FieldType} {hs : List (Nat × Nat × Nat × Nat)} {y : MethodName} {W N : Nat} {sg : MethodDescriptor}
theorem own_hv {t : FieldType} {v : Option Value} {rt : Option FieldType} (h : rt = some t) : rt = none → v = none := fun q => by rw [h] at q; cases q
theorem own_out (X : Stand p l e rm s m args below meth c T locs cells slots) (hlk : meth.locks = false) {v : Option Value} (hv : meth.sig.returnType = none → v = none) (P : own_Go p e below A (T.setTop (mkF m pc Ls st)))
    (stp : ∀ fs, (∀ (f : JFrame) (acts : List Action), f.method = m → f.locked = none → f.entered = [] → (doReturn e (T.setTop f) acts v).1 = T.setFrames fs) → Steps p.tables e below (T.setTop (mkF m pc Ls st)) (T.setFrames fs))
    (eT : T.heap = h) (q : Q v h locs) (hc : cells ≤ rm.cells ∧ slots ≤ rm.slots) : own_G p e below A s rm Q := by
  obtain ⟨fs, hr, hrun, hended, hW, hsame⟩ := X.leave hv hlk
  refine ⟨_, _, P _ (stp fs hr), hrun, hended, _, _, rfl, ?_, ⟨_, rfl⟩, hW, hsame.mono hc.1 hc.2⟩
  show Q v T.heap locs
  rw [eT]; exact q
theorem own_back (M : own_MF l y (Cond.code y bytes maxL ret) [] rm as Z h E Q) (hZ : Z.Warmed39 s.vm) (hE : ∀ U : State, s.WarmedH U.vm → E U) (wc : (Cond.code y bytes maxL ret).before a0 Z = true) (wz : (Cond.initialized y.cls).before a0 Z = true) {len : Nat} (hf : rm.frames + 1 ≤ R.frames) (hl : W + (maxL + 11) + rm.locals ≤ R.locals) :
    Back l R p e below s args y len W (fun A a => a = as ∧ A.U.heap = h ∧ A.cells + rm.cells ≤ R.cells ∧ A.slots + rm.slots ≤ R.slots)
      (fun A _ v B => ∃ L, Q v B.U.heap L ∧ B.locs = A.locs ++ L ∧ B.cells = A.cells + rm.cells ∧ B.slots = A.slots + rm.slots) :=
  Back.of_free (bytes := bytes) (maxL := maxL) (ret := ret) (E := fun _ _ o t L k n => k = rm.cells ∧ n = rm.slots ∧ ∃ v, o = .returned v ∧ Q v t.heap L) M hf hl
    (fun m meth c A a Y hp => have hU : Z.Warmed39 A.U.vm := wtrans hZ Y.warmed
      ⟨by show (Cond.and _ .tt).before a A.U = true; rw [Cond.before_and, mv hU wc]; rfl, mv hU wc, mv hU wz, hp.2.2.1, hp.2.2.2⟩)
    (fun m meth c A a g mk Y hp => ⟨hp.1, wtrans hZ Y.warmed, hp.2.1, hE _ Y.warmed⟩) (fun _ _ _ _ _ _ _ _ _ => trivial)
    (fun _ _ _ _ ⟨v, L, h1, h2, h3⟩ => ⟨L, _, _, h3, rfl, rfl, v, h1, h2⟩)
    (fun m meth c A a g mk v t L k n Y hp _ _ ⟨e1, e2, v', e3, e4⟩ => by cases e3; subst e1 e2; exact ⟨L, e4, rfl, rfl, rfl⟩)
theorem own_backH (M : own_MF l y (Cond.codeWith y bytes maxL ret hs) [] rm as Z h E Q) (hZ : Z.Warmed39 s.vm) (hE : ∀ U : State, s.WarmedH U.vm → E U) (wc : (Cond.codeWith y bytes maxL ret hs).before a0 Z = true) (wz : (Cond.initialized y.cls).before a0 Z = true) {len : Nat} (hf : rm.frames + 1 ≤ R.frames) (hl : W + (maxL + 11) + rm.locals ≤ R.locals) :
    Back l R p e below s args y len W (fun A a => a = as ∧ A.U.heap = h ∧ A.cells + rm.cells ≤ R.cells ∧ A.slots + rm.slots ≤ R.slots)
      (fun A _ v B => ∃ L, Q v B.U.heap L ∧ B.locs = A.locs ++ L ∧ B.cells = A.cells + rm.cells ∧ B.slots = A.slots + rm.slots) :=
  Back.of_freeWith (bytes := bytes) (maxL := maxL) (ret := ret) (handlers := hs) (E := fun _ _ o t L k n => k = rm.cells ∧ n = rm.slots ∧ ∃ v, o = .returned v ∧ Q v t.heap L) M hf hl
    (fun m meth c A a Y hp => have hU : Z.Warmed39 A.U.vm := wtrans hZ Y.warmed
      ⟨by show (Cond.and _ .tt).before a A.U = true; rw [Cond.before_and, mv hU wc]; rfl, mv hU wc, mv hU wz, hp.2.2.1, hp.2.2.2⟩)
    (fun m meth c A a g mk Y hp => ⟨hp.1, wtrans hZ Y.warmed, hp.2.1, hE _ Y.warmed⟩) (fun _ _ _ _ _ _ _ _ _ => trivial)
    (fun _ _ _ _ ⟨v, L, h1, h2, h3⟩ => ⟨L, _, _, h3, rfl, rfl, v, h1, h2⟩)
    (fun m meth c A a g mk v t L k n Y hp _ _ ⟨e1, e2, v', e3, e4⟩ => by cases e3; subst e1 e2; exact ⟨L, e4, rfl, rfl, rfl⟩)
abbrev own_R (p : Program) (l : Launch) (e : Env) (R : Jvm.Room) (s : State) (m : MethodId) (args : Array Value) (below : List Frame) (meth : Method) (c : Code) (A : State) (locs : List Loc) (cells slots : Nat) (rm : Jvm.Room) (Q : Option Value → Heap → List Loc → Prop) (pc : Nat) (Ls : Array Slot) (rest : List Value) : Prop :=
  ∃ v T' L', Stand p l e R s m args below meth c T' (locs ++ L') (cells + rm.cells) (slots + rm.slots) ∧ Q v T'.heap L' ∧ own_Go p e below A (T'.setTop (mkF m (pc + 3) Ls (v.toList ++ rest)))
abbrev own_fit (rm R : Jvm.Room) (W maxL cells slots : Nat) : Prop := rm.frames + 1 ≤ R.frames ∧ W + (maxL + 11) + rm.locals ≤ R.locals ∧ cells + rm.cells ≤ R.cells ∧ slots + rm.slots ≤ R.slots
abbrev own_MH (y : MethodName) : Prop := y.cls ≠ "java/lang/invoke/MethodHandle" ∧ y.cls ≠ "java/lang/invoke/VarHandle"
theorem own_cS (M : own_MF l y (Cond.code y bytes maxL ret) [] rm as Z h E Q) (X : Stand p l e R s m args below meth c T locs cells slots) (hx : p.tables.exec = Jvm.exec) (hZ : Z.Warmed39 s.vm) (hE : ∀ U : State, s.WarmedH U.vm → E U) (hown : s.vm.findClass own = some m.cls)
    (w1 : (Cond.methodLink own index y).before a0 Z = true) (w2 : (Cond.static y).before a0 Z = true) (w3 : (Cond.initialized y.cls).before a0 Z = true) (w4 : (Cond.code y bytes maxL ret).before a0 Z = true) (hy : own_MH y) (P : own_Go p e below A (T.setTop (mkF m pc Ls st))) (hml : c.maxLocals = N) (hsz : Ls.size = N)
    (argsL rest : List Value) (hst : st = argsL.reverse ++ rest) (has : argsL.toArray = as) (hW : (rest.map fun v => v.category).sum = W) (hpd : parseMethodDescriptor y.desc = some sg) (hlen : argsL.length = sg.parameters.length) (hd : decode c.code pc = .ok (.invokestatic index, 3)) (eT : T.heap = h) (hr : own_fit rm R W maxL cells slots) :
    own_R p l e R s m args below meth c A locs cells slots rm Q pc Ls rest := by
  obtain ⟨v, _, ⟨T', L', k', n'⟩, -, X', ⟨L, hQ, q1, q2, q3⟩, stp⟩ := Jvm.LawKit.callS X hx hown (mvT hZ w1) (mvT hZ w2) (mvT hZ w3) (mvT hZ w4) hy (own_back (W := W) M hZ hE w4 w3 hr.1 hr.2.1) (g := mkF m pc Ls st) rfl (hsz.trans hml.symm) (argsL := argsL) (rest := rest) (fun sig hs => by cases hpd.symm.trans hs; exact hlen) hst (by show 2 * 0 + _ ≤ _; omega) hd (fun _ _ => ⟨has, eT, hr.2.2.1, hr.2.2.2⟩)
  dsimp only [Pt.U, Pt.locs, Pt.cells, Pt.slots] at X' q1 q2 q3 stp hQ
  subst q1 q2 q3
  exact ⟨v, T', L, X', hQ, fun t_ k_ => P t_ (stp t_ k_)⟩
theorem own_cSH (M : own_MF l y (Cond.codeWith y bytes maxL ret hs) [] rm as Z h E Q) (X : Stand p l e R s m args below meth c T locs cells slots) (hx : p.tables.exec = Jvm.exec) (hZ : Z.Warmed39 s.vm) (hE : ∀ U : State, s.WarmedH U.vm → E U) (hown : s.vm.findClass own = some m.cls)
    (w1 : (Cond.methodLink own index y).before a0 Z = true) (w2 : (Cond.static y).before a0 Z = true) (w3 : (Cond.initialized y.cls).before a0 Z = true) (w4 : (Cond.codeWith y bytes maxL ret hs).before a0 Z = true) (hy : own_MH y) (P : own_Go p e below A (T.setTop (mkF m pc Ls st))) (hml : c.maxLocals = N) (hsz : Ls.size = N)
    (argsL rest : List Value) (hst : st = argsL.reverse ++ rest) (has : argsL.toArray = as) (hW : (rest.map fun v => v.category).sum = W) (hpd : parseMethodDescriptor y.desc = some sg) (hlen : argsL.length = sg.parameters.length) (hd : decode c.code pc = .ok (.invokestatic index, 3)) (eT : T.heap = h) (hr : own_fit rm R W maxL cells slots) :
    own_R p l e R s m args below meth c A locs cells slots rm Q pc Ls rest := by
  obtain ⟨v, _, ⟨T', L', k', n'⟩, -, X', ⟨L, hQ, q1, q2, q3⟩, stp⟩ := callSH X hx hown (mvT hZ w1) (mvT hZ w2) (mvT hZ w3) (mvT hZ w4) hy (own_backH (W := W) M hZ hE w4 w3 hr.1 hr.2.1) (g := mkF m pc Ls st) rfl (hsz.trans hml.symm) (argsL := argsL) (rest := rest) (fun sig hs => by cases hpd.symm.trans hs; exact hlen) hst (by show 2 * 0 + _ ≤ _; omega) hd (fun _ _ => ⟨has, eT, hr.2.2.1, hr.2.2.2⟩)
  dsimp only [Pt.U, Pt.locs, Pt.cells, Pt.slots] at X' q1 q2 q3 stp hQ
  subst q1 q2 q3
  exact ⟨v, T', L, X', hQ, fun t_ k_ => P t_ (stp t_ k_)⟩
variable {a : Addr}
theorem own_cI (M : own_MF l y (Cond.code y bytes maxL none) [] rm as Z h E Q) (X : Stand p l e R s m args below meth c T locs cells slots) (hx : p.tables.exec = Jvm.exec) (hZ : Z.Warmed39 s.vm) (hE : ∀ U : State, s.WarmedH U.vm → E U) (hown : s.vm.findClass own = some m.cls) (hn : y.name = "<init>")
    (w1 : (Cond.methodLink own index y).before a0 Z = true) (w2 : (Cond.instanceMethod y).before a0 Z = true) (w3 : (Cond.initialized y.cls).before a0 Z = true) (w4 : (Cond.code y bytes maxL none).before a0 Z = true) (hy : own_MH y) (P : own_Go p e below A (T.setTop (mkF m pc Ls st))) (hml : c.maxLocals = N) (hsz : Ls.size = N)
    (argsL rest : List Value) (hst : st = argsL.reverse ++ .ref a :: rest) (has : (.ref a :: argsL).toArray = as) (hW : (rest.map fun v => v.category).sum = W) (hpd : parseMethodDescriptor y.desc = some sg) (hlen : argsL.length = sg.parameters.length) (hd : decode c.code pc = .ok (.invokespecial index, 3)) (eT : T.heap = h) (hr : own_fit rm R W maxL cells slots) :
    own_R p l e R s m args below meth c A locs cells slots rm Q pc Ls rest := by
  obtain ⟨v, _, ⟨T', L', k', n'⟩, -, X', ⟨L, hQ, q1, q2, q3⟩, stp⟩ := X.specialBack hx hn hown (mvT hZ w1) (mvT hZ w2) (mvT hZ w4) hy (own_back (W := W) M hZ hE w4 w3 hr.1 hr.2.1) (g := mkF m pc Ls st) rfl (hsz.trans hml.symm) (Steps.refl _) (a := a) (argsL := argsL) (rest := rest) (fun sig hs => by cases hpd.symm.trans hs; exact hlen) hst (by show 2 * 0 + _ ≤ _; omega) hd (fun _ _ => ⟨has, eT, hr.2.2.1, hr.2.2.2⟩)
  dsimp only [Pt.U, Pt.locs, Pt.cells, Pt.slots] at X' q1 q2 q3 stp hQ
  subst q1 q2 q3
  exact ⟨v, T', L, X', hQ, fun t_ k_ => P t_ (stp.trans k_)⟩
theorem own_cV {C : String} (M : own_MF l y (Cond.code y bytes maxL ret) [] rm as Z h E Q) (X : Stand p l e R s m args below meth c T locs cells slots) (hx : p.tables.exec = Jvm.exec) (hZ : Z.Warmed39 s.vm) (hE : ∀ U : State, s.WarmedH U.vm → E U) (hown : s.vm.findClass own = some m.cls) (F : Exa Z h a C)
    (w1 : (Cond.methodLink own index y).before a0 Z = true) (w5 : (Cond.declares y).before a0 Z = true) (w6 : (Cond.selects C y y).before a0 Z = true) (w2 : (Cond.instanceMethod y).before a0 Z = true) (w3 : (Cond.initialized y.cls).before a0 Z = true) (w4 : (Cond.code y bytes maxL ret).before a0 Z = true) (hy : own_MH y) (P : own_Go p e below A (T.setTop (mkF m pc Ls st))) (hml : c.maxLocals = N) (hsz : Ls.size = N)
    (argsL rest : List Value) (hst : st = argsL.reverse ++ .ref a :: rest) (has : (.ref a :: argsL).toArray = as) (hW : (rest.map fun v => v.category).sum = W) (hpd : parseMethodDescriptor y.desc = some sg) (hlen : argsL.length = sg.parameters.length) (hd : decode c.code pc = .ok (.invokevirtual index, 3)) (eT : T.heap = h) (hr : own_fit rm R W maxL cells slots) :
    own_R p l e R s m args below meth c A locs cells slots rm Q pc Ls rest := by
  obtain ⟨cq, kq, qa, qb, qc⟩ := isOf hZ eT F
  obtain ⟨v, _, ⟨T', L', k', n'⟩, -, X', ⟨L, hQ, q1, q2, q3⟩, stp⟩ := X.virtualBack hx hown (mvT hZ w1) (mvT hZ w5) (notFace_of_selects (args := #[]) (mvT hZ w6)) (mvT hZ w6) (mvT hZ w2) hy (own_back (W := W) M hZ hE w4 w3 hr.1 hr.2.1) qa qc (g := mkF m pc Ls st) rfl (hsz.trans hml.symm) (Steps.refl _) (argsL := argsL) (rest := rest) (fun sig hs => by cases hpd.symm.trans hs; exact hlen) hst (by show 2 * 0 + _ ≤ _; omega) hd (fun _ _ => ⟨has, eT, hr.2.2.1, hr.2.2.2⟩)
  dsimp only [Pt.U, Pt.locs, Pt.cells, Pt.slots] at X' q1 q2 q3 stp hQ
  subst q1 q2 q3
  exact ⟨v, T', L, X', hQ, fun t_ k_ => P t_ (stp.trans k_)⟩
theorem own_cP {C : String} (M : own_MF l y (Cond.code y bytes maxL ret) [] rm as Z h E Q) (X : Stand p l e R s m args below meth c T locs cells slots) (hx : p.tables.exec = Jvm.exec) (hZ : Z.Warmed39 s.vm) (hE : ∀ U : State, s.WarmedH U.vm → E U) (hown : s.vm.findClass own = some m.cls) (F : Exa Z h a C)
    (w1 : (Cond.methodLink own index y).before a0 Z = true) (w5 : (Cond.privateMethod y).before a0 Z = true) (w6 : (Cond.selects y.cls y y).before a0 Z = true) (w2 : (Cond.instanceMethod y).before a0 Z = true) (w3 : (Cond.initialized y.cls).before a0 Z = true) (w4 : (Cond.code y bytes maxL ret).before a0 Z = true) (hy : own_MH y) (P : own_Go p e below A (T.setTop (mkF m pc Ls st))) (hml : c.maxLocals = N) (hsz : Ls.size = N)
    (argsL rest : List Value) (hst : st = argsL.reverse ++ .ref a :: rest) (has : (.ref a :: argsL).toArray = as) (hW : (rest.map fun v => v.category).sum = W) (hpd : parseMethodDescriptor y.desc = some sg) (hlen : argsL.length = sg.parameters.length) (hd : decode c.code pc = .ok (.invokevirtual index, 3)) (eT : T.heap = h) (hr : own_fit rm R W maxL cells slots) :
    own_R p l e R s m args below meth c A locs cells slots rm Q pc Ls rest := by
  obtain ⟨cq, qa, qb⟩ := F.cell
  obtain ⟨v, _, ⟨T', L', k', n'⟩, -, X', ⟨L, hQ, q1, q2, q3⟩, stp⟩ := X.privateBack hx hown (mvT hZ w1) (mvT hZ w2) (mvT hZ w6) (Cond.privateMethod_at (mvP hZ w5 (args := #[]))) (mvT hZ w4) hy (own_back (W := W) M hZ hE w4 w3 hr.1 hr.2.1) (g := mkF m pc Ls st) rfl (hsz.trans hml.symm) (Steps.refl _) (a := a) (by rw [eT]; exact qa) qb (argsL := argsL) (rest := rest) (fun sig hs => by cases hpd.symm.trans hs; exact hlen) hst (by show 2 * 0 + _ ≤ _; omega) hd (fun _ _ => ⟨has, eT, hr.2.2.1, hr.2.2.2⟩)
  dsimp only [Pt.U, Pt.locs, Pt.cells, Pt.slots] at X' q1 q2 q3 stp hQ
  subst q1 q2 q3
  exact ⟨v, T', L, X', hQ, fun t_ k_ => P t_ (stp.trans k_)⟩
theorem own_cPH {C : String} (M : own_MF l y (Cond.codeWith y bytes maxL ret hs) [] rm as Z h E Q) (X : Stand p l e R s m args below meth c T locs cells slots) (hx : p.tables.exec = Jvm.exec) (hZ : Z.Warmed39 s.vm) (hE : ∀ U : State, s.WarmedH U.vm → E U) (hown : s.vm.findClass own = some m.cls) (F : Exa Z h a C)
    (w1 : (Cond.methodLink own index y).before a0 Z = true) (w5 : (Cond.privateMethod y).before a0 Z = true) (w6 : (Cond.selects y.cls y y).before a0 Z = true) (w2 : (Cond.instanceMethod y).before a0 Z = true) (w3 : (Cond.initialized y.cls).before a0 Z = true) (w4 : (Cond.codeWith y bytes maxL ret hs).before a0 Z = true) (hy : own_MH y) (P : own_Go p e below A (T.setTop (mkF m pc Ls st))) (hml : c.maxLocals = N) (hsz : Ls.size = N)
    (argsL rest : List Value) (hst : st = argsL.reverse ++ .ref a :: rest) (has : (.ref a :: argsL).toArray = as) (hW : (rest.map fun v => v.category).sum = W) (hpd : parseMethodDescriptor y.desc = some sg) (hlen : argsL.length = sg.parameters.length) (hd : decode c.code pc = .ok (.invokevirtual index, 3)) (eT : T.heap = h) (hr : own_fit rm R W maxL cells slots) :
    own_R p l e R s m args below meth c A locs cells slots rm Q pc Ls rest := by
  obtain ⟨cq, qa, qb⟩ := F.cell
  obtain ⟨v, _, ⟨T', L', k', n'⟩, -, X', ⟨L, hQ, q1, q2, q3⟩, stp⟩ := own_privateH X hx hown (mvT hZ w1) (mvT hZ w2) (mvT hZ w6) (Cond.privateMethod_at (mvP hZ w5 (args := #[]))) (mvT hZ w4) hy (own_backH (W := W) M hZ hE w4 w3 hr.1 hr.2.1) (g := mkF m pc Ls st) rfl (hsz.trans hml.symm) (Steps.refl _) (a := a) (by rw [eT]; exact qa) qb (argsL := argsL) (rest := rest) (fun sig hs => by cases hpd.symm.trans hs; exact hlen) hst (by show 2 * 0 + _ ≤ _; omega) hd (fun _ _ => ⟨has, eT, hr.2.2.1, hr.2.2.2⟩)
  dsimp only [Pt.U, Pt.locs, Pt.cells, Pt.slots] at X' q1 q2 q3 stp hQ
  subst q1 q2 q3
  exact ⟨v, T', L, X', hQ, fun t_ k_ => P t_ (stp.trans k_)⟩
theorem own_to {C : State} (P : own_Go p e below A C) : own_Go p e below A C := P
theorem own_litU {i : Nat} (L : Lit s own i a) {U : State} (hW : s.WarmedH U.vm) : Lit U own i a := State.resolvedAt?_warmed39 (s := s) hW.wide L
theorem own_backI2 {Ts : List String} {i : Nat} {len : Nat} {Q : Addr → Option Value → Heap → List Loc → Prop}
    (hM : MetFree l y (head1 [Cond.code y bytes maxL ret] rm) (fun a U => a = as ∧ Z.Warmed39 U.vm ∧ U.heap = h ∧ IB Z U.vm Ts) (fun _ _ _ _ _ => True) (fun _ U o U' => ∃ v L la, o = .returned v ∧ Q la v U'.heap L ∧ Lit U' own i la ∧ ReturnedEndW U o U' L rm.cells rm.slots))
    (hZ : Z.Warmed39 s.vm) (hI : IB Z s.vm Ts) (wc : (Cond.code y bytes maxL ret).before a0 Z = true) (wz : (Cond.initialized y.cls).before a0 Z = true) (hf : rm.frames + 1 ≤ R.frames) (hl : W + (maxL + 11) + rm.locals ≤ R.locals) :
    BackS l R p e below s args y len W (fun A a => a = as ∧ A.U.heap = h ∧ A.cells + rm.cells ≤ R.cells ∧ A.slots + rm.slots ≤ R.slots) (fun A _ v B => ∃ L la, Q la v B.U.heap L ∧ Lit B.U own i la ∧ B.locs = A.locs ++ L ∧ B.cells = A.cells + rm.cells ∧ B.slots = A.slots + rm.slots) := by
  refine BackS.of_freeW (bytes := bytes) (maxL := maxL) (ret := ret) (E := fun _ _ o t L k n => k = rm.cells ∧ n = rm.slots ∧ ∃ v la, o = .returned v ∧ Q la v t.heap L ∧ Lit t own i la) hM hf hl ?_ ?_ (fun _ _ _ _ _ _ _ _ _ => trivial) ?_ ?_
  · intro m meth c A a Y hp
    have hU : Z.Warmed39 A.U.vm := wtrans hZ Y.warmed
    refine ⟨?_, mv hU wc, mv hU wz, hp.2.2.1, hp.2.2.2⟩
    show (Cond.and _ .tt).before a A.U = true
    rw [Cond.before_and, mv hU wc]; rfl
  · intro m meth c A a g mk Y hp
    exact ⟨hp.1, wtrans hZ Y.warmed, hp.2.1, own_IB hI Y.warmed⟩
  · rintro _ _ _ _ ⟨v, L, la, h1, h2, h2', h3⟩
    exact ⟨L, _, _, h3, rfl, rfl, v, la, h1, h2, h2'⟩
  · intro m meth c A a g mk v t L k n Y hp _ _ q
    obtain ⟨e1, e2, v', la, e3, e4, e5⟩ := q
    cases e3; subst e1 e2; exact ⟨L, la, e4, e5, rfl, rfl, rfl⟩
theorem own_chv {i : Nat} {vm : Vm} {text : String} {n0 : Nat} (hh : Jvm.Lit.constHeld Z own i) (w : (Cond.stringLink own i text).before a0 Z = true) (ht : ∀ c ∈ text.toList, c.toNat < 256) (hcw : Jvm.Lit.compactW.before a0 Z = true) (wa : (Cond.arrayClass .byte).before a0 Z = true) (wi : (Cond.instantiable "java/lang/String" 4).before a0 Z = true)
    (hI : IB Z vm []) (hZ : Z.Warmed39 vm) (O : Old Z n0 h) : CHv Z [(own, i)] vm h ∧ EW Z a0 [(own, i)] := by
  have E : EW Z a0 [(own, i)] := EW.cons w ht EW.nil
  have H := CHv.start E (fun p hp => by cases List.mem_singleton.mp hp; exact hh) hcw wa wi
  have hi : vm.interned = Z.vm.interned := by
    obtain ⟨more, e1, hm⟩ := hI
    have : more = #[] := by
      rw [Array.eq_empty_iff_forall_not_mem]
      intro q hq
      obtain ⟨t, ht, -⟩ := hm q hq
      cases ht
    rw [e1, this]; simp
  exact ⟨(CHv.later (vm := Z.vm) (h := Z.heap) (State.Warmed39.refl Z) (show (Wst Z Z.vm Z.heap).Warmed39 vm from hZ) E O.2 (Or.inl hi) H).1, E⟩
theorem own_exB {i : Nat} {vm : Vm} {text : String} {b : Addr} (H : CHv Z [(own, i)] vm h) (hZ : Z.Warmed39 vm) (w : (Cond.stringLink own i text).before a0 Z = true) (L : Lit (s.setVm vm) own i a) (F : Fld Z h a "java/lang/String" "value" "[B" (.ref b)) : Exa Z h b "[B" := by
  have hal := hZ.alike
  have q : (s.setVm vm).resolvedAt? own i = some (.string a) := L
  cases hf : vm.findClass own with
  | none => simp [State.resolvedAt?, hf] at q
  | some cl =>
  have w2 : (Cond.stringLink own i text).before a0 (Wst Z vm h) = true := mvS (s := { Z with heap := h }) hZ w
  obtain ⟨kx, cf, i0, units, hkx, hcf, hp, hu, -, -, -⟩ := Cond.stringLink_spec (s := Wst Z vm h) hf w2
  have hkx : vm.classes[cl]? = some kx := hkx
  have hres : kx.resolved[i]? = some (some (.string a)) := by
    simp [State.resolvedAt?, hf, hkx] at q
    cases hr : kx.resolved[i]? with
    | none => rw [hr] at q; cases q
    | some o => rw [hr] at q; cases o with
      | none => cases q
      | some r => simpa using q
  obtain ⟨z, hza, G⟩ := SlB.of (H _ (List.mem_singleton_self _) units a ⟨cl, kx, cf, i0, hf, hkx, hcf, hp, hu, Or.inl hres⟩)
  have ha := G.ha
  have hd := G.hd
  obtain ⟨cS, ⟨⟨-, -, -, ⟨cv, kv, iv, s4, -⟩, -, -, -, s8, -, -, s11, -⟩, -, -⟩, -, hB, -⟩ := G
  obtain ⟨kv', z4⟩ := ff_back (U := Wst Z vm h) hal s4
  obtain ⟨cell, c1, k1, i1, f1, h1, h2, -, -, -, -, h7⟩ := F
  have e1 := z4.symm.trans h2
  simp only [Option.some.injEq, Prod.mk.injEq] at e1
  have e2 : some z.sC = some cell := (show h[z.sa]? = some z.sC from ha).symm.trans (by rw [hza]; exact h1)
  have e3 : z.sC = cell := Option.some.inj e2
  have e4 : z.sd = b := by
    have q1 : cell.slots[z.fSV.slot]? = some (.ref z.sd) := by rw [← e3]; exact s8
    rw [e1.2.2.2, h7] at q1
    simpa using q1.symm
  subst e4
  have hBZ : Z.vm.findClass "[B" = some z.SA.cls := by rw [← hal.findClass]; exact hB
  obtain ⟨kb, hkb, -⟩ := Vm.findClass_spec hBZ
  obtain ⟨kb', hkb', ekb⟩ := hal.2.2 _ _ hkb
  obtain ⟨hst, k9, hk9, comp, hkind9⟩ := s11
  have hk9 : vm.classes[z.SA.cls]? = some k9 := hk9
  cases hkb'.symm.trans hk9
  refine ⟨z.SA, kb, hd, hBZ, hkb, ?_, fun ho => ?_⟩
  · cases hv : z.SA.vm <;> first | rfl | exact absurd hv (hst _)
  · rw [ekb] at hkind9
    have := hkind9.symm.trans ho
    cases this
theorem oS (C : State) {B : State} (P : own_Go p e below A B) (q : own_Go p e below B C) : own_Go p e below A C := fun t_ k_ => P t_ (q t_ k_)
section Rows
variable {code : ByteArray} {target : State}
theorem aN_ (X : Stand p l e R s m args below meth c T locs cells slots) (hx : p.tables.exec = Jvm.exec) (hby : c.code = code) {k : Fin 4} {v : Value} (d : decode code pc = .ok (.aload_n k, 1)) (hl : Ls[k.val]? = some (.val v)) (hv : v.isRef = true) (hr : Steps p.tables e below (T.setTop (mkF m (pc + 1) Ls (v :: st))) target) : Steps p.tables e below (T.setTop (mkF m pc Ls st)) target := XS.aloadN X.here hx rfl (hb hby d) hl hv hr
theorem a_ (X : Stand p l e R s m args below meth c T locs cells slots) (hx : p.tables.exec = Jvm.exec) (hby : c.code = code) {k : Nat} {v : Value} (d : decode code pc = .ok (.aload k, 2)) (hl : Ls[k]? = some (.val v)) (hv : v.isRef = true) (hr : Steps p.tables e below (T.setTop (mkF m (pc + 2) Ls (v :: st))) target) : Steps p.tables e below (T.setTop (mkF m pc Ls st)) target := XS.aload X.here hx rfl (hb hby d) hl hv hr
theorem iN_ (X : Stand p l e R s m args below meth c T locs cells slots) (hx : p.tables.exec = Jvm.exec) (hby : c.code = code) {k : Fin 4} {v : Int32} (d : decode code pc = .ok (.iload_n k, 1)) (hl : Ls[k.val]? = some (.val (.int v))) (hr : Steps p.tables e below (T.setTop (mkF m (pc + 1) Ls (.int v :: st))) target) : Steps p.tables e below (T.setTop (mkF m pc Ls st)) target := XS.iloadN X.here hx rfl (hb hby d) hl hr
theorem il_ (X : Stand p l e R s m args below meth c T locs cells slots) (hx : p.tables.exec = Jvm.exec) (hby : c.code = code) {k : Nat} {v : Int32} (d : decode code pc = .ok (.iload k, 2)) (hl : Ls[k]? = some (.val (.int v))) (hr : Steps p.tables e below (T.setTop (mkF m (pc + 2) Ls (.int v :: st))) target) : Steps p.tables e below (T.setTop (mkF m pc Ls st)) target := XS.iload X.here hx rfl (hb hby d) hl hr
theorem is_ (X : Stand p l e R s m args below meth c T locs cells slots) (hx : p.tables.exec = Jvm.exec) (hby : c.code = code) {k : Nat} {x : Int32} {rest : List Value} {l' : Array Slot} (d : decode code pc = .ok (.istore k, 2)) (hl : storeLocals Ls k (.int x) = some l') (hr : Steps p.tables e below (T.setTop (mkF m (pc + 2) l' rest)) target) : Steps p.tables e below (T.setTop (mkF m pc Ls (.int x :: rest))) target := XS.istore X.here hx rfl (hb hby d) rfl hl hr
theorem cY_ (X : Stand p l e R s m args below meth c T locs cells slots) (hx : p.tables.exec = Jvm.exec) (hby : c.code = code) {cd : ClassFile.Cond} {x y : Int32} {rest : List Value} {o : Int} {pc' : Nat} (d : decode code pc = .ok (.if_icmp cd o, 3)) (hc : if_icmp.holds cd x y = true) (hp : 0 ≤ (pc : Int) + o ∧ ((pc : Int) + o).toNat = pc') (hr : Steps p.tables e below (T.setTop (mkF m pc' Ls rest)) target) : Steps p.tables e below (T.setTop (mkF m pc Ls (.int y :: .int x :: rest))) target := XS.icmpYes X.here hx rfl rfl (hb hby d) rfl hc hp.1 hp.2 hr
theorem fY_ (X : Stand p l e R s m args below meth c T locs cells slots) (hx : p.tables.exec = Jvm.exec) (hby : c.code = code) {cd : ClassFile.Cond} {x : Int32} {rest : List Value} {o : Int} {pc' : Nat} (d : decode code pc = .ok (.ifCond cd o, 3)) (hc : ifCond.holds cd x = true) (hp : 0 ≤ (pc : Int) + o ∧ ((pc : Int) + o).toNat = pc') (hr : Steps p.tables e below (T.setTop (mkF m pc' Ls rest)) target) : Steps p.tables e below (T.setTop (mkF m pc Ls (.int x :: rest))) target := XS.ifYes X.here hx rfl rfl (hb hby d) rfl hc hp.1 hp.2 hr
theorem gt_ (X : Stand p l e R s m args below meth c T locs cells slots) (hx : p.tables.exec = Jvm.exec) (hby : c.code = code) {o : Int} {pc' : Nat} (d : decode code pc = .ok (.goto o, 3)) (hp : 0 ≤ (pc : Int) + o ∧ ((pc : Int) + o).toNat = pc') (hr : Steps p.tables e below (T.setTop (mkF m pc' Ls st)) target) : Steps p.tables e below (T.setTop (mkF m pc Ls st)) target := XS.goto X.here hx rfl rfl (hb hby d) hp.1 hp.2 hr
end Rows
end Compact
end Jvm.RoadKit
namespace Jvm.Pilot.@@N@@
open Jvm Jvm.ClassFile Sem Op Lib Jvm.Free Jvm.Stand Jvm.LawKit Jvm.RoadKit Bundle Jvm.Pilot.@@N@@.Jvm.D
set_option maxRecDepth 65536 in
set_option maxHeartbeats 4000000 in
theorem own_wS : ∀ d ∈ Bundle.stringAtoms, d ∈ tables_1 := by
  intro d hd
  simp only [Bundle.stringAtoms, Bundle.sN, List.mem_cons, List.not_mem_nil, or_false] at hd
  rcases hd with rfl | rfl | rfl | rfl | rfl | rfl | rfl
  all_goals (simp only [tables_1, List.mem_cons, List.not_mem_nil, or_false]; simp)

theorem own_shr0 (z : Int32) : z >>> ((0 : Int32) &&& 31) = z := by
  rw [← Int32.toInt_inj, c_ishr z 0 0 (by decide)]; simp
theorem own_nc (x : Int32) : nar .char ((x &&& 255).toUInt32.toUInt16.toUInt32.toInt32) = x &&& (255 : Int32) := by
  show (((x &&& 255).toUInt32.toUInt16.toUInt32.toInt32).toUInt32.toUInt16.toUInt32.toInt32) = _
  rw [i2c_mask, i2c_mask]
theorem own_nc1 (x : Int32) : nar .char (x &&& 255) = x &&& (255 : Int32) := i2c_mask x
def own_al (p0 : Int32) : Int32 := (if p0 < (26 : Int32) then (nar .char (((65 : Int32) + p0).toUInt32.toUInt16.toUInt32.toInt32)) else (if p0 < (52 : Int32) then (nar .char (((97 : Int32) + (p0 - (26 : Int32))).toUInt32.toUInt16.toUInt32.toInt32)) else (if p0 < (62 : Int32) then (nar .char (((48 : Int32) + (p0 - (52 : Int32))).toUInt32.toUInt16.toUInt32.toInt32)) else (if p0 = (62 : Int32) then (45 : Int32) else (95 : Int32)))))
abbrev cB1 := method_2_code
abbrev yM1 : MethodName := ⟨"com/example/verified_health_identity/verifiedhealthidentity/jose/Base64urlDecode214PinLaw", "alpha", "(I)C"⟩
theorem d1_0 : own_d cB1 0 (.iload_n 0) 1 := by decide +kernel
theorem d1_1 : own_d cB1 1 (.bipush 26) 2 := by decide +kernel
theorem d1_3 : own_d cB1 3 (.if_icmp .ge 9) 3 := by decide +kernel
theorem d1_6 : own_d cB1 6 (.bipush 65) 2 := by decide +kernel
theorem d1_8 : own_d cB1 8 (.iload_n 0) 1 := by decide +kernel
theorem d1_9 : own_d cB1 9 (.iadd) 1 := by decide +kernel
theorem d1_10 : own_d cB1 10 (.i2c) 1 := by decide +kernel
theorem d1_11 : own_d cB1 11 (.ireturn) 1 := by decide +kernel
theorem d1_12 : own_d cB1 12 (.iload_n 0) 1 := by decide +kernel
theorem d1_13 : own_d cB1 13 (.bipush 52) 2 := by decide +kernel
theorem d1_15 : own_d cB1 15 (.if_icmp .ge 12) 3 := by decide +kernel
theorem d1_18 : own_d cB1 18 (.bipush 97) 2 := by decide +kernel
theorem d1_20 : own_d cB1 20 (.iload_n 0) 1 := by decide +kernel
theorem d1_21 : own_d cB1 21 (.bipush 26) 2 := by decide +kernel
theorem d1_23 : own_d cB1 23 (.isub) 1 := by decide +kernel
theorem d1_24 : own_d cB1 24 (.iadd) 1 := by decide +kernel
theorem d1_25 : own_d cB1 25 (.i2c) 1 := by decide +kernel
theorem d1_26 : own_d cB1 26 (.ireturn) 1 := by decide +kernel
theorem d1_27 : own_d cB1 27 (.iload_n 0) 1 := by decide +kernel
theorem d1_28 : own_d cB1 28 (.bipush 62) 2 := by decide +kernel
theorem d1_30 : own_d cB1 30 (.if_icmp .ge 12) 3 := by decide +kernel
theorem d1_33 : own_d cB1 33 (.bipush 48) 2 := by decide +kernel
theorem d1_35 : own_d cB1 35 (.iload_n 0) 1 := by decide +kernel
theorem d1_36 : own_d cB1 36 (.bipush 52) 2 := by decide +kernel
theorem d1_38 : own_d cB1 38 (.isub) 1 := by decide +kernel
theorem d1_39 : own_d cB1 39 (.iadd) 1 := by decide +kernel
theorem d1_40 : own_d cB1 40 (.i2c) 1 := by decide +kernel
theorem d1_41 : own_d cB1 41 (.ireturn) 1 := by decide +kernel
theorem d1_42 : own_d cB1 42 (.iload_n 0) 1 := by decide +kernel
theorem d1_43 : own_d cB1 43 (.bipush 62) 2 := by decide +kernel
theorem d1_45 : own_d cB1 45 (.if_icmp .ne 6) 3 := by decide +kernel
theorem d1_48 : own_d cB1 48 (.bipush 45) 2 := by decide +kernel
theorem d1_50 : own_d cB1 50 (.ireturn) 1 := by decide +kernel
theorem d1_51 : own_d cB1 51 (.bipush 95) 2 := by decide +kernel
theorem d1_53 : own_d cB1 53 (.ireturn) 1 := by decide +kernel
theorem ef1I (m : MethodId) (x0 : Int32) : entryFrame m #[(.int x0)] 1 = mkF m 0 #[i_ x0] [] := by first | (simp [entryFrame, mkF, argsToLocals, Value.category]; done) | rfl
def Q_own_al (Z : State) (p0 : Int32) (h0 : Heap) (n0 : Nat) (v_ : Option Value) (h : Heap) (L_ : List Loc) : Prop := v_ = some (.int (own_al p0)) ∧ Fr n0 L_ ∧ h = h0
theorem pn0 : plainName "com/example/verified_health_identity/verifiedhealthidentity/jose/Base64urlDecode214PinLaw" = true := by first | (simp [plainName, overriddenIn]; done) | decide +kernel
set_option maxRecDepth 65536 in
set_option maxHeartbeats 40000000 in
theorem rm_own_al (l : Launch) (Z : State) (a0 : Array Value) (hw : ∀ d ∈ tables_1, d.before a0 Z = true) (ws : List Jvm.Cond) (p0 : Int32) (h0 : Heap) (n0 : Nat) (Z0 : n0 ≤ h0.size) :
    own_MF l yM1 (.code yM1 cB1 1 (some .char)) ws ⟨0, 0, 0, 0⟩ #[(.int p0)] Z h0 own_T (Q_own_al Z p0 h0 n0) := by
  refine own_in "com/example/verified_health_identity/verifiedhealthidentity/jose/Base64urlDecode214PinLaw" rfl (plainFor_of_name pn0) hisR (fun m => ef1I m p0) ?_
  intro p e s m below meth c s₁ A_ hx hby hml hown hnm hrt hlk hZ _ X0 e0 pre0
  have N0 := Fr.nil n0
  have P1 := oS (s₁.setTop (mkF m 3 #[i_ p0] [(.int 26), (.int p0)])) pre0 (by
    intro _ k_
    refine iN_ X0 hx hby d1_0 rfl ?_
    refine XS.bipush X0.here hx rfl (hb hby d1_1) ?_
    exact k_)
  by_cases c2 : p0 < (26 : Int32)
  · have P3 := oS (s₁.setTop (mkF m 11 #[i_ p0] [(.int (((65 : Int32) + p0).toUInt32.toUInt16.toUInt32.toInt32))])) P1 (by
      intro _ k_
      refine XS.icmpNo X0.here hx rfl (hb hby d1_3) rfl (tlt c2).2.1 ?_
      refine XS.bipush X0.here hx rfl (hb hby d1_6) ?_
      refine iN_ X0 hx hby d1_8 rfl ?_
      refine XS.iadd X0.here hx rfl (hb hby d1_9) rfl ?_
      refine XS.i2c X0.here hx rfl (hb hby d1_10) rfl ?_
      exact k_)
    exact own_out X0 hlk (v := some (.int (nar .char (((65 : Int32) + p0).toUInt32.toUInt16.toUInt32.toInt32)))) (own_hv hrt) P3 (fun _ q_ => retN X0 hx (t := .char) hrt (by simp) (hb hby d1_11) q_) e0 ⟨by unfold own_al; rw [if_pos c2], N0, rfl⟩ (by decide)
  · have P5 := oS (s₁.setTop (mkF m 15 #[i_ p0] [(.int 52), (.int p0)])) P1 (by
      intro _ k_
      refine cY_ X0 hx hby d1_3 (pc := 3) (pc' := 12) (flt c2).2.1 (by decide) ?_
      refine iN_ X0 hx hby d1_12 rfl ?_
      refine XS.bipush X0.here hx rfl (hb hby d1_13) ?_
      exact k_)
    by_cases c6 : p0 < (52 : Int32)
    · have P7 := oS (s₁.setTop (mkF m 26 #[i_ p0] [(.int (((97 : Int32) + (p0 - (26 : Int32))).toUInt32.toUInt16.toUInt32.toInt32))])) P5 (by
        intro _ k_
        refine XS.icmpNo X0.here hx rfl (hb hby d1_15) rfl (tlt c6).2.1 ?_
        refine XS.bipush X0.here hx rfl (hb hby d1_18) ?_
        refine iN_ X0 hx hby d1_20 rfl ?_
        refine XS.bipush X0.here hx rfl (hb hby d1_21) ?_
        refine XS.isub X0.here hx rfl (hb hby d1_23) rfl ?_
        refine XS.iadd X0.here hx rfl (hb hby d1_24) rfl ?_
        refine XS.i2c X0.here hx rfl (hb hby d1_25) rfl ?_
        exact k_)
      exact own_out X0 hlk (v := some (.int (nar .char (((97 : Int32) + (p0 - (26 : Int32))).toUInt32.toUInt16.toUInt32.toInt32)))) (own_hv hrt) P7 (fun _ q_ => retN X0 hx (t := .char) hrt (by simp) (hb hby d1_26) q_) e0 ⟨by unfold own_al; rw [if_neg c2, if_pos c6], N0, rfl⟩ (by decide)
    · have P9 := oS (s₁.setTop (mkF m 30 #[i_ p0] [(.int 62), (.int p0)])) P5 (by
        intro _ k_
        refine cY_ X0 hx hby d1_15 (pc := 15) (pc' := 27) (flt c6).2.1 (by decide) ?_
        refine iN_ X0 hx hby d1_27 rfl ?_
        refine XS.bipush X0.here hx rfl (hb hby d1_28) ?_
        exact k_)
      by_cases c10 : p0 < (62 : Int32)
      · have P11 := oS (s₁.setTop (mkF m 41 #[i_ p0] [(.int (((48 : Int32) + (p0 - (52 : Int32))).toUInt32.toUInt16.toUInt32.toInt32))])) P9 (by
          intro _ k_
          refine XS.icmpNo X0.here hx rfl (hb hby d1_30) rfl (tlt c10).2.1 ?_
          refine XS.bipush X0.here hx rfl (hb hby d1_33) ?_
          refine iN_ X0 hx hby d1_35 rfl ?_
          refine XS.bipush X0.here hx rfl (hb hby d1_36) ?_
          refine XS.isub X0.here hx rfl (hb hby d1_38) rfl ?_
          refine XS.iadd X0.here hx rfl (hb hby d1_39) rfl ?_
          refine XS.i2c X0.here hx rfl (hb hby d1_40) rfl ?_
          exact k_)
        exact own_out X0 hlk (v := some (.int (nar .char (((48 : Int32) + (p0 - (52 : Int32))).toUInt32.toUInt16.toUInt32.toInt32)))) (own_hv hrt) P11 (fun _ q_ => retN X0 hx (t := .char) hrt (by simp) (hb hby d1_41) q_) e0 ⟨by unfold own_al; rw [if_neg c2, if_neg c6, if_pos c10], N0, rfl⟩ (by decide)
      · have P13 := oS (s₁.setTop (mkF m 45 #[i_ p0] [(.int 62), (.int p0)])) P9 (by
          intro _ k_
          refine cY_ X0 hx hby d1_30 (pc := 30) (pc' := 42) (flt c10).2.1 (by decide) ?_
          refine iN_ X0 hx hby d1_42 rfl ?_
          refine XS.bipush X0.here hx rfl (hb hby d1_43) ?_
          exact k_)
        by_cases c14 : p0 = (62 : Int32)
        · have P15 := oS (s₁.setTop (mkF m 50 #[i_ p0] [(.int 45)])) P13 (by
            intro _ k_
            refine XS.icmpNo X0.here hx rfl (hb hby d1_45) rfl (teq c14).2 ?_
            refine XS.bipush X0.here hx rfl (hb hby d1_48) ?_
            exact k_)
          exact own_out X0 hlk (v := some (.int 45)) (own_hv hrt) P15 (fun _ q_ => retN X0 hx (t := .char) hrt (by simp) (hb hby d1_50) q_) e0 ⟨by unfold own_al; rw [if_neg c2, if_neg c6, if_neg c10, if_pos c14], N0, rfl⟩ (by decide)
        · have P17 := oS (s₁.setTop (mkF m 53 #[i_ p0] [(.int 95)])) P13 (by
            intro _ k_
            refine cY_ X0 hx hby d1_45 (pc := 45) (pc' := 51) (feq c14).2 (by decide) ?_
            refine XS.bipush X0.here hx rfl (hb hby d1_51) ?_
            exact k_)
          exact own_out X0 hlk (v := some (.int 95)) (own_hv hrt) P17 (fun _ q_ => retN X0 hx (t := .char) hrt (by simp) (hb hby d1_53) q_) e0 ⟨by unfold own_al; rw [if_neg c2, if_neg c6, if_neg c10, if_neg c14], N0, rfl⟩ (by decide)
def own_decI : List Int32 := [-1, -1, -1, -1, -1, -1, -1, -1, -1, -1, -1, -1, -1, -1, -1, -1, -1, -1, -1, -1, -1, -1, -1, -1, -1, -1, -1, -1, -1, -1, -1, -1, -1, -1, -1, -1, -1, -1, -1, -1, -1, -1, -1, -1, -1, 62, -1, -1, 52, 53, 54, 55, 56, 57, 58, 59, 60, 61, -1, -1, -1, -2, -1, -1, -1, 0, 1, 2, 3, 4, 5, 6, 7, 8, 9, 10, 11, 12, 13, 14, 15, 16, 17, 18, 19, 20, 21, 22, 23, 24, 25, -1, -1, -1, -1, 63, -1, 26, 27, 28, 29, 30, 31, 32, 33, 34, 35, 36, 37, 38, 39, 40, 41, 42, 43, 44, 45, 46, 47, 48, 49, 50, 51, -1, -1, -1, -1, -1, -1, -1, -1, -1, -1, -1, -1, -1, -1, -1, -1, -1, -1, -1, -1, -1, -1, -1, -1, -1, -1, -1, -1, -1, -1, -1, -1, -1, -1, -1, -1, -1, -1, -1, -1, -1, -1, -1, -1, -1, -1, -1, -1, -1, -1, -1, -1, -1, -1, -1, -1, -1, -1, -1, -1, -1, -1, -1, -1, -1, -1, -1, -1, -1, -1, -1, -1, -1, -1, -1, -1, -1, -1, -1, -1, -1, -1, -1, -1, -1, -1, -1, -1, -1, -1, -1, -1, -1, -1, -1, -1, -1, -1, -1, -1, -1, -1, -1, -1, -1, -1, -1, -1, -1, -1, -1, -1, -1, -1, -1, -1, -1, -1, -1, -1, -1, -1, -1, -1, -1, -1, -1, -1, -1, -1, -1, -1, -1]
def own_dec : List Value := own_decI.map Value.int
def own_encI : List Int32 := [65, 66, 67, 68, 69, 70, 71, 72, 73, 74, 75, 76, 77, 78, 79, 80, 81, 82, 83, 84, 85, 86, 87, 88, 89, 90, 97, 98, 99, 100, 101, 102, 103, 104, 105, 106, 107, 108, 109, 110, 111, 112, 113, 114, 115, 116, 117, 118, 119, 120, 121, 122, 48, 49, 50, 51, 52, 53, 54, 55, 56, 57, 45, 95]
def own_enc : List Value := own_encI.map Value.int
def own_ws (t : Term) : Nat → List Int32 → List Jvm.Cond
  | _, [] => []
  | i, v :: r => Cond.eq (.elem t (.int (Int32.ofNat i))) (.int v) :: own_ws t (i + 1) r
theorem own_hasL {args : Array Value} {s : State} {t : Term} {a : Addr} {cl : Cell} (ev : t.eval args s none [] s = some (.ref a)) (har : s.arrayAt? a = some cl) (h31 : cl.slots.size < 2 ^ 31) : ∀ (L : List Int32) (i : Nat), i + L.length ≤ cl.slots.size → (∀ d ∈ own_ws t i L, d.before args s = true) → HasL cl i (L.map Value.int)
  | [], _, _, _ => trivial
  | v :: r, i, hl, hw => by
    have hl' : i + (r.length + 1) ≤ cl.slots.size := hl
    refine ⟨?_, own_hasL ev har h31 r (i + 1) (by omega) (fun d hd => hw d (List.mem_cons_of_mem _ hd))⟩
    have e1 := Cond.eq_int (hw _ (List.mem_cons_self ..)) rfl
    rw [Jvm.Free.SBG.elem_at (ix := .int (Int32.ofNat i)) ev har (by omega) h31 rfl] at e1; exact e1
theorem own_tabS {args : Array Value} {s : State} {t : Term} {a : Addr} {ty : FieldType} {z : Int32} {L : List Int32} (hf : Fit s) (ev : t.eval args s none [] s = some (.ref a)) (wa : (Cond.arrayOf t ty).before args s = true) (wl : (Cond.eq (.length t) (.int z)).before args s = true) (hz : ¬ z < 0) (hl : z.toNatClampNeg = L.length) (hw : ∀ d ∈ own_ws t 0 L, d.before args s = true) :
    ∃ k, Arv s s.heap a k ty z (L.map Value.int) (.int 0) := by
  obtain ⟨c, A⟩ := Arr.start ev (Cond.before_iff.mp wa)
  have hlen := Cond.eq_int wl rfl
  obtain ⟨sd, SA, hev, har, -⟩ := Term.length_spec hlen
  cases ev.symm.trans hev
  have h31 := Jvm.Free.SBG.length_lt ev har hlen
  have hc : s.heap[a]? = some SA := by
    simp only [State.arrayAt?, Option.bind_eq_bind] at har
    cases q : s.heap[a]? with
    | none => simp [q] at har
    | some x => simp only [q, Option.bind_some] at har; grind
  cases hc.symm.trans A.1
  have e : (Term.length t).eval args s none [] s = some (.int (Int32.ofNat c.slots.size)) := by simp [Term.eval, ev, har, h31]
  have h2 : Int32.ofNat c.slots.size = z := by simpa using Option.some.inj (e.symm.trans hlen)
  have h3 : c.slots.size = L.length := by
    have q := congrArg Int32.toInt h2
    rw [Int32.toInt_ofNat_small h31] at q
    have r := nat_of hz; omega
  exact ⟨c.cls, Arv.start hf A h31 h2 hz (by rw [hl, List.length_map]) (own_hasL ev har h31 L 0 (by omega) hw)⟩
theorem own_fldS {args : Array Value} {s : State} {t : Term} {a : Addr} {C n d : String} {z : Int32} (ev : t.eval args s none [] s = some (.ref a)) (w : (Cond.eq (.field t C n d) (.int z)).before args s = true) : Fld s s.heap a C n d (.int z) := by
  have e := Cond.eq_int w rfl
  exact Fld.start (by simpa [Term.eval, ev] using e)
theorem own_exS {args : Array Value} {s : State} {t : Term} {C : String} (w : (Cond.exactly t C).before args s = true) : ∃ a, t.eval args s none [] s = some (.ref a) ∧ Exa s s.heap a C := by
  obtain ⟨a, -, -, -, e1, -⟩ := Cond.exactly_spec w
  exact ⟨a, e1, Exa.start e1 (Cond.before_iff.mp w)⟩

set_option maxRecDepth 65536 in
theorem own_t1 : (jdkStatics_1.drop 20).take 256 = own_ws (.static "java/util/Base64$Decoder" "fromBase64URL" "[I") 0 own_decI := rfl
set_option maxRecDepth 65536 in
theorem own_t2 : (jdkStatics_1.drop 281).take 64 = own_ws (.static "java/util/Base64$Encoder" "toBase64URL" "[C") 0 own_encI := rfl
theorem own_tn {x : Int32} (h : 0 ≤ x.toInt) : (x.toBitVec.toNat : Int) = x.toInt := by
  have e : x.toInt = x.toBitVec.toInt := rfl
  have l := x.toBitVec.isLt
  rw [e] at h ⊢; rw [BitVec.toInt_eq_toNat_cond] at h ⊢; split at h <;> split <;> omega
theorem own_orD (u v : Int32) (k : Nat) (hu : 0 ≤ u.toInt ∧ u.toInt % (2 ^ k : Nat) = 0) (hv : 0 ≤ v.toInt ∧ v.toInt < (2 ^ k : Nat)) (hs : u.toInt + v.toInt < 2147483648) : (u ||| v).toInt = u.toInt + v.toInt := by
  have a := own_tn hu.1; have b := own_tn hv.1
  have e : (u ||| v).toBitVec.toNat = u.toBitVec.toNat ||| v.toBitVec.toNat := by rw [Int32.toBitVec_or, BitVec.toNat_or]
  have hm : u.toBitVec.toNat % 2 ^ k = 0 := by
    have q := hu.2; rw [← a] at q; exact_mod_cast q
  obtain ⟨j, hj⟩ : ∃ j : Nat, u.toBitVec.toNat = j <<< k := ⟨u.toBitVec.toNat / 2 ^ k, by rw [Nat.shiftLeft_eq]; exact (Nat.div_mul_cancel (Nat.dvd_of_mod_eq_zero hm)).symm⟩
  have l : v.toBitVec.toNat < 2 ^ k := by have q := hv.2; rw [← b] at q; exact_mod_cast q
  rw [hj, ← Nat.shiftLeft_add_eq_or_of_lt l, ← hj] at e
  have q : (u ||| v).toInt = (u ||| v).toBitVec.toInt := rfl
  rw [q, BitVec.toInt_eq_toNat_cond, e]
  split <;> omega
theorem own_sl (u : Int32) (q : Int32) (k : Nat) (hk : q.toBitVec.toNat % 32 = k) (h0 : 0 ≤ u.toInt) (h : u.toInt * (2 ^ k : Nat) < 2147483648) : (u <<< (q &&& 31)).toInt = u.toInt * (2 ^ k : Nat) := by
  have a := c_ishl u q k hk; have r := rng32 (u <<< (q &&& 31))
  have h1 : 0 ≤ u.toInt * (2 ^ k : Nat) := Int.mul_nonneg h0 (Int.natCast_nonneg _)
  generalize u.toInt * ((2 ^ k : Nat) : Int) = w at *; omega
theorem own_b8 {z b : Int32} (h : (z.toInt - b.toInt) % 256 = 0) : z.toInt8.toInt32.toInt8.toInt32 = b.toInt8.toInt32 := by
  have a := c_i2b z; have c := c_i2b (z.toInt8.toInt32); have d := c_i2b b
  rw [← Int32.toInt_inj]; omega
def own_B (b : Int32) : Prop := 0 ≤ b.toInt ∧ b.toInt < 256
theorem own_y255 {b : Int32} (h : own_B b) : (b.toInt8.toInt32 &&& 255).toInt = b.toInt := by
  have a := c_i2b b; unfold own_B at h
  rw [c_mask _ 255 8 (by decide) (by decide +kernel)]; omega
theorem own_B255 (x : Int32) : own_B (x &&& 255) := by
  have a := c_mask x 255 8 (by decide) (by decide +kernel); unfold own_B; omega
/-- the four 6-bit groups of three bytes -/
def own_H (b0 b1 b2 s0 s1 s2 s3 : Int32) : Prop := (own_B b0 ∧ own_B b1 ∧ own_B b2) ∧ s0.toInt = b0.toInt / 4 ∧ s1.toInt = b0.toInt % 4 * 16 + b1.toInt / 16 ∧ s2.toInt = b1.toInt % 16 * 4 + b2.toInt / 64 ∧ s3.toInt = b2.toInt % 64
def own_vv (b0 b1 b2 : Int32) : Int32 := ((b0 <<< ((16 : Int32) &&& 31)) ||| (b1 <<< ((8 : Int32) &&& 31))) ||| b2
theorem own_vvI {b0 b1 b2 : Int32} (h0 : own_B b0) (h1 : own_B b1) (h2 : own_B b2) : (own_vv b0 b1 b2).toInt = 65536 * b0.toInt + 256 * b1.toInt + b2.toInt := by
  unfold own_B at h0 h1 h2
  have a := own_sl b0 16 16 (by decide) h0.1 (by omega); have b := own_sl b1 8 8 (by decide) h1.1 (by omega)
  unfold own_vv
  have c := own_orD (b0 <<< ((16 : Int32) &&& 31)) (b1 <<< ((8 : Int32) &&& 31)) 16 (by omega) (by omega) (by omega)
  rw [own_orD _ _ 8 (by omega) (by omega) (by omega), c]; omega
theorem own_g0 {v : Int32} (h : 0 ≤ v.toInt) : ((v.toUInt32 >>> ((18 : Int32) &&& 31).toUInt32).toInt32 &&& 63).toInt = v.toInt / 262144 % 64 := by
  have a := c_iushr v 18 18 (by decide) (by decide); have r := rng32 v
  rw [c_mask _ 63 6 (by decide) (by decide +kernel), a]; omega
theorem own_g1 {v : Int32} (h : 0 ≤ v.toInt) : ((v.toUInt32 >>> ((12 : Int32) &&& 31).toUInt32).toInt32 &&& 63).toInt = v.toInt / 4096 % 64 := by
  have a := c_iushr v 12 12 (by decide) (by decide); have r := rng32 v
  rw [c_mask _ 63 6 (by decide) (by decide +kernel), a]; omega
theorem own_g2 {v : Int32} (h : 0 ≤ v.toInt) : ((v.toUInt32 >>> ((6 : Int32) &&& 31).toUInt32).toInt32 &&& 63).toInt = v.toInt / 64 % 64 := by
  have a := c_iushr v 6 6 (by decide) (by decide); have r := rng32 v
  rw [c_mask _ 63 6 (by decide) (by decide +kernel), a]; omega
theorem own_g3 (v : Int32) : (v &&& 63).toInt = v.toInt % 64 := by rw [c_mask _ 63 6 (by decide) (by decide +kernel)]; omega
theorem own_HI {b0 b1 b2 v s0 s1 s2 s3 : Int32} (h0 : own_B b0) (h1 : own_B b1) (h2 : own_B b2) (hv : v = own_vv b0 b1 b2) (e0 : s0 = ((v.toUInt32 >>> ((18 : Int32) &&& 31).toUInt32).toInt32 &&& 63)) (e1 : s1 = ((v.toUInt32 >>> ((12 : Int32) &&& 31).toUInt32).toInt32 &&& 63)) (e2 : s2 = ((v.toUInt32 >>> ((6 : Int32) &&& 31).toUInt32).toInt32 &&& 63)) (e3 : s3 = (v &&& 63)) : own_H b0 b1 b2 s0 s1 s2 s3 := by
  have q := own_vvI h0 h1 h2; rw [← hv] at q
  have g := h0; have g1 := h1; have g2 := h2; unfold own_B at g g1 g2
  have z : 0 ≤ v.toInt := by omega
  refine ⟨⟨h0, h1, h2⟩, ?_⟩
  rw [e0, e1, e2, e3, own_g0 z, own_g1 z, own_g2 z, own_g3 v]; omega
section Bits
variable {b0 b1 b2 s0 s1 s2 s3 : Int32}
theorem own_s63 (h : own_H b0 b1 b2 s0 s1 s2 s3) : (0 ≤ s0.toInt ∧ s0.toInt < 64) ∧ (0 ≤ s1.toInt ∧ s1.toInt < 64) ∧ (0 ≤ s2.toInt ∧ s2.toInt < 64) ∧ (0 ≤ s3.toInt ∧ s3.toInt < 64) := by
  unfold own_H own_B at h; omega
theorem own_d2 (h : own_H b0 b1 b2 s0 s1 s2 s3) : (((0 : Int32) ||| (s0 <<< ((18 : Int32) &&& 31))) ||| (s1 <<< ((12 : Int32) &&& 31))).toInt = s0.toInt * 262144 + s1.toInt * 4096 := by
  have q := own_s63 h
  have a := own_sl s0 18 18 (by decide) q.1.1 (by omega); have b := own_sl s1 12 12 (by decide) q.2.1.1 (by omega)
  have z : (0 : Int32).toInt = 0 := rfl
  have c := own_orD (0 : Int32) (s0 <<< ((18 : Int32) &&& 31)) 30 (by omega) (by omega) (by omega)
  rw [own_orD _ _ 18 (by omega) (by omega) (by omega), c]; omega
theorem own_d3 (h : own_H b0 b1 b2 s0 s1 s2 s3) : ((((0 : Int32) ||| (s0 <<< ((18 : Int32) &&& 31))) ||| (s1 <<< ((12 : Int32) &&& 31))) ||| (s2 <<< ((6 : Int32) &&& 31))).toInt = s0.toInt * 262144 + s1.toInt * 4096 + s2.toInt * 64 := by
  have q := own_s63 h; have d := own_d2 h
  have a := own_sl s2 6 6 (by decide) q.2.2.1.1 (by omega)
  rw [own_orD _ _ 12 (by omega) (by omega) (by omega), d]; omega
theorem own_d4 (h : own_H b0 b1 b2 s0 s1 s2 s3) : (((((0 : Int32) ||| (s0 <<< ((18 : Int32) &&& 31))) ||| (s1 <<< ((12 : Int32) &&& 31))) ||| (s2 <<< ((6 : Int32) &&& 31))) ||| (s3 <<< ((0 : Int32) &&& 31))).toInt = s0.toInt * 262144 + s1.toInt * 4096 + s2.toInt * 64 + s3.toInt := by
  have q := own_s63 h; have d := own_d3 h
  have a := own_sl s3 0 0 (by decide) q.2.2.2.1 (by omega)
  rw [own_orD _ _ 6 (by omega) (by omega) (by omega), d]; omega
-- what is decoded
theorem own_r2 (h : own_H b0 b1 b2 s0 s1 s2 s3) : (((((0 : Int32) ||| (s0 <<< ((18 : Int32) &&& 31))) ||| (s1 <<< ((12 : Int32) &&& 31))) >>> ((16 : Int32) &&& 31)).toInt8.toInt32).toInt8.toInt32 = b0.toInt8.toInt32 := own_b8 (by
  rw [c_ishr _ 16 16 (by decide), own_d2 h]; unfold own_H own_B at h; omega)
theorem own_r30 (h : own_H b0 b1 b2 s0 s1 s2 s3) : ((((((0 : Int32) ||| (s0 <<< ((18 : Int32) &&& 31))) ||| (s1 <<< ((12 : Int32) &&& 31))) ||| (s2 <<< ((6 : Int32) &&& 31))) >>> ((16 : Int32) &&& 31)).toInt8.toInt32).toInt8.toInt32 = b0.toInt8.toInt32 := own_b8 (by
  rw [c_ishr _ 16 16 (by decide), own_d3 h]; unfold own_H own_B at h; omega)
theorem own_r31 (h : own_H b0 b1 b2 s0 s1 s2 s3) : ((((((0 : Int32) ||| (s0 <<< ((18 : Int32) &&& 31))) ||| (s1 <<< ((12 : Int32) &&& 31))) ||| (s2 <<< ((6 : Int32) &&& 31))) >>> ((8 : Int32) &&& 31)).toInt8.toInt32).toInt8.toInt32 = b1.toInt8.toInt32 := own_b8 (by
  rw [c_ishr _ 8 8 (by decide), own_d3 h]; unfold own_H own_B at h; omega)
theorem own_r40 (h : own_H b0 b1 b2 s0 s1 s2 s3) : (((((((0 : Int32) ||| (s0 <<< ((18 : Int32) &&& 31))) ||| (s1 <<< ((12 : Int32) &&& 31))) ||| (s2 <<< ((6 : Int32) &&& 31))) ||| (s3 <<< ((0 : Int32) &&& 31))) >>> ((16 : Int32) &&& 31)).toInt8.toInt32).toInt8.toInt32 = b0.toInt8.toInt32 := own_b8 (by
  rw [c_ishr _ 16 16 (by decide), own_d4 h]; unfold own_H own_B at h; omega)
theorem own_r41 (h : own_H b0 b1 b2 s0 s1 s2 s3) : (((((((0 : Int32) ||| (s0 <<< ((18 : Int32) &&& 31))) ||| (s1 <<< ((12 : Int32) &&& 31))) ||| (s2 <<< ((6 : Int32) &&& 31))) ||| (s3 <<< ((0 : Int32) &&& 31))) >>> ((8 : Int32) &&& 31)).toInt8.toInt32).toInt8.toInt32 = b1.toInt8.toInt32 := own_b8 (by
  rw [c_ishr _ 8 8 (by decide), own_d4 h]; unfold own_H own_B at h; omega)
theorem own_r42 (h : own_H b0 b1 b2 s0 s1 s2 s3) : ((((((0 : Int32) ||| (s0 <<< ((18 : Int32) &&& 31))) ||| (s1 <<< ((12 : Int32) &&& 31))) ||| (s2 <<< ((6 : Int32) &&& 31))) ||| (s3 <<< ((0 : Int32) &&& 31))).toInt8.toInt32).toInt8.toInt32 = b2.toInt8.toInt32 := own_b8 (by
  rw [own_d4 h]; unfold own_H own_B at h; omega)
-- the encoder's indices
theorem own_i0 (h : own_H b0 b1 b2 s0 s1 s2 s3) : ((b0.toInt8.toInt32 &&& 255) >>> ((2 : Int32) &&& 31)) = s0 := by
  rw [← Int32.toInt_inj, c_ishr _ 2 2 (by decide), own_y255 h.1.1]; unfold own_H own_B at h; omega
theorem own_j1 (h : own_H b0 b1 b2 s0 s1 s2 s3) : (((b0.toInt8.toInt32 &&& 255) <<< ((4 : Int32) &&& 31)) &&& 63).toInt = b0.toInt % 4 * 16 := by
  have q := own_y255 h.1.1; unfold own_H own_B at h
  have a := own_sl (b0.toInt8.toInt32 &&& 255) 4 4 (by decide) (by omega) (by omega)
  rw [own_g3, a, q]; omega
theorem own_i1a (h : own_H b0 b1 b2 s0 s1 s2 s3) (z : b1 = 0) : (((b0.toInt8.toInt32 &&& 255) <<< ((4 : Int32) &&& 31)) &&& 63) = s1 := by
  rw [← Int32.toInt_inj, own_j1 h]; unfold own_H own_B at h; subst z; have z : (0 : Int32).toInt = 0 := rfl; omega
theorem own_i1b (h : own_H b0 b1 b2 s0 s1 s2 s3) : ((((b0.toInt8.toInt32 &&& 255) <<< ((4 : Int32) &&& 31)) &&& 63) ||| ((b1.toInt8.toInt32 &&& 255) >>> ((4 : Int32) &&& 31))) = s1 := by
  have a := own_j1 h
  have b : ((b1.toInt8.toInt32 &&& 255) >>> ((4 : Int32) &&& 31)).toInt = b1.toInt / 16 := by rw [c_ishr _ 4 4 (by decide), own_y255 h.1.2.1]; omega
  unfold own_H own_B at h
  rw [← Int32.toInt_inj, own_orD _ _ 4 (by omega) (by omega) (by omega)]; omega
theorem own_i2a (h : own_H b0 b1 b2 s0 s1 s2 s3) (z : b2 = 0) : (((b1.toInt8.toInt32 &&& 255) <<< ((2 : Int32) &&& 31)) &&& 63) = s2 := by
  have q := own_y255 h.1.2.1; unfold own_H own_B at h
  have a := own_sl (b1.toInt8.toInt32 &&& 255) 2 2 (by decide) (by omega) (by omega)
  rw [← Int32.toInt_inj, own_g3, a, q]; subst z; have z : (0 : Int32).toInt = 0 := rfl; omega
theorem own_yB {b : Int32} (h : own_B b) : own_B (b.toInt8.toInt32 &&& 255) := by have q := own_y255 h; unfold own_B at h ⊢; omega
theorem own_ew (h : own_H b0 b1 b2 s0 s1 s2 s3) : (own_vv (b0.toInt8.toInt32 &&& 255) (b1.toInt8.toInt32 &&& 255) (b2.toInt8.toInt32 &&& 255)).toInt = 65536 * b0.toInt + 256 * b1.toInt + b2.toInt := by
  rw [own_vvI (own_yB h.1.1) (own_yB h.1.2.1) (own_yB h.1.2.2), own_y255 h.1.1, own_y255 h.1.2.1, own_y255 h.1.2.2]
theorem own_k0 (h : own_H b0 b1 b2 s0 s1 s2 s3) : (((((((b0.toInt8.toInt32 &&& 255) <<< ((16 : Int32) &&& 31)) ||| ((b1.toInt8.toInt32 &&& 255) <<< ((8 : Int32) &&& 31))) ||| (b2.toInt8.toInt32 &&& 255)).toUInt32 >>> ((18 : Int32) &&& 31).toUInt32).toInt32) &&& 63) = s0 := by
  have q := own_ew h; have z : 0 ≤ (own_vv (b0.toInt8.toInt32 &&& 255) (b1.toInt8.toInt32 &&& 255) (b2.toInt8.toInt32 &&& 255)).toInt := by rw [q]; unfold own_H own_B at h; omega
  rw [← Int32.toInt_inj]; refine (own_g0 z).trans ?_; rw [q]; unfold own_H own_B at h; omega
theorem own_k1 (h : own_H b0 b1 b2 s0 s1 s2 s3) : (((((((b0.toInt8.toInt32 &&& 255) <<< ((16 : Int32) &&& 31)) ||| ((b1.toInt8.toInt32 &&& 255) <<< ((8 : Int32) &&& 31))) ||| (b2.toInt8.toInt32 &&& 255)).toUInt32 >>> ((12 : Int32) &&& 31).toUInt32).toInt32) &&& 63) = s1 := by
  have q := own_ew h; have z : 0 ≤ (own_vv (b0.toInt8.toInt32 &&& 255) (b1.toInt8.toInt32 &&& 255) (b2.toInt8.toInt32 &&& 255)).toInt := by rw [q]; unfold own_H own_B at h; omega
  rw [← Int32.toInt_inj]; refine (own_g1 z).trans ?_; rw [q]; unfold own_H own_B at h; omega
theorem own_k2 (h : own_H b0 b1 b2 s0 s1 s2 s3) : (((((((b0.toInt8.toInt32 &&& 255) <<< ((16 : Int32) &&& 31)) ||| ((b1.toInt8.toInt32 &&& 255) <<< ((8 : Int32) &&& 31))) ||| (b2.toInt8.toInt32 &&& 255)).toUInt32 >>> ((6 : Int32) &&& 31).toUInt32).toInt32) &&& 63) = s2 := by
  have q := own_ew h; have z : 0 ≤ (own_vv (b0.toInt8.toInt32 &&& 255) (b1.toInt8.toInt32 &&& 255) (b2.toInt8.toInt32 &&& 255)).toInt := by rw [q]; unfold own_H own_B at h; omega
  rw [← Int32.toInt_inj]; refine (own_g2 z).trans ?_; rw [q]; unfold own_H own_B at h; omega
theorem own_k3 (h : own_H b0 b1 b2 s0 s1 s2 s3) : (((((b0.toInt8.toInt32 &&& 255) <<< ((16 : Int32) &&& 31)) ||| ((b1.toInt8.toInt32 &&& 255) <<< ((8 : Int32) &&& 31))) ||| (b2.toInt8.toInt32 &&& 255)) &&& 63) = s3 := by
  have q := own_ew h
  rw [← Int32.toInt_inj]; refine (own_g3 _).trans ?_; refine (congrArg (· % 64) q).trans ?_; unfold own_H own_B at h; omega
end Bits
theorem own_mapI (L : List Int32) (k : Nat) : (L.map Value.int).getD k (.int 0) = .int (L.getD k 0) := by
  rw [List.getD_eq_getElem?_getD, List.getD_eq_getElem?_getD, List.getElem?_map]; cases L[k]? <;> rfl
def own_ch (s : Int32) : Int32 := nar .char (own_al s)
def own_sg (s : Int32) : Int32 := (own_ch s).toInt8.toInt32.toInt8.toInt32
theorem own_signF : ∀ k : Fin 64, ¬ ((255 : Int32) < own_ch (Int32.ofNat k.val)) ∧ (¬ (own_sg (Int32.ofNat k.val) &&& 255) < 0 ∧ (own_sg (Int32.ofNat k.val) &&& 255) < (256 : Int32)) ∧ own_decI.getD (own_sg (Int32.ofNat k.val) &&& 255).toNatClampNeg 0 = Int32.ofNat k.val ∧ ¬ (Int32.ofNat k.val < (0 : Int32)) ∧ ¬ (own_sg (Int32.ofNat k.val) = (61 : Int32)) ∧ (¬ Int32.ofNat k.val < 0 ∧ Int32.ofNat k.val < (64 : Int32)) ∧ own_encI.getD (Int32.ofNat k.val).toNatClampNeg 0 = own_ch (Int32.ofNat k.val) := by decide +kernel
theorem own_sign {s : Int32} (h : 0 ≤ s.toInt ∧ s.toInt < 64) : ¬ ((255 : Int32) < own_ch s) ∧ (¬ (own_sg s &&& 255) < 0 ∧ (own_sg s &&& 255) < (256 : Int32)) ∧ own_dec.getD (own_sg s &&& 255).toNatClampNeg (.int 0) = .int s ∧ ¬ (s < (0 : Int32)) ∧ ¬ (own_sg s = (61 : Int32)) ∧ (¬ s < 0 ∧ s < (64 : Int32)) ∧ own_enc.getD s.toNatClampNeg (.int 0) = .int (own_ch s) := by
  have e : s = Int32.ofNat s.toInt.toNat := by rw [← Int32.toInt_inj, Int32.toInt_ofNat_of_lt (by omega)]; omega
  have q := own_signF ⟨s.toInt.toNat, by omega⟩
  dsimp only at q; rw [← e] at q
  refine ⟨q.1, q.2.1, ?_, q.2.2.2.1, q.2.2.2.2.1, q.2.2.2.2.2.1, ?_⟩
  · unfold own_dec; rw [own_mapI, q.2.2.1]
  · unfold own_enc; rw [own_mapI, q.2.2.2.2.2.2]
theorem own_pB {P Q : Prop} {z x : Int32} (h : (P ∧ z = (0 : Int32)) ∨ (Q ∧ z = (x &&& 255))) : own_B z := by
  rcases h with ⟨-, rfl⟩ | ⟨-, rfl⟩
  · exact ⟨by decide, by decide⟩
  · exact own_B255 _
theorem own_p0 {P : Prop} {z w : Int32} (h : (P ∧ z = (0 : Int32)) ∨ (¬ P ∧ z = w)) (hp : P) : z = 0 := by
  rcases h with ⟨-, q⟩ | ⟨q, -⟩
  · exact q
  · exact absurd hp q
theorem own_and3 (x : Int32) : (x &&& 3) = (0 : Int32) ∨ (x &&& 3) = (1 : Int32) ∨ (x &&& 3) = (2 : Int32) ∨ (x &&& 3) = (3 : Int32) := by
  have a := c_mask x 3 2 (by decide) (by decide +kernel)
  simp only [← Int32.toInt_inj, show (0 : Int32).toInt = 0 from rfl, show (1 : Int32).toInt = 1 from rfl, show (2 : Int32).toInt = 2 from rfl, show (3 : Int32).toInt = 3 from rfl]; omega
theorem own_rk {i s : Int32} (e : i = s) (h : ¬ s < 0 ∧ s < (64 : Int32)) : ¬ i < 0 ∧ i < (64 : Int32) := e ▸ h
theorem own_rv {i s v : Int32} (e : i = s) (h : own_enc.getD s.toNatClampNeg (.int 0) = .int v) : own_enc.getD i.toNatClampNeg (.int 0) = .int v := e ▸ h
abbrev cB6 := jdk_52_method_21_code
abbrev yM6 : MethodName := ⟨"java/lang/StringUTF16", "compress", "([CI[BII)I"⟩
theorem d6_0 : own_d cB6 0 (.iconst 0) 1 := by decide +kernel
theorem d6_1 : own_d cB6 1 (.istore 5) 2 := by decide +kernel
theorem d6_3 : own_d cB6 3 (.iload 5) 2 := by decide +kernel
theorem d6_5 : own_d cB6 5 (.iload 4) 2 := by decide +kernel
theorem d6_7 : own_d cB6 7 (.if_icmp .ge 37) 3 := by decide +kernel
theorem d6_10 : own_d cB6 10 (.aload_n 0) 1 := by decide +kernel
theorem d6_11 : own_d cB6 11 (.iload_n 1) 1 := by decide +kernel
theorem d6_12 : own_d cB6 12 (.caload) 1 := by decide +kernel
theorem d6_13 : own_d cB6 13 (.istore 6) 2 := by decide +kernel
theorem d6_15 : own_d cB6 15 (.iload 6) 2 := by decide +kernel
theorem d6_17 : own_d cB6 17 (.sipush 255) 3 := by decide +kernel
theorem d6_20 : own_d cB6 20 (.if_icmp .le 6) 3 := by decide +kernel
theorem d6_26 : own_d cB6 26 (.aload_n 2) 1 := by decide +kernel
theorem d6_27 : own_d cB6 27 (.iload_n 3) 1 := by decide +kernel
theorem d6_28 : own_d cB6 28 (.iload 6) 2 := by decide +kernel
theorem d6_30 : own_d cB6 30 (.i2b) 1 := by decide +kernel
theorem d6_31 : own_d cB6 31 (.bastore) 1 := by decide +kernel
theorem d6_32 : own_d cB6 32 (.iinc 1 1) 3 := by decide +kernel
theorem d6_35 : own_d cB6 35 (.iinc 3 1) 3 := by decide +kernel
theorem d6_38 : own_d cB6 38 (.iinc 5 1) 3 := by decide +kernel
theorem d6_41 : own_d cB6 41 (.goto (-38)) 3 := by decide +kernel
theorem d6_44 : own_d cB6 44 (.iload 4) 2 := by decide +kernel
theorem d6_46 : own_d cB6 46 (.ireturn) 1 := by decide +kernel
theorem ef6RIRII (m : MethodId) (x0 : Addr) (x1 : Int32) (x2 : Addr) (x3 : Int32) (x4 : Int32) : entryFrame m #[(.ref x0), (.int x1), (.ref x2), (.int x3), (.int x4)] 7 = mkF m 0 #[r_ x0, i_ x1, r_ x2, i_ x3, i_ x4, u_, u_] [] := by first | (simp [entryFrame, mkF, argsToLocals, Value.category]; done) | rfl
def Q_comp2_2 (Z : State) (a : Addr) (ka : ClassId) (d : Addr) (kd : ClassId) (c0 : Int32) (c1 : Int32) (h0 : Heap) (n0 : Nat) (v_ : Option Value) (h : Heap) (L_ : List Loc) : Prop := v_ = some (.int 2) ∧ Fr n0 L_ ∧ Keep h0 h [d] ∧ Arv Z h d kd .byte (2 : Int32) [(.int (c0.toInt8.toInt32).toInt8.toInt32), (.int (c1.toInt8.toInt32).toInt8.toInt32)] (.int 0)
theorem pn1 : plainName "java/lang/StringUTF16" = true := by first | (simp [plainName, overriddenIn]; done) | decide +kernel
set_option maxRecDepth 65536 in
set_option maxHeartbeats 40000000 in
theorem rm_comp2_2 (l : Launch) (Z : State) (a0 : Array Value) (hw : ∀ d ∈ tables_1, d.before a0 Z = true) (ws : List Jvm.Cond) (a : Addr) (ka : ClassId) (d : Addr) (kd : ClassId) (c0 : Int32) (c1 : Int32) (h0 : Heap) (n0 : Nat) (Z0 : n0 ≤ h0.size) (O : Old Z n0 h0) (Va : Arv Z h0 a ka .char (2 : Int32) [(.int c0), (.int c1)] (.int 0)) (Vd : Arv Z h0 d kd .byte (2 : Int32) [(.int 0), (.int 0)] (.int 0)) (nad : a ≠ d) (gd : n0 ≤ d) (hc0 : ¬ ((255 : Int32) < c0)) (hc1 : ¬ ((255 : Int32) < c1)) :
    own_MF l yM6 (.code yM6 cB6 7 (some .int)) ws ⟨0, 0, 0, 0⟩ #[(.ref a), (.int 0), (.ref d), (.int 0), (.int 2)] Z h0 own_T (Q_comp2_2 Z a ka d kd c0 c1 h0 n0) := by
  refine own_in "java/lang/StringUTF16" rfl (plainFor_of_name pn1) hisR (fun m => ef6RIRII m a (0 : Int32) d (0 : Int32) (2 : Int32)) ?_
  intro p e s m below meth c s₁ A_ hx hby hml hown hnm hrt hlk hZ _ X0 e0 pre0
  have N0 := Fr.nil n0
  have P1 := oS (s₁.setTop (mkF m 7 #[r_ a, i_ 0, r_ d, i_ 0, i_ 2, i_ 0, u_] [(.int 2), (.int 0)])) pre0 (by
    intro _ k_
    refine XS.iconst X0.here hx rfl (hb hby d6_0) ?_
    refine is_ X0 hx hby d6_1 (l' := #[r_ a, i_ 0, r_ d, i_ 0, i_ 2, i_ 0, u_]) rfl ?_
    refine il_ X0 hx hby d6_3 rfl ?_
    refine il_ X0 hx hby d6_5 rfl ?_
    exact k_)
  have P2 := oS (s₁.setTop (mkF m 12 #[r_ a, i_ 0, r_ d, i_ 0, i_ 2, i_ 0, u_] [(.int 0), (.ref a)])) P1 (by
    intro _ k_
    refine XS.icmpNo X0.here hx rfl (hb hby d6_7) rfl (tlt (by decide : (0 : Int32) < (2 : Int32))).2.1 ?_
    refine aN_ X0 hx hby d6_10 rfl rfl ?_
    refine iN_ X0 hx hby d6_11 rfl ?_
    exact k_)
  obtain ⟨cl3, Ar3, q3, S3, M3, H3, G3⟩ := id Va
  have hin3 := inb_of S3 (by decide : ¬ (0 : Int32) < 0 ∧ (0 : Int32) < (2 : Int32))
  have hat3 := Has.at H3 hin3 (v := .int c0) rfl
  have P4 := oS (s₁.setTop (mkF m 13 #[r_ a, i_ 0, r_ d, i_ 0, i_ 2, i_ 0, u_] [(.int c0)])) P2 (by
    intro _ k_
    refine X0.caload hx (j := (0 : Int32)) (v := (.int c0)) (by rw [e0]; exact Ar3.1) (State.isArrayOf_alike hZ.alike Ar3.2.1) Ar3.2.2 hin3 hat3 (g := (mkF m 12 #[r_ a, i_ 0, r_ d, i_ 0, i_ 2, i_ 0, u_] [(.int 0), (.ref a)])) rfl rfl (hb hby d6_12) _ ?_
    exact k_)
  have P5 := oS (s₁.setTop (mkF m 20 #[r_ a, i_ 0, r_ d, i_ 0, i_ 2, i_ 0, i_ c0] [(.int 255), (.int c0)])) P4 (by
    intro _ k_
    refine is_ X0 hx hby d6_13 (l' := #[r_ a, i_ 0, r_ d, i_ 0, i_ 2, i_ 0, i_ c0]) rfl ?_
    refine il_ X0 hx hby d6_15 rfl ?_
    refine XS.sipush X0.here hx rfl (hb hby d6_17) ?_
    exact k_)
  have P6 := oS (s₁.setTop (mkF m 31 #[r_ a, i_ 0, r_ d, i_ 0, i_ 2, i_ 0, i_ c0] [(.int (c0.toInt8.toInt32)), (.int 0), (.ref d)])) P5 (by
    intro _ k_
    refine cY_ X0 hx hby d6_20 (pc := 20) (pc' := 26) (flt hc0).2.2.2 (by decide) ?_
    refine aN_ X0 hx hby d6_26 rfl rfl ?_
    refine iN_ X0 hx hby d6_27 rfl ?_
    refine il_ X0 hx hby d6_28 rfl ?_
    refine XS.i2b X0.here hx rfl (hb hby d6_30) rfl ?_
    exact k_)
  obtain ⟨cl7, Ar7, q7, S7, M7, H7, G7⟩ := id Vd
  obtain ⟨T8, h8, X8, e8, W8, st8⟩ := stB X0 hx hZ e0 Ar7 (j := (0 : Int32)) (inb_of S7 (by decide : ¬ (0 : Int32) < 0 ∧ (0 : Int32) < (2 : Int32))) (g := (mkF m 31 #[r_ a, i_ 0, r_ d, i_ 0, i_ 2, i_ 0, i_ c0] [(.int (c0.toInt8.toInt32)), (.int 0), (.ref d)])) rfl rfl (hb hby d6_31)
  have f10 := Va.other W8 nad
  have f12 := (Keep.refl h0 [d]).wr W8 (Or.inl (List.mem_of_getElem? (i := 0) rfl))
  have V8 : Arv Z h8 d kd .byte (2 : Int32) [(.int (c0.toInt8.toInt32).toInt8.toInt32), (.int 0)] (.int 0) := Arv.set Ar7 q7 S7 M7 H7 G7 (fits_nar_byte _) W8 0 rfl (Nat.le_of_ble_eq_true rfl)
  have N8 := Fr.snoc X8 N0 gd
  have P14 := oS (T8.setTop (mkF m 32 #[r_ a, i_ 0, r_ d, i_ 0, i_ 2, i_ 0, i_ c0] [])) P6 (fun t_ k_ => st8 t_ k_)
  have P15 := oS (T8.setTop (mkF m 7 #[r_ a, i_ 1, r_ d, i_ 1, i_ 2, i_ 1, i_ c0] [(.int 2), (.int 1)])) P14 (by
    intro _ k_
    refine XS.iinc X8.here hx rfl (hb hby d6_32) rfl (l' := #[r_ a, i_ 1, r_ d, i_ 0, i_ 2, i_ 0, i_ c0]) rfl ?_
    show Steps p.tables e below (T8.setTop (mkF m 35 #[r_ a, i_ 1, r_ d, i_ 0, i_ 2, i_ 0, i_ c0] [])) _
    refine XS.iinc X8.here hx rfl (hb hby d6_35) rfl (l' := #[r_ a, i_ 1, r_ d, i_ 1, i_ 2, i_ 0, i_ c0]) rfl ?_
    show Steps p.tables e below (T8.setTop (mkF m 38 #[r_ a, i_ 1, r_ d, i_ 1, i_ 2, i_ 0, i_ c0] [])) _
    refine XS.iinc X8.here hx rfl (hb hby d6_38) rfl (l' := #[r_ a, i_ 1, r_ d, i_ 1, i_ 2, i_ 1, i_ c0]) rfl ?_
    show Steps p.tables e below (T8.setTop (mkF m 41 #[r_ a, i_ 1, r_ d, i_ 1, i_ 2, i_ 1, i_ c0] [])) _
    refine gt_ X8 hx hby d6_41 (pc := 41) (pc' := 3) (by decide) ?_
    refine il_ X8 hx hby d6_3 rfl ?_
    refine il_ X8 hx hby d6_5 rfl ?_
    exact k_)
  have P16 := oS (T8.setTop (mkF m 12 #[r_ a, i_ 1, r_ d, i_ 1, i_ 2, i_ 1, i_ c0] [(.int 1), (.ref a)])) P15 (by
    intro _ k_
    refine XS.icmpNo X8.here hx rfl (hb hby d6_7) rfl (tlt (by decide : (1 : Int32) < (2 : Int32))).2.1 ?_
    refine aN_ X8 hx hby d6_10 rfl rfl ?_
    refine iN_ X8 hx hby d6_11 rfl ?_
    exact k_)
  obtain ⟨cl17, Ar17, q17, S17, M17, H17, G17⟩ := id f10
  have hin17 := inb_of S17 (by decide : ¬ (1 : Int32) < 0 ∧ (1 : Int32) < (2 : Int32))
  have hat17 := Has.at H17 hin17 (v := .int c1) rfl
  have P18 := oS (T8.setTop (mkF m 13 #[r_ a, i_ 1, r_ d, i_ 1, i_ 2, i_ 1, i_ c0] [(.int c1)])) P16 (by
    intro _ k_
    refine X8.caload hx (j := (1 : Int32)) (v := (.int c1)) (by rw [e8]; exact Ar17.1) (State.isArrayOf_alike hZ.alike Ar17.2.1) Ar17.2.2 hin17 hat17 (g := (mkF m 12 #[r_ a, i_ 1, r_ d, i_ 1, i_ 2, i_ 1, i_ c0] [(.int 1), (.ref a)])) rfl rfl (hb hby d6_12) _ ?_
    exact k_)
  have P19 := oS (T8.setTop (mkF m 20 #[r_ a, i_ 1, r_ d, i_ 1, i_ 2, i_ 1, i_ c1] [(.int 255), (.int c1)])) P18 (by
    intro _ k_
    refine is_ X8 hx hby d6_13 (l' := #[r_ a, i_ 1, r_ d, i_ 1, i_ 2, i_ 1, i_ c1]) rfl ?_
    refine il_ X8 hx hby d6_15 rfl ?_
    refine XS.sipush X8.here hx rfl (hb hby d6_17) ?_
    exact k_)
  have P20 := oS (T8.setTop (mkF m 31 #[r_ a, i_ 1, r_ d, i_ 1, i_ 2, i_ 1, i_ c1] [(.int (c1.toInt8.toInt32)), (.int 1), (.ref d)])) P19 (by
    intro _ k_
    refine cY_ X8 hx hby d6_20 (pc := 20) (pc' := 26) (flt hc1).2.2.2 (by decide) ?_
    refine aN_ X8 hx hby d6_26 rfl rfl ?_
    refine iN_ X8 hx hby d6_27 rfl ?_
    refine il_ X8 hx hby d6_28 rfl ?_
    refine XS.i2b X8.here hx rfl (hb hby d6_30) rfl ?_
    exact k_)
  obtain ⟨cl21, Ar21, q21, S21, M21, H21, G21⟩ := id V8
  obtain ⟨T22, h22, X22, e22, W22, st22⟩ := stB X8 hx hZ e8 Ar21 (j := (1 : Int32)) (inb_of S21 (by decide : ¬ (1 : Int32) < 0 ∧ (1 : Int32) < (2 : Int32))) (g := (mkF m 31 #[r_ a, i_ 1, r_ d, i_ 1, i_ 2, i_ 1, i_ c1] [(.int (c1.toInt8.toInt32)), (.int 1), (.ref d)])) rfl rfl (hb hby d6_31)
  have f26 := f12.wr W22 (Or.inl (List.mem_of_getElem? (i := 0) rfl))
  have V22 : Arv Z h22 d kd .byte (2 : Int32) [(.int (c0.toInt8.toInt32).toInt8.toInt32), (.int (c1.toInt8.toInt32).toInt8.toInt32)] (.int 0) := Arv.set Ar21 q21 S21 M21 H21 G21 (fits_nar_byte _) W22 1 rfl (Nat.le_of_ble_eq_true rfl)
  have N22 := Fr.snoc X22 N8 gd
  have P28 := oS (T22.setTop (mkF m 32 #[r_ a, i_ 1, r_ d, i_ 1, i_ 2, i_ 1, i_ c1] [])) P20 (fun t_ k_ => st22 t_ k_)
  have P29 := oS (T22.setTop (mkF m 7 #[r_ a, i_ 2, r_ d, i_ 2, i_ 2, i_ 2, i_ c1] [(.int 2), (.int 2)])) P28 (by
    intro _ k_
    refine XS.iinc X22.here hx rfl (hb hby d6_32) rfl (l' := #[r_ a, i_ 2, r_ d, i_ 1, i_ 2, i_ 1, i_ c1]) rfl ?_
    show Steps p.tables e below (T22.setTop (mkF m 35 #[r_ a, i_ 2, r_ d, i_ 1, i_ 2, i_ 1, i_ c1] [])) _
    refine XS.iinc X22.here hx rfl (hb hby d6_35) rfl (l' := #[r_ a, i_ 2, r_ d, i_ 2, i_ 2, i_ 1, i_ c1]) rfl ?_
    show Steps p.tables e below (T22.setTop (mkF m 38 #[r_ a, i_ 2, r_ d, i_ 2, i_ 2, i_ 1, i_ c1] [])) _
    refine XS.iinc X22.here hx rfl (hb hby d6_38) rfl (l' := #[r_ a, i_ 2, r_ d, i_ 2, i_ 2, i_ 2, i_ c1]) rfl ?_
    show Steps p.tables e below (T22.setTop (mkF m 41 #[r_ a, i_ 2, r_ d, i_ 2, i_ 2, i_ 2, i_ c1] [])) _
    refine gt_ X22 hx hby d6_41 (pc := 41) (pc' := 3) (by decide) ?_
    refine il_ X22 hx hby d6_3 rfl ?_
    refine il_ X22 hx hby d6_5 rfl ?_
    exact k_)
  have P30 := oS (T22.setTop (mkF m 46 #[r_ a, i_ 2, r_ d, i_ 2, i_ 2, i_ 2, i_ c1] [(.int 2)])) P29 (by
    intro _ k_
    refine cY_ X22 hx hby d6_7 (pc := 7) (pc' := 44) (flt (by decide : ¬ ((2 : Int32) < (2 : Int32)))).2.1 (by decide) ?_
    refine il_ X22 hx hby d6_44 rfl ?_
    exact k_)
  exact own_out X22 hlk (v := some (.int 2)) (own_hv hrt) P30 (fun _ q_ => retI X22 hx hrt (hb hby d6_46) q_) e22 ⟨rfl, N22, f26, V22⟩ (by decide)
theorem pd0 : parseMethodDescriptor "([CI[BII)I" = some ⟨[(.array .char), .int, (.array .byte), .int, .int], some .int⟩ := by decide +kernel
abbrev cB5 := jdk_52_method_16_code
abbrev yM5 : MethodName := ⟨"java/lang/StringUTF16", "compress", "([CII)[B"⟩
theorem d5_0 : own_d cB5 0 (.iload_n 2) 1 := by decide +kernel
theorem d5_1 : own_d cB5 1 (.newarray .byte) 2 := by decide +kernel
theorem d5_3 : own_d cB5 3 (.astore_n 3) 1 := by decide +kernel
theorem d5_4 : own_d cB5 4 (.aload_n 0) 1 := by decide +kernel
theorem d5_5 : own_d cB5 5 (.iload_n 1) 1 := by decide +kernel
theorem d5_6 : own_d cB5 6 (.aload_n 3) 1 := by decide +kernel
theorem d5_7 : own_d cB5 7 (.iconst 0) 1 := by decide +kernel
theorem d5_8 : own_d cB5 8 (.iload_n 2) 1 := by decide +kernel
theorem d5_9 : own_d cB5 9 (.invokestatic 115) 3 := by decide +kernel
theorem d5_12 : own_d cB5 12 (.istore 4) 2 := by decide +kernel
theorem d5_14 : own_d cB5 14 (.iload 4) 2 := by decide +kernel
theorem d5_16 : own_d cB5 16 (.iload_n 2) 1 := by decide +kernel
theorem d5_17 : own_d cB5 17 (.if_icmp .eq 40) 3 := by decide +kernel
theorem d5_57 : own_d cB5 57 (.aload_n 3) 1 := by decide +kernel
theorem d5_58 : own_d cB5 58 (.areturn) 1 := by decide +kernel
theorem ef5RII (m : MethodId) (x0 : Addr) (x1 : Int32) (x2 : Int32) : entryFrame m #[(.ref x0), (.int x1), (.int x2)] 6 = mkF m 0 #[r_ x0, i_ x1, i_ x2, u_, u_, u_] [] := by first | (simp [entryFrame, mkF, argsToLocals, Value.category]; done) | rfl
def Q_comp_2 (Z : State) (a : Addr) (ka : ClassId) (c0 : Int32) (c1 : Int32) (h0 : Heap) (n0 : Nat) (v_ : Option Value) (h : Heap) (L_ : List Loc) : Prop := ∃ (x : Addr) (kk : ClassId), v_ = some (.ref x) ∧ Fr n0 L_ ∧ Keep h0 h [] ∧ h0.size ≤ x ∧ Arv Z h x kk .byte (2 : Int32) [(.int (c0.toInt8.toInt32).toInt8.toInt32), (.int (c1.toInt8.toInt32).toInt8.toInt32)] (.int 0) ∧ Exa Z h x "[B"
set_option maxRecDepth 65536 in
set_option maxHeartbeats 40000000 in
theorem rm_comp_2 (l : Launch) (Z : State) (a0 : Array Value) (hw : ∀ d ∈ tables_1, d.before a0 Z = true) (ws : List Jvm.Cond) (a : Addr) (ka : ClassId) (c0 : Int32) (c1 : Int32) (h0 : Heap) (n0 : Nat) (Z0 : n0 ≤ h0.size) (O : Old Z n0 h0) (Va : Arv Z h0 a ka .char (2 : Int32) [(.int c0), (.int c1)] (.int 0)) (hc0 : ¬ ((255 : Int32) < c0)) (hc1 : ¬ ((255 : Int32) < c1)) :
    own_MF l yM5 (.code yM5 cB5 6 (some (.array .byte))) ws ⟨1, 1, 2, 18⟩ #[(.ref a), (.int 0), (.int 2)] Z h0 own_T (Q_comp_2 Z a ka c0 c1 h0 n0) := by
  refine own_in "java/lang/StringUTF16" rfl (plainFor_of_name pn1) hisR (fun m => ef5RII m a (0 : Int32) (2 : Int32)) ?_
  intro p e s m below meth c s₁ A_ hx hby hml hown hnm hrt hlk hZ _ X0 e0 pre0
  have N0 := Fr.nil n0
  have P1 := oS (s₁.setTop (mkF m 1 #[r_ a, i_ 0, i_ 2, u_, u_, u_] [(.int 2)])) pre0 (by
    intro _ k_
    refine iN_ X0 hx hby d5_0 rfl ?_
    exact k_)
  obtain ⟨T2, h2, k2, X2, e2, E2, A2, EA2, st2⟩ := newPE X0 hx hZ (own_w hw 23 rfl) e0 (g := (mkF m 1 #[r_ a, i_ 0, i_ 2, u_, u_, u_] [(.int 2)])) rfl (hb hby d5_1) rfl (by decide) (cap := 2) (by decide) (by decide) (by decide) (by decide) (ad := "[B") (by decide +kernel)
  obtain ⟨b2, g2⟩ : ∃ z, z = h0.size := ⟨_, rfl⟩
  rw [← g2] at A2 EA2 st2
  have ne_a_b2 : a ≠ b2 := Nat.ne_of_lt (Nat.lt_of_lt_of_le Va.lt (Nat.le_of_eq g2.symm))
  have g_b2 : n0 ≤ b2 := Nat.le_trans Z0 (Nat.le_of_eq g2.symm)
  have sz_b2 : h0.size ≤ b2 := Nat.le_trans (Keep.refl h0 []).1 (Nat.le_of_eq g2.symm)
  have f3 := O.ext E2
  have f4 := (Keep.refl h0 []).ext E2
  have f5 := Va.ext E2
  have Z6 : n0 ≤ h2.size := Nat.le_trans Z0 E2.1
  have V2 : Arv Z h2 b2 k2 .byte (2 : Int32) [(.int 0), (.int 0)] (.int 0) := (Arv.new A2 (by decide)).pad (pad_rep [] _ 2)
  have P7 := oS (T2.setTop (mkF m 3 #[r_ a, i_ 0, i_ 2, u_, u_, u_] [(.ref b2)])) P1 (fun t_ k_ => st2 t_ k_)
  have P8 := oS (T2.setTop (mkF m 9 #[r_ a, i_ 0, i_ 2, r_ b2, u_, u_] [(.int 2), (.int 0), (.ref b2), (.int 0), (.ref a)])) P7 (by
    intro _ k_
    refine XS.astoreN X2.here hx rfl (hb hby d5_3) rfl rfl (l' := #[r_ a, i_ 0, i_ 2, r_ b2, u_, u_]) rfl ?_
    refine aN_ X2 hx hby d5_4 rfl rfl ?_
    refine iN_ X2 hx hby d5_5 rfl ?_
    refine aN_ X2 hx hby d5_6 rfl rfl ?_
    refine XS.iconst X2.here hx rfl (hb hby d5_7) ?_
    refine iN_ X2 hx hby d5_8 rfl ?_
    exact k_)
  obtain ⟨_, T9, L9, X9, hQ9, P9c⟩ := own_cS (W := 0) (rm_comp2_2 l Z a0 hw [] a ka b2 k2 c0 c1 h2 n0 Z6 f3 f5 V2 ne_a_b2 g_b2 hc0 hc1) X2 hx hZ (fun _ _ => trivial) hown (own_w hw 24 rfl) (own_w hw 25 rfl) (own_w hw 21 rfl) (own_w hw 26 rfl) (by decide) P8 hml rfl [(.ref a), (.int 0), (.ref b2), (.int 0), (.int 2)] [] rfl rfl rfl pd0 rfl (hb hby d5_9) e2 (by decide)
  obtain ⟨rfl, N9q, K9, f10⟩ := hQ9
  have N9 := Fr.app N0 N9q
  have f12 := f4.trans K9 (allS (Or.inr sz_b2) all0)
  have f15 := EA2.keep K9
  have P17 := own_to (C := T9.setTop (mkF m 12 #[r_ a, i_ 0, i_ 2, r_ b2, u_, u_] [(.int 2)])) P9c
  have P18 := oS (T9.setTop (mkF m 17 #[r_ a, i_ 0, i_ 2, r_ b2, i_ 2, u_] [(.int 2), (.int 2)])) P17 (by
    intro _ k_
    refine is_ X9 hx hby d5_12 (l' := #[r_ a, i_ 0, i_ 2, r_ b2, i_ 2, u_]) rfl ?_
    refine il_ X9 hx hby d5_14 rfl ?_
    refine iN_ X9 hx hby d5_16 rfl ?_
    exact k_)
  have P19 := oS (T9.setTop (mkF m 58 #[r_ a, i_ 0, i_ 2, r_ b2, i_ 2, u_] [(.ref b2)])) P18 (by
    intro _ k_
    refine cY_ X9 hx hby d5_17 (pc := 17) (pc' := 57) (teq (by decide : (2 : Int32) = (2 : Int32))).1 (by decide) ?_
    refine aN_ X9 hx hby d5_57 rfl rfl ?_
    exact k_)
  exact own_out X9 hlk (v := some (.ref b2)) (own_hv hrt) P19 (fun _ q_ => retOut X9 hx hrt rfl (Or.inr (Or.inr (Or.inr (Or.inr ⟨rfl, rfl, rfl⟩)))) (hb hby d5_58) q_) (rfl : T9.heap = _) ⟨b2, k2, rfl, N9, f12, sz_b2, f10, f15⟩ (by decide)
abbrev cB7 := jdk_52_method_15_code
abbrev yM7 : MethodName := ⟨"java/lang/StringUTF16", "coderFromArrayLen", "([BI)B"⟩
theorem d7_0 : own_d cB7 0 (.iload_n 1) 1 := by decide +kernel
theorem d7_1 : own_d cB7 1 (.aload_n 0) 1 := by decide +kernel
theorem d7_2 : own_d cB7 2 (.arraylength) 1 := by decide +kernel
theorem d7_3 : own_d cB7 3 (.isub) 1 := by decide +kernel
theorem d7_4 : own_d cB7 4 (.bipush 31) 2 := by decide +kernel
theorem d7_6 : own_d cB7 6 (.iushr) 1 := by decide +kernel
theorem d7_7 : own_d cB7 7 (.i2b) 1 := by decide +kernel
theorem d7_8 : own_d cB7 8 (.ireturn) 1 := by decide +kernel
theorem ef7RI (m : MethodId) (x0 : Addr) (x1 : Int32) : entryFrame m #[(.ref x0), (.int x1)] 2 = mkF m 0 #[r_ x0, i_ x1] [] := by first | (simp [entryFrame, mkF, argsToLocals, Value.category]; done) | rfl
def Q_cfa (Z : State) (b : Addr) (k : ClassId) (zz : Int32) (vs : List Value) (nq : Int32) (rq : Int32) (h0 : Heap) (n0 : Nat) (v_ : Option Value) (h : Heap) (L_ : List Loc) : Prop := v_ = some (.int rq) ∧ Fr n0 L_ ∧ h = h0
set_option maxRecDepth 65536 in
set_option maxHeartbeats 40000000 in
theorem rm_cfa (l : Launch) (Z : State) (a0 : Array Value) (hw : ∀ d ∈ tables_1, d.before a0 Z = true) (ws : List Jvm.Cond) (b : Addr) (k : ClassId) (zz : Int32) (vs : List Value) (nq : Int32) (rq : Int32) (h0 : Heap) (n0 : Nat) (Z0 : n0 ≤ h0.size) (Vb : Arv Z h0 b k .byte zz vs (.int 0)) (hrq : nar .byte (((nq - zz).toUInt32 >>> ((31 : Int32) &&& 31).toUInt32).toInt32).toInt8.toInt32 = rq) :
    own_MF l yM7 (.code yM7 cB7 2 (some .byte)) ws ⟨0, 0, 0, 0⟩ #[(.ref b), (.int nq)] Z h0 own_T (Q_cfa Z b k zz vs nq rq h0 n0) := by
  refine own_in "java/lang/StringUTF16" rfl (plainFor_of_name pn1) hisR (fun m => ef7RI m b nq) ?_
  intro p e s m below meth c s₁ A_ hx hby hml hown hnm hrt hlk hZ _ X0 e0 pre0
  have N0 := Fr.nil n0
  have P1 := oS (s₁.setTop (mkF m 2 #[r_ b, i_ nq] [(.ref b), (.int nq)])) pre0 (by
    intro _ k_
    refine iN_ X0 hx hby d7_0 rfl ?_
    refine aN_ X0 hx hby d7_1 rfl rfl ?_
    exact k_)
  obtain ⟨cl2, Ar2, q2, S2, M2, H2, G2⟩ := id Vb
  have P3 := oS (s₁.setTop (mkF m 3 #[r_ b, i_ nq] [(.int zz), (.int nq)])) P1 (by
    intro _ k_
    refine X0.arraylength hx (by rw [e0]; exact Ar2.1) (State.isArrayOf_alike hZ.alike Ar2.2.1) (g := (mkF m 2 #[r_ b, i_ nq] [(.ref b), (.int nq)])) rfl rfl (hb hby d7_2) _ ?_
    rw [len_of S2 M2]
    exact k_)
  have P4 := oS (s₁.setTop (mkF m 8 #[r_ b, i_ nq] [(.int ((((nq - zz).toUInt32 >>> ((31 : Int32) &&& 31).toUInt32).toInt32).toInt8.toInt32))])) P3 (by
    intro _ k_
    refine XS.isub X0.here hx rfl (hb hby d7_3) rfl ?_
    refine XS.bipush X0.here hx rfl (hb hby d7_4) ?_
    refine XS.iushr X0.here hx rfl (hb hby d7_6) rfl ?_
    refine XS.i2b X0.here hx rfl (hb hby d7_7) rfl ?_
    exact k_)
  exact own_out X0 hlk (v := some (.int (nar .byte ((((nq - zz).toUInt32 >>> ((31 : Int32) &&& 31).toUInt32).toInt32).toInt8.toInt32)))) (own_hv hrt) P4 (fun _ q_ => retN X0 hx (t := .byte) hrt (by simp) (hb hby d7_8) q_) e0 ⟨by rw [hrq], N0, rfl⟩ (by decide)
theorem pd1 : parseMethodDescriptor "([CII)[B" = some ⟨[(.array .char), .int, .int], some (.array .byte)⟩ := by decide +kernel
theorem pd2 : parseMethodDescriptor "([BI)B" = some ⟨[(.array .byte), .int], some .byte⟩ := by decide +kernel
abbrev cB3 := jdk_42_method_149_code
abbrev yM3 : MethodName := ⟨"java/lang/String", "<init>", "([CIILjava/lang/Void;)V"⟩
theorem d3_0 : own_d cB3 0 (.aload_n 0) 1 := by decide +kernel
theorem d3_1 : own_d cB3 1 (.invokespecial 1) 3 := by decide +kernel
theorem d3_4 : own_d cB3 4 (.iload_n 3) 1 := by decide +kernel
theorem d3_5 : own_d cB3 5 (.ifCond .ne 22) 3 := by decide +kernel
theorem d3_27 : own_d cB3 27 (.getstatic 38) 3 := by decide +kernel
theorem d3_30 : own_d cB3 30 (.ifCond .eq 28) 3 := by decide +kernel
theorem d3_33 : own_d cB3 33 (.aload_n 1) 1 := by decide +kernel
theorem d3_34 : own_d cB3 34 (.iload_n 2) 1 := by decide +kernel
theorem d3_35 : own_d cB3 35 (.iload_n 3) 1 := by decide +kernel
theorem d3_36 : own_d cB3 36 (.invokestatic 177) 3 := by decide +kernel
theorem d3_39 : own_d cB3 39 (.astore 5) 2 := by decide +kernel
theorem d3_41 : own_d cB3 41 (.aload_n 0) 1 := by decide +kernel
theorem d3_42 : own_d cB3 42 (.aload 5) 2 := by decide +kernel
theorem d3_44 : own_d cB3 44 (.iload_n 3) 1 := by decide +kernel
theorem d3_45 : own_d cB3 45 (.invokestatic 47) 3 := by decide +kernel
theorem d3_48 : own_d cB3 48 (.putfield 15) 3 := by decide +kernel
theorem d3_51 : own_d cB3 51 (.aload_n 0) 1 := by decide +kernel
theorem d3_52 : own_d cB3 52 (.aload 5) 2 := by decide +kernel
theorem d3_54 : own_d cB3 54 (.putfield 9) 3 := by decide +kernel
theorem d3_57 : own_d cB3 57 (.return_) 1 := by decide +kernel
theorem ef3RRIIn (m : MethodId) (x0 : Addr) (x1 : Addr) (x2 : Int32) (x3 : Int32) : entryFrame m #[(.ref x0), (.ref x1), (.int x2), (.int x3), .null] 6 = mkF m 0 #[r_ x0, r_ x1, i_ x2, i_ x3, .val .null, u_] [] := by first | (simp [entryFrame, mkF, argsToLocals, Value.category]; done) | rfl
def Q_initV_2 (Z : State) (a : Addr) (ca : Addr) (ka : ClassId) (c0 : Int32) (c1 : Int32) (cs : Int32) (h0 : Heap) (n0 : Nat) (v_ : Option Value) (h : Heap) (L_ : List Loc) : Prop := ∃ (x : Addr) (kk : ClassId), v_ = none ∧ Fr n0 L_ ∧ Keep h0 h [a] ∧ Exa Z h a "java/lang/String" ∧ Fld Z h a "java/lang/String" "coder" "B" (.int 0) ∧ Fld Z h a "java/lang/String" "value" "[B" (.ref x) ∧ Arv Z h x kk .byte (2 : Int32) [(.int (c0.toInt8.toInt32).toInt8.toInt32), (.int (c1.toInt8.toInt32).toInt8.toInt32)] (.int 0) ∧ h0.size ≤ x ∧ Exa Z h x "[B"
theorem pn2 : plainName "java/lang/String" = true := by first | (simp [plainName, overriddenIn]; done) | decide +kernel
set_option maxRecDepth 65536 in
set_option maxHeartbeats 40000000 in
theorem rm_initV_2 (l : Launch) (Z : State) (a0 : Array Value) (hw : ∀ d ∈ tables_1, d.before a0 Z = true) (ws : List Jvm.Cond) (a : Addr) (ca : Addr) (ka : ClassId) (c0 : Int32) (c1 : Int32) (cs : Int32) (h0 : Heap) (n0 : Nat) (Z0 : n0 ≤ h0.size) (O : Old Z n0 h0) (Scs : Sta Z Z.heap "java/lang/String" "COMPACT_STRINGS" "Z" (.int cs)) (hcs : ¬ (cs = (0 : Int32))) (Ea : Exa Z h0 a "java/lang/String") (Fv : Fld Z h0 a "java/lang/String" "value" "[B" .null) (Fc : Fld Z h0 a "java/lang/String" "coder" "B" (.int 0)) (ga : n0 ≤ a) (Vs : Arv Z h0 ca ka .char (2 : Int32) [(.int c0), (.int c1)] (.int 0)) (hc0 : ¬ ((255 : Int32) < c0)) (hc1 : ¬ ((255 : Int32) < c1)) :
    own_MF l yM3 (.code yM3 cB3 6 none) ws ⟨2, 1, 2, 35⟩ #[(.ref a), (.ref ca), (.int 0), (.int 2), .null] Z h0 own_T (Q_initV_2 Z a ca ka c0 c1 cs h0 n0) := by
  refine own_in "java/lang/String" rfl (plainFor_of_name pn2) hisR (fun m => ef3RRIIn m a ca (0 : Int32) (2 : Int32)) ?_
  intro p e s m below meth c s₁ A_ hx hby hml hown hnm hrt hlk hZ _ X0 e0 pre0
  have N0 := Fr.nil n0
  obtain ⟨clV, ArV, -⟩ := id Vs
  have P1 := oS (s₁.setTop (mkF m 1 #[r_ a, r_ ca, i_ 0, i_ 2, .val .null, u_] [(.ref a)])) pre0 (by
    intro _ k_
    refine aN_ X0 hx hby d3_0 rfl rfl ?_
    exact k_)
  obtain ⟨T2, X2, e2, st2⟩ := initO X0 hx hZ hown (own_w hw 15 rfl) (own_w hw 16 rfl) (own_w hw 17 rfl) e0 (g := (mkF m 1 #[r_ a, r_ ca, i_ 0, i_ 2, .val .null, u_] [(.ref a)])) rfl (by rw [hml]; rfl) rfl (hb hby d3_1) (by decide) (W := 0) (by show 2 * 0 + _ ≤ _; exact Nat.le_of_eq rfl) (by decide)
  have P3 := oS (T2.setTop (mkF m 4 #[r_ a, r_ ca, i_ 0, i_ 2, .val .null, u_] [])) P1 (fun t_ k_ => st2 t_ k_)
  have P4 := oS (T2.setTop (mkF m 5 #[r_ a, r_ ca, i_ 0, i_ 2, .val .null, u_] [(.int 2)])) P3 (by
    intro _ k_
    refine iN_ X2 hx hby d3_4 rfl ?_
    exact k_)
  have P5 := oS (T2.setTop (mkF m 27 #[r_ a, r_ ca, i_ 0, i_ 2, .val .null, u_] [])) P4 (by
    intro _ k_
    refine fY_ X2 hx hby d3_5 (pc := 5) (pc' := 27) ((if0 _ _).trans (feq (by decide : ¬ ((2 : Int32) = (0 : Int32)))).2) (by decide) ?_
    exact k_)
  obtain ⟨T6, X6, e6, st6⟩ := getS2 X2 hx hZ hown (host := "") (Or.inl (own_w hw 18 rfl)) Via.refl e2 (Scs.ext O.2) (g := (mkF m 27 #[r_ a, r_ ca, i_ 0, i_ 2, .val .null, u_] [])) rfl (hb hby d3_27)
  have P7 := oS (T6.setTop (mkF m 30 #[r_ a, r_ ca, i_ 0, i_ 2, .val .null, u_] [(.int cs)])) P5 (fun t_ k_ => st6 t_ k_)
  have P8 := oS (T6.setTop (mkF m 36 #[r_ a, r_ ca, i_ 0, i_ 2, .val .null, u_] [(.int 2), (.int 0), (.ref ca)])) P7 (by
    intro _ k_
    refine XS.ifNo X6.here hx rfl (hb hby d3_30) rfl ((if0 _ _).trans (feq hcs).1) ?_
    refine aN_ X6 hx hby d3_33 rfl rfl ?_
    refine iN_ X6 hx hby d3_34 rfl ?_
    refine iN_ X6 hx hby d3_35 rfl ?_
    exact k_)
  obtain ⟨_, T9, L9, X9, hQ9, P9c⟩ := own_cS (W := 0) (rm_comp_2 l Z a0 hw [] ca ka c0 c1 h0 n0 Z0 O Vs hc0 hc1) X6 hx hZ (fun _ _ => trivial) hown (own_w hw 19 rfl) (own_w hw 20 rfl) (own_w hw 21 rfl) (own_w hw 22 rfl) (by decide) P8 hml rfl [(.ref ca), (.int 0), (.int 2)] [] rfl rfl rfl pd1 rfl (hb hby d3_36) e6 (by decide)
  obtain ⟨x9, kk9, rfl, N9q, K9, f10, f11, f12⟩ := hQ9
  have N9 := Fr.app N0 N9q
  have ne_a_x9 : a ≠ x9 := Nat.ne_of_lt (Nat.lt_of_lt_of_le Ea.lt f10)
  have sz_x9 : h0.size ≤ x9 := Nat.le_trans (Keep.refl h0 [a]).1 f10
  have f14 := Ea.keep K9
  have f15 := Fc.keep K9 nin0
  have f16 := Fv.keep K9 nin0
  have f17 := (Keep.refl h0 [a]).trans K9 all0
  have Z19 : n0 ≤ T9.heap.size := Nat.le_trans Z0 K9.1
  have P20 := own_to (C := T9.setTop (mkF m 39 #[r_ a, r_ ca, i_ 0, i_ 2, .val .null, u_] [(.ref x9)])) P9c
  have P21 := oS (T9.setTop (mkF m 45 #[r_ a, r_ ca, i_ 0, i_ 2, .val .null, r_ x9] [(.int 2), (.ref x9), (.ref a)])) P20 (by
    intro _ k_
    refine XS.astore X9.here hx rfl (hb hby d3_39) rfl rfl (l' := #[r_ a, r_ ca, i_ 0, i_ 2, .val .null, r_ x9]) rfl ?_
    refine aN_ X9 hx hby d3_41 rfl rfl ?_
    refine a_ X9 hx hby d3_42 rfl rfl ?_
    refine iN_ X9 hx hby d3_44 rfl ?_
    exact k_)
  obtain ⟨_, T22, L22, X22, hQ22, P22c⟩ := own_cS (W := 1) (rm_cfa l Z a0 hw [] x9 kk9 (2 : Int32) _ (2 : Int32) (0 : Int32) T9.heap n0 Z19 f11 (by decide +kernel)) X9 hx hZ (fun _ _ => trivial) hown (own_w hw 27 rfl) (own_w hw 28 rfl) (own_w hw 21 rfl) (own_w hw 29 rfl) (by decide) P21 hml rfl [(.ref x9), (.int 2)] [(.ref a)] rfl rfl rfl pd2 rfl (hb hby d3_45) (rfl : T9.heap = _) (by decide)
  obtain ⟨rfl, N22q, e22⟩ := hQ22
  have N22 := Fr.app N9 N22q
  have P23 := own_to (C := T22.setTop (mkF m 48 #[r_ a, r_ ca, i_ 0, i_ 2, .val .null, r_ x9] [(.int 0), (.ref a)])) P22c
  obtain ⟨T24, h24, X24, e24, W24, st24⟩ := putFN X22 hx hZ hown (own_w hw 30 rfl) Via.refl e22 f15 f14 (Or.inr ⟨(own_w hw 31 rfl), rfl, hnm⟩) (own_w hw 6 rfl) (ty := .byte) (v' := (.int (0 : Int32).toInt8.toInt32)) (by decide) rfl (fits_nar_byte _) (g := (mkF m 48 #[r_ a, r_ ca, i_ 0, i_ 2, .val .null, r_ x9] [(.int 0), (.ref a)])) rfl rfl (hb hby d3_48)
  have f26 := f14.wr W24
  have f27 := f15.same W24
  have f28 := f16.other W24 (Or.inr (slot_ne (Or.inr (own_w hw 33 rfl)) (Or.inr (own_w hw 31 rfl)) (by decide) (t := (.array .byte)) (t' := .byte) (by decide) (by decide)))
  have f29 := f17.wr W24 (Or.inl (List.mem_of_getElem? (i := 0) rfl))
  have f31 := f11.other W24 (Ne.symm ne_a_x9)
  have f32 := f12.wr W24
  have N24 := Fr.snoc X24 N22 ga
  have P34 := oS (T24.setTop (mkF m 51 #[r_ a, r_ ca, i_ 0, i_ 2, .val .null, r_ x9] [])) P23 (fun t_ k_ => st24 t_ k_)
  have P35 := oS (T24.setTop (mkF m 54 #[r_ a, r_ ca, i_ 0, i_ 2, .val .null, r_ x9] [(.ref x9), (.ref a)])) P34 (by
    intro _ k_
    refine aN_ X24 hx hby d3_51 rfl rfl ?_
    refine a_ X24 hx hby d3_52 rfl rfl ?_
    exact k_)
  obtain ⟨T36, h36, X36, e36, W36, st36⟩ := putF X24 hx hZ hown (host := "") (Or.inl (own_w hw 32 rfl)) Via.refl e24 f28 f26 (Or.inr ⟨(own_w hw 33 rfl), rfl, hnm⟩) (own_w hw 6 rfl) (ty := (.array .byte)) (by decide) rfl rfl (g := (mkF m 54 #[r_ a, r_ ca, i_ 0, i_ 2, .val .null, r_ x9] [(.ref x9), (.ref a)])) rfl rfl (hb hby d3_54)
  have f38 := f26.wr W36
  have f39 := f27.other W36 (Or.inr (slot_ne (Or.inr (own_w hw 31 rfl)) (Or.inr (own_w hw 33 rfl)) (by decide) (t := .byte) (t' := (.array .byte)) (by decide) (by decide)))
  have f40 := f28.same W36
  have f41 := f29.wr W36 (Or.inl (List.mem_of_getElem? (i := 0) rfl))
  have f43 := f31.other W36 (Ne.symm ne_a_x9)
  have f44 := f32.wr W36
  have N36 := Fr.snoc X36 N24 ga
  have P46 := oS (T36.setTop (mkF m 57 #[r_ a, r_ ca, i_ 0, i_ 2, .val .null, r_ x9] [])) P35 (fun t_ k_ => st36 t_ k_)
  exact own_out X36 hlk (v := none) (fun _ => rfl) P46 (fun _ q_ => X36.returnOut hx hrt (hb hby d3_57) q_) e36 ⟨x9, kk9, rfl, N36, f41, f38, f39, f40, f43, sz_x9, f44⟩ (by decide)
theorem pd3 : parseMethodDescriptor "([CIILjava/lang/Void;)V" = some ⟨[(.array .char), .int, .int, (.object "java/lang/Void")], none⟩ := by decide +kernel
abbrev cB2 := jdk_42_method_3_code
abbrev yM2 : MethodName := ⟨"java/lang/String", "<init>", "([C)V"⟩
theorem d2_0 : own_d cB2 0 (.aload_n 0) 1 := by decide +kernel
theorem d2_1 : own_d cB2 1 (.aload_n 1) 1 := by decide +kernel
theorem d2_2 : own_d cB2 2 (.iconst 0) 1 := by decide +kernel
theorem d2_3 : own_d cB2 3 (.aload_n 1) 1 := by decide +kernel
theorem d2_4 : own_d cB2 4 (.arraylength) 1 := by decide +kernel
theorem d2_5 : own_d cB2 5 (.aconst_null) 1 := by decide +kernel
theorem d2_6 : own_d cB2 6 (.invokespecial 27) 3 := by decide +kernel
theorem d2_9 : own_d cB2 9 (.return_) 1 := by decide +kernel
theorem ef2RR (m : MethodId) (x0 : Addr) (x1 : Addr) : entryFrame m #[(.ref x0), (.ref x1)] 2 = mkF m 0 #[r_ x0, r_ x1] [] := by first | (simp [entryFrame, mkF, argsToLocals, Value.category]; done) | rfl
def Q_initC_2 (Z : State) (a : Addr) (ca : Addr) (ka : ClassId) (c0 : Int32) (c1 : Int32) (cs : Int32) (h0 : Heap) (n0 : Nat) (v_ : Option Value) (h : Heap) (L_ : List Loc) : Prop := ∃ (x : Addr) (kk : ClassId), v_ = none ∧ Fr n0 L_ ∧ Keep h0 h [a] ∧ Exa Z h a "java/lang/String" ∧ Fld Z h a "java/lang/String" "coder" "B" (.int 0) ∧ Fld Z h a "java/lang/String" "value" "[B" (.ref x) ∧ Arv Z h x kk .byte (2 : Int32) [(.int (c0.toInt8.toInt32).toInt8.toInt32), (.int (c1.toInt8.toInt32).toInt8.toInt32)] (.int 0) ∧ h0.size ≤ x ∧ Exa Z h x "[B"
set_option maxRecDepth 65536 in
set_option maxHeartbeats 40000000 in
theorem rm_initC_2 (l : Launch) (Z : State) (a0 : Array Value) (hw : ∀ d ∈ tables_1, d.before a0 Z = true) (ws : List Jvm.Cond) (a : Addr) (ca : Addr) (ka : ClassId) (c0 : Int32) (c1 : Int32) (cs : Int32) (h0 : Heap) (n0 : Nat) (Z0 : n0 ≤ h0.size) (O : Old Z n0 h0) (Scs : Sta Z Z.heap "java/lang/String" "COMPACT_STRINGS" "Z" (.int cs)) (hcs : ¬ (cs = (0 : Int32))) (Ea : Exa Z h0 a "java/lang/String") (Fv : Fld Z h0 a "java/lang/String" "value" "[B" .null) (Fc : Fld Z h0 a "java/lang/String" "coder" "B" (.int 0)) (ga : n0 ≤ a) (Vs : Arv Z h0 ca ka .char (2 : Int32) [(.int c0), (.int c1)] (.int 0)) (hc0 : ¬ ((255 : Int32) < c0)) (hc1 : ¬ ((255 : Int32) < c1)) :
    own_MF l yM2 (.code yM2 cB2 2 none) ws ⟨3, 1, 2, 52⟩ #[(.ref a), (.ref ca)] Z h0 own_T (Q_initC_2 Z a ca ka c0 c1 cs h0 n0) := by
  refine own_in "java/lang/String" rfl (plainFor_of_name pn2) hisR (fun m => ef2RR m a ca) ?_
  intro p e s m below meth c s₁ A_ hx hby hml hown hnm hrt hlk hZ _ X0 e0 pre0
  have N0 := Fr.nil n0
  obtain ⟨clV, ArV, -⟩ := id Vs
  have P1 := oS (s₁.setTop (mkF m 4 #[r_ a, r_ ca] [(.ref ca), (.int 0), (.ref ca), (.ref a)])) pre0 (by
    intro _ k_
    refine aN_ X0 hx hby d2_0 rfl rfl ?_
    refine aN_ X0 hx hby d2_1 rfl rfl ?_
    refine XS.iconst X0.here hx rfl (hb hby d2_2) ?_
    refine aN_ X0 hx hby d2_3 rfl rfl ?_
    exact k_)
  obtain ⟨cl2, Ar2, q2, S2, M2, H2, G2⟩ := id Vs
  have P3 := oS (s₁.setTop (mkF m 5 #[r_ a, r_ ca] [(.int 2), (.int 0), (.ref ca), (.ref a)])) P1 (by
    intro _ k_
    refine X0.arraylength hx (by rw [e0]; exact Ar2.1) (State.isArrayOf_alike hZ.alike Ar2.2.1) (g := (mkF m 4 #[r_ a, r_ ca] [(.ref ca), (.int 0), (.ref ca), (.ref a)])) rfl rfl (hb hby d2_4) _ ?_
    rw [len_of S2 M2]
    exact k_)
  have P4 := oS (s₁.setTop (mkF m 6 #[r_ a, r_ ca] [.null, (.int 2), (.int 0), (.ref ca), (.ref a)])) P3 (by
    intro _ k_
    refine XS.aconstNull X0.here hx rfl (hb hby d2_5) ?_
    exact k_)
  obtain ⟨_, T5, L5, X5, hQ5, P5c⟩ := own_cI (W := 0) (rm_initV_2 l Z a0 hw [] a ca ka c0 c1 cs h0 n0 Z0 O Scs hcs Ea Fv Fc ga Vs hc0 hc1) X0 hx hZ (fun _ _ => trivial) hown rfl (own_w hw 11 rfl) (own_w hw 12 rfl) (own_w hw 7 rfl) (own_w hw 14 rfl) (by decide) P4 hml rfl [(.ref ca), (.int 0), (.int 2), .null] [] rfl rfl rfl pd3 rfl (hb hby d2_6) e0 (by decide)
  obtain ⟨x5, kk5, rfl, N5q, K5, f6, f7, f8, f9, f10, f11⟩ := hQ5
  have N5 := Fr.app N0 N5q
  have f16 := (Keep.refl h0 [a]).trans K5 (allS (Or.inl (List.mem_of_getElem? (i := 0) rfl)) all0)
  have P19 := own_to (C := T5.setTop (mkF m 9 #[r_ a, r_ ca] [])) P5c
  exact own_out X5 hlk (v := none) (fun _ => rfl) P19 (fun _ q_ => X5.returnOut hx hrt (hb hby d2_9) q_) (rfl : T5.heap = _) ⟨x5, kk5, rfl, N5, f16, f6, f7, f8, f9, f10, f11⟩ (by decide)
def Q_comp2_3 (Z : State) (a : Addr) (ka : ClassId) (d : Addr) (kd : ClassId) (c0 : Int32) (c1 : Int32) (c2 : Int32) (h0 : Heap) (n0 : Nat) (v_ : Option Value) (h : Heap) (L_ : List Loc) : Prop := v_ = some (.int 3) ∧ Fr n0 L_ ∧ Keep h0 h [d] ∧ Arv Z h d kd .byte (3 : Int32) [(.int (c0.toInt8.toInt32).toInt8.toInt32), (.int (c1.toInt8.toInt32).toInt8.toInt32), (.int (c2.toInt8.toInt32).toInt8.toInt32)] (.int 0)
set_option maxRecDepth 65536 in
set_option maxHeartbeats 40000000 in
theorem rm_comp2_3 (l : Launch) (Z : State) (a0 : Array Value) (hw : ∀ d ∈ tables_1, d.before a0 Z = true) (ws : List Jvm.Cond) (a : Addr) (ka : ClassId) (d : Addr) (kd : ClassId) (c0 : Int32) (c1 : Int32) (c2 : Int32) (h0 : Heap) (n0 : Nat) (Z0 : n0 ≤ h0.size) (O : Old Z n0 h0) (Va : Arv Z h0 a ka .char (3 : Int32) [(.int c0), (.int c1), (.int c2)] (.int 0)) (Vd : Arv Z h0 d kd .byte (3 : Int32) [(.int 0), (.int 0), (.int 0)] (.int 0)) (nad : a ≠ d) (gd : n0 ≤ d) (hc0 : ¬ ((255 : Int32) < c0)) (hc1 : ¬ ((255 : Int32) < c1)) (hc2 : ¬ ((255 : Int32) < c2)) :
    own_MF l yM6 (.code yM6 cB6 7 (some .int)) ws ⟨0, 0, 0, 0⟩ #[(.ref a), (.int 0), (.ref d), (.int 0), (.int 3)] Z h0 own_T (Q_comp2_3 Z a ka d kd c0 c1 c2 h0 n0) := by
  refine own_in "java/lang/StringUTF16" rfl (plainFor_of_name pn1) hisR (fun m => ef6RIRII m a (0 : Int32) d (0 : Int32) (3 : Int32)) ?_
  intro p e s m below meth c s₁ A_ hx hby hml hown hnm hrt hlk hZ _ X0 e0 pre0
  have N0 := Fr.nil n0
  have P1 := oS (s₁.setTop (mkF m 7 #[r_ a, i_ 0, r_ d, i_ 0, i_ 3, i_ 0, u_] [(.int 3), (.int 0)])) pre0 (by
    intro _ k_
    refine XS.iconst X0.here hx rfl (hb hby d6_0) ?_
    refine is_ X0 hx hby d6_1 (l' := #[r_ a, i_ 0, r_ d, i_ 0, i_ 3, i_ 0, u_]) rfl ?_
    refine il_ X0 hx hby d6_3 rfl ?_
    refine il_ X0 hx hby d6_5 rfl ?_
    exact k_)
  have P2 := oS (s₁.setTop (mkF m 12 #[r_ a, i_ 0, r_ d, i_ 0, i_ 3, i_ 0, u_] [(.int 0), (.ref a)])) P1 (by
    intro _ k_
    refine XS.icmpNo X0.here hx rfl (hb hby d6_7) rfl (tlt (by decide : (0 : Int32) < (3 : Int32))).2.1 ?_
    refine aN_ X0 hx hby d6_10 rfl rfl ?_
    refine iN_ X0 hx hby d6_11 rfl ?_
    exact k_)
  obtain ⟨cl3, Ar3, q3, S3, M3, H3, G3⟩ := id Va
  have hin3 := inb_of S3 (by decide : ¬ (0 : Int32) < 0 ∧ (0 : Int32) < (3 : Int32))
  have hat3 := Has.at H3 hin3 (v := .int c0) rfl
  have P4 := oS (s₁.setTop (mkF m 13 #[r_ a, i_ 0, r_ d, i_ 0, i_ 3, i_ 0, u_] [(.int c0)])) P2 (by
    intro _ k_
    refine X0.caload hx (j := (0 : Int32)) (v := (.int c0)) (by rw [e0]; exact Ar3.1) (State.isArrayOf_alike hZ.alike Ar3.2.1) Ar3.2.2 hin3 hat3 (g := (mkF m 12 #[r_ a, i_ 0, r_ d, i_ 0, i_ 3, i_ 0, u_] [(.int 0), (.ref a)])) rfl rfl (hb hby d6_12) _ ?_
    exact k_)
  have P5 := oS (s₁.setTop (mkF m 20 #[r_ a, i_ 0, r_ d, i_ 0, i_ 3, i_ 0, i_ c0] [(.int 255), (.int c0)])) P4 (by
    intro _ k_
    refine is_ X0 hx hby d6_13 (l' := #[r_ a, i_ 0, r_ d, i_ 0, i_ 3, i_ 0, i_ c0]) rfl ?_
    refine il_ X0 hx hby d6_15 rfl ?_
    refine XS.sipush X0.here hx rfl (hb hby d6_17) ?_
    exact k_)
  have P6 := oS (s₁.setTop (mkF m 31 #[r_ a, i_ 0, r_ d, i_ 0, i_ 3, i_ 0, i_ c0] [(.int (c0.toInt8.toInt32)), (.int 0), (.ref d)])) P5 (by
    intro _ k_
    refine cY_ X0 hx hby d6_20 (pc := 20) (pc' := 26) (flt hc0).2.2.2 (by decide) ?_
    refine aN_ X0 hx hby d6_26 rfl rfl ?_
    refine iN_ X0 hx hby d6_27 rfl ?_
    refine il_ X0 hx hby d6_28 rfl ?_
    refine XS.i2b X0.here hx rfl (hb hby d6_30) rfl ?_
    exact k_)
  obtain ⟨cl7, Ar7, q7, S7, M7, H7, G7⟩ := id Vd
  obtain ⟨T8, h8, X8, e8, W8, st8⟩ := stB X0 hx hZ e0 Ar7 (j := (0 : Int32)) (inb_of S7 (by decide : ¬ (0 : Int32) < 0 ∧ (0 : Int32) < (3 : Int32))) (g := (mkF m 31 #[r_ a, i_ 0, r_ d, i_ 0, i_ 3, i_ 0, i_ c0] [(.int (c0.toInt8.toInt32)), (.int 0), (.ref d)])) rfl rfl (hb hby d6_31)
  have f10 := Va.other W8 nad
  have f12 := (Keep.refl h0 [d]).wr W8 (Or.inl (List.mem_of_getElem? (i := 0) rfl))
  have V8 : Arv Z h8 d kd .byte (3 : Int32) [(.int (c0.toInt8.toInt32).toInt8.toInt32), (.int 0), (.int 0)] (.int 0) := Arv.set Ar7 q7 S7 M7 H7 G7 (fits_nar_byte _) W8 0 rfl (Nat.le_of_ble_eq_true rfl)
  have N8 := Fr.snoc X8 N0 gd
  have P14 := oS (T8.setTop (mkF m 32 #[r_ a, i_ 0, r_ d, i_ 0, i_ 3, i_ 0, i_ c0] [])) P6 (fun t_ k_ => st8 t_ k_)
  have P15 := oS (T8.setTop (mkF m 7 #[r_ a, i_ 1, r_ d, i_ 1, i_ 3, i_ 1, i_ c0] [(.int 3), (.int 1)])) P14 (by
    intro _ k_
    refine XS.iinc X8.here hx rfl (hb hby d6_32) rfl (l' := #[r_ a, i_ 1, r_ d, i_ 0, i_ 3, i_ 0, i_ c0]) rfl ?_
    show Steps p.tables e below (T8.setTop (mkF m 35 #[r_ a, i_ 1, r_ d, i_ 0, i_ 3, i_ 0, i_ c0] [])) _
    refine XS.iinc X8.here hx rfl (hb hby d6_35) rfl (l' := #[r_ a, i_ 1, r_ d, i_ 1, i_ 3, i_ 0, i_ c0]) rfl ?_
    show Steps p.tables e below (T8.setTop (mkF m 38 #[r_ a, i_ 1, r_ d, i_ 1, i_ 3, i_ 0, i_ c0] [])) _
    refine XS.iinc X8.here hx rfl (hb hby d6_38) rfl (l' := #[r_ a, i_ 1, r_ d, i_ 1, i_ 3, i_ 1, i_ c0]) rfl ?_
    show Steps p.tables e below (T8.setTop (mkF m 41 #[r_ a, i_ 1, r_ d, i_ 1, i_ 3, i_ 1, i_ c0] [])) _
    refine gt_ X8 hx hby d6_41 (pc := 41) (pc' := 3) (by decide) ?_
    refine il_ X8 hx hby d6_3 rfl ?_
    refine il_ X8 hx hby d6_5 rfl ?_
    exact k_)
  have P16 := oS (T8.setTop (mkF m 12 #[r_ a, i_ 1, r_ d, i_ 1, i_ 3, i_ 1, i_ c0] [(.int 1), (.ref a)])) P15 (by
    intro _ k_
    refine XS.icmpNo X8.here hx rfl (hb hby d6_7) rfl (tlt (by decide : (1 : Int32) < (3 : Int32))).2.1 ?_
    refine aN_ X8 hx hby d6_10 rfl rfl ?_
    refine iN_ X8 hx hby d6_11 rfl ?_
    exact k_)
  obtain ⟨cl17, Ar17, q17, S17, M17, H17, G17⟩ := id f10
  have hin17 := inb_of S17 (by decide : ¬ (1 : Int32) < 0 ∧ (1 : Int32) < (3 : Int32))
  have hat17 := Has.at H17 hin17 (v := .int c1) rfl
  have P18 := oS (T8.setTop (mkF m 13 #[r_ a, i_ 1, r_ d, i_ 1, i_ 3, i_ 1, i_ c0] [(.int c1)])) P16 (by
    intro _ k_
    refine X8.caload hx (j := (1 : Int32)) (v := (.int c1)) (by rw [e8]; exact Ar17.1) (State.isArrayOf_alike hZ.alike Ar17.2.1) Ar17.2.2 hin17 hat17 (g := (mkF m 12 #[r_ a, i_ 1, r_ d, i_ 1, i_ 3, i_ 1, i_ c0] [(.int 1), (.ref a)])) rfl rfl (hb hby d6_12) _ ?_
    exact k_)
  have P19 := oS (T8.setTop (mkF m 20 #[r_ a, i_ 1, r_ d, i_ 1, i_ 3, i_ 1, i_ c1] [(.int 255), (.int c1)])) P18 (by
    intro _ k_
    refine is_ X8 hx hby d6_13 (l' := #[r_ a, i_ 1, r_ d, i_ 1, i_ 3, i_ 1, i_ c1]) rfl ?_
    refine il_ X8 hx hby d6_15 rfl ?_
    refine XS.sipush X8.here hx rfl (hb hby d6_17) ?_
    exact k_)
  have P20 := oS (T8.setTop (mkF m 31 #[r_ a, i_ 1, r_ d, i_ 1, i_ 3, i_ 1, i_ c1] [(.int (c1.toInt8.toInt32)), (.int 1), (.ref d)])) P19 (by
    intro _ k_
    refine cY_ X8 hx hby d6_20 (pc := 20) (pc' := 26) (flt hc1).2.2.2 (by decide) ?_
    refine aN_ X8 hx hby d6_26 rfl rfl ?_
    refine iN_ X8 hx hby d6_27 rfl ?_
    refine il_ X8 hx hby d6_28 rfl ?_
    refine XS.i2b X8.here hx rfl (hb hby d6_30) rfl ?_
    exact k_)
  obtain ⟨cl21, Ar21, q21, S21, M21, H21, G21⟩ := id V8
  obtain ⟨T22, h22, X22, e22, W22, st22⟩ := stB X8 hx hZ e8 Ar21 (j := (1 : Int32)) (inb_of S21 (by decide : ¬ (1 : Int32) < 0 ∧ (1 : Int32) < (3 : Int32))) (g := (mkF m 31 #[r_ a, i_ 1, r_ d, i_ 1, i_ 3, i_ 1, i_ c1] [(.int (c1.toInt8.toInt32)), (.int 1), (.ref d)])) rfl rfl (hb hby d6_31)
  have f24 := f10.other W22 nad
  have f26 := f12.wr W22 (Or.inl (List.mem_of_getElem? (i := 0) rfl))
  have V22 : Arv Z h22 d kd .byte (3 : Int32) [(.int (c0.toInt8.toInt32).toInt8.toInt32), (.int (c1.toInt8.toInt32).toInt8.toInt32), (.int 0)] (.int 0) := Arv.set Ar21 q21 S21 M21 H21 G21 (fits_nar_byte _) W22 1 rfl (Nat.le_of_ble_eq_true rfl)
  have N22 := Fr.snoc X22 N8 gd
  have P28 := oS (T22.setTop (mkF m 32 #[r_ a, i_ 1, r_ d, i_ 1, i_ 3, i_ 1, i_ c1] [])) P20 (fun t_ k_ => st22 t_ k_)
  have P29 := oS (T22.setTop (mkF m 7 #[r_ a, i_ 2, r_ d, i_ 2, i_ 3, i_ 2, i_ c1] [(.int 3), (.int 2)])) P28 (by
    intro _ k_
    refine XS.iinc X22.here hx rfl (hb hby d6_32) rfl (l' := #[r_ a, i_ 2, r_ d, i_ 1, i_ 3, i_ 1, i_ c1]) rfl ?_
    show Steps p.tables e below (T22.setTop (mkF m 35 #[r_ a, i_ 2, r_ d, i_ 1, i_ 3, i_ 1, i_ c1] [])) _
    refine XS.iinc X22.here hx rfl (hb hby d6_35) rfl (l' := #[r_ a, i_ 2, r_ d, i_ 2, i_ 3, i_ 1, i_ c1]) rfl ?_
    show Steps p.tables e below (T22.setTop (mkF m 38 #[r_ a, i_ 2, r_ d, i_ 2, i_ 3, i_ 1, i_ c1] [])) _
    refine XS.iinc X22.here hx rfl (hb hby d6_38) rfl (l' := #[r_ a, i_ 2, r_ d, i_ 2, i_ 3, i_ 2, i_ c1]) rfl ?_
    show Steps p.tables e below (T22.setTop (mkF m 41 #[r_ a, i_ 2, r_ d, i_ 2, i_ 3, i_ 2, i_ c1] [])) _
    refine gt_ X22 hx hby d6_41 (pc := 41) (pc' := 3) (by decide) ?_
    refine il_ X22 hx hby d6_3 rfl ?_
    refine il_ X22 hx hby d6_5 rfl ?_
    exact k_)
  have P30 := oS (T22.setTop (mkF m 12 #[r_ a, i_ 2, r_ d, i_ 2, i_ 3, i_ 2, i_ c1] [(.int 2), (.ref a)])) P29 (by
    intro _ k_
    refine XS.icmpNo X22.here hx rfl (hb hby d6_7) rfl (tlt (by decide : (2 : Int32) < (3 : Int32))).2.1 ?_
    refine aN_ X22 hx hby d6_10 rfl rfl ?_
    refine iN_ X22 hx hby d6_11 rfl ?_
    exact k_)
  obtain ⟨cl31, Ar31, q31, S31, M31, H31, G31⟩ := id f24
  have hin31 := inb_of S31 (by decide : ¬ (2 : Int32) < 0 ∧ (2 : Int32) < (3 : Int32))
  have hat31 := Has.at H31 hin31 (v := .int c2) rfl
  have P32 := oS (T22.setTop (mkF m 13 #[r_ a, i_ 2, r_ d, i_ 2, i_ 3, i_ 2, i_ c1] [(.int c2)])) P30 (by
    intro _ k_
    refine X22.caload hx (j := (2 : Int32)) (v := (.int c2)) (by rw [e22]; exact Ar31.1) (State.isArrayOf_alike hZ.alike Ar31.2.1) Ar31.2.2 hin31 hat31 (g := (mkF m 12 #[r_ a, i_ 2, r_ d, i_ 2, i_ 3, i_ 2, i_ c1] [(.int 2), (.ref a)])) rfl rfl (hb hby d6_12) _ ?_
    exact k_)
  have P33 := oS (T22.setTop (mkF m 20 #[r_ a, i_ 2, r_ d, i_ 2, i_ 3, i_ 2, i_ c2] [(.int 255), (.int c2)])) P32 (by
    intro _ k_
    refine is_ X22 hx hby d6_13 (l' := #[r_ a, i_ 2, r_ d, i_ 2, i_ 3, i_ 2, i_ c2]) rfl ?_
    refine il_ X22 hx hby d6_15 rfl ?_
    refine XS.sipush X22.here hx rfl (hb hby d6_17) ?_
    exact k_)
  have P34 := oS (T22.setTop (mkF m 31 #[r_ a, i_ 2, r_ d, i_ 2, i_ 3, i_ 2, i_ c2] [(.int (c2.toInt8.toInt32)), (.int 2), (.ref d)])) P33 (by
    intro _ k_
    refine cY_ X22 hx hby d6_20 (pc := 20) (pc' := 26) (flt hc2).2.2.2 (by decide) ?_
    refine aN_ X22 hx hby d6_26 rfl rfl ?_
    refine iN_ X22 hx hby d6_27 rfl ?_
    refine il_ X22 hx hby d6_28 rfl ?_
    refine XS.i2b X22.here hx rfl (hb hby d6_30) rfl ?_
    exact k_)
  obtain ⟨cl35, Ar35, q35, S35, M35, H35, G35⟩ := id V22
  obtain ⟨T36, h36, X36, e36, W36, st36⟩ := stB X22 hx hZ e22 Ar35 (j := (2 : Int32)) (inb_of S35 (by decide : ¬ (2 : Int32) < 0 ∧ (2 : Int32) < (3 : Int32))) (g := (mkF m 31 #[r_ a, i_ 2, r_ d, i_ 2, i_ 3, i_ 2, i_ c2] [(.int (c2.toInt8.toInt32)), (.int 2), (.ref d)])) rfl rfl (hb hby d6_31)
  have f40 := f26.wr W36 (Or.inl (List.mem_of_getElem? (i := 0) rfl))
  have V36 : Arv Z h36 d kd .byte (3 : Int32) [(.int (c0.toInt8.toInt32).toInt8.toInt32), (.int (c1.toInt8.toInt32).toInt8.toInt32), (.int (c2.toInt8.toInt32).toInt8.toInt32)] (.int 0) := Arv.set Ar35 q35 S35 M35 H35 G35 (fits_nar_byte _) W36 2 rfl (Nat.le_of_ble_eq_true rfl)
  have N36 := Fr.snoc X36 N22 gd
  have P42 := oS (T36.setTop (mkF m 32 #[r_ a, i_ 2, r_ d, i_ 2, i_ 3, i_ 2, i_ c2] [])) P34 (fun t_ k_ => st36 t_ k_)
  have P43 := oS (T36.setTop (mkF m 7 #[r_ a, i_ 3, r_ d, i_ 3, i_ 3, i_ 3, i_ c2] [(.int 3), (.int 3)])) P42 (by
    intro _ k_
    refine XS.iinc X36.here hx rfl (hb hby d6_32) rfl (l' := #[r_ a, i_ 3, r_ d, i_ 2, i_ 3, i_ 2, i_ c2]) rfl ?_
    show Steps p.tables e below (T36.setTop (mkF m 35 #[r_ a, i_ 3, r_ d, i_ 2, i_ 3, i_ 2, i_ c2] [])) _
    refine XS.iinc X36.here hx rfl (hb hby d6_35) rfl (l' := #[r_ a, i_ 3, r_ d, i_ 3, i_ 3, i_ 2, i_ c2]) rfl ?_
    show Steps p.tables e below (T36.setTop (mkF m 38 #[r_ a, i_ 3, r_ d, i_ 3, i_ 3, i_ 2, i_ c2] [])) _
    refine XS.iinc X36.here hx rfl (hb hby d6_38) rfl (l' := #[r_ a, i_ 3, r_ d, i_ 3, i_ 3, i_ 3, i_ c2]) rfl ?_
    show Steps p.tables e below (T36.setTop (mkF m 41 #[r_ a, i_ 3, r_ d, i_ 3, i_ 3, i_ 3, i_ c2] [])) _
    refine gt_ X36 hx hby d6_41 (pc := 41) (pc' := 3) (by decide) ?_
    refine il_ X36 hx hby d6_3 rfl ?_
    refine il_ X36 hx hby d6_5 rfl ?_
    exact k_)
  have P44 := oS (T36.setTop (mkF m 46 #[r_ a, i_ 3, r_ d, i_ 3, i_ 3, i_ 3, i_ c2] [(.int 3)])) P43 (by
    intro _ k_
    refine cY_ X36 hx hby d6_7 (pc := 7) (pc' := 44) (flt (by decide : ¬ ((3 : Int32) < (3 : Int32)))).2.1 (by decide) ?_
    refine il_ X36 hx hby d6_44 rfl ?_
    exact k_)
  exact own_out X36 hlk (v := some (.int 3)) (own_hv hrt) P44 (fun _ q_ => retI X36 hx hrt (hb hby d6_46) q_) e36 ⟨rfl, N36, f40, V36⟩ (by decide)
def Q_comp_3 (Z : State) (a : Addr) (ka : ClassId) (c0 : Int32) (c1 : Int32) (c2 : Int32) (h0 : Heap) (n0 : Nat) (v_ : Option Value) (h : Heap) (L_ : List Loc) : Prop := ∃ (x : Addr) (kk : ClassId), v_ = some (.ref x) ∧ Fr n0 L_ ∧ Keep h0 h [] ∧ h0.size ≤ x ∧ Arv Z h x kk .byte (3 : Int32) [(.int (c0.toInt8.toInt32).toInt8.toInt32), (.int (c1.toInt8.toInt32).toInt8.toInt32), (.int (c2.toInt8.toInt32).toInt8.toInt32)] (.int 0) ∧ Exa Z h x "[B"
set_option maxRecDepth 65536 in
set_option maxHeartbeats 40000000 in
theorem rm_comp_3 (l : Launch) (Z : State) (a0 : Array Value) (hw : ∀ d ∈ tables_1, d.before a0 Z = true) (ws : List Jvm.Cond) (a : Addr) (ka : ClassId) (c0 : Int32) (c1 : Int32) (c2 : Int32) (h0 : Heap) (n0 : Nat) (Z0 : n0 ≤ h0.size) (O : Old Z n0 h0) (Va : Arv Z h0 a ka .char (3 : Int32) [(.int c0), (.int c1), (.int c2)] (.int 0)) (hc0 : ¬ ((255 : Int32) < c0)) (hc1 : ¬ ((255 : Int32) < c1)) (hc2 : ¬ ((255 : Int32) < c2)) :
    own_MF l yM5 (.code yM5 cB5 6 (some (.array .byte))) ws ⟨1, 1, 3, 18⟩ #[(.ref a), (.int 0), (.int 3)] Z h0 own_T (Q_comp_3 Z a ka c0 c1 c2 h0 n0) := by
  refine own_in "java/lang/StringUTF16" rfl (plainFor_of_name pn1) hisR (fun m => ef5RII m a (0 : Int32) (3 : Int32)) ?_
  intro p e s m below meth c s₁ A_ hx hby hml hown hnm hrt hlk hZ _ X0 e0 pre0
  have N0 := Fr.nil n0
  have P1 := oS (s₁.setTop (mkF m 1 #[r_ a, i_ 0, i_ 3, u_, u_, u_] [(.int 3)])) pre0 (by
    intro _ k_
    refine iN_ X0 hx hby d5_0 rfl ?_
    exact k_)
  obtain ⟨T2, h2, k2, X2, e2, E2, A2, EA2, st2⟩ := newPE X0 hx hZ (own_w hw 23 rfl) e0 (g := (mkF m 1 #[r_ a, i_ 0, i_ 3, u_, u_, u_] [(.int 3)])) rfl (hb hby d5_1) rfl (by decide) (cap := 3) (by decide) (by decide) (by decide) (by decide) (ad := "[B") (by decide +kernel)
  obtain ⟨b2, g2⟩ : ∃ z, z = h0.size := ⟨_, rfl⟩
  rw [← g2] at A2 EA2 st2
  have ne_a_b2 : a ≠ b2 := Nat.ne_of_lt (Nat.lt_of_lt_of_le Va.lt (Nat.le_of_eq g2.symm))
  have g_b2 : n0 ≤ b2 := Nat.le_trans Z0 (Nat.le_of_eq g2.symm)
  have sz_b2 : h0.size ≤ b2 := Nat.le_trans (Keep.refl h0 []).1 (Nat.le_of_eq g2.symm)
  have f3 := O.ext E2
  have f4 := (Keep.refl h0 []).ext E2
  have f5 := Va.ext E2
  have Z6 : n0 ≤ h2.size := Nat.le_trans Z0 E2.1
  have V2 : Arv Z h2 b2 k2 .byte (3 : Int32) [(.int 0), (.int 0), (.int 0)] (.int 0) := (Arv.new A2 (by decide)).pad (pad_rep [] _ 3)
  have P7 := oS (T2.setTop (mkF m 3 #[r_ a, i_ 0, i_ 3, u_, u_, u_] [(.ref b2)])) P1 (fun t_ k_ => st2 t_ k_)
  have P8 := oS (T2.setTop (mkF m 9 #[r_ a, i_ 0, i_ 3, r_ b2, u_, u_] [(.int 3), (.int 0), (.ref b2), (.int 0), (.ref a)])) P7 (by
    intro _ k_
    refine XS.astoreN X2.here hx rfl (hb hby d5_3) rfl rfl (l' := #[r_ a, i_ 0, i_ 3, r_ b2, u_, u_]) rfl ?_
    refine aN_ X2 hx hby d5_4 rfl rfl ?_
    refine iN_ X2 hx hby d5_5 rfl ?_
    refine aN_ X2 hx hby d5_6 rfl rfl ?_
    refine XS.iconst X2.here hx rfl (hb hby d5_7) ?_
    refine iN_ X2 hx hby d5_8 rfl ?_
    exact k_)
  obtain ⟨_, T9, L9, X9, hQ9, P9c⟩ := own_cS (W := 0) (rm_comp2_3 l Z a0 hw [] a ka b2 k2 c0 c1 c2 h2 n0 Z6 f3 f5 V2 ne_a_b2 g_b2 hc0 hc1 hc2) X2 hx hZ (fun _ _ => trivial) hown (own_w hw 24 rfl) (own_w hw 25 rfl) (own_w hw 21 rfl) (own_w hw 26 rfl) (by decide) P8 hml rfl [(.ref a), (.int 0), (.ref b2), (.int 0), (.int 3)] [] rfl rfl rfl pd0 rfl (hb hby d5_9) e2 (by decide)
  obtain ⟨rfl, N9q, K9, f10⟩ := hQ9
  have N9 := Fr.app N0 N9q
  have f12 := f4.trans K9 (allS (Or.inr sz_b2) all0)
  have f15 := EA2.keep K9
  have P17 := own_to (C := T9.setTop (mkF m 12 #[r_ a, i_ 0, i_ 3, r_ b2, u_, u_] [(.int 3)])) P9c
  have P18 := oS (T9.setTop (mkF m 17 #[r_ a, i_ 0, i_ 3, r_ b2, i_ 3, u_] [(.int 3), (.int 3)])) P17 (by
    intro _ k_
    refine is_ X9 hx hby d5_12 (l' := #[r_ a, i_ 0, i_ 3, r_ b2, i_ 3, u_]) rfl ?_
    refine il_ X9 hx hby d5_14 rfl ?_
    refine iN_ X9 hx hby d5_16 rfl ?_
    exact k_)
  have P19 := oS (T9.setTop (mkF m 58 #[r_ a, i_ 0, i_ 3, r_ b2, i_ 3, u_] [(.ref b2)])) P18 (by
    intro _ k_
    refine cY_ X9 hx hby d5_17 (pc := 17) (pc' := 57) (teq (by decide : (3 : Int32) = (3 : Int32))).1 (by decide) ?_
    refine aN_ X9 hx hby d5_57 rfl rfl ?_
    exact k_)
  exact own_out X9 hlk (v := some (.ref b2)) (own_hv hrt) P19 (fun _ q_ => retOut X9 hx hrt rfl (Or.inr (Or.inr (Or.inr (Or.inr ⟨rfl, rfl, rfl⟩)))) (hb hby d5_58) q_) (rfl : T9.heap = _) ⟨b2, k2, rfl, N9, f12, sz_b2, f10, f15⟩ (by decide)
def Q_initV_3 (Z : State) (a : Addr) (ca : Addr) (ka : ClassId) (c0 : Int32) (c1 : Int32) (c2 : Int32) (cs : Int32) (h0 : Heap) (n0 : Nat) (v_ : Option Value) (h : Heap) (L_ : List Loc) : Prop := ∃ (x : Addr) (kk : ClassId), v_ = none ∧ Fr n0 L_ ∧ Keep h0 h [a] ∧ Exa Z h a "java/lang/String" ∧ Fld Z h a "java/lang/String" "coder" "B" (.int 0) ∧ Fld Z h a "java/lang/String" "value" "[B" (.ref x) ∧ Arv Z h x kk .byte (3 : Int32) [(.int (c0.toInt8.toInt32).toInt8.toInt32), (.int (c1.toInt8.toInt32).toInt8.toInt32), (.int (c2.toInt8.toInt32).toInt8.toInt32)] (.int 0) ∧ h0.size ≤ x ∧ Exa Z h x "[B"
set_option maxRecDepth 65536 in
set_option maxHeartbeats 40000000 in
theorem rm_initV_3 (l : Launch) (Z : State) (a0 : Array Value) (hw : ∀ d ∈ tables_1, d.before a0 Z = true) (ws : List Jvm.Cond) (a : Addr) (ca : Addr) (ka : ClassId) (c0 : Int32) (c1 : Int32) (c2 : Int32) (cs : Int32) (h0 : Heap) (n0 : Nat) (Z0 : n0 ≤ h0.size) (O : Old Z n0 h0) (Scs : Sta Z Z.heap "java/lang/String" "COMPACT_STRINGS" "Z" (.int cs)) (hcs : ¬ (cs = (0 : Int32))) (Ea : Exa Z h0 a "java/lang/String") (Fv : Fld Z h0 a "java/lang/String" "value" "[B" .null) (Fc : Fld Z h0 a "java/lang/String" "coder" "B" (.int 0)) (ga : n0 ≤ a) (Vs : Arv Z h0 ca ka .char (3 : Int32) [(.int c0), (.int c1), (.int c2)] (.int 0)) (hc0 : ¬ ((255 : Int32) < c0)) (hc1 : ¬ ((255 : Int32) < c1)) (hc2 : ¬ ((255 : Int32) < c2)) :
    own_MF l yM3 (.code yM3 cB3 6 none) ws ⟨2, 1, 3, 35⟩ #[(.ref a), (.ref ca), (.int 0), (.int 3), .null] Z h0 own_T (Q_initV_3 Z a ca ka c0 c1 c2 cs h0 n0) := by
  refine own_in "java/lang/String" rfl (plainFor_of_name pn2) hisR (fun m => ef3RRIIn m a ca (0 : Int32) (3 : Int32)) ?_
  intro p e s m below meth c s₁ A_ hx hby hml hown hnm hrt hlk hZ _ X0 e0 pre0
  have N0 := Fr.nil n0
  obtain ⟨clV, ArV, -⟩ := id Vs
  have P1 := oS (s₁.setTop (mkF m 1 #[r_ a, r_ ca, i_ 0, i_ 3, .val .null, u_] [(.ref a)])) pre0 (by
    intro _ k_
    refine aN_ X0 hx hby d3_0 rfl rfl ?_
    exact k_)
  obtain ⟨T2, X2, e2, st2⟩ := initO X0 hx hZ hown (own_w hw 15 rfl) (own_w hw 16 rfl) (own_w hw 17 rfl) e0 (g := (mkF m 1 #[r_ a, r_ ca, i_ 0, i_ 3, .val .null, u_] [(.ref a)])) rfl (by rw [hml]; rfl) rfl (hb hby d3_1) (by decide) (W := 0) (by show 2 * 0 + _ ≤ _; exact Nat.le_of_eq rfl) (by decide)
  have P3 := oS (T2.setTop (mkF m 4 #[r_ a, r_ ca, i_ 0, i_ 3, .val .null, u_] [])) P1 (fun t_ k_ => st2 t_ k_)
  have P4 := oS (T2.setTop (mkF m 5 #[r_ a, r_ ca, i_ 0, i_ 3, .val .null, u_] [(.int 3)])) P3 (by
    intro _ k_
    refine iN_ X2 hx hby d3_4 rfl ?_
    exact k_)
  have P5 := oS (T2.setTop (mkF m 27 #[r_ a, r_ ca, i_ 0, i_ 3, .val .null, u_] [])) P4 (by
    intro _ k_
    refine fY_ X2 hx hby d3_5 (pc := 5) (pc' := 27) ((if0 _ _).trans (feq (by decide : ¬ ((3 : Int32) = (0 : Int32)))).2) (by decide) ?_
    exact k_)
  obtain ⟨T6, X6, e6, st6⟩ := getS2 X2 hx hZ hown (host := "") (Or.inl (own_w hw 18 rfl)) Via.refl e2 (Scs.ext O.2) (g := (mkF m 27 #[r_ a, r_ ca, i_ 0, i_ 3, .val .null, u_] [])) rfl (hb hby d3_27)
  have P7 := oS (T6.setTop (mkF m 30 #[r_ a, r_ ca, i_ 0, i_ 3, .val .null, u_] [(.int cs)])) P5 (fun t_ k_ => st6 t_ k_)
  have P8 := oS (T6.setTop (mkF m 36 #[r_ a, r_ ca, i_ 0, i_ 3, .val .null, u_] [(.int 3), (.int 0), (.ref ca)])) P7 (by
    intro _ k_
    refine XS.ifNo X6.here hx rfl (hb hby d3_30) rfl ((if0 _ _).trans (feq hcs).1) ?_
    refine aN_ X6 hx hby d3_33 rfl rfl ?_
    refine iN_ X6 hx hby d3_34 rfl ?_
    refine iN_ X6 hx hby d3_35 rfl ?_
    exact k_)
  obtain ⟨_, T9, L9, X9, hQ9, P9c⟩ := own_cS (W := 0) (rm_comp_3 l Z a0 hw [] ca ka c0 c1 c2 h0 n0 Z0 O Vs hc0 hc1 hc2) X6 hx hZ (fun _ _ => trivial) hown (own_w hw 19 rfl) (own_w hw 20 rfl) (own_w hw 21 rfl) (own_w hw 22 rfl) (by decide) P8 hml rfl [(.ref ca), (.int 0), (.int 3)] [] rfl rfl rfl pd1 rfl (hb hby d3_36) e6 (by decide)
  obtain ⟨x9, kk9, rfl, N9q, K9, f10, f11, f12⟩ := hQ9
  have N9 := Fr.app N0 N9q
  have ne_a_x9 : a ≠ x9 := Nat.ne_of_lt (Nat.lt_of_lt_of_le Ea.lt f10)
  have sz_x9 : h0.size ≤ x9 := Nat.le_trans (Keep.refl h0 [a]).1 f10
  have f14 := Ea.keep K9
  have f15 := Fc.keep K9 nin0
  have f16 := Fv.keep K9 nin0
  have f17 := (Keep.refl h0 [a]).trans K9 all0
  have Z19 : n0 ≤ T9.heap.size := Nat.le_trans Z0 K9.1
  have P20 := own_to (C := T9.setTop (mkF m 39 #[r_ a, r_ ca, i_ 0, i_ 3, .val .null, u_] [(.ref x9)])) P9c
  have P21 := oS (T9.setTop (mkF m 45 #[r_ a, r_ ca, i_ 0, i_ 3, .val .null, r_ x9] [(.int 3), (.ref x9), (.ref a)])) P20 (by
    intro _ k_
    refine XS.astore X9.here hx rfl (hb hby d3_39) rfl rfl (l' := #[r_ a, r_ ca, i_ 0, i_ 3, .val .null, r_ x9]) rfl ?_
    refine aN_ X9 hx hby d3_41 rfl rfl ?_
    refine a_ X9 hx hby d3_42 rfl rfl ?_
    refine iN_ X9 hx hby d3_44 rfl ?_
    exact k_)
  obtain ⟨_, T22, L22, X22, hQ22, P22c⟩ := own_cS (W := 1) (rm_cfa l Z a0 hw [] x9 kk9 (3 : Int32) _ (3 : Int32) (0 : Int32) T9.heap n0 Z19 f11 (by decide +kernel)) X9 hx hZ (fun _ _ => trivial) hown (own_w hw 27 rfl) (own_w hw 28 rfl) (own_w hw 21 rfl) (own_w hw 29 rfl) (by decide) P21 hml rfl [(.ref x9), (.int 3)] [(.ref a)] rfl rfl rfl pd2 rfl (hb hby d3_45) (rfl : T9.heap = _) (by decide)
  obtain ⟨rfl, N22q, e22⟩ := hQ22
  have N22 := Fr.app N9 N22q
  have P23 := own_to (C := T22.setTop (mkF m 48 #[r_ a, r_ ca, i_ 0, i_ 3, .val .null, r_ x9] [(.int 0), (.ref a)])) P22c
  obtain ⟨T24, h24, X24, e24, W24, st24⟩ := putFN X22 hx hZ hown (own_w hw 30 rfl) Via.refl e22 f15 f14 (Or.inr ⟨(own_w hw 31 rfl), rfl, hnm⟩) (own_w hw 6 rfl) (ty := .byte) (v' := (.int (0 : Int32).toInt8.toInt32)) (by decide) rfl (fits_nar_byte _) (g := (mkF m 48 #[r_ a, r_ ca, i_ 0, i_ 3, .val .null, r_ x9] [(.int 0), (.ref a)])) rfl rfl (hb hby d3_48)
  have f26 := f14.wr W24
  have f27 := f15.same W24
  have f28 := f16.other W24 (Or.inr (slot_ne (Or.inr (own_w hw 33 rfl)) (Or.inr (own_w hw 31 rfl)) (by decide) (t := (.array .byte)) (t' := .byte) (by decide) (by decide)))
  have f29 := f17.wr W24 (Or.inl (List.mem_of_getElem? (i := 0) rfl))
  have f31 := f11.other W24 (Ne.symm ne_a_x9)
  have f32 := f12.wr W24
  have N24 := Fr.snoc X24 N22 ga
  have P34 := oS (T24.setTop (mkF m 51 #[r_ a, r_ ca, i_ 0, i_ 3, .val .null, r_ x9] [])) P23 (fun t_ k_ => st24 t_ k_)
  have P35 := oS (T24.setTop (mkF m 54 #[r_ a, r_ ca, i_ 0, i_ 3, .val .null, r_ x9] [(.ref x9), (.ref a)])) P34 (by
    intro _ k_
    refine aN_ X24 hx hby d3_51 rfl rfl ?_
    refine a_ X24 hx hby d3_52 rfl rfl ?_
    exact k_)
  obtain ⟨T36, h36, X36, e36, W36, st36⟩ := putF X24 hx hZ hown (host := "") (Or.inl (own_w hw 32 rfl)) Via.refl e24 f28 f26 (Or.inr ⟨(own_w hw 33 rfl), rfl, hnm⟩) (own_w hw 6 rfl) (ty := (.array .byte)) (by decide) rfl rfl (g := (mkF m 54 #[r_ a, r_ ca, i_ 0, i_ 3, .val .null, r_ x9] [(.ref x9), (.ref a)])) rfl rfl (hb hby d3_54)
  have f38 := f26.wr W36
  have f39 := f27.other W36 (Or.inr (slot_ne (Or.inr (own_w hw 31 rfl)) (Or.inr (own_w hw 33 rfl)) (by decide) (t := .byte) (t' := (.array .byte)) (by decide) (by decide)))
  have f40 := f28.same W36
  have f41 := f29.wr W36 (Or.inl (List.mem_of_getElem? (i := 0) rfl))
  have f43 := f31.other W36 (Ne.symm ne_a_x9)
  have f44 := f32.wr W36
  have N36 := Fr.snoc X36 N24 ga
  have P46 := oS (T36.setTop (mkF m 57 #[r_ a, r_ ca, i_ 0, i_ 3, .val .null, r_ x9] [])) P35 (fun t_ k_ => st36 t_ k_)
  exact own_out X36 hlk (v := none) (fun _ => rfl) P46 (fun _ q_ => X36.returnOut hx hrt (hb hby d3_57) q_) e36 ⟨x9, kk9, rfl, N36, f41, f38, f39, f40, f43, sz_x9, f44⟩ (by decide)
def Q_initC_3 (Z : State) (a : Addr) (ca : Addr) (ka : ClassId) (c0 : Int32) (c1 : Int32) (c2 : Int32) (cs : Int32) (h0 : Heap) (n0 : Nat) (v_ : Option Value) (h : Heap) (L_ : List Loc) : Prop := ∃ (x : Addr) (kk : ClassId), v_ = none ∧ Fr n0 L_ ∧ Keep h0 h [a] ∧ Exa Z h a "java/lang/String" ∧ Fld Z h a "java/lang/String" "coder" "B" (.int 0) ∧ Fld Z h a "java/lang/String" "value" "[B" (.ref x) ∧ Arv Z h x kk .byte (3 : Int32) [(.int (c0.toInt8.toInt32).toInt8.toInt32), (.int (c1.toInt8.toInt32).toInt8.toInt32), (.int (c2.toInt8.toInt32).toInt8.toInt32)] (.int 0) ∧ h0.size ≤ x ∧ Exa Z h x "[B"
set_option maxRecDepth 65536 in
set_option maxHeartbeats 40000000 in
theorem rm_initC_3 (l : Launch) (Z : State) (a0 : Array Value) (hw : ∀ d ∈ tables_1, d.before a0 Z = true) (ws : List Jvm.Cond) (a : Addr) (ca : Addr) (ka : ClassId) (c0 : Int32) (c1 : Int32) (c2 : Int32) (cs : Int32) (h0 : Heap) (n0 : Nat) (Z0 : n0 ≤ h0.size) (O : Old Z n0 h0) (Scs : Sta Z Z.heap "java/lang/String" "COMPACT_STRINGS" "Z" (.int cs)) (hcs : ¬ (cs = (0 : Int32))) (Ea : Exa Z h0 a "java/lang/String") (Fv : Fld Z h0 a "java/lang/String" "value" "[B" .null) (Fc : Fld Z h0 a "java/lang/String" "coder" "B" (.int 0)) (ga : n0 ≤ a) (Vs : Arv Z h0 ca ka .char (3 : Int32) [(.int c0), (.int c1), (.int c2)] (.int 0)) (hc0 : ¬ ((255 : Int32) < c0)) (hc1 : ¬ ((255 : Int32) < c1)) (hc2 : ¬ ((255 : Int32) < c2)) :
    own_MF l yM2 (.code yM2 cB2 2 none) ws ⟨3, 1, 3, 52⟩ #[(.ref a), (.ref ca)] Z h0 own_T (Q_initC_3 Z a ca ka c0 c1 c2 cs h0 n0) := by
  refine own_in "java/lang/String" rfl (plainFor_of_name pn2) hisR (fun m => ef2RR m a ca) ?_
  intro p e s m below meth c s₁ A_ hx hby hml hown hnm hrt hlk hZ _ X0 e0 pre0
  have N0 := Fr.nil n0
  obtain ⟨clV, ArV, -⟩ := id Vs
  have P1 := oS (s₁.setTop (mkF m 4 #[r_ a, r_ ca] [(.ref ca), (.int 0), (.ref ca), (.ref a)])) pre0 (by
    intro _ k_
    refine aN_ X0 hx hby d2_0 rfl rfl ?_
    refine aN_ X0 hx hby d2_1 rfl rfl ?_
    refine XS.iconst X0.here hx rfl (hb hby d2_2) ?_
    refine aN_ X0 hx hby d2_3 rfl rfl ?_
    exact k_)
  obtain ⟨cl2, Ar2, q2, S2, M2, H2, G2⟩ := id Vs
  have P3 := oS (s₁.setTop (mkF m 5 #[r_ a, r_ ca] [(.int 3), (.int 0), (.ref ca), (.ref a)])) P1 (by
    intro _ k_
    refine X0.arraylength hx (by rw [e0]; exact Ar2.1) (State.isArrayOf_alike hZ.alike Ar2.2.1) (g := (mkF m 4 #[r_ a, r_ ca] [(.ref ca), (.int 0), (.ref ca), (.ref a)])) rfl rfl (hb hby d2_4) _ ?_
    rw [len_of S2 M2]
    exact k_)
  have P4 := oS (s₁.setTop (mkF m 6 #[r_ a, r_ ca] [.null, (.int 3), (.int 0), (.ref ca), (.ref a)])) P3 (by
    intro _ k_
    refine XS.aconstNull X0.here hx rfl (hb hby d2_5) ?_
    exact k_)
  obtain ⟨_, T5, L5, X5, hQ5, P5c⟩ := own_cI (W := 0) (rm_initV_3 l Z a0 hw [] a ca ka c0 c1 c2 cs h0 n0 Z0 O Scs hcs Ea Fv Fc ga Vs hc0 hc1 hc2) X0 hx hZ (fun _ _ => trivial) hown rfl (own_w hw 11 rfl) (own_w hw 12 rfl) (own_w hw 7 rfl) (own_w hw 14 rfl) (by decide) P4 hml rfl [(.ref ca), (.int 0), (.int 3), .null] [] rfl rfl rfl pd3 rfl (hb hby d2_6) e0 (by decide)
  obtain ⟨x5, kk5, rfl, N5q, K5, f6, f7, f8, f9, f10, f11⟩ := hQ5
  have N5 := Fr.app N0 N5q
  have f16 := (Keep.refl h0 [a]).trans K5 (allS (Or.inl (List.mem_of_getElem? (i := 0) rfl)) all0)
  have P19 := own_to (C := T5.setTop (mkF m 9 #[r_ a, r_ ca] [])) P5c
  exact own_out X5 hlk (v := none) (fun _ => rfl) P19 (fun _ q_ => X5.returnOut hx hrt (hb hby d2_9) q_) (rfl : T5.heap = _) ⟨x5, kk5, rfl, N5, f16, f6, f7, f8, f9, f10, f11⟩ (by decide)
def Q_comp2_4 (Z : State) (a : Addr) (ka : ClassId) (d : Addr) (kd : ClassId) (c0 : Int32) (c1 : Int32) (c2 : Int32) (c3 : Int32) (h0 : Heap) (n0 : Nat) (v_ : Option Value) (h : Heap) (L_ : List Loc) : Prop := v_ = some (.int 4) ∧ Fr n0 L_ ∧ Keep h0 h [d] ∧ Arv Z h d kd .byte (4 : Int32) [(.int (c0.toInt8.toInt32).toInt8.toInt32), (.int (c1.toInt8.toInt32).toInt8.toInt32), (.int (c2.toInt8.toInt32).toInt8.toInt32), (.int (c3.toInt8.toInt32).toInt8.toInt32)] (.int 0)
set_option maxRecDepth 65536 in
set_option maxHeartbeats 40000000 in
theorem rm_comp2_4 (l : Launch) (Z : State) (a0 : Array Value) (hw : ∀ d ∈ tables_1, d.before a0 Z = true) (ws : List Jvm.Cond) (a : Addr) (ka : ClassId) (d : Addr) (kd : ClassId) (c0 : Int32) (c1 : Int32) (c2 : Int32) (c3 : Int32) (h0 : Heap) (n0 : Nat) (Z0 : n0 ≤ h0.size) (O : Old Z n0 h0) (Va : Arv Z h0 a ka .char (4 : Int32) [(.int c0), (.int c1), (.int c2), (.int c3)] (.int 0)) (Vd : Arv Z h0 d kd .byte (4 : Int32) [(.int 0), (.int 0), (.int 0), (.int 0)] (.int 0)) (nad : a ≠ d) (gd : n0 ≤ d) (hc0 : ¬ ((255 : Int32) < c0)) (hc1 : ¬ ((255 : Int32) < c1)) (hc2 : ¬ ((255 : Int32) < c2)) (hc3 : ¬ ((255 : Int32) < c3)) :
    own_MF l yM6 (.code yM6 cB6 7 (some .int)) ws ⟨0, 0, 0, 0⟩ #[(.ref a), (.int 0), (.ref d), (.int 0), (.int 4)] Z h0 own_T (Q_comp2_4 Z a ka d kd c0 c1 c2 c3 h0 n0) := by
  refine own_in "java/lang/StringUTF16" rfl (plainFor_of_name pn1) hisR (fun m => ef6RIRII m a (0 : Int32) d (0 : Int32) (4 : Int32)) ?_
  intro p e s m below meth c s₁ A_ hx hby hml hown hnm hrt hlk hZ _ X0 e0 pre0
  have N0 := Fr.nil n0
  have P1 := oS (s₁.setTop (mkF m 7 #[r_ a, i_ 0, r_ d, i_ 0, i_ 4, i_ 0, u_] [(.int 4), (.int 0)])) pre0 (by
    intro _ k_
    refine XS.iconst X0.here hx rfl (hb hby d6_0) ?_
    refine is_ X0 hx hby d6_1 (l' := #[r_ a, i_ 0, r_ d, i_ 0, i_ 4, i_ 0, u_]) rfl ?_
    refine il_ X0 hx hby d6_3 rfl ?_
    refine il_ X0 hx hby d6_5 rfl ?_
    exact k_)
  have P2 := oS (s₁.setTop (mkF m 12 #[r_ a, i_ 0, r_ d, i_ 0, i_ 4, i_ 0, u_] [(.int 0), (.ref a)])) P1 (by
    intro _ k_
    refine XS.icmpNo X0.here hx rfl (hb hby d6_7) rfl (tlt (by decide : (0 : Int32) < (4 : Int32))).2.1 ?_
    refine aN_ X0 hx hby d6_10 rfl rfl ?_
    refine iN_ X0 hx hby d6_11 rfl ?_
    exact k_)
  obtain ⟨cl3, Ar3, q3, S3, M3, H3, G3⟩ := id Va
  have hin3 := inb_of S3 (by decide : ¬ (0 : Int32) < 0 ∧ (0 : Int32) < (4 : Int32))
  have hat3 := Has.at H3 hin3 (v := .int c0) rfl
  have P4 := oS (s₁.setTop (mkF m 13 #[r_ a, i_ 0, r_ d, i_ 0, i_ 4, i_ 0, u_] [(.int c0)])) P2 (by
    intro _ k_
    refine X0.caload hx (j := (0 : Int32)) (v := (.int c0)) (by rw [e0]; exact Ar3.1) (State.isArrayOf_alike hZ.alike Ar3.2.1) Ar3.2.2 hin3 hat3 (g := (mkF m 12 #[r_ a, i_ 0, r_ d, i_ 0, i_ 4, i_ 0, u_] [(.int 0), (.ref a)])) rfl rfl (hb hby d6_12) _ ?_
    exact k_)
  have P5 := oS (s₁.setTop (mkF m 20 #[r_ a, i_ 0, r_ d, i_ 0, i_ 4, i_ 0, i_ c0] [(.int 255), (.int c0)])) P4 (by
    intro _ k_
    refine is_ X0 hx hby d6_13 (l' := #[r_ a, i_ 0, r_ d, i_ 0, i_ 4, i_ 0, i_ c0]) rfl ?_
    refine il_ X0 hx hby d6_15 rfl ?_
    refine XS.sipush X0.here hx rfl (hb hby d6_17) ?_
    exact k_)
  have P6 := oS (s₁.setTop (mkF m 31 #[r_ a, i_ 0, r_ d, i_ 0, i_ 4, i_ 0, i_ c0] [(.int (c0.toInt8.toInt32)), (.int 0), (.ref d)])) P5 (by
    intro _ k_
    refine cY_ X0 hx hby d6_20 (pc := 20) (pc' := 26) (flt hc0).2.2.2 (by decide) ?_
    refine aN_ X0 hx hby d6_26 rfl rfl ?_
    refine iN_ X0 hx hby d6_27 rfl ?_
    refine il_ X0 hx hby d6_28 rfl ?_
    refine XS.i2b X0.here hx rfl (hb hby d6_30) rfl ?_
    exact k_)
  obtain ⟨cl7, Ar7, q7, S7, M7, H7, G7⟩ := id Vd
  obtain ⟨T8, h8, X8, e8, W8, st8⟩ := stB X0 hx hZ e0 Ar7 (j := (0 : Int32)) (inb_of S7 (by decide : ¬ (0 : Int32) < 0 ∧ (0 : Int32) < (4 : Int32))) (g := (mkF m 31 #[r_ a, i_ 0, r_ d, i_ 0, i_ 4, i_ 0, i_ c0] [(.int (c0.toInt8.toInt32)), (.int 0), (.ref d)])) rfl rfl (hb hby d6_31)
  have f10 := Va.other W8 nad
  have f12 := (Keep.refl h0 [d]).wr W8 (Or.inl (List.mem_of_getElem? (i := 0) rfl))
  have V8 : Arv Z h8 d kd .byte (4 : Int32) [(.int (c0.toInt8.toInt32).toInt8.toInt32), (.int 0), (.int 0), (.int 0)] (.int 0) := Arv.set Ar7 q7 S7 M7 H7 G7 (fits_nar_byte _) W8 0 rfl (Nat.le_of_ble_eq_true rfl)
  have N8 := Fr.snoc X8 N0 gd
  have P14 := oS (T8.setTop (mkF m 32 #[r_ a, i_ 0, r_ d, i_ 0, i_ 4, i_ 0, i_ c0] [])) P6 (fun t_ k_ => st8 t_ k_)
  have P15 := oS (T8.setTop (mkF m 7 #[r_ a, i_ 1, r_ d, i_ 1, i_ 4, i_ 1, i_ c0] [(.int 4), (.int 1)])) P14 (by
    intro _ k_
    refine XS.iinc X8.here hx rfl (hb hby d6_32) rfl (l' := #[r_ a, i_ 1, r_ d, i_ 0, i_ 4, i_ 0, i_ c0]) rfl ?_
    show Steps p.tables e below (T8.setTop (mkF m 35 #[r_ a, i_ 1, r_ d, i_ 0, i_ 4, i_ 0, i_ c0] [])) _
    refine XS.iinc X8.here hx rfl (hb hby d6_35) rfl (l' := #[r_ a, i_ 1, r_ d, i_ 1, i_ 4, i_ 0, i_ c0]) rfl ?_
    show Steps p.tables e below (T8.setTop (mkF m 38 #[r_ a, i_ 1, r_ d, i_ 1, i_ 4, i_ 0, i_ c0] [])) _
    refine XS.iinc X8.here hx rfl (hb hby d6_38) rfl (l' := #[r_ a, i_ 1, r_ d, i_ 1, i_ 4, i_ 1, i_ c0]) rfl ?_
    show Steps p.tables e below (T8.setTop (mkF m 41 #[r_ a, i_ 1, r_ d, i_ 1, i_ 4, i_ 1, i_ c0] [])) _
    refine gt_ X8 hx hby d6_41 (pc := 41) (pc' := 3) (by decide) ?_
    refine il_ X8 hx hby d6_3 rfl ?_
    refine il_ X8 hx hby d6_5 rfl ?_
    exact k_)
  have P16 := oS (T8.setTop (mkF m 12 #[r_ a, i_ 1, r_ d, i_ 1, i_ 4, i_ 1, i_ c0] [(.int 1), (.ref a)])) P15 (by
    intro _ k_
    refine XS.icmpNo X8.here hx rfl (hb hby d6_7) rfl (tlt (by decide : (1 : Int32) < (4 : Int32))).2.1 ?_
    refine aN_ X8 hx hby d6_10 rfl rfl ?_
    refine iN_ X8 hx hby d6_11 rfl ?_
    exact k_)
  obtain ⟨cl17, Ar17, q17, S17, M17, H17, G17⟩ := id f10
  have hin17 := inb_of S17 (by decide : ¬ (1 : Int32) < 0 ∧ (1 : Int32) < (4 : Int32))
  have hat17 := Has.at H17 hin17 (v := .int c1) rfl
  have P18 := oS (T8.setTop (mkF m 13 #[r_ a, i_ 1, r_ d, i_ 1, i_ 4, i_ 1, i_ c0] [(.int c1)])) P16 (by
    intro _ k_
    refine X8.caload hx (j := (1 : Int32)) (v := (.int c1)) (by rw [e8]; exact Ar17.1) (State.isArrayOf_alike hZ.alike Ar17.2.1) Ar17.2.2 hin17 hat17 (g := (mkF m 12 #[r_ a, i_ 1, r_ d, i_ 1, i_ 4, i_ 1, i_ c0] [(.int 1), (.ref a)])) rfl rfl (hb hby d6_12) _ ?_
    exact k_)
  have P19 := oS (T8.setTop (mkF m 20 #[r_ a, i_ 1, r_ d, i_ 1, i_ 4, i_ 1, i_ c1] [(.int 255), (.int c1)])) P18 (by
    intro _ k_
    refine is_ X8 hx hby d6_13 (l' := #[r_ a, i_ 1, r_ d, i_ 1, i_ 4, i_ 1, i_ c1]) rfl ?_
    refine il_ X8 hx hby d6_15 rfl ?_
    refine XS.sipush X8.here hx rfl (hb hby d6_17) ?_
    exact k_)
  have P20 := oS (T8.setTop (mkF m 31 #[r_ a, i_ 1, r_ d, i_ 1, i_ 4, i_ 1, i_ c1] [(.int (c1.toInt8.toInt32)), (.int 1), (.ref d)])) P19 (by
    intro _ k_
    refine cY_ X8 hx hby d6_20 (pc := 20) (pc' := 26) (flt hc1).2.2.2 (by decide) ?_
    refine aN_ X8 hx hby d6_26 rfl rfl ?_
    refine iN_ X8 hx hby d6_27 rfl ?_
    refine il_ X8 hx hby d6_28 rfl ?_
    refine XS.i2b X8.here hx rfl (hb hby d6_30) rfl ?_
    exact k_)
  obtain ⟨cl21, Ar21, q21, S21, M21, H21, G21⟩ := id V8
  obtain ⟨T22, h22, X22, e22, W22, st22⟩ := stB X8 hx hZ e8 Ar21 (j := (1 : Int32)) (inb_of S21 (by decide : ¬ (1 : Int32) < 0 ∧ (1 : Int32) < (4 : Int32))) (g := (mkF m 31 #[r_ a, i_ 1, r_ d, i_ 1, i_ 4, i_ 1, i_ c1] [(.int (c1.toInt8.toInt32)), (.int 1), (.ref d)])) rfl rfl (hb hby d6_31)
  have f24 := f10.other W22 nad
  have f26 := f12.wr W22 (Or.inl (List.mem_of_getElem? (i := 0) rfl))
  have V22 : Arv Z h22 d kd .byte (4 : Int32) [(.int (c0.toInt8.toInt32).toInt8.toInt32), (.int (c1.toInt8.toInt32).toInt8.toInt32), (.int 0), (.int 0)] (.int 0) := Arv.set Ar21 q21 S21 M21 H21 G21 (fits_nar_byte _) W22 1 rfl (Nat.le_of_ble_eq_true rfl)
  have N22 := Fr.snoc X22 N8 gd
  have P28 := oS (T22.setTop (mkF m 32 #[r_ a, i_ 1, r_ d, i_ 1, i_ 4, i_ 1, i_ c1] [])) P20 (fun t_ k_ => st22 t_ k_)
  have P29 := oS (T22.setTop (mkF m 7 #[r_ a, i_ 2, r_ d, i_ 2, i_ 4, i_ 2, i_ c1] [(.int 4), (.int 2)])) P28 (by
    intro _ k_
    refine XS.iinc X22.here hx rfl (hb hby d6_32) rfl (l' := #[r_ a, i_ 2, r_ d, i_ 1, i_ 4, i_ 1, i_ c1]) rfl ?_
    show Steps p.tables e below (T22.setTop (mkF m 35 #[r_ a, i_ 2, r_ d, i_ 1, i_ 4, i_ 1, i_ c1] [])) _
    refine XS.iinc X22.here hx rfl (hb hby d6_35) rfl (l' := #[r_ a, i_ 2, r_ d, i_ 2, i_ 4, i_ 1, i_ c1]) rfl ?_
    show Steps p.tables e below (T22.setTop (mkF m 38 #[r_ a, i_ 2, r_ d, i_ 2, i_ 4, i_ 1, i_ c1] [])) _
    refine XS.iinc X22.here hx rfl (hb hby d6_38) rfl (l' := #[r_ a, i_ 2, r_ d, i_ 2, i_ 4, i_ 2, i_ c1]) rfl ?_
    show Steps p.tables e below (T22.setTop (mkF m 41 #[r_ a, i_ 2, r_ d, i_ 2, i_ 4, i_ 2, i_ c1] [])) _
    refine gt_ X22 hx hby d6_41 (pc := 41) (pc' := 3) (by decide) ?_
    refine il_ X22 hx hby d6_3 rfl ?_
    refine il_ X22 hx hby d6_5 rfl ?_
    exact k_)
  have P30 := oS (T22.setTop (mkF m 12 #[r_ a, i_ 2, r_ d, i_ 2, i_ 4, i_ 2, i_ c1] [(.int 2), (.ref a)])) P29 (by
    intro _ k_
    refine XS.icmpNo X22.here hx rfl (hb hby d6_7) rfl (tlt (by decide : (2 : Int32) < (4 : Int32))).2.1 ?_
    refine aN_ X22 hx hby d6_10 rfl rfl ?_
    refine iN_ X22 hx hby d6_11 rfl ?_
    exact k_)
  obtain ⟨cl31, Ar31, q31, S31, M31, H31, G31⟩ := id f24
  have hin31 := inb_of S31 (by decide : ¬ (2 : Int32) < 0 ∧ (2 : Int32) < (4 : Int32))
  have hat31 := Has.at H31 hin31 (v := .int c2) rfl
  have P32 := oS (T22.setTop (mkF m 13 #[r_ a, i_ 2, r_ d, i_ 2, i_ 4, i_ 2, i_ c1] [(.int c2)])) P30 (by
    intro _ k_
    refine X22.caload hx (j := (2 : Int32)) (v := (.int c2)) (by rw [e22]; exact Ar31.1) (State.isArrayOf_alike hZ.alike Ar31.2.1) Ar31.2.2 hin31 hat31 (g := (mkF m 12 #[r_ a, i_ 2, r_ d, i_ 2, i_ 4, i_ 2, i_ c1] [(.int 2), (.ref a)])) rfl rfl (hb hby d6_12) _ ?_
    exact k_)
  have P33 := oS (T22.setTop (mkF m 20 #[r_ a, i_ 2, r_ d, i_ 2, i_ 4, i_ 2, i_ c2] [(.int 255), (.int c2)])) P32 (by
    intro _ k_
    refine is_ X22 hx hby d6_13 (l' := #[r_ a, i_ 2, r_ d, i_ 2, i_ 4, i_ 2, i_ c2]) rfl ?_
    refine il_ X22 hx hby d6_15 rfl ?_
    refine XS.sipush X22.here hx rfl (hb hby d6_17) ?_
    exact k_)
  have P34 := oS (T22.setTop (mkF m 31 #[r_ a, i_ 2, r_ d, i_ 2, i_ 4, i_ 2, i_ c2] [(.int (c2.toInt8.toInt32)), (.int 2), (.ref d)])) P33 (by
    intro _ k_
    refine cY_ X22 hx hby d6_20 (pc := 20) (pc' := 26) (flt hc2).2.2.2 (by decide) ?_
    refine aN_ X22 hx hby d6_26 rfl rfl ?_
    refine iN_ X22 hx hby d6_27 rfl ?_
    refine il_ X22 hx hby d6_28 rfl ?_
    refine XS.i2b X22.here hx rfl (hb hby d6_30) rfl ?_
    exact k_)
  obtain ⟨cl35, Ar35, q35, S35, M35, H35, G35⟩ := id V22
  obtain ⟨T36, h36, X36, e36, W36, st36⟩ := stB X22 hx hZ e22 Ar35 (j := (2 : Int32)) (inb_of S35 (by decide : ¬ (2 : Int32) < 0 ∧ (2 : Int32) < (4 : Int32))) (g := (mkF m 31 #[r_ a, i_ 2, r_ d, i_ 2, i_ 4, i_ 2, i_ c2] [(.int (c2.toInt8.toInt32)), (.int 2), (.ref d)])) rfl rfl (hb hby d6_31)
  have f38 := f24.other W36 nad
  have f40 := f26.wr W36 (Or.inl (List.mem_of_getElem? (i := 0) rfl))
  have V36 : Arv Z h36 d kd .byte (4 : Int32) [(.int (c0.toInt8.toInt32).toInt8.toInt32), (.int (c1.toInt8.toInt32).toInt8.toInt32), (.int (c2.toInt8.toInt32).toInt8.toInt32), (.int 0)] (.int 0) := Arv.set Ar35 q35 S35 M35 H35 G35 (fits_nar_byte _) W36 2 rfl (Nat.le_of_ble_eq_true rfl)
  have N36 := Fr.snoc X36 N22 gd
  have P42 := oS (T36.setTop (mkF m 32 #[r_ a, i_ 2, r_ d, i_ 2, i_ 4, i_ 2, i_ c2] [])) P34 (fun t_ k_ => st36 t_ k_)
  have P43 := oS (T36.setTop (mkF m 7 #[r_ a, i_ 3, r_ d, i_ 3, i_ 4, i_ 3, i_ c2] [(.int 4), (.int 3)])) P42 (by
    intro _ k_
    refine XS.iinc X36.here hx rfl (hb hby d6_32) rfl (l' := #[r_ a, i_ 3, r_ d, i_ 2, i_ 4, i_ 2, i_ c2]) rfl ?_
    show Steps p.tables e below (T36.setTop (mkF m 35 #[r_ a, i_ 3, r_ d, i_ 2, i_ 4, i_ 2, i_ c2] [])) _
    refine XS.iinc X36.here hx rfl (hb hby d6_35) rfl (l' := #[r_ a, i_ 3, r_ d, i_ 3, i_ 4, i_ 2, i_ c2]) rfl ?_
    show Steps p.tables e below (T36.setTop (mkF m 38 #[r_ a, i_ 3, r_ d, i_ 3, i_ 4, i_ 2, i_ c2] [])) _
    refine XS.iinc X36.here hx rfl (hb hby d6_38) rfl (l' := #[r_ a, i_ 3, r_ d, i_ 3, i_ 4, i_ 3, i_ c2]) rfl ?_
    show Steps p.tables e below (T36.setTop (mkF m 41 #[r_ a, i_ 3, r_ d, i_ 3, i_ 4, i_ 3, i_ c2] [])) _
    refine gt_ X36 hx hby d6_41 (pc := 41) (pc' := 3) (by decide) ?_
    refine il_ X36 hx hby d6_3 rfl ?_
    refine il_ X36 hx hby d6_5 rfl ?_
    exact k_)
  have P44 := oS (T36.setTop (mkF m 12 #[r_ a, i_ 3, r_ d, i_ 3, i_ 4, i_ 3, i_ c2] [(.int 3), (.ref a)])) P43 (by
    intro _ k_
    refine XS.icmpNo X36.here hx rfl (hb hby d6_7) rfl (tlt (by decide : (3 : Int32) < (4 : Int32))).2.1 ?_
    refine aN_ X36 hx hby d6_10 rfl rfl ?_
    refine iN_ X36 hx hby d6_11 rfl ?_
    exact k_)
  obtain ⟨cl45, Ar45, q45, S45, M45, H45, G45⟩ := id f38
  have hin45 := inb_of S45 (by decide : ¬ (3 : Int32) < 0 ∧ (3 : Int32) < (4 : Int32))
  have hat45 := Has.at H45 hin45 (v := .int c3) rfl
  have P46 := oS (T36.setTop (mkF m 13 #[r_ a, i_ 3, r_ d, i_ 3, i_ 4, i_ 3, i_ c2] [(.int c3)])) P44 (by
    intro _ k_
    refine X36.caload hx (j := (3 : Int32)) (v := (.int c3)) (by rw [e36]; exact Ar45.1) (State.isArrayOf_alike hZ.alike Ar45.2.1) Ar45.2.2 hin45 hat45 (g := (mkF m 12 #[r_ a, i_ 3, r_ d, i_ 3, i_ 4, i_ 3, i_ c2] [(.int 3), (.ref a)])) rfl rfl (hb hby d6_12) _ ?_
    exact k_)
  have P47 := oS (T36.setTop (mkF m 20 #[r_ a, i_ 3, r_ d, i_ 3, i_ 4, i_ 3, i_ c3] [(.int 255), (.int c3)])) P46 (by
    intro _ k_
    refine is_ X36 hx hby d6_13 (l' := #[r_ a, i_ 3, r_ d, i_ 3, i_ 4, i_ 3, i_ c3]) rfl ?_
    refine il_ X36 hx hby d6_15 rfl ?_
    refine XS.sipush X36.here hx rfl (hb hby d6_17) ?_
    exact k_)
  have P48 := oS (T36.setTop (mkF m 31 #[r_ a, i_ 3, r_ d, i_ 3, i_ 4, i_ 3, i_ c3] [(.int (c3.toInt8.toInt32)), (.int 3), (.ref d)])) P47 (by
    intro _ k_
    refine cY_ X36 hx hby d6_20 (pc := 20) (pc' := 26) (flt hc3).2.2.2 (by decide) ?_
    refine aN_ X36 hx hby d6_26 rfl rfl ?_
    refine iN_ X36 hx hby d6_27 rfl ?_
    refine il_ X36 hx hby d6_28 rfl ?_
    refine XS.i2b X36.here hx rfl (hb hby d6_30) rfl ?_
    exact k_)
  obtain ⟨cl49, Ar49, q49, S49, M49, H49, G49⟩ := id V36
  obtain ⟨T50, h50, X50, e50, W50, st50⟩ := stB X36 hx hZ e36 Ar49 (j := (3 : Int32)) (inb_of S49 (by decide : ¬ (3 : Int32) < 0 ∧ (3 : Int32) < (4 : Int32))) (g := (mkF m 31 #[r_ a, i_ 3, r_ d, i_ 3, i_ 4, i_ 3, i_ c3] [(.int (c3.toInt8.toInt32)), (.int 3), (.ref d)])) rfl rfl (hb hby d6_31)
  have f54 := f40.wr W50 (Or.inl (List.mem_of_getElem? (i := 0) rfl))
  have V50 : Arv Z h50 d kd .byte (4 : Int32) [(.int (c0.toInt8.toInt32).toInt8.toInt32), (.int (c1.toInt8.toInt32).toInt8.toInt32), (.int (c2.toInt8.toInt32).toInt8.toInt32), (.int (c3.toInt8.toInt32).toInt8.toInt32)] (.int 0) := Arv.set Ar49 q49 S49 M49 H49 G49 (fits_nar_byte _) W50 3 rfl (Nat.le_of_ble_eq_true rfl)
  have N50 := Fr.snoc X50 N36 gd
  have P56 := oS (T50.setTop (mkF m 32 #[r_ a, i_ 3, r_ d, i_ 3, i_ 4, i_ 3, i_ c3] [])) P48 (fun t_ k_ => st50 t_ k_)
  have P57 := oS (T50.setTop (mkF m 7 #[r_ a, i_ 4, r_ d, i_ 4, i_ 4, i_ 4, i_ c3] [(.int 4), (.int 4)])) P56 (by
    intro _ k_
    refine XS.iinc X50.here hx rfl (hb hby d6_32) rfl (l' := #[r_ a, i_ 4, r_ d, i_ 3, i_ 4, i_ 3, i_ c3]) rfl ?_
    show Steps p.tables e below (T50.setTop (mkF m 35 #[r_ a, i_ 4, r_ d, i_ 3, i_ 4, i_ 3, i_ c3] [])) _
    refine XS.iinc X50.here hx rfl (hb hby d6_35) rfl (l' := #[r_ a, i_ 4, r_ d, i_ 4, i_ 4, i_ 3, i_ c3]) rfl ?_
    show Steps p.tables e below (T50.setTop (mkF m 38 #[r_ a, i_ 4, r_ d, i_ 4, i_ 4, i_ 3, i_ c3] [])) _
    refine XS.iinc X50.here hx rfl (hb hby d6_38) rfl (l' := #[r_ a, i_ 4, r_ d, i_ 4, i_ 4, i_ 4, i_ c3]) rfl ?_
    show Steps p.tables e below (T50.setTop (mkF m 41 #[r_ a, i_ 4, r_ d, i_ 4, i_ 4, i_ 4, i_ c3] [])) _
    refine gt_ X50 hx hby d6_41 (pc := 41) (pc' := 3) (by decide) ?_
    refine il_ X50 hx hby d6_3 rfl ?_
    refine il_ X50 hx hby d6_5 rfl ?_
    exact k_)
  have P58 := oS (T50.setTop (mkF m 46 #[r_ a, i_ 4, r_ d, i_ 4, i_ 4, i_ 4, i_ c3] [(.int 4)])) P57 (by
    intro _ k_
    refine cY_ X50 hx hby d6_7 (pc := 7) (pc' := 44) (flt (by decide : ¬ ((4 : Int32) < (4 : Int32)))).2.1 (by decide) ?_
    refine il_ X50 hx hby d6_44 rfl ?_
    exact k_)
  exact own_out X50 hlk (v := some (.int 4)) (own_hv hrt) P58 (fun _ q_ => retI X50 hx hrt (hb hby d6_46) q_) e50 ⟨rfl, N50, f54, V50⟩ (by decide)
def Q_comp_4 (Z : State) (a : Addr) (ka : ClassId) (c0 : Int32) (c1 : Int32) (c2 : Int32) (c3 : Int32) (h0 : Heap) (n0 : Nat) (v_ : Option Value) (h : Heap) (L_ : List Loc) : Prop := ∃ (x : Addr) (kk : ClassId), v_ = some (.ref x) ∧ Fr n0 L_ ∧ Keep h0 h [] ∧ h0.size ≤ x ∧ Arv Z h x kk .byte (4 : Int32) [(.int (c0.toInt8.toInt32).toInt8.toInt32), (.int (c1.toInt8.toInt32).toInt8.toInt32), (.int (c2.toInt8.toInt32).toInt8.toInt32), (.int (c3.toInt8.toInt32).toInt8.toInt32)] (.int 0) ∧ Exa Z h x "[B"
set_option maxRecDepth 65536 in
set_option maxHeartbeats 40000000 in
theorem rm_comp_4 (l : Launch) (Z : State) (a0 : Array Value) (hw : ∀ d ∈ tables_1, d.before a0 Z = true) (ws : List Jvm.Cond) (a : Addr) (ka : ClassId) (c0 : Int32) (c1 : Int32) (c2 : Int32) (c3 : Int32) (h0 : Heap) (n0 : Nat) (Z0 : n0 ≤ h0.size) (O : Old Z n0 h0) (Va : Arv Z h0 a ka .char (4 : Int32) [(.int c0), (.int c1), (.int c2), (.int c3)] (.int 0)) (hc0 : ¬ ((255 : Int32) < c0)) (hc1 : ¬ ((255 : Int32) < c1)) (hc2 : ¬ ((255 : Int32) < c2)) (hc3 : ¬ ((255 : Int32) < c3)) :
    own_MF l yM5 (.code yM5 cB5 6 (some (.array .byte))) ws ⟨1, 1, 4, 18⟩ #[(.ref a), (.int 0), (.int 4)] Z h0 own_T (Q_comp_4 Z a ka c0 c1 c2 c3 h0 n0) := by
  refine own_in "java/lang/StringUTF16" rfl (plainFor_of_name pn1) hisR (fun m => ef5RII m a (0 : Int32) (4 : Int32)) ?_
  intro p e s m below meth c s₁ A_ hx hby hml hown hnm hrt hlk hZ _ X0 e0 pre0
  have N0 := Fr.nil n0
  have P1 := oS (s₁.setTop (mkF m 1 #[r_ a, i_ 0, i_ 4, u_, u_, u_] [(.int 4)])) pre0 (by
    intro _ k_
    refine iN_ X0 hx hby d5_0 rfl ?_
    exact k_)
  obtain ⟨T2, h2, k2, X2, e2, E2, A2, EA2, st2⟩ := newPE X0 hx hZ (own_w hw 23 rfl) e0 (g := (mkF m 1 #[r_ a, i_ 0, i_ 4, u_, u_, u_] [(.int 4)])) rfl (hb hby d5_1) rfl (by decide) (cap := 4) (by decide) (by decide) (by decide) (by decide) (ad := "[B") (by decide +kernel)
  obtain ⟨b2, g2⟩ : ∃ z, z = h0.size := ⟨_, rfl⟩
  rw [← g2] at A2 EA2 st2
  have ne_a_b2 : a ≠ b2 := Nat.ne_of_lt (Nat.lt_of_lt_of_le Va.lt (Nat.le_of_eq g2.symm))
  have g_b2 : n0 ≤ b2 := Nat.le_trans Z0 (Nat.le_of_eq g2.symm)
  have sz_b2 : h0.size ≤ b2 := Nat.le_trans (Keep.refl h0 []).1 (Nat.le_of_eq g2.symm)
  have f3 := O.ext E2
  have f4 := (Keep.refl h0 []).ext E2
  have f5 := Va.ext E2
  have Z6 : n0 ≤ h2.size := Nat.le_trans Z0 E2.1
  have V2 : Arv Z h2 b2 k2 .byte (4 : Int32) [(.int 0), (.int 0), (.int 0), (.int 0)] (.int 0) := (Arv.new A2 (by decide)).pad (pad_rep [] _ 4)
  have P7 := oS (T2.setTop (mkF m 3 #[r_ a, i_ 0, i_ 4, u_, u_, u_] [(.ref b2)])) P1 (fun t_ k_ => st2 t_ k_)
  have P8 := oS (T2.setTop (mkF m 9 #[r_ a, i_ 0, i_ 4, r_ b2, u_, u_] [(.int 4), (.int 0), (.ref b2), (.int 0), (.ref a)])) P7 (by
    intro _ k_
    refine XS.astoreN X2.here hx rfl (hb hby d5_3) rfl rfl (l' := #[r_ a, i_ 0, i_ 4, r_ b2, u_, u_]) rfl ?_
    refine aN_ X2 hx hby d5_4 rfl rfl ?_
    refine iN_ X2 hx hby d5_5 rfl ?_
    refine aN_ X2 hx hby d5_6 rfl rfl ?_
    refine XS.iconst X2.here hx rfl (hb hby d5_7) ?_
    refine iN_ X2 hx hby d5_8 rfl ?_
    exact k_)
  obtain ⟨_, T9, L9, X9, hQ9, P9c⟩ := own_cS (W := 0) (rm_comp2_4 l Z a0 hw [] a ka b2 k2 c0 c1 c2 c3 h2 n0 Z6 f3 f5 V2 ne_a_b2 g_b2 hc0 hc1 hc2 hc3) X2 hx hZ (fun _ _ => trivial) hown (own_w hw 24 rfl) (own_w hw 25 rfl) (own_w hw 21 rfl) (own_w hw 26 rfl) (by decide) P8 hml rfl [(.ref a), (.int 0), (.ref b2), (.int 0), (.int 4)] [] rfl rfl rfl pd0 rfl (hb hby d5_9) e2 (by decide)
  obtain ⟨rfl, N9q, K9, f10⟩ := hQ9
  have N9 := Fr.app N0 N9q
  have f12 := f4.trans K9 (allS (Or.inr sz_b2) all0)
  have f15 := EA2.keep K9
  have P17 := own_to (C := T9.setTop (mkF m 12 #[r_ a, i_ 0, i_ 4, r_ b2, u_, u_] [(.int 4)])) P9c
  have P18 := oS (T9.setTop (mkF m 17 #[r_ a, i_ 0, i_ 4, r_ b2, i_ 4, u_] [(.int 4), (.int 4)])) P17 (by
    intro _ k_
    refine is_ X9 hx hby d5_12 (l' := #[r_ a, i_ 0, i_ 4, r_ b2, i_ 4, u_]) rfl ?_
    refine il_ X9 hx hby d5_14 rfl ?_
    refine iN_ X9 hx hby d5_16 rfl ?_
    exact k_)
  have P19 := oS (T9.setTop (mkF m 58 #[r_ a, i_ 0, i_ 4, r_ b2, i_ 4, u_] [(.ref b2)])) P18 (by
    intro _ k_
    refine cY_ X9 hx hby d5_17 (pc := 17) (pc' := 57) (teq (by decide : (4 : Int32) = (4 : Int32))).1 (by decide) ?_
    refine aN_ X9 hx hby d5_57 rfl rfl ?_
    exact k_)
  exact own_out X9 hlk (v := some (.ref b2)) (own_hv hrt) P19 (fun _ q_ => retOut X9 hx hrt rfl (Or.inr (Or.inr (Or.inr (Or.inr ⟨rfl, rfl, rfl⟩)))) (hb hby d5_58) q_) (rfl : T9.heap = _) ⟨b2, k2, rfl, N9, f12, sz_b2, f10, f15⟩ (by decide)
def Q_initV_4 (Z : State) (a : Addr) (ca : Addr) (ka : ClassId) (c0 : Int32) (c1 : Int32) (c2 : Int32) (c3 : Int32) (cs : Int32) (h0 : Heap) (n0 : Nat) (v_ : Option Value) (h : Heap) (L_ : List Loc) : Prop := ∃ (x : Addr) (kk : ClassId), v_ = none ∧ Fr n0 L_ ∧ Keep h0 h [a] ∧ Exa Z h a "java/lang/String" ∧ Fld Z h a "java/lang/String" "coder" "B" (.int 0) ∧ Fld Z h a "java/lang/String" "value" "[B" (.ref x) ∧ Arv Z h x kk .byte (4 : Int32) [(.int (c0.toInt8.toInt32).toInt8.toInt32), (.int (c1.toInt8.toInt32).toInt8.toInt32), (.int (c2.toInt8.toInt32).toInt8.toInt32), (.int (c3.toInt8.toInt32).toInt8.toInt32)] (.int 0) ∧ h0.size ≤ x ∧ Exa Z h x "[B"
set_option maxRecDepth 65536 in
set_option maxHeartbeats 40000000 in
theorem rm_initV_4 (l : Launch) (Z : State) (a0 : Array Value) (hw : ∀ d ∈ tables_1, d.before a0 Z = true) (ws : List Jvm.Cond) (a : Addr) (ca : Addr) (ka : ClassId) (c0 : Int32) (c1 : Int32) (c2 : Int32) (c3 : Int32) (cs : Int32) (h0 : Heap) (n0 : Nat) (Z0 : n0 ≤ h0.size) (O : Old Z n0 h0) (Scs : Sta Z Z.heap "java/lang/String" "COMPACT_STRINGS" "Z" (.int cs)) (hcs : ¬ (cs = (0 : Int32))) (Ea : Exa Z h0 a "java/lang/String") (Fv : Fld Z h0 a "java/lang/String" "value" "[B" .null) (Fc : Fld Z h0 a "java/lang/String" "coder" "B" (.int 0)) (ga : n0 ≤ a) (Vs : Arv Z h0 ca ka .char (4 : Int32) [(.int c0), (.int c1), (.int c2), (.int c3)] (.int 0)) (hc0 : ¬ ((255 : Int32) < c0)) (hc1 : ¬ ((255 : Int32) < c1)) (hc2 : ¬ ((255 : Int32) < c2)) (hc3 : ¬ ((255 : Int32) < c3)) :
    own_MF l yM3 (.code yM3 cB3 6 none) ws ⟨2, 1, 4, 35⟩ #[(.ref a), (.ref ca), (.int 0), (.int 4), .null] Z h0 own_T (Q_initV_4 Z a ca ka c0 c1 c2 c3 cs h0 n0) := by
  refine own_in "java/lang/String" rfl (plainFor_of_name pn2) hisR (fun m => ef3RRIIn m a ca (0 : Int32) (4 : Int32)) ?_
  intro p e s m below meth c s₁ A_ hx hby hml hown hnm hrt hlk hZ _ X0 e0 pre0
  have N0 := Fr.nil n0
  obtain ⟨clV, ArV, -⟩ := id Vs
  have P1 := oS (s₁.setTop (mkF m 1 #[r_ a, r_ ca, i_ 0, i_ 4, .val .null, u_] [(.ref a)])) pre0 (by
    intro _ k_
    refine aN_ X0 hx hby d3_0 rfl rfl ?_
    exact k_)
  obtain ⟨T2, X2, e2, st2⟩ := initO X0 hx hZ hown (own_w hw 15 rfl) (own_w hw 16 rfl) (own_w hw 17 rfl) e0 (g := (mkF m 1 #[r_ a, r_ ca, i_ 0, i_ 4, .val .null, u_] [(.ref a)])) rfl (by rw [hml]; rfl) rfl (hb hby d3_1) (by decide) (W := 0) (by show 2 * 0 + _ ≤ _; exact Nat.le_of_eq rfl) (by decide)
  have P3 := oS (T2.setTop (mkF m 4 #[r_ a, r_ ca, i_ 0, i_ 4, .val .null, u_] [])) P1 (fun t_ k_ => st2 t_ k_)
  have P4 := oS (T2.setTop (mkF m 5 #[r_ a, r_ ca, i_ 0, i_ 4, .val .null, u_] [(.int 4)])) P3 (by
    intro _ k_
    refine iN_ X2 hx hby d3_4 rfl ?_
    exact k_)
  have P5 := oS (T2.setTop (mkF m 27 #[r_ a, r_ ca, i_ 0, i_ 4, .val .null, u_] [])) P4 (by
    intro _ k_
    refine fY_ X2 hx hby d3_5 (pc := 5) (pc' := 27) ((if0 _ _).trans (feq (by decide : ¬ ((4 : Int32) = (0 : Int32)))).2) (by decide) ?_
    exact k_)
  obtain ⟨T6, X6, e6, st6⟩ := getS2 X2 hx hZ hown (host := "") (Or.inl (own_w hw 18 rfl)) Via.refl e2 (Scs.ext O.2) (g := (mkF m 27 #[r_ a, r_ ca, i_ 0, i_ 4, .val .null, u_] [])) rfl (hb hby d3_27)
  have P7 := oS (T6.setTop (mkF m 30 #[r_ a, r_ ca, i_ 0, i_ 4, .val .null, u_] [(.int cs)])) P5 (fun t_ k_ => st6 t_ k_)
  have P8 := oS (T6.setTop (mkF m 36 #[r_ a, r_ ca, i_ 0, i_ 4, .val .null, u_] [(.int 4), (.int 0), (.ref ca)])) P7 (by
    intro _ k_
    refine XS.ifNo X6.here hx rfl (hb hby d3_30) rfl ((if0 _ _).trans (feq hcs).1) ?_
    refine aN_ X6 hx hby d3_33 rfl rfl ?_
    refine iN_ X6 hx hby d3_34 rfl ?_
    refine iN_ X6 hx hby d3_35 rfl ?_
    exact k_)
  obtain ⟨_, T9, L9, X9, hQ9, P9c⟩ := own_cS (W := 0) (rm_comp_4 l Z a0 hw [] ca ka c0 c1 c2 c3 h0 n0 Z0 O Vs hc0 hc1 hc2 hc3) X6 hx hZ (fun _ _ => trivial) hown (own_w hw 19 rfl) (own_w hw 20 rfl) (own_w hw 21 rfl) (own_w hw 22 rfl) (by decide) P8 hml rfl [(.ref ca), (.int 0), (.int 4)] [] rfl rfl rfl pd1 rfl (hb hby d3_36) e6 (by decide)
  obtain ⟨x9, kk9, rfl, N9q, K9, f10, f11, f12⟩ := hQ9
  have N9 := Fr.app N0 N9q
  have ne_a_x9 : a ≠ x9 := Nat.ne_of_lt (Nat.lt_of_lt_of_le Ea.lt f10)
  have sz_x9 : h0.size ≤ x9 := Nat.le_trans (Keep.refl h0 [a]).1 f10
  have f14 := Ea.keep K9
  have f15 := Fc.keep K9 nin0
  have f16 := Fv.keep K9 nin0
  have f17 := (Keep.refl h0 [a]).trans K9 all0
  have Z19 : n0 ≤ T9.heap.size := Nat.le_trans Z0 K9.1
  have P20 := own_to (C := T9.setTop (mkF m 39 #[r_ a, r_ ca, i_ 0, i_ 4, .val .null, u_] [(.ref x9)])) P9c
  have P21 := oS (T9.setTop (mkF m 45 #[r_ a, r_ ca, i_ 0, i_ 4, .val .null, r_ x9] [(.int 4), (.ref x9), (.ref a)])) P20 (by
    intro _ k_
    refine XS.astore X9.here hx rfl (hb hby d3_39) rfl rfl (l' := #[r_ a, r_ ca, i_ 0, i_ 4, .val .null, r_ x9]) rfl ?_
    refine aN_ X9 hx hby d3_41 rfl rfl ?_
    refine a_ X9 hx hby d3_42 rfl rfl ?_
    refine iN_ X9 hx hby d3_44 rfl ?_
    exact k_)
  obtain ⟨_, T22, L22, X22, hQ22, P22c⟩ := own_cS (W := 1) (rm_cfa l Z a0 hw [] x9 kk9 (4 : Int32) _ (4 : Int32) (0 : Int32) T9.heap n0 Z19 f11 (by decide +kernel)) X9 hx hZ (fun _ _ => trivial) hown (own_w hw 27 rfl) (own_w hw 28 rfl) (own_w hw 21 rfl) (own_w hw 29 rfl) (by decide) P21 hml rfl [(.ref x9), (.int 4)] [(.ref a)] rfl rfl rfl pd2 rfl (hb hby d3_45) (rfl : T9.heap = _) (by decide)
  obtain ⟨rfl, N22q, e22⟩ := hQ22
  have N22 := Fr.app N9 N22q
  have P23 := own_to (C := T22.setTop (mkF m 48 #[r_ a, r_ ca, i_ 0, i_ 4, .val .null, r_ x9] [(.int 0), (.ref a)])) P22c
  obtain ⟨T24, h24, X24, e24, W24, st24⟩ := putFN X22 hx hZ hown (own_w hw 30 rfl) Via.refl e22 f15 f14 (Or.inr ⟨(own_w hw 31 rfl), rfl, hnm⟩) (own_w hw 6 rfl) (ty := .byte) (v' := (.int (0 : Int32).toInt8.toInt32)) (by decide) rfl (fits_nar_byte _) (g := (mkF m 48 #[r_ a, r_ ca, i_ 0, i_ 4, .val .null, r_ x9] [(.int 0), (.ref a)])) rfl rfl (hb hby d3_48)
  have f26 := f14.wr W24
  have f27 := f15.same W24
  have f28 := f16.other W24 (Or.inr (slot_ne (Or.inr (own_w hw 33 rfl)) (Or.inr (own_w hw 31 rfl)) (by decide) (t := (.array .byte)) (t' := .byte) (by decide) (by decide)))
  have f29 := f17.wr W24 (Or.inl (List.mem_of_getElem? (i := 0) rfl))
  have f31 := f11.other W24 (Ne.symm ne_a_x9)
  have f32 := f12.wr W24
  have N24 := Fr.snoc X24 N22 ga
  have P34 := oS (T24.setTop (mkF m 51 #[r_ a, r_ ca, i_ 0, i_ 4, .val .null, r_ x9] [])) P23 (fun t_ k_ => st24 t_ k_)
  have P35 := oS (T24.setTop (mkF m 54 #[r_ a, r_ ca, i_ 0, i_ 4, .val .null, r_ x9] [(.ref x9), (.ref a)])) P34 (by
    intro _ k_
    refine aN_ X24 hx hby d3_51 rfl rfl ?_
    refine a_ X24 hx hby d3_52 rfl rfl ?_
    exact k_)
  obtain ⟨T36, h36, X36, e36, W36, st36⟩ := putF X24 hx hZ hown (host := "") (Or.inl (own_w hw 32 rfl)) Via.refl e24 f28 f26 (Or.inr ⟨(own_w hw 33 rfl), rfl, hnm⟩) (own_w hw 6 rfl) (ty := (.array .byte)) (by decide) rfl rfl (g := (mkF m 54 #[r_ a, r_ ca, i_ 0, i_ 4, .val .null, r_ x9] [(.ref x9), (.ref a)])) rfl rfl (hb hby d3_54)
  have f38 := f26.wr W36
  have f39 := f27.other W36 (Or.inr (slot_ne (Or.inr (own_w hw 31 rfl)) (Or.inr (own_w hw 33 rfl)) (by decide) (t := .byte) (t' := (.array .byte)) (by decide) (by decide)))
  have f40 := f28.same W36
  have f41 := f29.wr W36 (Or.inl (List.mem_of_getElem? (i := 0) rfl))
  have f43 := f31.other W36 (Ne.symm ne_a_x9)
  have f44 := f32.wr W36
  have N36 := Fr.snoc X36 N24 ga
  have P46 := oS (T36.setTop (mkF m 57 #[r_ a, r_ ca, i_ 0, i_ 4, .val .null, r_ x9] [])) P35 (fun t_ k_ => st36 t_ k_)
  exact own_out X36 hlk (v := none) (fun _ => rfl) P46 (fun _ q_ => X36.returnOut hx hrt (hb hby d3_57) q_) e36 ⟨x9, kk9, rfl, N36, f41, f38, f39, f40, f43, sz_x9, f44⟩ (by decide)
def Q_initC_4 (Z : State) (a : Addr) (ca : Addr) (ka : ClassId) (c0 : Int32) (c1 : Int32) (c2 : Int32) (c3 : Int32) (cs : Int32) (h0 : Heap) (n0 : Nat) (v_ : Option Value) (h : Heap) (L_ : List Loc) : Prop := ∃ (x : Addr) (kk : ClassId), v_ = none ∧ Fr n0 L_ ∧ Keep h0 h [a] ∧ Exa Z h a "java/lang/String" ∧ Fld Z h a "java/lang/String" "coder" "B" (.int 0) ∧ Fld Z h a "java/lang/String" "value" "[B" (.ref x) ∧ Arv Z h x kk .byte (4 : Int32) [(.int (c0.toInt8.toInt32).toInt8.toInt32), (.int (c1.toInt8.toInt32).toInt8.toInt32), (.int (c2.toInt8.toInt32).toInt8.toInt32), (.int (c3.toInt8.toInt32).toInt8.toInt32)] (.int 0) ∧ h0.size ≤ x ∧ Exa Z h x "[B"
set_option maxRecDepth 65536 in
set_option maxHeartbeats 40000000 in
theorem rm_initC_4 (l : Launch) (Z : State) (a0 : Array Value) (hw : ∀ d ∈ tables_1, d.before a0 Z = true) (ws : List Jvm.Cond) (a : Addr) (ca : Addr) (ka : ClassId) (c0 : Int32) (c1 : Int32) (c2 : Int32) (c3 : Int32) (cs : Int32) (h0 : Heap) (n0 : Nat) (Z0 : n0 ≤ h0.size) (O : Old Z n0 h0) (Scs : Sta Z Z.heap "java/lang/String" "COMPACT_STRINGS" "Z" (.int cs)) (hcs : ¬ (cs = (0 : Int32))) (Ea : Exa Z h0 a "java/lang/String") (Fv : Fld Z h0 a "java/lang/String" "value" "[B" .null) (Fc : Fld Z h0 a "java/lang/String" "coder" "B" (.int 0)) (ga : n0 ≤ a) (Vs : Arv Z h0 ca ka .char (4 : Int32) [(.int c0), (.int c1), (.int c2), (.int c3)] (.int 0)) (hc0 : ¬ ((255 : Int32) < c0)) (hc1 : ¬ ((255 : Int32) < c1)) (hc2 : ¬ ((255 : Int32) < c2)) (hc3 : ¬ ((255 : Int32) < c3)) :
    own_MF l yM2 (.code yM2 cB2 2 none) ws ⟨3, 1, 4, 52⟩ #[(.ref a), (.ref ca)] Z h0 own_T (Q_initC_4 Z a ca ka c0 c1 c2 c3 cs h0 n0) := by
  refine own_in "java/lang/String" rfl (plainFor_of_name pn2) hisR (fun m => ef2RR m a ca) ?_
  intro p e s m below meth c s₁ A_ hx hby hml hown hnm hrt hlk hZ _ X0 e0 pre0
  have N0 := Fr.nil n0
  obtain ⟨clV, ArV, -⟩ := id Vs
  have P1 := oS (s₁.setTop (mkF m 4 #[r_ a, r_ ca] [(.ref ca), (.int 0), (.ref ca), (.ref a)])) pre0 (by
    intro _ k_
    refine aN_ X0 hx hby d2_0 rfl rfl ?_
    refine aN_ X0 hx hby d2_1 rfl rfl ?_
    refine XS.iconst X0.here hx rfl (hb hby d2_2) ?_
    refine aN_ X0 hx hby d2_3 rfl rfl ?_
    exact k_)
  obtain ⟨cl2, Ar2, q2, S2, M2, H2, G2⟩ := id Vs
  have P3 := oS (s₁.setTop (mkF m 5 #[r_ a, r_ ca] [(.int 4), (.int 0), (.ref ca), (.ref a)])) P1 (by
    intro _ k_
    refine X0.arraylength hx (by rw [e0]; exact Ar2.1) (State.isArrayOf_alike hZ.alike Ar2.2.1) (g := (mkF m 4 #[r_ a, r_ ca] [(.ref ca), (.int 0), (.ref ca), (.ref a)])) rfl rfl (hb hby d2_4) _ ?_
    rw [len_of S2 M2]
    exact k_)
  have P4 := oS (s₁.setTop (mkF m 6 #[r_ a, r_ ca] [.null, (.int 4), (.int 0), (.ref ca), (.ref a)])) P3 (by
    intro _ k_
    refine XS.aconstNull X0.here hx rfl (hb hby d2_5) ?_
    exact k_)
  obtain ⟨_, T5, L5, X5, hQ5, P5c⟩ := own_cI (W := 0) (rm_initV_4 l Z a0 hw [] a ca ka c0 c1 c2 c3 cs h0 n0 Z0 O Scs hcs Ea Fv Fc ga Vs hc0 hc1 hc2 hc3) X0 hx hZ (fun _ _ => trivial) hown rfl (own_w hw 11 rfl) (own_w hw 12 rfl) (own_w hw 7 rfl) (own_w hw 14 rfl) (by decide) P4 hml rfl [(.ref ca), (.int 0), (.int 4), .null] [] rfl rfl rfl pd3 rfl (hb hby d2_6) e0 (by decide)
  obtain ⟨x5, kk5, rfl, N5q, K5, f6, f7, f8, f9, f10, f11⟩ := hQ5
  have N5 := Fr.app N0 N5q
  have f16 := (Keep.refl h0 [a]).trans K5 (allS (Or.inl (List.mem_of_getElem? (i := 0) rfl)) all0)
  have P19 := own_to (C := T5.setTop (mkF m 9 #[r_ a, r_ ca] [])) P5c
  exact own_out X5 hlk (v := none) (fun _ => rfl) P19 (fun _ q_ => X5.returnOut hx hrt (hb hby d2_9) q_) (rfl : T5.heap = _) ⟨x5, kk5, rfl, N5, f16, f6, f7, f8, f9, f10, f11⟩ (by decide)
theorem own_vne {Z : State} {h : Heap} {a b : Addr} (F : Fld Z h a "java/lang/String" "value" "[B" (.ref b)) (G : Fld Z h a "java/lang/String" "value" "[B" .null) : False := Fld.ne F G (by simp) rfl
theorem d3_8 : own_d cB3 8 (.aload_n 0) 1 := by decide +kernel
theorem d3_9 : own_d cB3 9 (.ldc 7) 2 := by decide +kernel
theorem d3_11 : own_d cB3 11 (.getfield 9) 3 := by decide +kernel
theorem d3_14 : own_d cB3 14 (.putfield 9) 3 := by decide +kernel
theorem d3_17 : own_d cB3 17 (.aload_n 0) 1 := by decide +kernel
theorem d3_18 : own_d cB3 18 (.ldc 7) 2 := by decide +kernel
theorem d3_20 : own_d cB3 20 (.getfield 15) 3 := by decide +kernel
theorem d3_23 : own_d cB3 23 (.putfield 15) 3 := by decide +kernel
theorem d3_26 : own_d cB3 26 (.return_) 1 := by decide +kernel
def Q_zV0 (Z : State) (a : Addr) (ca : Addr) (cs : Int32) (la : Addr) (h0 : Heap) (n0 : Nat) (v_ : Option Value) (h : Heap) (L_ : List Loc) : Prop := ∃ (lb : Addr) (kl : ClassId), v_ = none ∧ Fr n0 L_ ∧ Keep h0 h [a] ∧ Exa Z h a "java/lang/String" ∧ Fld Z h a "java/lang/String" "coder" "B" (.int 0) ∧ Fld Z h a "java/lang/String" "value" "[B" (.ref lb) ∧ Arv Z h lb kl .byte (0 : Int32) [] (.int 0) ∧ Exa Z h lb "[B" ∧ Fld Z h la "java/lang/String" "value" "[B" (.ref lb) ∧ Fld Z h la "java/lang/String" "coder" "B" (.int 0)
set_option maxRecDepth 65536 in
set_option maxHeartbeats 40000000 in
theorem rm_zV0 (l : Launch) (Z : State) (a0 : Array Value) (hw : ∀ d ∈ tables_1, d.before a0 Z = true) (ws : List Jvm.Cond) (a : Addr) (ca : Addr) (cs : Int32) (h0 : Heap) (n0 : Nat) (Z0 : n0 ≤ h0.size) (O : Old Z n0 h0) (Scs : Sta Z Z.heap "java/lang/String" "COMPACT_STRINGS" "Z" (.int cs)) (hcs : ¬ (cs = (0 : Int32))) (hheld : Jvm.Lit.constHeld Z "java/lang/String" 7) (hcw : Jvm.Lit.compactW.before a0 Z = true) (Ea : Exa Z h0 a "java/lang/String") (Fv : Fld Z h0 a "java/lang/String" "value" "[B" .null) (Fc : Fld Z h0 a "java/lang/String" "coder" "B" (.int 0)) (ga : n0 ≤ a) :
    MetFree l (⟨"java/lang/String", "<init>", "([CIILjava/lang/Void;)V"⟩ : MethodName) (head1 (Jvm.Cond.code (⟨"java/lang/String", "<init>", "([CIILjava/lang/Void;)V"⟩ : MethodName) jdk_42_method_149_code 6 none :: ws) ({ frames := 1, cells := 2, slots := 4, locals := 12 } : Room)) (fun a_ U_ => a_ = #[(.ref a), (.ref ca), (.int 0), (.int 0), .null] ∧ Z.Warmed39 U_.vm ∧ U_.heap = h0 ∧ IB Z U_.vm []) (fun _ _ _ _ _ => True) (fun _ U_ o_ V_ => ∃ v_ L_ la, o_ = .returned v_ ∧ Q_zV0 Z a ca cs la h0 n0 v_ V_.heap L_ ∧ Lit V_ "java/lang/String" 7 la ∧ ReturnedEndW U_ o_ V_ L_ ({ frames := 1, cells := 2, slots := 4, locals := 12 } : Room).cells ({ frames := 1, cells := 2, slots := 4, locals := 12 } : Room).slots) := by
  refine MetFree.of_bodySF (plainFor_of_name pn2) hisR ?_
  intro p e s m args below meth c s₁ Bd hml0 hP hK
  obtain ⟨rfl, hZ, hh, hIB⟩ := hP
  have hx := Bd.exec
  have hby := Bd.bytes
  have hml : c.maxLocals = 6 := hml0
  have hown : s.vm.findClass "java/lang/String" = some m.cls := findClass_of_methodNamed Bd.named
  have hnm := (name_of_methodNamed Bd.named Bd.method).1
  have X0 : Stand p l e ({ frames := 1, cells := 2, slots := 4, locals := 12 } : Room) s m #[(.ref a), (.ref ca), (.int 0), (.int 0), .null] below meth c s₁ [] 0 0 := Stand.of_body Bd
  have e0 : s₁.heap = h0 := by rw [← hh, Bd.state]; rfl
  have N0 := Fr.nil n0
  have pre0 : own_Go p e below (s₁.setTop (entryFrame m #[(.ref a), (.ref ca), (.int 0), (.int 0), .null] 6)) (s₁.setTop (mkF m 0 #[r_ a, r_ ca, i_ 0, i_ 0, .val .null, u_] [])) := fun t_ k_ => castTop (ef3RRIIn m a ca (0 : Int32) (0 : Int32)) k_
  have P1 := oS (s₁.setTop (mkF m 1 #[r_ a, r_ ca, i_ 0, i_ 0, .val .null, u_] [(.ref a)])) pre0 (by
    intro _ k_
    refine aN_ X0 hx hby d3_0 rfl rfl ?_
    exact k_)
  obtain ⟨T2, X2, e2, st2⟩ := initO X0 hx hZ hown (own_w hw 15 rfl) (own_w hw 16 rfl) (own_w hw 17 rfl) e0 (g := (mkF m 1 #[r_ a, r_ ca, i_ 0, i_ 0, .val .null, u_] [(.ref a)])) rfl (by rw [hml]; rfl) rfl (hb hby d3_1) (by decide) (W := 0) (by show 2 * 0 + _ ≤ _; exact Nat.le_of_eq rfl) (by decide)
  have P3 := oS (T2.setTop (mkF m 4 #[r_ a, r_ ca, i_ 0, i_ 0, .val .null, u_] [])) P1 (fun t_ k_ => st2 t_ k_)
  have P4 := oS (T2.setTop (mkF m 5 #[r_ a, r_ ca, i_ 0, i_ 0, .val .null, u_] [(.int 0)])) P3 (by
    intro _ k_
    refine iN_ X2 hx hby d3_4 rfl ?_
    exact k_)
  have P5 := oS (T2.setTop (mkF m 9 #[r_ a, r_ ca, i_ 0, i_ 0, .val .null, u_] [(.ref a)])) P4 (by
    intro _ k_
    refine XS.ifNo X2.here hx rfl (hb hby d3_5) rfl ((if0 _ _).trans (teq (by decide : (0 : Int32) = (0 : Int32))).2) ?_
    refine aN_ X2 hx hby d3_8 rfl rfl ?_
    exact k_)
  obtain ⟨H6, EW6⟩ := own_chv hheld (own_w hw 185 rfl) (text := "") (by decide +kernel) hcw (own_w hw 23 rfl) (own_w hw 6 rfl) hIB hZ O
  obtain ⟨b6, T6, h6, k6, bv6, kc6, X6, e6, E6, S6, kz6, hZ6, hown6, A6, Fc6, Fv6, V6, -, -, C6, Lt6, -, st6⟩ := ldcCH (s := s) (vm0 := s.vm) X2 hx hZ hown (own_w hw 185 rfl) (fun d hd => hw d (own_wS d hd)) e2 ((State.WarmedH.refl s).since 0) (Nat.zero_le _) EW6 (List.mem_singleton_self _) H6 (vs := []) (z := (0 : Int32)) ⟨by decide +kernel, by rfl⟩ (by decide) rfl (g := (mkF m 9 #[r_ a, r_ ca, i_ 0, i_ 0, .val .null, u_] [(.ref a)])) rfl (hb hby d3_9) (n := 0) (by decide +kernel) (by decide) (by decide) (by decide)
  have f8 := Ea.ext E6
  have f9 := Fc.ext E6
  have f10 := Fv.ext E6
  have f11 := (Keep.refl h0 [a]).ext E6
  have EB6 := own_exB C6.1 hZ6 (own_w hw 185 rfl) Lt6 Fv6
  have P13 := oS (T6.setTop (mkF m 11 #[r_ a, r_ ca, i_ 0, i_ 0, .val .null, u_] [(.ref b6), (.ref a)])) P5 (fun t_ k_ => st6 t_ k_)
  obtain ⟨clV, ArV, -⟩ := id V6
  have ne_bv_a : bv6 ≠ a := Ne.symm (ne_arr f8 (own_w hw 6 rfl) ArV)
  have ne_x_a : b6 ≠ a := fun q => by rw [q] at Fv6; exact own_vne Fv6 f10
  obtain ⟨T14, X14, e14, st14⟩ := getF X6 hx hZ6 hown6 (host := "") (Or.inl (own_w hw 32 rfl)) Via.refl e6 Fv6 (g := (mkF m 11 #[r_ a, r_ ca, i_ 0, i_ 0, .val .null, u_] [(.ref b6), (.ref a)])) rfl rfl (hb hby d3_11)
  have P15 := oS (T14.setTop (mkF m 14 #[r_ a, r_ ca, i_ 0, i_ 0, .val .null, u_] [(.ref bv6), (.ref a)])) P13 (fun t_ k_ => st14 t_ k_)
  obtain ⟨T16, h16, X16, e16, W16, st16⟩ := putF X14 hx hZ6 hown6 (host := "") (Or.inl (own_w hw 32 rfl)) Via.refl e14 f10 f8 (Or.inr ⟨(own_w hw 33 rfl), rfl, hnm⟩) (own_w hw 6 rfl) (ty := (.array .byte)) (by decide) rfl rfl (g := (mkF m 14 #[r_ a, r_ ca, i_ 0, i_ 0, .val .null, u_] [(.ref bv6), (.ref a)])) rfl rfl (hb hby d3_14)
  have f18 := f8.wr W16
  have f19 := f9.other W16 (Or.inr (slot_ne (Or.inr (own_w hw 31 rfl)) (Or.inr (own_w hw 33 rfl)) (by decide) (t := .byte) (t' := (.array .byte)) (by decide) (by decide)))
  have f20 := f10.same W16
  have f21 := f11.wr W16 (Or.inl (List.mem_of_getElem? (i := 0) rfl))
  have f23 := Fc6.other W16 (Or.inl ne_x_a)
  have f24 := Fv6.other W16 (Or.inl ne_x_a)
  have f25 := V6.other W16 ne_bv_a
  have f26 := EB6.wr W16
  have kz28 := Nat.le_trans kz6 (Keep.of_wr W16).1
  have N16 := Fr.snoc X16 N0 ga
  have P29 := oS (T16.setTop (mkF m 17 #[r_ a, r_ ca, i_ 0, i_ 0, .val .null, u_] [])) P15 (fun t_ k_ => st16 t_ k_)
  have P30 := oS (T16.setTop (mkF m 18 #[r_ a, r_ ca, i_ 0, i_ 0, .val .null, u_] [(.ref a)])) P29 (by
    intro _ k_
    refine aN_ X16 hx hby d3_17 rfl rfl ?_
    exact k_)
  have P31 := oS (T16.setTop (mkF m 20 #[r_ a, r_ ca, i_ 0, i_ 0, .val .null, u_] [(.ref b6), (.ref a)])) P30 (by
    intro _ k_
    refine ldcAgain (s := s) (vm0 := T6.vm) X16 hx hZ6 hown6 (own_w hw 185 rfl) Lt6 (g := (mkF m 18 #[r_ a, r_ ca, i_ 0, i_ 0, .val .null, u_] [(.ref a)])) rfl (hb hby d3_18) _ ?_
    exact k_)
  obtain ⟨T32, X32, e32, st32⟩ := getF X16 hx hZ6 hown6 (host := "") (Or.inl (own_w hw 30 rfl)) Via.refl e16 f23 (g := (mkF m 20 #[r_ a, r_ ca, i_ 0, i_ 0, .val .null, u_] [(.ref b6), (.ref a)])) rfl rfl (hb hby d3_20)
  have P33 := oS (T32.setTop (mkF m 23 #[r_ a, r_ ca, i_ 0, i_ 0, .val .null, u_] [(.int 0), (.ref a)])) P31 (fun t_ k_ => st32 t_ k_)
  obtain ⟨T34, h34, X34, e34, W34, st34⟩ := putFN X32 hx hZ6 hown6 (own_w hw 30 rfl) Via.refl e32 f19 f18 (Or.inr ⟨(own_w hw 31 rfl), rfl, hnm⟩) (own_w hw 6 rfl) (ty := .byte) (v' := (.int (0 : Int32).toInt8.toInt32)) (by decide) rfl (fits_nar_byte _) (g := (mkF m 23 #[r_ a, r_ ca, i_ 0, i_ 0, .val .null, u_] [(.int 0), (.ref a)])) rfl rfl (hb hby d3_23)
  have f36 := f18.wr W34
  have f37 := f19.same W34
  have f38 := f20.other W34 (Or.inr (slot_ne (Or.inr (own_w hw 33 rfl)) (Or.inr (own_w hw 31 rfl)) (by decide) (t := (.array .byte)) (t' := .byte) (by decide) (by decide)))
  have f39 := f21.wr W34 (Or.inl (List.mem_of_getElem? (i := 0) rfl))
  have f41 := f23.other W34 (Or.inl ne_x_a)
  have f42 := f24.other W34 (Or.inl ne_x_a)
  have f43 := f25.other W34 ne_bv_a
  have f44 := f26.wr W34
  have kz46 := Nat.le_trans kz28 (Keep.of_wr W34).1
  have N34 := Fr.snoc X34 N16 ga
  have P47 := oS (T34.setTop (mkF m 26 #[r_ a, r_ ca, i_ 0, i_ 0, .val .null, u_] [])) P33 (fun t_ k_ => st34 t_ k_)
  obtain ⟨fs, hr, hrun, hended, hW⟩ := X34.leaveW S6 (by rw [e34]; exact kz46) (v := none) (fun _ => rfl)
  refine ⟨_, _, P47 _ ?_, hrun, hended, _, _, b6, rfl, ?_, own_litU Lt6 X34.warmed, ⟨hW.1, hW.2.1, hW.2.2.1, hW.2.2.2.mono (by decide) (by decide)⟩⟩
  · exact X34.returnOut hx Bd.returns (hb hby d3_26) hr
  · show Q_zV0 Z _ _ _ _ h0 n0 _ T34.heap _
    rw [e34]
    exact ⟨bv6, kc6, rfl, N34, f39, f36, f37, f38, f43, f44, f42, f41⟩
def Q_zC0 (Z : State) (a : Addr) (ca : Addr) (ka : ClassId) (cs : Int32) (la : Addr) (h0 : Heap) (n0 : Nat) (v_ : Option Value) (h : Heap) (L_ : List Loc) : Prop := ∃ (lb : Addr) (kl : ClassId), v_ = none ∧ Fr n0 L_ ∧ Keep h0 h [a] ∧ Exa Z h a "java/lang/String" ∧ Fld Z h a "java/lang/String" "coder" "B" (.int 0) ∧ Fld Z h a "java/lang/String" "value" "[B" (.ref lb) ∧ Arv Z h lb kl .byte (0 : Int32) [] (.int 0) ∧ Exa Z h lb "[B" ∧ Fld Z h la "java/lang/String" "value" "[B" (.ref lb) ∧ Fld Z h la "java/lang/String" "coder" "B" (.int 0)
set_option maxRecDepth 65536 in
set_option maxHeartbeats 40000000 in
theorem rm_zC0 (l : Launch) (Z : State) (a0 : Array Value) (hw : ∀ d ∈ tables_1, d.before a0 Z = true) (ws : List Jvm.Cond) (a : Addr) (ca : Addr) (ka : ClassId) (cs : Int32) (h0 : Heap) (n0 : Nat) (Z0 : n0 ≤ h0.size) (O : Old Z n0 h0) (Scs : Sta Z Z.heap "java/lang/String" "COMPACT_STRINGS" "Z" (.int cs)) (hcs : ¬ (cs = (0 : Int32))) (hheld : Jvm.Lit.constHeld Z "java/lang/String" 7) (hcw : Jvm.Lit.compactW.before a0 Z = true) (Ea : Exa Z h0 a "java/lang/String") (Fv : Fld Z h0 a "java/lang/String" "value" "[B" .null) (Fc : Fld Z h0 a "java/lang/String" "coder" "B" (.int 0)) (ga : n0 ≤ a) (Vs : Arv Z h0 ca ka .char (0 : Int32) [] (.int 0)) :
    MetFree l (⟨"java/lang/String", "<init>", "([C)V"⟩ : MethodName) (head1 (Jvm.Cond.code (⟨"java/lang/String", "<init>", "([C)V"⟩ : MethodName) jdk_42_method_3_code 2 none :: ws) ({ frames := 2, cells := 2, slots := 4, locals := 29 } : Room)) (fun a_ U_ => a_ = #[(.ref a), (.ref ca)] ∧ Z.Warmed39 U_.vm ∧ U_.heap = h0 ∧ IB Z U_.vm []) (fun _ _ _ _ _ => True) (fun _ U_ o_ V_ => ∃ v_ L_ la, o_ = .returned v_ ∧ Q_zC0 Z a ca ka cs la h0 n0 v_ V_.heap L_ ∧ Lit V_ "java/lang/String" 7 la ∧ ReturnedEndW U_ o_ V_ L_ ({ frames := 2, cells := 2, slots := 4, locals := 29 } : Room).cells ({ frames := 2, cells := 2, slots := 4, locals := 29 } : Room).slots) := by
  refine MetFree.of_bodySF (plainFor_of_name pn2) hisR ?_
  intro p e s m args below meth c s₁ Bd hml0 hP hK
  obtain ⟨rfl, hZ, hh, hIB⟩ := hP
  have hx := Bd.exec
  have hby := Bd.bytes
  have hml : c.maxLocals = 2 := hml0
  have hown : s.vm.findClass "java/lang/String" = some m.cls := findClass_of_methodNamed Bd.named
  have hnm := (name_of_methodNamed Bd.named Bd.method).1
  have X0 : Stand p l e ({ frames := 2, cells := 2, slots := 4, locals := 29 } : Room) s m #[(.ref a), (.ref ca)] below meth c s₁ [] 0 0 := Stand.of_body Bd
  have e0 : s₁.heap = h0 := by rw [← hh, Bd.state]; rfl
  have N0 := Fr.nil n0
  have pre0 : own_Go p e below (s₁.setTop (entryFrame m #[(.ref a), (.ref ca)] 2)) (s₁.setTop (mkF m 0 #[r_ a, r_ ca] [])) := fun t_ k_ => castTop (ef2RR m a ca) k_
  obtain ⟨clV, ArV, -⟩ := id Vs
  have P1 := oS (s₁.setTop (mkF m 4 #[r_ a, r_ ca] [(.ref ca), (.int 0), (.ref ca), (.ref a)])) pre0 (by
    intro _ k_
    refine aN_ X0 hx hby d2_0 rfl rfl ?_
    refine aN_ X0 hx hby d2_1 rfl rfl ?_
    refine XS.iconst X0.here hx rfl (hb hby d2_2) ?_
    refine aN_ X0 hx hby d2_3 rfl rfl ?_
    exact k_)
  obtain ⟨cl2, Ar2, q2, S2, M2, H2, G2⟩ := id Vs
  have P3 := oS (s₁.setTop (mkF m 5 #[r_ a, r_ ca] [(.int 0), (.int 0), (.ref ca), (.ref a)])) P1 (by
    intro _ k_
    refine X0.arraylength hx (by rw [e0]; exact Ar2.1) (State.isArrayOf_alike hZ.alike Ar2.2.1) (g := (mkF m 4 #[r_ a, r_ ca] [(.ref ca), (.int 0), (.ref ca), (.ref a)])) rfl rfl (hb hby d2_4) _ ?_
    rw [len_of S2 M2]
    exact k_)
  have P4 := oS (s₁.setTop (mkF m 6 #[r_ a, r_ ca] [.null, (.int 0), (.int 0), (.ref ca), (.ref a)])) P3 (by
    intro _ k_
    refine XS.aconstNull X0.here hx rfl (hb hby d2_5) ?_
    exact k_)
  obtain ⟨_, _, ⟨T5, L5, k5, n5⟩, -, X5, hS5, hgr5, ⟨Lc5, la5, hQ5, hLt5, l5, y5, z5⟩, st5⟩ := X0.specialBackS hx (y := (⟨"java/lang/String", "<init>", "([CIILjava/lang/Void;)V"⟩ : MethodName)) rfl hown (mvT hZ (own_w hw 11 rfl)) (mvT hZ (own_w hw 12 rfl)) (mvT hZ (own_w hw 14 rfl)) (by decide) (own_backI2 (W := 0) (rm_zV0 l Z a0 hw [] a ca cs h0 n0 Z0 O Scs hcs hheld hcw Ea Fv Fc ga) hZ hIB (own_w hw 14 rfl) (own_w hw 7 rfl) (by decide) (by decide)) (g := (mkF m 6 #[r_ a, r_ ca] [.null, (.int 0), (.int 0), (.ref ca), (.ref a)])) rfl (by rw [hml]; rfl) (Steps.refl _) (a := a) (argsL := [(.ref ca), (.int 0), (.int 0), .null]) (rest := []) (lenOf pd3 rfl) rfl (by show 2 * 0 + _ ≤ _; exact Nat.le_of_eq rfl) (hb hby d2_6) (fun _ _ => ⟨rfl, e0, (by decide : 0 + 2 ≤ _), (by decide : 0 + 4 ≤ _)⟩)
  dsimp only [Pt.U, Pt.locs, Pt.cells, Pt.slots] at X5 l5 y5 z5 st5 hQ5 hS5 hgr5
  subst l5 y5 z5
  have hZw5 : Z.Warmed39 T5.vm := State.Warmed39.trans (t := s) hZ hS5.1
  have hownw5 : T5.vm.findClass "java/lang/String" = some m.cls := by rw [hS5.1.alike.findClass]; exact hown
  obtain ⟨lb5, kl5, rfl, N5q, K5, f6, f7, f8, f9, f10, f11, f12⟩ := hQ5
  have N5 := Fr.app N0 N5q
  have f17 := (Keep.refl h0 [a]).trans K5 (allS (Or.inl (List.mem_of_getElem? (i := 0) rfl)) all0)
  have P20 := oS (T5.setTop (mkF m 9 #[r_ a, r_ ca] [])) P4 (fun t_ k_ => st5.trans k_)
  obtain ⟨fs, hr, hrun, hended, hW⟩ := X5.leaveW hS5 (Nat.le_refl T5.heap.size) (v := none) (fun _ => rfl)
  refine ⟨_, _, P20 _ ?_, hrun, hended, _, _, la5, rfl, ?_, hLt5, ⟨hW.1, hW.2.1, hW.2.2.1, hW.2.2.2.mono (by decide) (by decide)⟩⟩
  · exact X5.returnOut hx Bd.returns (hb hby d2_9) hr
  · show Q_zC0 Z _ _ _ _ _ h0 n0 _ T5.heap _
    exact ⟨lb5, kl5, rfl, N5, f17, f6, f7, f8, f9, f10, f11, f12⟩
abbrev cB15 := jdk_42_method_27_code
abbrev yM15 : MethodName := ⟨"java/lang/String", "encode8859_1", "(B[BZ)[B"⟩
theorem d15_0 : own_d cB15 0 (.iload_n 0) 1 := by decide +kernel
theorem d15_1 : own_d cB15 1 (.ifCond .ne 11) 3 := by decide +kernel
theorem d15_4 : own_d cB15 4 (.aload_n 1) 1 := by decide +kernel
theorem d15_5 : own_d cB15 5 (.invokevirtual 279) 3 := by decide +kernel
theorem d15_8 : own_d cB15 8 (.checkcast 280) 3 := by decide +kernel
theorem d15_11 : own_d cB15 11 (.areturn) 1 := by decide +kernel
theorem ef15IRI (m : MethodId) (x0 : Int32) (x1 : Addr) (x2 : Int32) : entryFrame m #[(.int x0), (.ref x1), (.int x2)] 10 = mkF m 0 #[i_ x0, r_ x1, i_ x2, u_, u_, u_, u_, u_, u_, u_] [] := by first | (simp [entryFrame, mkF, argsToLocals, Value.category]; done) | rfl
def Q_e3 (Z : State) (b : Addr) (k : ClassId) (zl : Int32) (vs : List Value) (h0 : Heap) (n0 : Nat) (v_ : Option Value) (h : Heap) (L_ : List Loc) : Prop := ∃ (xq : Addr), v_ = some (.ref xq) ∧ Fr n0 L_ ∧ Keep h0 h [] ∧ h0.size ≤ xq ∧ Arv Z h xq k .byte zl vs (.int 0) ∧ Exa Z h xq "[B"
set_option maxRecDepth 65536 in
set_option maxHeartbeats 40000000 in
theorem rm_e3 (l : Launch) (Z : State) (a0 : Array Value) (hw : ∀ d ∈ tables_1, d.before a0 Z = true) (ws : List Jvm.Cond) (b : Addr) (k : ClassId) (zl : Int32) (vs : List Value) (h0 : Heap) (n0 : Nat) (Z0 : n0 ≤ h0.size) (O : Old Z n0 h0) (Vb : Arv Z h0 b k .byte zl vs (.int 0)) (Eb : Exa Z h0 b "[B") (hzl : zl.toNatClampNeg ≤ 4) :
    own_MF l yM15 (.code yM15 cB15 10 (some (.array .byte))) ws ⟨1, 1, 4, 14⟩ #[(.int 0), (.ref b), (.int 1)] Z h0 own_T (Q_e3 Z b k zl vs h0 n0) := by
  refine own_in "java/lang/String" rfl (plainFor_of_name pn2) hisR (fun m => ef15IRI m (0 : Int32) b (1 : Int32)) ?_
  intro p e s m below meth c s₁ A_ hx hby hml hown hnm hrt hlk hZ _ X0 e0 pre0
  have N0 := Fr.nil n0
  have P1 := oS (s₁.setTop (mkF m 1 #[i_ 0, r_ b, i_ 1, u_, u_, u_, u_, u_, u_, u_] [(.int 0)])) pre0 (by
    intro _ k_
    refine iN_ X0 hx hby d15_0 rfl ?_
    exact k_)
  have P2 := oS (s₁.setTop (mkF m 5 #[i_ 0, r_ b, i_ 1, u_, u_, u_, u_, u_, u_, u_] [(.ref b)])) P1 (by
    intro _ k_
    refine XS.ifNo X0.here hx rfl (hb hby d15_1) rfl ((if0 _ _).trans (teq (by decide : (0 : Int32) = (0 : Int32))).2) ?_
    refine aN_ X0 hx hby d15_4 rfl rfl ?_
    exact k_)
  obtain ⟨T3, h3, X3, e3, E3, V3, EA3, st3⟩ := cloneH X0 hx hZ hown (own_w hw 78 rfl) (own_w hw 79 rfl) (own_w hw 83 rfl) (own_w hw 81 rfl) (own_w hw 82 rfl) (own_w hw 84 rfl) e0 (Arv.arh Vb) Eb (g := (mkF m 5 #[i_ 0, r_ b, i_ 1, u_, u_, u_, u_, u_, u_, u_] [(.ref b)])) rfl (by rw [hml]; rfl) rfl (hb hby d15_5) (by decide) (W := 0) (cap := 4) (by show 2 * 0 + _ ≤ _; exact Nat.le_of_eq rfl) (by decide) hzl (by decide) (by decide)
  obtain ⟨b3, g3⟩ : ∃ z, z = h0.size := ⟨_, rfl⟩
  rw [← g3] at V3 EA3 st3
  have sz_b3 : h0.size ≤ b3 := Nat.le_trans (Keep.refl h0 []).1 (Nat.le_of_eq g3.symm)
  have f5 := (Keep.refl h0 []).ext E3
  have V3v : Arv Z h3 b3 k .byte zl vs (.int 0) := V3
  have P9 := oS (T3.setTop (mkF m 8 #[i_ 0, r_ b, i_ 1, u_, u_, u_, u_, u_, u_, u_] [(.ref b3)])) P2 (fun t_ k_ => st3 t_ k_)
  obtain ⟨T10, X10, e10, st10⟩ := castY X3 hx hZ hown (own_w hw 85 rfl) e3 (Ins.self EA3) (g := (mkF m 8 #[i_ 0, r_ b, i_ 1, u_, u_, u_, u_, u_, u_, u_] [(.ref b3)])) rfl rfl (hb hby d15_8)
  have P11 := oS (T10.setTop (mkF m 11 #[i_ 0, r_ b, i_ 1, u_, u_, u_, u_, u_, u_, u_] [(.ref b3)])) P9 (fun t_ k_ => st10 t_ k_)
  exact own_out X10 hlk (v := some (.ref b3)) (own_hv hrt) P11 (fun _ q_ => retOut X10 hx hrt rfl (Or.inr (Or.inr (Or.inr (Or.inr ⟨rfl, rfl, rfl⟩)))) (hb hby d15_11) q_) e10 ⟨b3, rfl, N0, f5, sz_b3, V3v, EA3⟩ (by decide)
theorem pd4 : parseMethodDescriptor "(B[BZ)[B" = some ⟨[.byte, (.array .byte), .boolean], some (.array .byte)⟩ := by decide +kernel
abbrev cB14 := jdk_42_method_26_code
abbrev yM14 : MethodName := ⟨"java/lang/String", "encode8859_1", "(B[B)[B"⟩
theorem d14_0 : own_d cB14 0 (.iload_n 0) 1 := by decide +kernel
theorem d14_1 : own_d cB14 1 (.aload_n 1) 1 := by decide +kernel
theorem d14_2 : own_d cB14 2 (.iconst 1) 1 := by decide +kernel
theorem d14_3 : own_d cB14 3 (.invokestatic 351) 3 := by decide +kernel
theorem d14_6 : own_d cB14 6 (.areturn) 1 := by decide +kernel
theorem ef14IR (m : MethodId) (x0 : Int32) (x1 : Addr) : entryFrame m #[(.int x0), (.ref x1)] 2 = mkF m 0 #[i_ x0, r_ x1] [] := by first | (simp [entryFrame, mkF, argsToLocals, Value.category]; done) | rfl
def Q_e2 (Z : State) (b : Addr) (k : ClassId) (zl : Int32) (vs : List Value) (h0 : Heap) (n0 : Nat) (v_ : Option Value) (h : Heap) (L_ : List Loc) : Prop := ∃ (xq : Addr), v_ = some (.ref xq) ∧ Fr n0 L_ ∧ Keep h0 h [] ∧ h0.size ≤ xq ∧ Arv Z h xq k .byte zl vs (.int 0) ∧ Exa Z h xq "[B"
set_option maxRecDepth 65536 in
set_option maxHeartbeats 40000000 in
theorem rm_e2 (l : Launch) (Z : State) (a0 : Array Value) (hw : ∀ d ∈ tables_1, d.before a0 Z = true) (ws : List Jvm.Cond) (b : Addr) (k : ClassId) (zl : Int32) (vs : List Value) (h0 : Heap) (n0 : Nat) (Z0 : n0 ≤ h0.size) (O : Old Z n0 h0) (Vb : Arv Z h0 b k .byte zl vs (.int 0)) (Eb : Exa Z h0 b "[B") (hzl : zl.toNatClampNeg ≤ 4) :
    own_MF l yM14 (.code yM14 cB14 2 (some (.array .byte))) ws ⟨2, 1, 4, 35⟩ #[(.int 0), (.ref b)] Z h0 own_T (Q_e2 Z b k zl vs h0 n0) := by
  refine own_in "java/lang/String" rfl (plainFor_of_name pn2) hisR (fun m => ef14IR m (0 : Int32) b) ?_
  intro p e s m below meth c s₁ A_ hx hby hml hown hnm hrt hlk hZ _ X0 e0 pre0
  have N0 := Fr.nil n0
  have P1 := oS (s₁.setTop (mkF m 3 #[i_ 0, r_ b] [(.int 1), (.ref b), (.int 0)])) pre0 (by
    intro _ k_
    refine iN_ X0 hx hby d14_0 rfl ?_
    refine aN_ X0 hx hby d14_1 rfl rfl ?_
    refine XS.iconst X0.here hx rfl (hb hby d14_2) ?_
    exact k_)
  obtain ⟨_, T2, L2, X2, hQ2, P2c⟩ := own_cS (W := 0) (rm_e3 l Z a0 hw [] b k zl vs h0 n0 Z0 O Vb Eb hzl) X0 hx hZ (fun _ _ => trivial) hown (own_w hw 75 rfl) (own_w hw 76 rfl) (own_w hw 7 rfl) (own_w hw 77 rfl) (by decide) P1 hml rfl [(.int 0), (.ref b), (.int 1)] [] rfl rfl rfl pd4 rfl (hb hby d14_3) e0 (by decide)
  obtain ⟨xq2, rfl, N2q, K2, f3, f4, f5⟩ := hQ2
  have N2 := Fr.app N0 N2q
  have sz_xq2 : h0.size ≤ xq2 := Nat.le_trans (Keep.refl h0 []).1 f3
  have f7 := (Keep.refl h0 []).trans K2 all0
  have P11 := own_to (C := T2.setTop (mkF m 6 #[i_ 0, r_ b] [(.ref xq2)])) P2c
  exact own_out X2 hlk (v := some (.ref xq2)) (own_hv hrt) P11 (fun _ q_ => retOut X2 hx hrt rfl (Or.inr (Or.inr (Or.inr (Or.inr ⟨rfl, rfl, rfl⟩)))) (hb hby d14_6) q_) (rfl : T2.heap = _) ⟨xq2, rfl, N2, f7, sz_xq2, f4, f5⟩ (by decide)
theorem pd5 : parseMethodDescriptor "(B[B)[B" = some ⟨[.byte, (.array .byte)], some (.array .byte)⟩ := by decide +kernel
abbrev cB13 := jdk_42_method_18_code
abbrev yM13 : MethodName := ⟨"java/lang/String", "encode", "(Ljava/nio/charset/Charset;B[B)[B"⟩
theorem d13_0 : own_d cB13 0 (.aload_n 0) 1 := by decide +kernel
theorem d13_1 : own_d cB13 1 (.getstatic 86) 3 := by decide +kernel
theorem d13_4 : own_d cB13 4 (.if_acmp .ne 10) 3 := by decide +kernel
theorem d13_14 : own_d cB13 14 (.aload_n 0) 1 := by decide +kernel
theorem d13_15 : own_d cB13 15 (.getstatic 116) 3 := by decide +kernel
theorem d13_18 : own_d cB13 18 (.if_acmp .ne 9) 3 := by decide +kernel
theorem d13_21 : own_d cB13 21 (.iload_n 1) 1 := by decide +kernel
theorem d13_22 : own_d cB13 22 (.aload_n 2) 1 := by decide +kernel
theorem d13_23 : own_d cB13 23 (.invokestatic 256) 3 := by decide +kernel
theorem d13_26 : own_d cB13 26 (.areturn) 1 := by decide +kernel
theorem ef13RIR (m : MethodId) (x0 : Addr) (x1 : Int32) (x2 : Addr) : entryFrame m #[(.ref x0), (.int x1), (.ref x2)] 3 = mkF m 0 #[r_ x0, i_ x1, r_ x2] [] := by first | (simp [entryFrame, mkF, argsToLocals, Value.category]; done) | rfl
def Q_e1 (Z : State) (b : Addr) (k : ClassId) (zl : Int32) (vs : List Value) (riso : Addr) (rutf : Addr) (h0 : Heap) (n0 : Nat) (v_ : Option Value) (h : Heap) (L_ : List Loc) : Prop := ∃ (xq : Addr), v_ = some (.ref xq) ∧ Fr n0 L_ ∧ Keep h0 h [] ∧ h0.size ≤ xq ∧ Arv Z h xq k .byte zl vs (.int 0) ∧ Exa Z h xq "[B"
set_option maxRecDepth 65536 in
set_option maxHeartbeats 40000000 in
theorem rm_e1 (l : Launch) (Z : State) (a0 : Array Value) (hw : ∀ d ∈ tables_1, d.before a0 Z = true) (ws : List Jvm.Cond) (b : Addr) (k : ClassId) (zl : Int32) (vs : List Value) (riso : Addr) (rutf : Addr) (h0 : Heap) (n0 : Nat) (Z0 : n0 ≤ h0.size) (O : Old Z n0 h0) (Siso : Sta Z Z.heap "sun/nio/cs/ISO_8859_1" "INSTANCE" "Lsun/nio/cs/ISO_8859_1;" (.ref riso)) (Sutf : Sta Z Z.heap "sun/nio/cs/UTF_8" "INSTANCE" "Lsun/nio/cs/UTF_8;" (.ref rutf)) (nci : riso ≠ rutf) (Vb : Arv Z h0 b k .byte zl vs (.int 0)) (Eb : Exa Z h0 b "[B") (hzl : zl.toNatClampNeg ≤ 4) :
    own_MF l yM13 (.code yM13 cB13 3 (some (.array .byte))) ws ⟨3, 1, 4, 48⟩ #[(.ref riso), (.int 0), (.ref b)] Z h0 own_T (Q_e1 Z b k zl vs riso rutf h0 n0) := by
  refine own_in "java/lang/String" rfl (plainFor_of_name pn2) hisR (fun m => ef13RIR m riso (0 : Int32) b) ?_
  intro p e s m below meth c s₁ A_ hx hby hml hown hnm hrt hlk hZ _ X0 e0 pre0
  have N0 := Fr.nil n0
  have P1 := oS (s₁.setTop (mkF m 1 #[r_ riso, i_ 0, r_ b] [(.ref riso)])) pre0 (by
    intro _ k_
    refine aN_ X0 hx hby d13_0 rfl rfl ?_
    exact k_)
  obtain ⟨T2, X2, e2, st2⟩ := getS2 X0 hx hZ hown (host := "") (Or.inl (own_w hw 69 rfl)) Via.refl e0 (Sutf.ext O.2) (g := (mkF m 1 #[r_ riso, i_ 0, r_ b] [(.ref riso)])) rfl (hb hby d13_1)
  have P3 := oS (T2.setTop (mkF m 4 #[r_ riso, i_ 0, r_ b] [(.ref rutf), (.ref riso)])) P1 (fun t_ k_ => st2 t_ k_)
  have P4 := oS (T2.setTop (mkF m 14 #[r_ riso, i_ 0, r_ b] [])) P3 (by
    intro _ k_
    refine Jvm.RoadKit.acmp (g := (mkF m 4 #[r_ riso, i_ 0, r_ b] [(.ref rutf), (.ref riso)])) X2 hx rfl rfl rfl (pc0 := 4) (pc' := 14) (same := false) rfl (hb hby d13_4) rfl (decide_eq_false fun q => nci (Value.ref.inj q)) (by decide) (by decide) ?_
    exact k_)
  have P5 := oS (T2.setTop (mkF m 15 #[r_ riso, i_ 0, r_ b] [(.ref riso)])) P4 (by
    intro _ k_
    refine aN_ X2 hx hby d13_14 rfl rfl ?_
    exact k_)
  obtain ⟨T6, X6, e6, st6⟩ := getS2 X2 hx hZ hown (host := "") (Or.inl (own_w hw 71 rfl)) Via.refl e2 (Siso.ext O.2) (g := (mkF m 15 #[r_ riso, i_ 0, r_ b] [(.ref riso)])) rfl (hb hby d13_15)
  have P7 := oS (T6.setTop (mkF m 18 #[r_ riso, i_ 0, r_ b] [(.ref riso), (.ref riso)])) P5 (fun t_ k_ => st6 t_ k_)
  have P8 := oS (T6.setTop (mkF m 21 #[r_ riso, i_ 0, r_ b] [])) P7 (by
    intro _ k_
    refine Jvm.RoadKit.acmp (g := (mkF m 18 #[r_ riso, i_ 0, r_ b] [(.ref riso), (.ref riso)])) X6 hx rfl rfl rfl (pc0 := 18) (pc' := 21) (same := true) rfl (hb hby d13_18) rfl (decide_eq_true (congrArg Value.ref (rfl : riso = riso))) (by decide) (by decide) ?_
    exact k_)
  have P9 := oS (T6.setTop (mkF m 23 #[r_ riso, i_ 0, r_ b] [(.ref b), (.int 0)])) P8 (by
    intro _ k_
    refine iN_ X6 hx hby d13_21 rfl ?_
    refine aN_ X6 hx hby d13_22 rfl rfl ?_
    exact k_)
  obtain ⟨_, T10, L10, X10, hQ10, P10c⟩ := own_cS (W := 0) (rm_e2 l Z a0 hw [] b k zl vs h0 n0 Z0 O Vb Eb hzl) X6 hx hZ (fun _ _ => trivial) hown (own_w hw 72 rfl) (own_w hw 73 rfl) (own_w hw 7 rfl) (own_w hw 74 rfl) (by decide) P9 hml rfl [(.int 0), (.ref b)] [] rfl rfl rfl pd5 rfl (hb hby d13_23) e6 (by decide)
  obtain ⟨xq10, rfl, N10q, K10, f11, f12, f13⟩ := hQ10
  have N10 := Fr.app N0 N10q
  have sz_xq10 : h0.size ≤ xq10 := Nat.le_trans (Keep.refl h0 []).1 f11
  have f15 := (Keep.refl h0 []).trans K10 all0
  have P19 := own_to (C := T10.setTop (mkF m 26 #[r_ riso, i_ 0, r_ b] [(.ref xq10)])) P10c
  exact own_out X10 hlk (v := some (.ref xq10)) (own_hv hrt) P19 (fun _ q_ => retOut X10 hx hrt rfl (Or.inr (Or.inr (Or.inr (Or.inr ⟨rfl, rfl, rfl⟩)))) (hb hby d13_26) q_) (rfl : T10.heap = _) ⟨xq10, rfl, N10, f15, sz_xq10, f12, f13⟩ (by decide)
abbrev cB10 := jdk_42_method_152_code
abbrev yM10 : MethodName := ⟨"java/lang/String", "coder", "()B"⟩
theorem d10_0 : own_d cB10 0 (.getstatic 38) 3 := by decide +kernel
theorem d10_3 : own_d cB10 3 (.ifCond .eq 10) 3 := by decide +kernel
theorem d10_6 : own_d cB10 6 (.aload_n 0) 1 := by decide +kernel
theorem d10_7 : own_d cB10 7 (.getfield 15) 3 := by decide +kernel
theorem d10_10 : own_d cB10 10 (.goto 4) 3 := by decide +kernel
theorem d10_14 : own_d cB10 14 (.ireturn) 1 := by decide +kernel
theorem ef10R (m : MethodId) (x0 : Addr) : entryFrame m #[(.ref x0)] 1 = mkF m 0 #[r_ x0] [] := by first | (simp [entryFrame, mkF, argsToLocals, Value.category]; done) | rfl
def Q_coder0 (Z : State) (a : Addr) (cs : Int32) (h0 : Heap) (n0 : Nat) (v_ : Option Value) (h : Heap) (L_ : List Loc) : Prop := v_ = some (.int 0) ∧ Fr n0 L_ ∧ h = h0
set_option maxRecDepth 65536 in
set_option maxHeartbeats 40000000 in
theorem rm_coder0 (l : Launch) (Z : State) (a0 : Array Value) (hw : ∀ d ∈ tables_1, d.before a0 Z = true) (ws : List Jvm.Cond) (a : Addr) (cs : Int32) (h0 : Heap) (n0 : Nat) (Z0 : n0 ≤ h0.size) (O : Old Z n0 h0) (Scs : Sta Z Z.heap "java/lang/String" "COMPACT_STRINGS" "Z" (.int cs)) (hcs : ¬ (cs = (0 : Int32))) (Fc : Fld Z h0 a "java/lang/String" "coder" "B" (.int 0)) :
    own_MF l yM10 (.code yM10 cB10 1 (some .byte)) ws ⟨0, 0, 0, 0⟩ #[(.ref a)] Z h0 own_T (Q_coder0 Z a cs h0 n0) := by
  refine own_in "java/lang/String" rfl (plainFor_of_name pn2) hisR (fun m => ef10R m a) ?_
  intro p e s m below meth c s₁ A_ hx hby hml hown hnm hrt hlk hZ _ X0 e0 pre0
  have N0 := Fr.nil n0
  obtain ⟨T1, X1, e1, st1⟩ := getS2 X0 hx hZ hown (host := "") (Or.inl (own_w hw 18 rfl)) Via.refl e0 (Scs.ext O.2) (g := (mkF m 0 #[r_ a] [])) rfl (hb hby d10_0)
  have P2 := oS (T1.setTop (mkF m 3 #[r_ a] [(.int cs)])) pre0 (fun t_ k_ => st1 t_ k_)
  have P3 := oS (T1.setTop (mkF m 7 #[r_ a] [(.ref a)])) P2 (by
    intro _ k_
    refine XS.ifNo X1.here hx rfl (hb hby d10_3) rfl ((if0 _ _).trans (feq hcs).1) ?_
    refine aN_ X1 hx hby d10_6 rfl rfl ?_
    exact k_)
  obtain ⟨T4, X4, e4, st4⟩ := getF X1 hx hZ hown (host := "") (Or.inl (own_w hw 30 rfl)) Via.refl e1 Fc (g := (mkF m 7 #[r_ a] [(.ref a)])) rfl rfl (hb hby d10_7)
  have P5 := oS (T4.setTop (mkF m 10 #[r_ a] [(.int 0)])) P3 (fun t_ k_ => st4 t_ k_)
  have P6 := oS (T4.setTop (mkF m 14 #[r_ a] [(.int 0)])) P5 (by
    intro _ k_
    refine gt_ X4 hx hby d10_10 (pc := 10) (pc' := 14) (by decide) ?_
    exact k_)
  exact own_out X4 hlk (v := some (.int 0)) (own_hv hrt) P6 (fun _ q_ => retN X4 hx (t := .byte) hrt (by simp) (hb hby d10_14) q_) e4 ⟨rfl, N0, rfl⟩ (by decide)
theorem pd6 : parseMethodDescriptor "()B" = some ⟨[], some .byte⟩ := by decide +kernel
theorem pd7 : parseMethodDescriptor "(Ljava/nio/charset/Charset;B[B)[B" = some ⟨[(.object "java/nio/charset/Charset"), .byte, (.array .byte)], some (.array .byte)⟩ := by decide +kernel
abbrev cB12 := jdk_42_method_64_code
abbrev yM12 : MethodName := ⟨"java/lang/String", "getBytes", "(Ljava/nio/charset/Charset;)[B"⟩
theorem d12_0 : own_d cB12 0 (.aload_n 1) 1 := by decide +kernel
theorem d12_1 : own_d cB12 1 (.ifnonnull 11) 3 := by decide +kernel
theorem d12_12 : own_d cB12 12 (.aload_n 1) 1 := by decide +kernel
theorem d12_13 : own_d cB12 13 (.aload_n 0) 1 := by decide +kernel
theorem d12_14 : own_d cB12 14 (.invokevirtual 335) 3 := by decide +kernel
theorem d12_17 : own_d cB12 17 (.aload_n 0) 1 := by decide +kernel
theorem d12_18 : own_d cB12 18 (.getfield 9) 3 := by decide +kernel
theorem d12_21 : own_d cB12 21 (.invokestatic 535) 3 := by decide +kernel
theorem d12_24 : own_d cB12 24 (.areturn) 1 := by decide +kernel
theorem ef12RR (m : MethodId) (x0 : Addr) (x1 : Addr) : entryFrame m #[(.ref x0), (.ref x1)] 2 = mkF m 0 #[r_ x0, r_ x1] [] := by first | (simp [entryFrame, mkF, argsToLocals, Value.category]; done) | rfl
def Q_getB (Z : State) (a : Addr) (b : Addr) (k : ClassId) (zl : Int32) (vs : List Value) (riso : Addr) (rutf : Addr) (cs : Int32) (h0 : Heap) (n0 : Nat) (v_ : Option Value) (h : Heap) (L_ : List Loc) : Prop := ∃ (xq : Addr), v_ = some (.ref xq) ∧ Fr n0 L_ ∧ Keep h0 h [] ∧ h0.size ≤ xq ∧ Arv Z h xq k .byte zl vs (.int 0) ∧ Exa Z h xq "[B"
set_option maxRecDepth 65536 in
set_option maxHeartbeats 40000000 in
theorem rm_getB (l : Launch) (Z : State) (a0 : Array Value) (hw : ∀ d ∈ tables_1, d.before a0 Z = true) (ws : List Jvm.Cond) (a : Addr) (b : Addr) (k : ClassId) (zl : Int32) (vs : List Value) (riso : Addr) (rutf : Addr) (cs : Int32) (h0 : Heap) (n0 : Nat) (Z0 : n0 ≤ h0.size) (O : Old Z n0 h0) (Scs : Sta Z Z.heap "java/lang/String" "COMPACT_STRINGS" "Z" (.int cs)) (hcs : ¬ (cs = (0 : Int32))) (Siso : Sta Z Z.heap "sun/nio/cs/ISO_8859_1" "INSTANCE" "Lsun/nio/cs/ISO_8859_1;" (.ref riso)) (Sutf : Sta Z Z.heap "sun/nio/cs/UTF_8" "INSTANCE" "Lsun/nio/cs/UTF_8;" (.ref rutf)) (nci : riso ≠ rutf) (Ea : Exa Z h0 a "java/lang/String") (Fc : Fld Z h0 a "java/lang/String" "coder" "B" (.int 0)) (Fv : Fld Z h0 a "java/lang/String" "value" "[B" (.ref b)) (Vb : Arv Z h0 b k .byte zl vs (.int 0)) (Eb : Exa Z h0 b "[B") (hzl : zl.toNatClampNeg ≤ 4) :
    own_MF l yM12 (.code yM12 cB12 2 (some (.array .byte))) ws ⟨4, 1, 4, 62⟩ #[(.ref a), (.ref riso)] Z h0 own_T (Q_getB Z a b k zl vs riso rutf cs h0 n0) := by
  refine own_in "java/lang/String" rfl (plainFor_of_name pn2) hisR (fun m => ef12RR m a riso) ?_
  intro p e s m below meth c s₁ A_ hx hby hml hown hnm hrt hlk hZ _ X0 e0 pre0
  have N0 := Fr.nil n0
  have P1 := oS (s₁.setTop (mkF m 1 #[r_ a, r_ riso] [(.ref riso)])) pre0 (by
    intro _ k_
    refine aN_ X0 hx hby d12_0 rfl rfl ?_
    exact k_)
  have P2 := oS (s₁.setTop (mkF m 12 #[r_ a, r_ riso] [])) P1 (by
    intro _ k_
    refine XS.ifnonnullYes X0.here hx rfl (pc0 := 1) (pc' := 12) rfl (hb hby d12_1) rfl (by decide) (by decide) ?_
    exact k_)
  have P3 := oS (s₁.setTop (mkF m 14 #[r_ a, r_ riso] [(.ref a), (.ref riso)])) P2 (by
    intro _ k_
    refine aN_ X0 hx hby d12_12 rfl rfl ?_
    refine aN_ X0 hx hby d12_13 rfl rfl ?_
    exact k_)
  obtain ⟨_, T4, L4, X4, hQ4, P4c⟩ := own_cV (W := 1) (rm_coder0 l Z a0 hw [] a cs h0 n0 Z0 O Scs hcs Fc) X0 hx hZ (fun _ _ => trivial) hown Ea (own_w hw 43 rfl) (own_w hw 44 rfl) (own_w hw 46 rfl) (own_w hw 45 rfl) (own_w hw 7 rfl) (own_w hw 47 rfl) (by decide) P3 hml rfl [] [(.ref riso)] rfl rfl rfl pd6 rfl (hb hby d12_14) e0 (by decide)
  obtain ⟨rfl, N4q, e4⟩ := hQ4
  have N4 := Fr.app N0 N4q
  have P5 := own_to (C := T4.setTop (mkF m 17 #[r_ a, r_ riso] [(.int 0), (.ref riso)])) P4c
  have P6 := oS (T4.setTop (mkF m 18 #[r_ a, r_ riso] [(.ref a), (.int 0), (.ref riso)])) P5 (by
    intro _ k_
    refine aN_ X4 hx hby d12_17 rfl rfl ?_
    exact k_)
  obtain ⟨T7, X7, e7, st7⟩ := getF X4 hx hZ hown (host := "") (Or.inl (own_w hw 32 rfl)) Via.refl e4 Fv (g := (mkF m 18 #[r_ a, r_ riso] [(.ref a), (.int 0), (.ref riso)])) rfl rfl (hb hby d12_18)
  have P8 := oS (T7.setTop (mkF m 21 #[r_ a, r_ riso] [(.ref b), (.int 0), (.ref riso)])) P6 (fun t_ k_ => st7 t_ k_)
  obtain ⟨_, T9, L9, X9, hQ9, P9c⟩ := own_cS (W := 0) (rm_e1 l Z a0 hw [] b k zl vs riso rutf h0 n0 Z0 O Siso Sutf nci Vb Eb hzl) X7 hx hZ (fun _ _ => trivial) hown (own_w hw 66 rfl) (own_w hw 67 rfl) (own_w hw 7 rfl) (own_w hw 68 rfl) (by decide) P8 hml rfl [(.ref riso), (.int 0), (.ref b)] [] rfl rfl rfl pd7 rfl (hb hby d12_21) e7 (by decide)
  obtain ⟨xq9, rfl, N9q, K9, f10, f11, f12⟩ := hQ9
  have N9 := Fr.app N4 N9q
  have sz_xq9 : h0.size ≤ xq9 := Nat.le_trans (Keep.refl h0 []).1 f10
  have f14 := (Keep.refl h0 []).trans K9 all0
  have P21 := own_to (C := T9.setTop (mkF m 24 #[r_ a, r_ riso] [(.ref xq9)])) P9c
  exact own_out X9 hlk (v := some (.ref xq9)) (own_hv hrt) P21 (fun _ q_ => retOut X9 hx hrt rfl (Or.inr (Or.inr (Or.inr (Or.inr ⟨rfl, rfl, rfl⟩)))) (hb hby d12_24) q_) (rfl : T9.heap = _) ⟨xq9, rfl, N9, f14, sz_xq9, f11, f12⟩ (by decide)
abbrev cB17 := jdk_2450_method_7_code
abbrev yM17 : MethodName := ⟨"java/util/Base64$Decoder", "decodedOutLength", "([BII)I"⟩
theorem d17_0 : own_d cB17 0 (.aload_n 0) 1 := by decide +kernel
theorem d17_1 : own_d cB17 1 (.getfield 7) 3 := by decide +kernel
theorem d17_4 : own_d cB17 4 (.ifCond .eq 9) 3 := by decide +kernel
theorem d17_7 : own_d cB17 7 (.getstatic 95) 3 := by decide +kernel
theorem d17_10 : own_d cB17 10 (.goto 6) 3 := by decide +kernel
theorem d17_16 : own_d cB17 16 (.astore 4) 2 := by decide +kernel
theorem d17_18 : own_d cB17 18 (.iconst 0) 1 := by decide +kernel
theorem d17_19 : own_d cB17 19 (.istore 5) 2 := by decide +kernel
theorem d17_21 : own_d cB17 21 (.iload_n 3) 1 := by decide +kernel
theorem d17_22 : own_d cB17 22 (.iload_n 2) 1 := by decide +kernel
theorem d17_23 : own_d cB17 23 (.isub) 1 := by decide +kernel
theorem d17_24 : own_d cB17 24 (.istore 6) 2 := by decide +kernel
theorem d17_26 : own_d cB17 26 (.iload 6) 2 := by decide +kernel
theorem d17_28 : own_d cB17 28 (.ifCond .ne 5) 3 := by decide +kernel
theorem d17_31 : own_d cB17 31 (.iconst 0) 1 := by decide +kernel
theorem d17_32 : own_d cB17 32 (.ireturn) 1 := by decide +kernel
theorem ef17RRII (m : MethodId) (x0 : Addr) (x1 : Addr) (x2 : Int32) (x3 : Int32) : entryFrame m #[(.ref x0), (.ref x1), (.int x2), (.int x3)] 9 = mkF m 0 #[r_ x0, r_ x1, i_ x2, i_ x3, u_, u_, u_, u_, u_] [] := by first | (simp [entryFrame, mkF, argsToLocals, Value.category]; done) | rfl
def Q_dol_0 (Z : State) (de : Addr) (b : Addr) (k : ClassId) (rdt : Addr) (kdt : ClassId) (h0 : Heap) (n0 : Nat) (v_ : Option Value) (h : Heap) (L_ : List Loc) : Prop := v_ = some (.int 0) ∧ Fr n0 L_ ∧ h = h0
theorem pn3 : plainName "java/util/Base64$Decoder" = true := by first | (simp [plainName, overriddenIn]; done) | decide +kernel
set_option maxRecDepth 65536 in
set_option maxHeartbeats 40000000 in
theorem rm_dol_0 (l : Launch) (Z : State) (a0 : Array Value) (hw : ∀ d ∈ tables_1, d.before a0 Z = true) (ws : List Jvm.Cond) (de : Addr) (b : Addr) (k : ClassId) (rdt : Addr) (kdt : ClassId) (h0 : Heap) (n0 : Nat) (Z0 : n0 ≤ h0.size) (O : Old Z n0 h0) (Sdt : Sta Z Z.heap "java/util/Base64$Decoder" "fromBase64URL" "[I" (.ref rdt)) (Vdt : Arv Z Z.heap rdt kdt .int (256 : Int32) own_dec (.int 0)) (Fu : Fld Z h0 de "java/util/Base64$Decoder" "isURL" "Z" (.int 1)) (Fm : Fld Z h0 de "java/util/Base64$Decoder" "isMIME" "Z" (.int 0)) (Vb : Arv Z h0 b k .byte (0 : Int32) [] (.int 0)) :
    own_MF l yM17 (.code yM17 cB17 9 (some .int)) ws ⟨0, 0, 0, 0⟩ #[(.ref de), (.ref b), (.int 0), (.int 0)] Z h0 own_T (Q_dol_0 Z de b k rdt kdt h0 n0) := by
  refine own_in "java/util/Base64$Decoder" rfl (plainFor_of_name pn3) hisR (fun m => ef17RRII m de b (0 : Int32) (0 : Int32)) ?_
  intro p e s m below meth c s₁ A_ hx hby hml hown hnm hrt hlk hZ _ X0 e0 pre0
  have N0 := Fr.nil n0
  have P1 := oS (s₁.setTop (mkF m 1 #[r_ de, r_ b, i_ 0, i_ 0, u_, u_, u_, u_, u_] [(.ref de)])) pre0 (by
    intro _ k_
    refine aN_ X0 hx hby d17_0 rfl rfl ?_
    exact k_)
  obtain ⟨T2, X2, e2, st2⟩ := getF X0 hx hZ hown (host := "") (Or.inl (own_w hw 97 rfl)) Via.refl e0 Fu (g := (mkF m 1 #[r_ de, r_ b, i_ 0, i_ 0, u_, u_, u_, u_, u_] [(.ref de)])) rfl rfl (hb hby d17_1)
  have P3 := oS (T2.setTop (mkF m 4 #[r_ de, r_ b, i_ 0, i_ 0, u_, u_, u_, u_, u_] [(.int 1)])) P1 (fun t_ k_ => st2 t_ k_)
  have P4 := oS (T2.setTop (mkF m 7 #[r_ de, r_ b, i_ 0, i_ 0, u_, u_, u_, u_, u_] [])) P3 (by
    intro _ k_
    refine XS.ifNo X2.here hx rfl (hb hby d17_4) rfl ((if0 _ _).trans (feq (by decide : ¬ ((1 : Int32) = (0 : Int32)))).1) ?_
    exact k_)
  obtain ⟨T5, X5, e5, st5⟩ := getS2 X2 hx hZ hown (host := "") (Or.inl (own_w hw 99 rfl)) Via.refl e2 (Sdt.ext O.2) (g := (mkF m 7 #[r_ de, r_ b, i_ 0, i_ 0, u_, u_, u_, u_, u_] [])) rfl (hb hby d17_7)
  have P6 := oS (T5.setTop (mkF m 10 #[r_ de, r_ b, i_ 0, i_ 0, u_, u_, u_, u_, u_] [(.ref rdt)])) P4 (fun t_ k_ => st5 t_ k_)
  have P7 := oS (T5.setTop (mkF m 28 #[r_ de, r_ b, i_ 0, i_ 0, r_ rdt, i_ 0, i_ 0, u_, u_] [(.int 0)])) P6 (by
    intro _ k_
    refine gt_ X5 hx hby d17_10 (pc := 10) (pc' := 16) (by decide) ?_
    refine XS.astore X5.here hx rfl (hb hby d17_16) rfl rfl (l' := #[r_ de, r_ b, i_ 0, i_ 0, r_ rdt, u_, u_, u_, u_]) rfl ?_
    refine XS.iconst X5.here hx rfl (hb hby d17_18) ?_
    refine is_ X5 hx hby d17_19 (l' := #[r_ de, r_ b, i_ 0, i_ 0, r_ rdt, i_ 0, u_, u_, u_]) rfl ?_
    refine iN_ X5 hx hby d17_21 rfl ?_
    refine iN_ X5 hx hby d17_22 rfl ?_
    refine XS.isub X5.here hx rfl (hb hby d17_23) rfl ?_
    show Steps p.tables e below (T5.setTop (mkF m 24 #[r_ de, r_ b, i_ 0, i_ 0, r_ rdt, i_ 0, u_, u_, u_] [(.int 0)])) _
    refine is_ X5 hx hby d17_24 (l' := #[r_ de, r_ b, i_ 0, i_ 0, r_ rdt, i_ 0, i_ 0, u_, u_]) rfl ?_
    refine il_ X5 hx hby d17_26 rfl ?_
    exact k_)
  have P8 := oS (T5.setTop (mkF m 32 #[r_ de, r_ b, i_ 0, i_ 0, r_ rdt, i_ 0, i_ 0, u_, u_] [(.int 0)])) P7 (by
    intro _ k_
    refine XS.ifNo X5.here hx rfl (hb hby d17_28) rfl ((if0 _ _).trans (teq (by decide : (0 : Int32) = (0 : Int32))).2) ?_
    refine XS.iconst X5.here hx rfl (hb hby d17_31) ?_
    exact k_)
  exact own_out X5 hlk (v := some (.int 0)) (own_hv hrt) P8 (fun _ q_ => retI X5 hx hrt (hb hby d17_32) q_) e5 ⟨rfl, N0, rfl⟩ (by decide)
abbrev cB18 := jdk_2450_method_9_code
abbrev yM18 : MethodName := ⟨"java/util/Base64$Decoder", "decode0", "([BII[B)I"⟩
theorem d18_0 : own_d cB18 0 (.aload_n 0) 1 := by decide +kernel
theorem d18_1 : own_d cB18 1 (.getfield 7) 3 := by decide +kernel
theorem d18_4 : own_d cB18 4 (.ifCond .eq 9) 3 := by decide +kernel
theorem d18_7 : own_d cB18 7 (.getstatic 95) 3 := by decide +kernel
theorem d18_10 : own_d cB18 10 (.goto 6) 3 := by decide +kernel
theorem d18_16 : own_d cB18 16 (.astore 5) 2 := by decide +kernel
theorem d18_18 : own_d cB18 18 (.iconst 0) 1 := by decide +kernel
theorem d18_19 : own_d cB18 19 (.istore 6) 2 := by decide +kernel
theorem d18_21 : own_d cB18 21 (.iconst 0) 1 := by decide +kernel
theorem d18_22 : own_d cB18 22 (.istore 7) 2 := by decide +kernel
theorem d18_24 : own_d cB18 24 (.bipush 18) 2 := by decide +kernel
theorem d18_26 : own_d cB18 26 (.istore 8) 2 := by decide +kernel
theorem d18_28 : own_d cB18 28 (.iload_n 2) 1 := by decide +kernel
theorem d18_29 : own_d cB18 29 (.iload_n 3) 1 := by decide +kernel
theorem d18_30 : own_d cB18 30 (.if_icmp .ge 251) 3 := by decide +kernel
theorem d18_281 : own_d cB18 281 (.iload 8) 2 := by decide +kernel
theorem d18_283 : own_d cB18 283 (.bipush 6) 2 := by decide +kernel
theorem d18_285 : own_d cB18 285 (.if_icmp .ne 20) 3 := by decide +kernel
theorem d18_305 : own_d cB18 305 (.iload 8) 2 := by decide +kernel
theorem d18_307 : own_d cB18 307 (.ifCond .ne 34) 3 := by decide +kernel
theorem d18_341 : own_d cB18 341 (.iload 8) 2 := by decide +kernel
theorem d18_343 : own_d cB18 343 (.bipush 12) 2 := by decide +kernel
theorem d18_345 : own_d cB18 345 (.if_icmp .ne 13) 3 := by decide +kernel
theorem d18_358 : own_d cB18 358 (.iload_n 2) 1 := by decide +kernel
theorem d18_359 : own_d cB18 359 (.iload_n 3) 1 := by decide +kernel
theorem d18_360 : own_d cB18 360 (.if_icmp .ge 56) 3 := by decide +kernel
theorem d18_416 : own_d cB18 416 (.iload 6) 2 := by decide +kernel
theorem d18_418 : own_d cB18 418 (.ireturn) 1 := by decide +kernel
theorem ef18RRIIR (m : MethodId) (x0 : Addr) (x1 : Addr) (x2 : Int32) (x3 : Int32) (x4 : Addr) : entryFrame m #[(.ref x0), (.ref x1), (.int x2), (.int x3), (.ref x4)] 11 = mkF m 0 #[r_ x0, r_ x1, i_ x2, i_ x3, r_ x4, u_, u_, u_, u_, u_, u_] [] := by first | (simp [entryFrame, mkF, argsToLocals, Value.category]; done) | rfl
def Q_dec0_0 (Z : State) (de : Addr) (b : Addr) (k : ClassId) (d : Addr) (kd : ClassId) (rdt : Addr) (kdt : ClassId) (h0 : Heap) (n0 : Nat) (v_ : Option Value) (h : Heap) (L_ : List Loc) : Prop := v_ = some (.int 0) ∧ Fr n0 L_ ∧ Keep h0 h [d] ∧ Arv Z h d kd .byte (0 : Int32) [] (.int 0)
set_option maxRecDepth 65536 in
set_option maxHeartbeats 40000000 in
theorem rm_dec0_0 (l : Launch) (Z : State) (a0 : Array Value) (hw : ∀ d ∈ tables_1, d.before a0 Z = true) (ws : List Jvm.Cond) (de : Addr) (b : Addr) (k : ClassId) (d : Addr) (kd : ClassId) (rdt : Addr) (kdt : ClassId) (h0 : Heap) (n0 : Nat) (Z0 : n0 ≤ h0.size) (O : Old Z n0 h0) (Sdt : Sta Z Z.heap "java/util/Base64$Decoder" "fromBase64URL" "[I" (.ref rdt)) (Vdt : Arv Z Z.heap rdt kdt .int (256 : Int32) own_dec (.int 0)) (Fu : Fld Z h0 de "java/util/Base64$Decoder" "isURL" "Z" (.int 1)) (Fm : Fld Z h0 de "java/util/Base64$Decoder" "isMIME" "Z" (.int 0)) (Vb : Arv Z h0 b k .byte (0 : Int32) [] (.int 0)) (Vd : Arv Z h0 d kd .byte (0 : Int32) [] (.int 0)) (nbd : b ≠ d) (gd : n0 ≤ d) (nde : de ≠ d) :
    own_MF l yM18 (.code yM18 cB18 11 (some .int)) ws ⟨0, 0, 0, 0⟩ #[(.ref de), (.ref b), (.int 0), (.int 0), (.ref d)] Z h0 own_T (Q_dec0_0 Z de b k d kd rdt kdt h0 n0) := by
  refine own_in "java/util/Base64$Decoder" rfl (plainFor_of_name pn3) hisR (fun m => ef18RRIIR m de b (0 : Int32) (0 : Int32) d) ?_
  intro p e s m below meth c s₁ A_ hx hby hml hown hnm hrt hlk hZ _ X0 e0 pre0
  have N0 := Fr.nil n0
  have P1 := oS (s₁.setTop (mkF m 1 #[r_ de, r_ b, i_ 0, i_ 0, r_ d, u_, u_, u_, u_, u_, u_] [(.ref de)])) pre0 (by
    intro _ k_
    refine aN_ X0 hx hby d18_0 rfl rfl ?_
    exact k_)
  obtain ⟨T2, X2, e2, st2⟩ := getF X0 hx hZ hown (host := "") (Or.inl (own_w hw 97 rfl)) Via.refl e0 Fu (g := (mkF m 1 #[r_ de, r_ b, i_ 0, i_ 0, r_ d, u_, u_, u_, u_, u_, u_] [(.ref de)])) rfl rfl (hb hby d18_1)
  have P3 := oS (T2.setTop (mkF m 4 #[r_ de, r_ b, i_ 0, i_ 0, r_ d, u_, u_, u_, u_, u_, u_] [(.int 1)])) P1 (fun t_ k_ => st2 t_ k_)
  have P4 := oS (T2.setTop (mkF m 7 #[r_ de, r_ b, i_ 0, i_ 0, r_ d, u_, u_, u_, u_, u_, u_] [])) P3 (by
    intro _ k_
    refine XS.ifNo X2.here hx rfl (hb hby d18_4) rfl ((if0 _ _).trans (feq (by decide : ¬ ((1 : Int32) = (0 : Int32)))).1) ?_
    exact k_)
  obtain ⟨T5, X5, e5, st5⟩ := getS2 X2 hx hZ hown (host := "") (Or.inl (own_w hw 99 rfl)) Via.refl e2 (Sdt.ext O.2) (g := (mkF m 7 #[r_ de, r_ b, i_ 0, i_ 0, r_ d, u_, u_, u_, u_, u_, u_] [])) rfl (hb hby d18_7)
  have P6 := oS (T5.setTop (mkF m 10 #[r_ de, r_ b, i_ 0, i_ 0, r_ d, u_, u_, u_, u_, u_, u_] [(.ref rdt)])) P4 (fun t_ k_ => st5 t_ k_)
  have P7 := oS (T5.setTop (mkF m 30 #[r_ de, r_ b, i_ 0, i_ 0, r_ d, r_ rdt, i_ 0, i_ 0, i_ 18, u_, u_] [(.int 0), (.int 0)])) P6 (by
    intro _ k_
    refine gt_ X5 hx hby d18_10 (pc := 10) (pc' := 16) (by decide) ?_
    refine XS.astore X5.here hx rfl (hb hby d18_16) rfl rfl (l' := #[r_ de, r_ b, i_ 0, i_ 0, r_ d, r_ rdt, u_, u_, u_, u_, u_]) rfl ?_
    refine XS.iconst X5.here hx rfl (hb hby d18_18) ?_
    refine is_ X5 hx hby d18_19 (l' := #[r_ de, r_ b, i_ 0, i_ 0, r_ d, r_ rdt, i_ 0, u_, u_, u_, u_]) rfl ?_
    refine XS.iconst X5.here hx rfl (hb hby d18_21) ?_
    refine is_ X5 hx hby d18_22 (l' := #[r_ de, r_ b, i_ 0, i_ 0, r_ d, r_ rdt, i_ 0, i_ 0, u_, u_, u_]) rfl ?_
    refine XS.bipush X5.here hx rfl (hb hby d18_24) ?_
    refine is_ X5 hx hby d18_26 (l' := #[r_ de, r_ b, i_ 0, i_ 0, r_ d, r_ rdt, i_ 0, i_ 0, i_ 18, u_, u_]) rfl ?_
    refine iN_ X5 hx hby d18_28 rfl ?_
    refine iN_ X5 hx hby d18_29 rfl ?_
    exact k_)
  have P8 := oS (T5.setTop (mkF m 285 #[r_ de, r_ b, i_ 0, i_ 0, r_ d, r_ rdt, i_ 0, i_ 0, i_ 18, u_, u_] [(.int 6), (.int 18)])) P7 (by
    intro _ k_
    refine cY_ X5 hx hby d18_30 (pc := 30) (pc' := 281) (flt (by decide : ¬ ((0 : Int32) < (0 : Int32)))).2.1 (by decide) ?_
    refine il_ X5 hx hby d18_281 rfl ?_
    refine XS.bipush X5.here hx rfl (hb hby d18_283) ?_
    exact k_)
  have P9 := oS (T5.setTop (mkF m 307 #[r_ de, r_ b, i_ 0, i_ 0, r_ d, r_ rdt, i_ 0, i_ 0, i_ 18, u_, u_] [(.int 18)])) P8 (by
    intro _ k_
    refine cY_ X5 hx hby d18_285 (pc := 285) (pc' := 305) (feq (by decide : ¬ ((18 : Int32) = (6 : Int32)))).2 (by decide) ?_
    refine il_ X5 hx hby d18_305 rfl ?_
    exact k_)
  have P10 := oS (T5.setTop (mkF m 345 #[r_ de, r_ b, i_ 0, i_ 0, r_ d, r_ rdt, i_ 0, i_ 0, i_ 18, u_, u_] [(.int 12), (.int 18)])) P9 (by
    intro _ k_
    refine fY_ X5 hx hby d18_307 (pc := 307) (pc' := 341) ((if0 _ _).trans (feq (by decide : ¬ ((18 : Int32) = (0 : Int32)))).2) (by decide) ?_
    refine il_ X5 hx hby d18_341 rfl ?_
    refine XS.bipush X5.here hx rfl (hb hby d18_343) ?_
    exact k_)
  have P11 := oS (T5.setTop (mkF m 360 #[r_ de, r_ b, i_ 0, i_ 0, r_ d, r_ rdt, i_ 0, i_ 0, i_ 18, u_, u_] [(.int 0), (.int 0)])) P10 (by
    intro _ k_
    refine cY_ X5 hx hby d18_345 (pc := 345) (pc' := 358) (feq (by decide : ¬ ((18 : Int32) = (12 : Int32)))).2 (by decide) ?_
    refine iN_ X5 hx hby d18_358 rfl ?_
    refine iN_ X5 hx hby d18_359 rfl ?_
    exact k_)
  have P12 := oS (T5.setTop (mkF m 418 #[r_ de, r_ b, i_ 0, i_ 0, r_ d, r_ rdt, i_ 0, i_ 0, i_ 18, u_, u_] [(.int 0)])) P11 (by
    intro _ k_
    refine cY_ X5 hx hby d18_360 (pc := 360) (pc' := 416) (flt (by decide : ¬ ((0 : Int32) < (0 : Int32)))).2.1 (by decide) ?_
    refine il_ X5 hx hby d18_416 rfl ?_
    exact k_)
  exact own_out X5 hlk (v := some (.int 0)) (own_hv hrt) P12 (fun _ q_ => retI X5 hx hrt (hb hby d18_418) q_) e5 ⟨rfl, N0, (Keep.refl h0 [d]), Vd⟩ (by decide)
theorem pd8 : parseMethodDescriptor "([BII)I" = some ⟨[(.array .byte), .int, .int], some .int⟩ := by decide +kernel
theorem pd9 : parseMethodDescriptor "([BII[B)I" = some ⟨[(.array .byte), .int, .int, (.array .byte)], some .int⟩ := by decide +kernel
abbrev cB16 := jdk_2450_method_2_code
abbrev yM16 : MethodName := ⟨"java/util/Base64$Decoder", "decode", "([B)[B"⟩
theorem d16_0 : own_d cB16 0 (.aload_n 0) 1 := by decide +kernel
theorem d16_1 : own_d cB16 1 (.aload_n 1) 1 := by decide +kernel
theorem d16_2 : own_d cB16 2 (.iconst 0) 1 := by decide +kernel
theorem d16_3 : own_d cB16 3 (.aload_n 1) 1 := by decide +kernel
theorem d16_4 : own_d cB16 4 (.arraylength) 1 := by decide +kernel
theorem d16_5 : own_d cB16 5 (.invokevirtual 16) 3 := by decide +kernel
theorem d16_8 : own_d cB16 8 (.newarray .byte) 2 := by decide +kernel
theorem d16_10 : own_d cB16 10 (.astore_n 2) 1 := by decide +kernel
theorem d16_11 : own_d cB16 11 (.aload_n 0) 1 := by decide +kernel
theorem d16_12 : own_d cB16 12 (.aload_n 1) 1 := by decide +kernel
theorem d16_13 : own_d cB16 13 (.iconst 0) 1 := by decide +kernel
theorem d16_14 : own_d cB16 14 (.aload_n 1) 1 := by decide +kernel
theorem d16_15 : own_d cB16 15 (.arraylength) 1 := by decide +kernel
theorem d16_16 : own_d cB16 16 (.aload_n 2) 1 := by decide +kernel
theorem d16_17 : own_d cB16 17 (.invokevirtual 20) 3 := by decide +kernel
theorem d16_20 : own_d cB16 20 (.istore_n 3) 1 := by decide +kernel
theorem d16_21 : own_d cB16 21 (.iload_n 3) 1 := by decide +kernel
theorem d16_22 : own_d cB16 22 (.aload_n 2) 1 := by decide +kernel
theorem d16_23 : own_d cB16 23 (.arraylength) 1 := by decide +kernel
theorem d16_24 : own_d cB16 24 (.if_icmp .eq 9) 3 := by decide +kernel
theorem d16_33 : own_d cB16 33 (.aload_n 2) 1 := by decide +kernel
theorem d16_34 : own_d cB16 34 (.areturn) 1 := by decide +kernel
theorem ef16RR (m : MethodId) (x0 : Addr) (x1 : Addr) : entryFrame m #[(.ref x0), (.ref x1)] 4 = mkF m 0 #[r_ x0, r_ x1, u_, u_] [] := by first | (simp [entryFrame, mkF, argsToLocals, Value.category]; done) | rfl
def Q_decB_0 (Z : State) (de : Addr) (b : Addr) (k : ClassId) (rdt : Addr) (kdt : ClassId) (h0 : Heap) (n0 : Nat) (v_ : Option Value) (h : Heap) (L_ : List Loc) : Prop := ∃ (xq : Addr) (kk : ClassId), v_ = some (.ref xq) ∧ Fr n0 L_ ∧ Keep h0 h [] ∧ h0.size ≤ xq ∧ Arv Z h xq kk .byte (0 : Int32) [] (.int 0) ∧ Exa Z h xq "[B"
set_option maxRecDepth 65536 in
set_option maxHeartbeats 40000000 in
theorem rm_decB_0 (l : Launch) (Z : State) (a0 : Array Value) (hw : ∀ d ∈ tables_1, d.before a0 Z = true) (ws : List Jvm.Cond) (de : Addr) (b : Addr) (k : ClassId) (rdt : Addr) (kdt : ClassId) (h0 : Heap) (n0 : Nat) (Z0 : n0 ≤ h0.size) (O : Old Z n0 h0) (Sdt : Sta Z Z.heap "java/util/Base64$Decoder" "fromBase64URL" "[I" (.ref rdt)) (Vdt : Arv Z Z.heap rdt kdt .int (256 : Int32) own_dec (.int 0)) (Ed : Exa Z h0 de "java/util/Base64$Decoder") (Fu : Fld Z h0 de "java/util/Base64$Decoder" "isURL" "Z" (.int 1)) (Fm : Fld Z h0 de "java/util/Base64$Decoder" "isMIME" "Z" (.int 0)) (Vb : Arv Z h0 b k .byte (0 : Int32) [] (.int 0)) :
    own_MF l yM16 (.code yM16 cB16 4 (some (.array .byte))) ws ⟨1, 1, 0, 22⟩ #[(.ref de), (.ref b)] Z h0 own_T (Q_decB_0 Z de b k rdt kdt h0 n0) := by
  refine own_in "java/util/Base64$Decoder" rfl (plainFor_of_name pn3) hisR (fun m => ef16RR m de b) ?_
  intro p e s m below meth c s₁ A_ hx hby hml hown hnm hrt hlk hZ _ X0 e0 pre0
  have N0 := Fr.nil n0
  have P1 := oS (s₁.setTop (mkF m 4 #[r_ de, r_ b, u_, u_] [(.ref b), (.int 0), (.ref b), (.ref de)])) pre0 (by
    intro _ k_
    refine aN_ X0 hx hby d16_0 rfl rfl ?_
    refine aN_ X0 hx hby d16_1 rfl rfl ?_
    refine XS.iconst X0.here hx rfl (hb hby d16_2) ?_
    refine aN_ X0 hx hby d16_3 rfl rfl ?_
    exact k_)
  obtain ⟨cl2, Ar2, q2, S2, M2, H2, G2⟩ := id Vb
  have P3 := oS (s₁.setTop (mkF m 5 #[r_ de, r_ b, u_, u_] [(.int 0), (.int 0), (.ref b), (.ref de)])) P1 (by
    intro _ k_
    refine X0.arraylength hx (by rw [e0]; exact Ar2.1) (State.isArrayOf_alike hZ.alike Ar2.2.1) (g := (mkF m 4 #[r_ de, r_ b, u_, u_] [(.ref b), (.int 0), (.ref b), (.ref de)])) rfl rfl (hb hby d16_4) _ ?_
    rw [len_of S2 M2]
    exact k_)
  obtain ⟨_, T4, L4, X4, hQ4, P4c⟩ := own_cP (W := 0) (rm_dol_0 l Z a0 hw [] de b k  rdt kdt h0 n0 Z0 O Sdt Vdt Fu Fm Vb ) X0 hx hZ (fun _ _ => trivial) hown Ed (own_w hw 92 rfl) (own_w hw 94 rfl) (own_w hw 95 rfl) (own_w hw 93 rfl) (own_w hw 57 rfl) (own_w hw 96 rfl) (by decide) P3 hml rfl [(.ref b), (.int 0), (.int 0)] [] rfl rfl rfl pd8 rfl (hb hby d16_5) e0 (by decide)
  obtain ⟨rfl, N4q, e4⟩ := hQ4
  have N4 := Fr.app N0 N4q
  have P5 := own_to (C := T4.setTop (mkF m 8 #[r_ de, r_ b, u_, u_] [(.int 0)])) P4c
  obtain ⟨T6, h6, k6, X6, e6, E6, A6, EA6, st6⟩ := newPE X4 hx hZ (own_w hw 23 rfl) e4 (g := (mkF m 8 #[r_ de, r_ b, u_, u_] [(.int 0)])) rfl (hb hby d16_8) rfl (by decide) (cap := 0) (by decide) (by decide) (by decide) (by decide) (ad := "[B") (by decide +kernel)
  obtain ⟨b6, g6⟩ : ∃ z, z = h0.size := ⟨_, rfl⟩
  rw [← g6] at A6 EA6 st6
  have ne_de_b6 : de ≠ b6 := Nat.ne_of_lt (Nat.lt_of_lt_of_le Fu.lt (Nat.le_of_eq g6.symm))
  have ne_b_b6 : b ≠ b6 := Nat.ne_of_lt (Nat.lt_of_lt_of_le Vb.lt (Nat.le_of_eq g6.symm))
  have g_b6 : n0 ≤ b6 := Nat.le_trans Z0 (Nat.le_of_eq g6.symm)
  have sz_b6 : h0.size ≤ b6 := Nat.le_trans (Keep.refl h0 []).1 (Nat.le_of_eq g6.symm)
  have f7 := O.ext E6
  have f8 := Fu.ext E6
  have f9 := Fm.ext E6
  have f10 := (Keep.refl h0 []).ext E6
  have f11 := Vb.ext E6
  have f12 := Ed.ext E6
  have Z13 : n0 ≤ h6.size := Nat.le_trans Z0 E6.1
  have V6 : Arv Z h6 b6 k6 .byte (0 : Int32) [] (.int 0) := (Arv.new A6 (by decide)).pad (pad_rep [] _ 0)
  have P14 := oS (T6.setTop (mkF m 10 #[r_ de, r_ b, u_, u_] [(.ref b6)])) P5 (fun t_ k_ => st6 t_ k_)
  have P15 := oS (T6.setTop (mkF m 15 #[r_ de, r_ b, r_ b6, u_] [(.ref b), (.int 0), (.ref b), (.ref de)])) P14 (by
    intro _ k_
    refine XS.astoreN X6.here hx rfl (hb hby d16_10) rfl rfl (l' := #[r_ de, r_ b, r_ b6, u_]) rfl ?_
    refine aN_ X6 hx hby d16_11 rfl rfl ?_
    refine aN_ X6 hx hby d16_12 rfl rfl ?_
    refine XS.iconst X6.here hx rfl (hb hby d16_13) ?_
    refine aN_ X6 hx hby d16_14 rfl rfl ?_
    exact k_)
  obtain ⟨cl16, Ar16, q16, S16, M16, H16, G16⟩ := id f11
  have P17 := oS (T6.setTop (mkF m 16 #[r_ de, r_ b, r_ b6, u_] [(.int 0), (.int 0), (.ref b), (.ref de)])) P15 (by
    intro _ k_
    refine X6.arraylength hx (by rw [e6]; exact Ar16.1) (State.isArrayOf_alike hZ.alike Ar16.2.1) (g := (mkF m 15 #[r_ de, r_ b, r_ b6, u_] [(.ref b), (.int 0), (.ref b), (.ref de)])) rfl rfl (hb hby d16_15) _ ?_
    rw [len_of S16 M16]
    exact k_)
  have P18 := oS (T6.setTop (mkF m 17 #[r_ de, r_ b, r_ b6, u_] [(.ref b6), (.int 0), (.int 0), (.ref b), (.ref de)])) P17 (by
    intro _ k_
    refine aN_ X6 hx hby d16_16 rfl rfl ?_
    exact k_)
  obtain ⟨_, T19, L19, X19, hQ19, P19c⟩ := own_cP (W := 0) (rm_dec0_0 l Z a0 hw [] de b k b6 k6    rdt kdt h6 n0 Z13 f7 Sdt Vdt f8 f9 f11 V6 ne_b_b6 g_b6 ne_de_b6  ) X6 hx hZ (fun _ _ => trivial) hown f12 (own_w hw 104 rfl) (own_w hw 106 rfl) (own_w hw 107 rfl) (own_w hw 105 rfl) (own_w hw 57 rfl) (own_w hw 108 rfl) (by decide) P18 hml rfl [(.ref b), (.int 0), (.int 0), (.ref b6)] [] rfl rfl rfl pd9 rfl (hb hby d16_17) e6 (by decide)
  obtain ⟨rfl, N19q, K19, f20⟩ := hQ19
  have N19 := Fr.app N4 N19q
  have f24 := f10.trans K19 (allS (Or.inr sz_b6) all0)
  have f28 := EA6.keep K19
  have P30 := own_to (C := T19.setTop (mkF m 20 #[r_ de, r_ b, r_ b6, u_] [(.int 0)])) P19c
  have P31 := oS (T19.setTop (mkF m 23 #[r_ de, r_ b, r_ b6, i_ 0] [(.ref b6), (.int 0)])) P30 (by
    intro _ k_
    refine XS.istoreN X19.here hx rfl (hb hby d16_20) rfl (l' := #[r_ de, r_ b, r_ b6, i_ 0]) rfl ?_
    refine iN_ X19 hx hby d16_21 rfl ?_
    refine aN_ X19 hx hby d16_22 rfl rfl ?_
    exact k_)
  obtain ⟨cl32, Ar32, q32, S32, M32, H32, G32⟩ := id f20
  have P33 := oS (T19.setTop (mkF m 24 #[r_ de, r_ b, r_ b6, i_ 0] [(.int 0), (.int 0)])) P31 (by
    intro _ k_
    refine X19.arraylength hx Ar32.1 (State.isArrayOf_alike hZ.alike Ar32.2.1) (g := (mkF m 23 #[r_ de, r_ b, r_ b6, i_ 0] [(.ref b6), (.int 0)])) rfl rfl (hb hby d16_23) _ ?_
    rw [len_of S32 M32]
    exact k_)
  have P34 := oS (T19.setTop (mkF m 34 #[r_ de, r_ b, r_ b6, i_ 0] [(.ref b6)])) P33 (by
    intro _ k_
    refine cY_ X19 hx hby d16_24 (pc := 24) (pc' := 33) (teq (by decide : (0 : Int32) = (0 : Int32))).1 (by decide) ?_
    refine aN_ X19 hx hby d16_33 rfl rfl ?_
    exact k_)
  exact own_out X19 hlk (v := some (.ref b6)) (own_hv hrt) P34 (fun _ q_ => retOut X19 hx hrt rfl (Or.inr (Or.inr (Or.inr (Or.inr ⟨rfl, rfl, rfl⟩)))) (hb hby d16_34) q_) (rfl : T19.heap = _) ⟨b6, k6, rfl, N19, f24, sz_b6, f20, f28⟩ (by decide)
theorem pd10 : parseMethodDescriptor "(Ljava/nio/charset/Charset;)[B" = some ⟨[(.object "java/nio/charset/Charset")], some (.array .byte)⟩ := by decide +kernel
theorem pd11 : parseMethodDescriptor "([B)[B" = some ⟨[(.array .byte)], some (.array .byte)⟩ := by decide +kernel
abbrev cB11 := jdk_2450_method_3_code
abbrev yM11 : MethodName := ⟨"java/util/Base64$Decoder", "decode", "(Ljava/lang/String;)[B"⟩
theorem d11_0 : own_d cB11 0 (.aload_n 0) 1 := by decide +kernel
theorem d11_1 : own_d cB11 1 (.aload_n 1) 1 := by decide +kernel
theorem d11_2 : own_d cB11 2 (.getstatic 30) 3 := by decide +kernel
theorem d11_5 : own_d cB11 5 (.invokevirtual 36) 3 := by decide +kernel
theorem d11_8 : own_d cB11 8 (.invokevirtual 42) 3 := by decide +kernel
theorem d11_11 : own_d cB11 11 (.areturn) 1 := by decide +kernel
theorem ef11RR (m : MethodId) (x0 : Addr) (x1 : Addr) : entryFrame m #[(.ref x0), (.ref x1)] 2 = mkF m 0 #[r_ x0, r_ x1] [] := by first | (simp [entryFrame, mkF, argsToLocals, Value.category]; done) | rfl
def Q_decS_0 (Z : State) (de : Addr) (a : Addr) (b : Addr) (k : ClassId) (rdt : Addr) (kdt : ClassId) (riso : Addr) (rutf : Addr) (cs : Int32) (h0 : Heap) (n0 : Nat) (v_ : Option Value) (h : Heap) (L_ : List Loc) : Prop := ∃ (xq : Addr) (kk : ClassId), v_ = some (.ref xq) ∧ Fr n0 L_ ∧ Keep h0 h [] ∧ h0.size ≤ xq ∧ Arv Z h xq kk .byte (0 : Int32) [] (.int 0) ∧ Exa Z h xq "[B"
set_option maxRecDepth 65536 in
set_option maxHeartbeats 40000000 in
theorem rm_decS_0 (l : Launch) (Z : State) (a0 : Array Value) (hw : ∀ d ∈ tables_1, d.before a0 Z = true) (ws : List Jvm.Cond) (de : Addr) (a : Addr) (b : Addr) (k : ClassId) (rdt : Addr) (kdt : ClassId) (riso : Addr) (rutf : Addr) (cs : Int32) (h0 : Heap) (n0 : Nat) (Z0 : n0 ≤ h0.size) (O : Old Z n0 h0) (Scs : Sta Z Z.heap "java/lang/String" "COMPACT_STRINGS" "Z" (.int cs)) (hcs : ¬ (cs = (0 : Int32))) (Siso : Sta Z Z.heap "sun/nio/cs/ISO_8859_1" "INSTANCE" "Lsun/nio/cs/ISO_8859_1;" (.ref riso)) (Sutf : Sta Z Z.heap "sun/nio/cs/UTF_8" "INSTANCE" "Lsun/nio/cs/UTF_8;" (.ref rutf)) (nci : riso ≠ rutf) (Sdt : Sta Z Z.heap "java/util/Base64$Decoder" "fromBase64URL" "[I" (.ref rdt)) (Vdt : Arv Z Z.heap rdt kdt .int (256 : Int32) own_dec (.int 0)) (Ed : Exa Z h0 de "java/util/Base64$Decoder") (Fu : Fld Z h0 de "java/util/Base64$Decoder" "isURL" "Z" (.int 1)) (Fm : Fld Z h0 de "java/util/Base64$Decoder" "isMIME" "Z" (.int 0)) (Ea : Exa Z h0 a "java/lang/String") (Fc : Fld Z h0 a "java/lang/String" "coder" "B" (.int 0)) (Fv : Fld Z h0 a "java/lang/String" "value" "[B" (.ref b)) (Vb : Arv Z h0 b k .byte (0 : Int32) [] (.int 0)) (Eb : Exa Z h0 b "[B") :
    own_MF l yM11 (.code yM11 cB11 2 (some (.array .byte))) ws ⟨5, 2, 4, 76⟩ #[(.ref de), (.ref a)] Z h0 own_T (Q_decS_0 Z de a b k rdt kdt riso rutf cs h0 n0) := by
  refine own_in "java/util/Base64$Decoder" rfl (plainFor_of_name pn3) hisR (fun m => ef11RR m de a) ?_
  intro p e s m below meth c s₁ A_ hx hby hml hown hnm hrt hlk hZ _ X0 e0 pre0
  have N0 := Fr.nil n0
  have P1 := oS (s₁.setTop (mkF m 2 #[r_ de, r_ a] [(.ref a), (.ref de)])) pre0 (by
    intro _ k_
    refine aN_ X0 hx hby d11_0 rfl rfl ?_
    refine aN_ X0 hx hby d11_1 rfl rfl ?_
    exact k_)
  obtain ⟨T2, X2, e2, st2⟩ := getS2 X0 hx hZ hown (host := "") (Or.inl (own_w hw 59 rfl)) Via.refl e0 (Siso.ext O.2) (g := (mkF m 2 #[r_ de, r_ a] [(.ref a), (.ref de)])) rfl (hb hby d11_2)
  have P3 := oS (T2.setTop (mkF m 5 #[r_ de, r_ a] [(.ref riso), (.ref a), (.ref de)])) P1 (fun t_ k_ => st2 t_ k_)
  obtain ⟨_, T4, L4, X4, hQ4, P4c⟩ := own_cV (W := 1) (rm_getB l Z a0 hw [] a b k (0 : Int32) [] riso rutf cs h0 n0 Z0 O Scs hcs Siso Sutf nci Ea Fc Fv Vb Eb (by decide)) X2 hx hZ (fun _ _ => trivial) hown Ea (own_w hw 61 rfl) (own_w hw 62 rfl) (own_w hw 64 rfl) (own_w hw 63 rfl) (own_w hw 7 rfl) (own_w hw 65 rfl) (by decide) P3 hml rfl [(.ref riso)] [(.ref de)] rfl rfl rfl pd10 rfl (hb hby d11_5) e2 (by decide)
  obtain ⟨xq4, rfl, N4q, K4, f5, f6, f7⟩ := hQ4
  have N4 := Fr.app N0 N4q
  have f8 := O.keep K4 all0
  have f9 := Fu.keep K4 nin0
  have f10 := Fm.keep K4 nin0
  have f11 := (Keep.refl h0 []).trans K4 all0
  have f17 := Ed.keep K4
  have Z18 : n0 ≤ T4.heap.size := Nat.le_trans Z0 K4.1
  have P19 := own_to (C := T4.setTop (mkF m 8 #[r_ de, r_ a] [(.ref xq4), (.ref de)])) P4c
  obtain ⟨_, T20, L20, X20, hQ20, P20c⟩ := own_cV (W := 0) (rm_decB_0 l Z a0 hw [] de xq4 k    rdt kdt T4.heap n0 Z18 f8 Sdt Vdt f17 f9 f10 f6   ) X4 hx hZ (fun _ _ => trivial) hown f17 (own_w hw 87 rfl) (own_w hw 88 rfl) (own_w hw 90 rfl) (own_w hw 89 rfl) (own_w hw 57 rfl) (own_w hw 91 rfl) (by decide) P19 hml rfl [(.ref xq4)] [] rfl rfl rfl pd11 rfl (hb hby d11_8) (rfl : T4.heap = _) (by decide)
  obtain ⟨xq20, kk20, rfl, N20q, K20, f21, f22, f23⟩ := hQ20
  have N20 := Fr.app N4 N20q
  have sz_xq20 : h0.size ≤ xq20 := Nat.le_trans f11.1 f21
  have f27 := f11.trans K20 all0
  have P37 := own_to (C := T20.setTop (mkF m 11 #[r_ de, r_ a] [(.ref xq20)])) P20c
  exact own_out X20 hlk (v := some (.ref xq20)) (own_hv hrt) P37 (fun _ q_ => retOut X20 hx hrt rfl (Or.inr (Or.inr (Or.inr (Or.inr ⟨rfl, rfl, rfl⟩)))) (hb hby d11_11) q_) (rfl : T20.heap = _) ⟨xq20, kk20, rfl, N20, f27, sz_xq20, f22, f23⟩ (by decide)
abbrev cB22 := jdk_29_method_28_code
abbrev yM22 : MethodName := ⟨"java/lang/Math", "multiplyExact", "(II)I"⟩
theorem d22_0 : own_d cB22 0 (.iload_n 0) 1 := by decide +kernel
theorem d22_1 : own_d cB22 1 (.i2l) 1 := by decide +kernel
theorem d22_2 : own_d cB22 2 (.iload_n 1) 1 := by decide +kernel
theorem d22_3 : own_d cB22 3 (.i2l) 1 := by decide +kernel
theorem d22_4 : own_d cB22 4 (.lmul) 1 := by decide +kernel
theorem d22_5 : own_d cB22 5 (.lstore_n 2) 1 := by decide +kernel
theorem d22_6 : own_d cB22 6 (.lload_n 2) 1 := by decide +kernel
theorem d22_7 : own_d cB22 7 (.l2i) 1 := by decide +kernel
theorem d22_8 : own_d cB22 8 (.i2l) 1 := by decide +kernel
theorem d22_9 : own_d cB22 9 (.lload_n 2) 1 := by decide +kernel
theorem d22_10 : own_d cB22 10 (.lcmp) 1 := by decide +kernel
theorem d22_11 : own_d cB22 11 (.ifCond .eq 13) 3 := by decide +kernel
theorem d22_24 : own_d cB22 24 (.lload_n 2) 1 := by decide +kernel
theorem d22_25 : own_d cB22 25 (.l2i) 1 := by decide +kernel
theorem d22_26 : own_d cB22 26 (.ireturn) 1 := by decide +kernel
theorem ef22II (m : MethodId) (x0 : Int32) (x1 : Int32) : entryFrame m #[(.int x0), (.int x1)] 4 = mkF m 0 #[i_ x0, i_ x1, u_, u_] [] := by first | (simp [entryFrame, mkF, argsToLocals, Value.category]; done) | rfl
def Q_multiplyExact_4_0 (Z : State)  (h0 : Heap) (n0 : Nat) (v_ : Option Value) (h : Heap) (L_ : List Loc) : Prop := v_ = some (.int 0) ∧ Fr n0 L_ ∧ h = h0
set_option maxRecDepth 65536 in
set_option maxHeartbeats 40000000 in
theorem rm_multiplyExact_4_0 (l : Launch) (Z : State) (a0 : Array Value) (hw : ∀ d ∈ tables_1, d.before a0 Z = true) (ws : List Jvm.Cond)  (h0 : Heap) (n0 : Nat) (Z0 : n0 ≤ h0.size) :
    own_MF l yM22 (.code yM22 cB22 4 (some .int)) ws ⟨0, 0, 0, 0⟩ #[(.int 4), (.int 0)] Z h0 own_T (Q_multiplyExact_4_0 Z  h0 n0) := by
  refine own_in "java/lang/Math" rfl (Jvm.Free.JP.mathPlain rfl (by decide +kernel)) hisR (fun m => ef22II m (4 : Int32) (0 : Int32)) ?_
  intro p e s m below meth c s₁ A_ hx hby hml hown hnm hrt hlk hZ _ X0 e0 pre0
  have N0 := Fr.nil n0
  have P1 := oS (s₁.setTop (mkF m 11 #[i_ 4, i_ 0, .val (.long (((4 : Int32).toInt64) * ((0 : Int32).toInt64))), .second] [(.int (lcmpW (((((4 : Int32).toInt64) * ((0 : Int32).toInt64)).toInt32).toInt64) (((4 : Int32).toInt64) * ((0 : Int32).toInt64))))])) pre0 (by
    intro _ k_
    refine iN_ X0 hx hby d22_0 rfl ?_
    refine XS.i2l X0.here hx rfl (hb hby d22_1) rfl ?_
    refine iN_ X0 hx hby d22_2 rfl ?_
    refine XS.i2l X0.here hx rfl (hb hby d22_3) rfl ?_
    refine XS.lmul X0.here hx rfl (hb hby d22_4) rfl ?_
    refine XS.lstoreN X0.here hx rfl (hb hby d22_5) rfl (l' := #[i_ 4, i_ 0, .val (.long (((4 : Int32).toInt64) * ((0 : Int32).toInt64))), .second]) rfl ?_
    refine XS.lloadN X0.here hx rfl (hb hby d22_6) rfl ?_
    refine XS.l2i X0.here hx rfl (hb hby d22_7) rfl ?_
    refine XS.i2l X0.here hx rfl (hb hby d22_8) rfl ?_
    refine XS.lloadN X0.here hx rfl (hb hby d22_9) rfl ?_
    refine XS.lcmp X0.here hx rfl (hb hby d22_10) rfl ?_
    exact k_)
  have P2 := oS (s₁.setTop (mkF m 26 #[i_ 4, i_ 0, .val (.long (((4 : Int32).toInt64) * ((0 : Int32).toInt64))), .second] [(.int ((((4 : Int32).toInt64) * ((0 : Int32).toInt64)).toInt32))])) P1 (by
    intro _ k_
    refine fY_ X0 hx hby d22_11 (pc := 11) (pc' := 24) ((if0 _ _).trans (teq ((lw_eq _ _).mpr (by decide : (((((4 : Int32).toInt64) * ((0 : Int32).toInt64)).toInt32).toInt64) = (((4 : Int32).toInt64) * ((0 : Int32).toInt64))))).1) (by decide) ?_
    refine XS.lloadN X0.here hx rfl (hb hby d22_24) rfl ?_
    refine XS.l2i X0.here hx rfl (hb hby d22_25) rfl ?_
    exact k_)
  exact own_out X0 hlk (v := some (.int ((((4 : Int32).toInt64) * ((0 : Int32).toInt64)).toInt32))) (own_hv hrt) P2 (fun _ q_ => retI X0 hx hrt (hb hby d22_26) q_) e0 ⟨(congrArg (fun z : Int32 => some (Value.int z)) (by decide +kernel)), N0, rfl⟩ (by decide)
abbrev cB23 := jdk_29_method_24_code
abbrev yM23 : MethodName := ⟨"java/lang/Math", "addExact", "(II)I"⟩
theorem d23_0 : own_d cB23 0 (.iload_n 0) 1 := by decide +kernel
theorem d23_1 : own_d cB23 1 (.iload_n 1) 1 := by decide +kernel
theorem d23_2 : own_d cB23 2 (.iadd) 1 := by decide +kernel
theorem d23_3 : own_d cB23 3 (.istore_n 2) 1 := by decide +kernel
theorem d23_4 : own_d cB23 4 (.iload_n 0) 1 := by decide +kernel
theorem d23_5 : own_d cB23 5 (.iload_n 2) 1 := by decide +kernel
theorem d23_6 : own_d cB23 6 (.ixor) 1 := by decide +kernel
theorem d23_7 : own_d cB23 7 (.iload_n 1) 1 := by decide +kernel
theorem d23_8 : own_d cB23 8 (.iload_n 2) 1 := by decide +kernel
theorem d23_9 : own_d cB23 9 (.ixor) 1 := by decide +kernel
theorem d23_10 : own_d cB23 10 (.iand) 1 := by decide +kernel
theorem d23_11 : own_d cB23 11 (.ifCond .ge 13) 3 := by decide +kernel
theorem d23_24 : own_d cB23 24 (.iload_n 2) 1 := by decide +kernel
theorem d23_25 : own_d cB23 25 (.ireturn) 1 := by decide +kernel
theorem ef23II (m : MethodId) (x0 : Int32) (x1 : Int32) : entryFrame m #[(.int x0), (.int x1)] 3 = mkF m 0 #[i_ x0, i_ x1, u_] [] := by first | (simp [entryFrame, mkF, argsToLocals, Value.category]; done) | rfl
def Q_addExact_0_0 (Z : State)  (h0 : Heap) (n0 : Nat) (v_ : Option Value) (h : Heap) (L_ : List Loc) : Prop := v_ = some (.int 0) ∧ Fr n0 L_ ∧ h = h0
set_option maxRecDepth 65536 in
set_option maxHeartbeats 40000000 in
theorem rm_addExact_0_0 (l : Launch) (Z : State) (a0 : Array Value) (hw : ∀ d ∈ tables_1, d.before a0 Z = true) (ws : List Jvm.Cond)  (h0 : Heap) (n0 : Nat) (Z0 : n0 ≤ h0.size) :
    own_MF l yM23 (.code yM23 cB23 3 (some .int)) ws ⟨0, 0, 0, 0⟩ #[(.int 0), (.int 0)] Z h0 own_T (Q_addExact_0_0 Z  h0 n0) := by
  refine own_in "java/lang/Math" rfl (Jvm.Free.JP.mathPlain rfl (by decide +kernel)) hisR (fun m => ef23II m (0 : Int32) (0 : Int32)) ?_
  intro p e s m below meth c s₁ A_ hx hby hml hown hnm hrt hlk hZ _ X0 e0 pre0
  have N0 := Fr.nil n0
  have P1 := oS (s₁.setTop (mkF m 11 #[i_ 0, i_ 0, i_ 0] [(.int 0)])) pre0 (by
    intro _ k_
    refine iN_ X0 hx hby d23_0 rfl ?_
    refine iN_ X0 hx hby d23_1 rfl ?_
    refine XS.iadd X0.here hx rfl (hb hby d23_2) rfl ?_
    show Steps p.tables e below (s₁.setTop (mkF m 3 #[i_ 0, i_ 0, u_] [(.int 0)])) _
    refine XS.istoreN X0.here hx rfl (hb hby d23_3) rfl (l' := #[i_ 0, i_ 0, i_ 0]) rfl ?_
    refine iN_ X0 hx hby d23_4 rfl ?_
    refine iN_ X0 hx hby d23_5 rfl ?_
    refine XS.ixor X0.here hx rfl (hb hby d23_6) rfl ?_
    show Steps p.tables e below (s₁.setTop (mkF m 7 #[i_ 0, i_ 0, i_ 0] [(.int 0)])) _
    refine iN_ X0 hx hby d23_7 rfl ?_
    refine iN_ X0 hx hby d23_8 rfl ?_
    refine XS.ixor X0.here hx rfl (hb hby d23_9) rfl ?_
    show Steps p.tables e below (s₁.setTop (mkF m 10 #[i_ 0, i_ 0, i_ 0] [(.int 0), (.int 0)])) _
    refine XS.iand X0.here hx rfl (hb hby d23_10) rfl ?_
    exact k_)
  have P2 := oS (s₁.setTop (mkF m 25 #[i_ 0, i_ 0, i_ 0] [(.int 0)])) P1 (by
    intro _ k_
    refine fY_ X0 hx hby d23_11 (pc := 11) (pc' := 24) ((if0 _ _).trans (flt (by decide : ¬ ((0 : Int32) < (0 : Int32)))).2.1) (by decide) ?_
    refine iN_ X0 hx hby d23_24 rfl ?_
    exact k_)
  exact own_out X0 hlk (v := some (.int 0)) (own_hv hrt) P2 (fun _ q_ => retI X0 hx hrt (hb hby d23_25) q_) e0 ⟨(congrArg (fun z : Int32 => some (Value.int z)) (by decide +kernel)), N0, rfl⟩ (by decide)
theorem pd12 : parseMethodDescriptor "(II)I" = some ⟨[.int, .int], some .int⟩ := by decide +kernel
abbrev cB34 := jdk_2452_method_2_code
abbrev yM34 : MethodName := ⟨"java/util/Base64$Encoder", "encodedOutLength", "(IZ)I"⟩
theorem d34_0 : own_d cB34 0 (.iconst 0) 1 := by decide +kernel
theorem d34_1 : own_d cB34 1 (.istore_n 3) 1 := by decide +kernel
theorem d34_2 : own_d cB34 2 (.aload_n 0) 1 := by decide +kernel
theorem d34_3 : own_d cB34 3 (.getfield 21) 3 := by decide +kernel
theorem d34_6 : own_d cB34 6 (.ifCond .eq 18) 3 := by decide +kernel
theorem d34_24 : own_d cB34 24 (.iload_n 1) 1 := by decide +kernel
theorem d34_25 : own_d cB34 25 (.iconst 3) 1 := by decide +kernel
theorem d34_26 : own_d cB34 26 (.irem) 1 := by decide +kernel
theorem d34_27 : own_d cB34 27 (.istore 4) 2 := by decide +kernel
theorem d34_29 : own_d cB34 29 (.iconst 4) 1 := by decide +kernel
theorem d34_30 : own_d cB34 30 (.iload_n 1) 1 := by decide +kernel
theorem d34_31 : own_d cB34 31 (.iconst 3) 1 := by decide +kernel
theorem d34_32 : own_d cB34 32 (.idiv) 1 := by decide +kernel
theorem d34_33 : own_d cB34 33 (.invokestatic 30) 3 := by decide +kernel
theorem d34_36 : own_d cB34 36 (.iload 4) 2 := by decide +kernel
theorem d34_38 : own_d cB34 38 (.ifCond .ne 7) 3 := by decide +kernel
theorem d34_41 : own_d cB34 41 (.iconst 0) 1 := by decide +kernel
theorem d34_42 : own_d cB34 42 (.goto 7) 3 := by decide +kernel
theorem d34_49 : own_d cB34 49 (.invokestatic 24) 3 := by decide +kernel
theorem d34_52 : own_d cB34 52 (.istore_n 3) 1 := by decide +kernel
theorem d34_53 : own_d cB34 53 (.aload_n 0) 1 := by decide +kernel
theorem d34_54 : own_d cB34 54 (.getfield 17) 3 := by decide +kernel
theorem d34_57 : own_d cB34 57 (.ifCond .le 22) 3 := by decide +kernel
theorem d34_79 : own_d cB34 79 (.goto 21) 3 := by decide +kernel
theorem d34_100 : own_d cB34 100 (.iload_n 3) 1 := by decide +kernel
theorem d34_101 : own_d cB34 101 (.ireturn) 1 := by decide +kernel
theorem ef34RII (m : MethodId) (x0 : Addr) (x1 : Int32) (x2 : Int32) : entryFrame m #[(.ref x0), (.int x1), (.int x2)] 5 = mkF m 0 #[r_ x0, i_ x1, i_ x2, u_, u_] [] := by first | (simp [entryFrame, mkF, argsToLocals, Value.category]; done) | rfl
def Q_eol_0 (Z : State) (en : Addr) (h0 : Heap) (n0 : Nat) (v_ : Option Value) (h : Heap) (L_ : List Loc) : Prop := v_ = some (.int 0) ∧ Fr n0 L_ ∧ h = h0
theorem pn4 : plainName "java/util/Base64$Encoder" = true := by first | (simp [plainName, overriddenIn]; done) | decide +kernel
set_option maxRecDepth 65536 in
set_option maxHeartbeats 40000000 in
theorem rm_eol_0 (l : Launch) (Z : State) (a0 : Array Value) (hw : ∀ d ∈ tables_1, d.before a0 Z = true) (ws : List Jvm.Cond) (en : Addr) (h0 : Heap) (n0 : Nat) (Z0 : n0 ≤ h0.size) (O : Old Z n0 h0) (Fp : Fld Z h0 en "java/util/Base64$Encoder" "doPadding" "Z" (.int 0)) (Fl : Fld Z h0 en "java/util/Base64$Encoder" "linemax" "I" (.int (-1 : Int32))) (Fe : Fld Z h0 en "java/util/Base64$Encoder" "isURL" "Z" (.int 1)) :
    own_MF l yM34 (.codeWith yM34 cB34 5 (some .int) [(2, 79, 82, 33)]) ws ⟨1, 0, 0, 15⟩ #[(.ref en), (.int 0), (.int 1)] Z h0 own_T (Q_eol_0 Z en h0 n0) := by
  refine own_in "java/util/Base64$Encoder" rfl (plainFor_of_name pn4) hisWith (fun m => ef34RII m en (0 : Int32) (1 : Int32)) ?_
  intro p e s m below meth c s₁ A_ hx hby hml hown hnm hrt hlk hZ _ X0 e0 pre0
  have N0 := Fr.nil n0
  have P1 := oS (s₁.setTop (mkF m 3 #[r_ en, i_ 0, i_ 1, i_ 0, u_] [(.ref en)])) pre0 (by
    intro _ k_
    refine XS.iconst X0.here hx rfl (hb hby d34_0) ?_
    refine XS.istoreN X0.here hx rfl (hb hby d34_1) rfl (l' := #[r_ en, i_ 0, i_ 1, i_ 0, u_]) rfl ?_
    refine aN_ X0 hx hby d34_2 rfl rfl ?_
    exact k_)
  obtain ⟨T2, X2, e2, st2⟩ := getF X0 hx hZ hown (host := "") (Or.inl (own_w hw 130 rfl)) Via.refl e0 Fp (g := (mkF m 3 #[r_ en, i_ 0, i_ 1, i_ 0, u_] [(.ref en)])) rfl rfl (hb hby d34_3)
  have P3 := oS (T2.setTop (mkF m 6 #[r_ en, i_ 0, i_ 1, i_ 0, u_] [(.int 0)])) P1 (fun t_ k_ => st2 t_ k_)
  have P4 := oS (T2.setTop (mkF m 33 #[r_ en, i_ 0, i_ 1, i_ 0, i_ 0] [(.int 0), (.int 4)])) P3 (by
    intro _ k_
    refine fY_ X2 hx hby d34_6 (pc := 6) (pc' := 24) ((if0 _ _).trans (teq (by decide : (0 : Int32) = (0 : Int32))).1) (by decide) ?_
    refine iN_ X2 hx hby d34_24 rfl ?_
    refine XS.iconst X2.here hx rfl (hb hby d34_25) ?_
    refine iremM X2 hx rfl (hb hby d34_26) rfl (by decide) ?_
    show Steps p.tables e below (T2.setTop (mkF m 27 #[r_ en, i_ 0, i_ 1, i_ 0, u_] [(.int 0)])) _
    refine is_ X2 hx hby d34_27 (l' := #[r_ en, i_ 0, i_ 1, i_ 0, i_ 0]) rfl ?_
    refine XS.iconst X2.here hx rfl (hb hby d34_29) ?_
    refine iN_ X2 hx hby d34_30 rfl ?_
    refine XS.iconst X2.here hx rfl (hb hby d34_31) ?_
    refine XS.idiv X2.here hx rfl (hb hby d34_32) rfl (by decide) ?_
    exact k_)
  obtain ⟨_, T5, L5, X5, hQ5, P5c⟩ := own_cS (W := 0) (rm_multiplyExact_4_0 l Z a0 hw []  h0 n0 Z0 ) X2 hx hZ (fun _ _ => trivial) hown (own_w hw 132 rfl) (own_w hw 133 rfl) (own_w hw 134 rfl) (own_w hw 135 rfl) (by decide) P4 hml rfl [(.int 4), (.int 0)] [] rfl rfl rfl pd12 rfl (hb hby d34_33) e2 (by decide)
  obtain ⟨rfl, N5q, e5⟩ := hQ5
  have N5 := Fr.app N0 N5q
  have P6 := own_to (C := T5.setTop (mkF m 36 #[r_ en, i_ 0, i_ 1, i_ 0, i_ 0] [(.int 0)])) P5c
  have P7 := oS (T5.setTop (mkF m 38 #[r_ en, i_ 0, i_ 1, i_ 0, i_ 0] [(.int 0), (.int 0)])) P6 (by
    intro _ k_
    refine il_ X5 hx hby d34_36 rfl ?_
    exact k_)
  have P8 := oS (T5.setTop (mkF m 49 #[r_ en, i_ 0, i_ 1, i_ 0, i_ 0] [(.int 0), (.int 0)])) P7 (by
    intro _ k_
    refine XS.ifNo X5.here hx rfl (hb hby d34_38) rfl ((if0 _ _).trans (teq (by decide : (0 : Int32) = (0 : Int32))).2) ?_
    refine XS.iconst X5.here hx rfl (hb hby d34_41) ?_
    refine gt_ X5 hx hby d34_42 (pc := 42) (pc' := 49) (by decide) ?_
    exact k_)
  obtain ⟨_, T9, L9, X9, hQ9, P9c⟩ := own_cS (W := 0) (rm_addExact_0_0 l Z a0 hw []  h0 n0 Z0 ) X5 hx hZ (fun _ _ => trivial) hown (own_w hw 136 rfl) (own_w hw 137 rfl) (own_w hw 134 rfl) (own_w hw 138 rfl) (by decide) P8 hml rfl [(.int 0), (.int 0)] [] rfl rfl rfl pd12 rfl (hb hby d34_49) e5 (by decide)
  obtain ⟨rfl, N9q, e9⟩ := hQ9
  have N9 := Fr.app N5 N9q
  have P10 := own_to (C := T9.setTop (mkF m 52 #[r_ en, i_ 0, i_ 1, i_ 0, i_ 0] [(.int 0)])) P9c
  have P11 := oS (T9.setTop (mkF m 54 #[r_ en, i_ 0, i_ 1, i_ 0, i_ 0] [(.ref en)])) P10 (by
    intro _ k_
    refine XS.istoreN X9.here hx rfl (hb hby d34_52) rfl (l' := #[r_ en, i_ 0, i_ 1, i_ 0, i_ 0]) rfl ?_
    refine aN_ X9 hx hby d34_53 rfl rfl ?_
    exact k_)
  obtain ⟨T12, X12, e12, st12⟩ := getF X9 hx hZ hown (host := "") (Or.inl (own_w hw 139 rfl)) Via.refl e9 Fl (g := (mkF m 54 #[r_ en, i_ 0, i_ 1, i_ 0, i_ 0] [(.ref en)])) rfl rfl (hb hby d34_54)
  have P13 := oS (T12.setTop (mkF m 57 #[r_ en, i_ 0, i_ 1, i_ 0, i_ 0] [(.int (-1 : Int32))])) P11 (fun t_ k_ => st12 t_ k_)
  have P14 := oS (T12.setTop (mkF m 101 #[r_ en, i_ 0, i_ 1, i_ 0, i_ 0] [(.int 0)])) P13 (by
    intro _ k_
    refine fY_ X12 hx hby d34_57 (pc := 57) (pc' := 79) ((if0 _ _).trans (flt (by decide : ¬ ((0 : Int32) < (-1 : Int32)))).2.2.2) (by decide) ?_
    refine gt_ X12 hx hby d34_79 (pc := 79) (pc' := 100) (by decide) ?_
    refine iN_ X12 hx hby d34_100 rfl ?_
    exact k_)
  exact own_out X12 hlk (v := some (.int 0)) (own_hv hrt) P14 (fun _ q_ => retI X12 hx hrt (hb hby d34_101) q_) e12 ⟨rfl, N9, rfl⟩ (by decide)
abbrev cB24 := jdk_2452_method_10_code
abbrev yM24 : MethodName := ⟨"java/util/Base64$Encoder", "encode0", "([BII[B)I"⟩
theorem d24_0 : own_d cB24 0 (.aload_n 0) 1 := by decide +kernel
theorem d24_1 : own_d cB24 1 (.getfield 7) 3 := by decide +kernel
theorem d24_4 : own_d cB24 4 (.ifCond .eq 9) 3 := by decide +kernel
theorem d24_7 : own_d cB24 7 (.getstatic 111) 3 := by decide +kernel
theorem d24_10 : own_d cB24 10 (.goto 6) 3 := by decide +kernel
theorem d24_16 : own_d cB24 16 (.astore 5) 2 := by decide +kernel
theorem d24_18 : own_d cB24 18 (.iload_n 2) 1 := by decide +kernel
theorem d24_19 : own_d cB24 19 (.istore 6) 2 := by decide +kernel
theorem d24_21 : own_d cB24 21 (.iload_n 3) 1 := by decide +kernel
theorem d24_22 : own_d cB24 22 (.iload_n 2) 1 := by decide +kernel
theorem d24_23 : own_d cB24 23 (.isub) 1 := by decide +kernel
theorem d24_24 : own_d cB24 24 (.iconst 3) 1 := by decide +kernel
theorem d24_25 : own_d cB24 25 (.idiv) 1 := by decide +kernel
theorem d24_26 : own_d cB24 26 (.iconst 3) 1 := by decide +kernel
theorem d24_27 : own_d cB24 27 (.imul) 1 := by decide +kernel
theorem d24_28 : own_d cB24 28 (.istore 7) 2 := by decide +kernel
theorem d24_30 : own_d cB24 30 (.iload_n 2) 1 := by decide +kernel
theorem d24_31 : own_d cB24 31 (.iload 7) 2 := by decide +kernel
theorem d24_33 : own_d cB24 33 (.iadd) 1 := by decide +kernel
theorem d24_34 : own_d cB24 34 (.istore 8) 2 := by decide +kernel
theorem d24_36 : own_d cB24 36 (.aload_n 0) 1 := by decide +kernel
theorem d24_37 : own_d cB24 37 (.getfield 17) 3 := by decide +kernel
theorem d24_40 : own_d cB24 40 (.ifCond .le 26) 3 := by decide +kernel
theorem d24_66 : own_d cB24 66 (.iconst 0) 1 := by decide +kernel
theorem d24_67 : own_d cB24 67 (.istore 9) 2 := by decide +kernel
theorem d24_69 : own_d cB24 69 (.iload 6) 2 := by decide +kernel
theorem d24_71 : own_d cB24 71 (.iload 8) 2 := by decide +kernel
theorem d24_73 : own_d cB24 73 (.if_icmp .ge 116) 3 := by decide +kernel
theorem d24_189 : own_d cB24 189 (.iload 6) 2 := by decide +kernel
theorem d24_191 : own_d cB24 191 (.iload_n 3) 1 := by decide +kernel
theorem d24_192 : own_d cB24 192 (.if_icmp .ge 160) 3 := by decide +kernel
theorem d24_352 : own_d cB24 352 (.iload 9) 2 := by decide +kernel
theorem d24_354 : own_d cB24 354 (.ireturn) 1 := by decide +kernel
theorem ef24RRIIR (m : MethodId) (x0 : Addr) (x1 : Addr) (x2 : Int32) (x3 : Int32) (x4 : Addr) : entryFrame m #[(.ref x0), (.ref x1), (.int x2), (.int x3), (.ref x4)] 16 = mkF m 0 #[r_ x0, r_ x1, i_ x2, i_ x3, r_ x4, u_, u_, u_, u_, u_, u_, u_, u_, u_, u_, u_] [] := by first | (simp [entryFrame, mkF, argsToLocals, Value.category]; done) | rfl
def Q_enc0_0 (Z : State) (en : Addr) (b : Addr) (k : ClassId) (d : Addr) (kd : ClassId) (ret_ : Addr) (ket : ClassId) (h0 : Heap) (n0 : Nat) (v_ : Option Value) (h : Heap) (L_ : List Loc) : Prop := v_ = some (.int 0) ∧ Fr n0 L_ ∧ Keep h0 h [d] ∧ Arv Z h d kd .byte (0 : Int32) [] (.int 0)
set_option maxRecDepth 65536 in
set_option maxHeartbeats 40000000 in
theorem rm_enc0_0 (l : Launch) (Z : State) (a0 : Array Value) (hw : ∀ d ∈ tables_1, d.before a0 Z = true) (ws : List Jvm.Cond) (en : Addr) (b : Addr) (k : ClassId) (d : Addr) (kd : ClassId) (ret_ : Addr) (ket : ClassId) (h0 : Heap) (n0 : Nat) (Z0 : n0 ≤ h0.size) (O : Old Z n0 h0) (Set : Sta Z Z.heap "java/util/Base64$Encoder" "toBase64URL" "[C" (.ref ret_)) (Vet : Arv Z Z.heap ret_ ket .char (64 : Int32) own_enc (.int 0)) (Fp : Fld Z h0 en "java/util/Base64$Encoder" "doPadding" "Z" (.int 0)) (Fl : Fld Z h0 en "java/util/Base64$Encoder" "linemax" "I" (.int (-1 : Int32))) (Fe : Fld Z h0 en "java/util/Base64$Encoder" "isURL" "Z" (.int 1)) (Vb : Arv Z h0 b k .byte (0 : Int32) [] (.int 0)) (Vd : Arv Z h0 d kd .byte (0 : Int32) [] (.int 0)) (nbd : b ≠ d) (gd : n0 ≤ d) (nen : en ≠ d) :
    own_MF l yM24 (.code yM24 cB24 16 (some .int)) ws ⟨0, 0, 0, 0⟩ #[(.ref en), (.ref b), (.int 0), (.int 0), (.ref d)] Z h0 own_T (Q_enc0_0 Z en b k d kd ret_ ket h0 n0) := by
  refine own_in "java/util/Base64$Encoder" rfl (plainFor_of_name pn4) hisR (fun m => ef24RRIIR m en b (0 : Int32) (0 : Int32) d) ?_
  intro p e s m below meth c s₁ A_ hx hby hml hown hnm hrt hlk hZ _ X0 e0 pre0
  have N0 := Fr.nil n0
  have P1 := oS (s₁.setTop (mkF m 1 #[r_ en, r_ b, i_ 0, i_ 0, r_ d, u_, u_, u_, u_, u_, u_, u_, u_, u_, u_, u_] [(.ref en)])) pre0 (by
    intro _ k_
    refine aN_ X0 hx hby d24_0 rfl rfl ?_
    exact k_)
  obtain ⟨T2, X2, e2, st2⟩ := getF X0 hx hZ hown (host := "") (Or.inl (own_w hw 146 rfl)) Via.refl e0 Fe (g := (mkF m 1 #[r_ en, r_ b, i_ 0, i_ 0, r_ d, u_, u_, u_, u_, u_, u_, u_, u_, u_, u_, u_] [(.ref en)])) rfl rfl (hb hby d24_1)
  have P3 := oS (T2.setTop (mkF m 4 #[r_ en, r_ b, i_ 0, i_ 0, r_ d, u_, u_, u_, u_, u_, u_, u_, u_, u_, u_, u_] [(.int 1)])) P1 (fun t_ k_ => st2 t_ k_)
  have P4 := oS (T2.setTop (mkF m 7 #[r_ en, r_ b, i_ 0, i_ 0, r_ d, u_, u_, u_, u_, u_, u_, u_, u_, u_, u_, u_] [])) P3 (by
    intro _ k_
    refine XS.ifNo X2.here hx rfl (hb hby d24_4) rfl ((if0 _ _).trans (feq (by decide : ¬ ((1 : Int32) = (0 : Int32)))).1) ?_
    exact k_)
  obtain ⟨T5, X5, e5, st5⟩ := getS2 X2 hx hZ hown (host := "") (Or.inl (own_w hw 148 rfl)) Via.refl e2 (Set.ext O.2) (g := (mkF m 7 #[r_ en, r_ b, i_ 0, i_ 0, r_ d, u_, u_, u_, u_, u_, u_, u_, u_, u_, u_, u_] [])) rfl (hb hby d24_7)
  have P6 := oS (T5.setTop (mkF m 10 #[r_ en, r_ b, i_ 0, i_ 0, r_ d, u_, u_, u_, u_, u_, u_, u_, u_, u_, u_, u_] [(.ref ret_)])) P4 (fun t_ k_ => st5 t_ k_)
  have P7 := oS (T5.setTop (mkF m 37 #[r_ en, r_ b, i_ 0, i_ 0, r_ d, r_ ret_, i_ 0, i_ 0, i_ 0, u_, u_, u_, u_, u_, u_, u_] [(.ref en)])) P6 (by
    intro _ k_
    refine gt_ X5 hx hby d24_10 (pc := 10) (pc' := 16) (by decide) ?_
    refine XS.astore X5.here hx rfl (hb hby d24_16) rfl rfl (l' := #[r_ en, r_ b, i_ 0, i_ 0, r_ d, r_ ret_, u_, u_, u_, u_, u_, u_, u_, u_, u_, u_]) rfl ?_
    refine iN_ X5 hx hby d24_18 rfl ?_
    refine is_ X5 hx hby d24_19 (l' := #[r_ en, r_ b, i_ 0, i_ 0, r_ d, r_ ret_, i_ 0, u_, u_, u_, u_, u_, u_, u_, u_, u_]) rfl ?_
    refine iN_ X5 hx hby d24_21 rfl ?_
    refine iN_ X5 hx hby d24_22 rfl ?_
    refine XS.isub X5.here hx rfl (hb hby d24_23) rfl ?_
    show Steps p.tables e below (T5.setTop (mkF m 24 #[r_ en, r_ b, i_ 0, i_ 0, r_ d, r_ ret_, i_ 0, u_, u_, u_, u_, u_, u_, u_, u_, u_] [(.int 0)])) _
    refine XS.iconst X5.here hx rfl (hb hby d24_24) ?_
    refine XS.idiv X5.here hx rfl (hb hby d24_25) rfl (by decide) ?_
    show Steps p.tables e below (T5.setTop (mkF m 26 #[r_ en, r_ b, i_ 0, i_ 0, r_ d, r_ ret_, i_ 0, u_, u_, u_, u_, u_, u_, u_, u_, u_] [(.int 0)])) _
    refine XS.iconst X5.here hx rfl (hb hby d24_26) ?_
    refine XS.imul X5.here hx rfl (hb hby d24_27) rfl ?_
    show Steps p.tables e below (T5.setTop (mkF m 28 #[r_ en, r_ b, i_ 0, i_ 0, r_ d, r_ ret_, i_ 0, u_, u_, u_, u_, u_, u_, u_, u_, u_] [(.int 0)])) _
    refine is_ X5 hx hby d24_28 (l' := #[r_ en, r_ b, i_ 0, i_ 0, r_ d, r_ ret_, i_ 0, i_ 0, u_, u_, u_, u_, u_, u_, u_, u_]) rfl ?_
    refine iN_ X5 hx hby d24_30 rfl ?_
    refine il_ X5 hx hby d24_31 rfl ?_
    refine XS.iadd X5.here hx rfl (hb hby d24_33) rfl ?_
    show Steps p.tables e below (T5.setTop (mkF m 34 #[r_ en, r_ b, i_ 0, i_ 0, r_ d, r_ ret_, i_ 0, i_ 0, u_, u_, u_, u_, u_, u_, u_, u_] [(.int 0)])) _
    refine is_ X5 hx hby d24_34 (l' := #[r_ en, r_ b, i_ 0, i_ 0, r_ d, r_ ret_, i_ 0, i_ 0, i_ 0, u_, u_, u_, u_, u_, u_, u_]) rfl ?_
    refine aN_ X5 hx hby d24_36 rfl rfl ?_
    exact k_)
  obtain ⟨T8, X8, e8, st8⟩ := getF X5 hx hZ hown (host := "") (Or.inl (own_w hw 139 rfl)) Via.refl e5 Fl (g := (mkF m 37 #[r_ en, r_ b, i_ 0, i_ 0, r_ d, r_ ret_, i_ 0, i_ 0, i_ 0, u_, u_, u_, u_, u_, u_, u_] [(.ref en)])) rfl rfl (hb hby d24_37)
  have P9 := oS (T8.setTop (mkF m 40 #[r_ en, r_ b, i_ 0, i_ 0, r_ d, r_ ret_, i_ 0, i_ 0, i_ 0, u_, u_, u_, u_, u_, u_, u_] [(.int (-1 : Int32))])) P7 (fun t_ k_ => st8 t_ k_)
  have P10 := oS (T8.setTop (mkF m 73 #[r_ en, r_ b, i_ 0, i_ 0, r_ d, r_ ret_, i_ 0, i_ 0, i_ 0, i_ 0, u_, u_, u_, u_, u_, u_] [(.int 0), (.int 0)])) P9 (by
    intro _ k_
    refine fY_ X8 hx hby d24_40 (pc := 40) (pc' := 66) ((if0 _ _).trans (flt (by decide : ¬ ((0 : Int32) < (-1 : Int32)))).2.2.2) (by decide) ?_
    refine XS.iconst X8.here hx rfl (hb hby d24_66) ?_
    refine is_ X8 hx hby d24_67 (l' := #[r_ en, r_ b, i_ 0, i_ 0, r_ d, r_ ret_, i_ 0, i_ 0, i_ 0, i_ 0, u_, u_, u_, u_, u_, u_]) rfl ?_
    refine il_ X8 hx hby d24_69 rfl ?_
    refine il_ X8 hx hby d24_71 rfl ?_
    exact k_)
  have P11 := oS (T8.setTop (mkF m 192 #[r_ en, r_ b, i_ 0, i_ 0, r_ d, r_ ret_, i_ 0, i_ 0, i_ 0, i_ 0, u_, u_, u_, u_, u_, u_] [(.int 0), (.int 0)])) P10 (by
    intro _ k_
    refine cY_ X8 hx hby d24_73 (pc := 73) (pc' := 189) (flt (by decide : ¬ ((0 : Int32) < (0 : Int32)))).2.1 (by decide) ?_
    refine il_ X8 hx hby d24_189 rfl ?_
    refine iN_ X8 hx hby d24_191 rfl ?_
    exact k_)
  have P12 := oS (T8.setTop (mkF m 354 #[r_ en, r_ b, i_ 0, i_ 0, r_ d, r_ ret_, i_ 0, i_ 0, i_ 0, i_ 0, u_, u_, u_, u_, u_, u_] [(.int 0)])) P11 (by
    intro _ k_
    refine cY_ X8 hx hby d24_192 (pc := 192) (pc' := 352) (flt (by decide : ¬ ((0 : Int32) < (0 : Int32)))).2.1 (by decide) ?_
    refine il_ X8 hx hby d24_352 rfl ?_
    exact k_)
  exact own_out X8 hlk (v := some (.int 0)) (own_hv hrt) P12 (fun _ q_ => retI X8 hx hrt (hb hby d24_354) q_) e8 ⟨rfl, N0, (Keep.refl h0 [d]), Vd⟩ (by decide)
theorem pd13 : parseMethodDescriptor "(IZ)I" = some ⟨[.int, .boolean], some .int⟩ := by decide +kernel
abbrev cB21 := jdk_2452_method_3_code
abbrev yM21 : MethodName := ⟨"java/util/Base64$Encoder", "encode", "([B)[B"⟩
theorem d21_0 : own_d cB21 0 (.aload_n 0) 1 := by decide +kernel
theorem d21_1 : own_d cB21 1 (.aload_n 1) 1 := by decide +kernel
theorem d21_2 : own_d cB21 2 (.arraylength) 1 := by decide +kernel
theorem d21_3 : own_d cB21 3 (.iconst 1) 1 := by decide +kernel
theorem d21_4 : own_d cB21 4 (.invokevirtual 42) 3 := by decide +kernel
theorem d21_7 : own_d cB21 7 (.istore_n 2) 1 := by decide +kernel
theorem d21_8 : own_d cB21 8 (.iload_n 2) 1 := by decide +kernel
theorem d21_9 : own_d cB21 9 (.newarray .byte) 2 := by decide +kernel
theorem d21_11 : own_d cB21 11 (.astore_n 3) 1 := by decide +kernel
theorem d21_12 : own_d cB21 12 (.aload_n 0) 1 := by decide +kernel
theorem d21_13 : own_d cB21 13 (.aload_n 1) 1 := by decide +kernel
theorem d21_14 : own_d cB21 14 (.iconst 0) 1 := by decide +kernel
theorem d21_15 : own_d cB21 15 (.aload_n 1) 1 := by decide +kernel
theorem d21_16 : own_d cB21 16 (.arraylength) 1 := by decide +kernel
theorem d21_17 : own_d cB21 17 (.aload_n 3) 1 := by decide +kernel
theorem d21_18 : own_d cB21 18 (.invokevirtual 46) 3 := by decide +kernel
theorem d21_21 : own_d cB21 21 (.istore 4) 2 := by decide +kernel
theorem d21_23 : own_d cB21 23 (.iload 4) 2 := by decide +kernel
theorem d21_25 : own_d cB21 25 (.aload_n 3) 1 := by decide +kernel
theorem d21_26 : own_d cB21 26 (.arraylength) 1 := by decide +kernel
theorem d21_27 : own_d cB21 27 (.if_icmp .eq 10) 3 := by decide +kernel
theorem d21_37 : own_d cB21 37 (.aload_n 3) 1 := by decide +kernel
theorem d21_38 : own_d cB21 38 (.areturn) 1 := by decide +kernel
theorem ef21RR (m : MethodId) (x0 : Addr) (x1 : Addr) : entryFrame m #[(.ref x0), (.ref x1)] 5 = mkF m 0 #[r_ x0, r_ x1, u_, u_, u_] [] := by first | (simp [entryFrame, mkF, argsToLocals, Value.category]; done) | rfl
def Q_enc_0 (Z : State) (en : Addr) (b : Addr) (k : ClassId) (ret_ : Addr) (ket : ClassId) (h0 : Heap) (n0 : Nat) (v_ : Option Value) (h : Heap) (L_ : List Loc) : Prop := ∃ (xq : Addr) (kk : ClassId), v_ = some (.ref xq) ∧ Fr n0 L_ ∧ Keep h0 h [] ∧ h0.size ≤ xq ∧ Arv Z h xq kk .byte (0 : Int32) [] (.int 0) ∧ Exa Z h xq "[B"
set_option maxRecDepth 65536 in
set_option maxHeartbeats 40000000 in
theorem rm_enc_0 (l : Launch) (Z : State) (a0 : Array Value) (hw : ∀ d ∈ tables_1, d.before a0 Z = true) (ws : List Jvm.Cond) (en : Addr) (b : Addr) (k : ClassId) (ret_ : Addr) (ket : ClassId) (h0 : Heap) (n0 : Nat) (Z0 : n0 ≤ h0.size) (O : Old Z n0 h0) (Set : Sta Z Z.heap "java/util/Base64$Encoder" "toBase64URL" "[C" (.ref ret_)) (Vet : Arv Z Z.heap ret_ ket .char (64 : Int32) own_enc (.int 0)) (Ee : Exa Z h0 en "java/util/Base64$Encoder") (Fp : Fld Z h0 en "java/util/Base64$Encoder" "doPadding" "Z" (.int 0)) (Fl : Fld Z h0 en "java/util/Base64$Encoder" "linemax" "I" (.int (-1 : Int32))) (Fe : Fld Z h0 en "java/util/Base64$Encoder" "isURL" "Z" (.int 1)) (Vb : Arv Z h0 b k .byte (0 : Int32) [] (.int 0)) :
    own_MF l yM21 (.code yM21 cB21 5 (some (.array .byte))) ws ⟨2, 1, 0, 31⟩ #[(.ref en), (.ref b)] Z h0 own_T (Q_enc_0 Z en b k ret_ ket h0 n0) := by
  refine own_in "java/util/Base64$Encoder" rfl (plainFor_of_name pn4) hisR (fun m => ef21RR m en b) ?_
  intro p e s m below meth c s₁ A_ hx hby hml hown hnm hrt hlk hZ _ X0 e0 pre0
  have N0 := Fr.nil n0
  have P1 := oS (s₁.setTop (mkF m 2 #[r_ en, r_ b, u_, u_, u_] [(.ref b), (.ref en)])) pre0 (by
    intro _ k_
    refine aN_ X0 hx hby d21_0 rfl rfl ?_
    refine aN_ X0 hx hby d21_1 rfl rfl ?_
    exact k_)
  obtain ⟨cl2, Ar2, q2, S2, M2, H2, G2⟩ := id Vb
  have P3 := oS (s₁.setTop (mkF m 3 #[r_ en, r_ b, u_, u_, u_] [(.int 0), (.ref en)])) P1 (by
    intro _ k_
    refine X0.arraylength hx (by rw [e0]; exact Ar2.1) (State.isArrayOf_alike hZ.alike Ar2.2.1) (g := (mkF m 2 #[r_ en, r_ b, u_, u_, u_] [(.ref b), (.ref en)])) rfl rfl (hb hby d21_2) _ ?_
    rw [len_of S2 M2]
    exact k_)
  have P4 := oS (s₁.setTop (mkF m 4 #[r_ en, r_ b, u_, u_, u_] [(.int 1), (.int 0), (.ref en)])) P3 (by
    intro _ k_
    refine XS.iconst X0.here hx rfl (hb hby d21_3) ?_
    exact k_)
  obtain ⟨_, T5, L5, X5, hQ5, P5c⟩ := own_cPH (W := 0) (rm_eol_0 l Z a0 hw [] en h0 n0 Z0 O Fp Fl Fe) X0 hx hZ (fun _ _ => trivial) hown Ee (own_w hw 125 rfl) (own_w hw 127 rfl) (own_w hw 128 rfl) (own_w hw 126 rfl) (own_w hw 118 rfl) (own_w hw 129 rfl) (by decide) P4 hml rfl [(.int 0), (.int 1)] [] rfl rfl rfl pd13 rfl (hb hby d21_4) e0 (by decide)
  obtain ⟨rfl, N5q, e5⟩ := hQ5
  have N5 := Fr.app N0 N5q
  have P6 := own_to (C := T5.setTop (mkF m 7 #[r_ en, r_ b, u_, u_, u_] [(.int 0)])) P5c
  have P7 := oS (T5.setTop (mkF m 9 #[r_ en, r_ b, i_ 0, u_, u_] [(.int 0)])) P6 (by
    intro _ k_
    refine XS.istoreN X5.here hx rfl (hb hby d21_7) rfl (l' := #[r_ en, r_ b, i_ 0, u_, u_]) rfl ?_
    refine iN_ X5 hx hby d21_8 rfl ?_
    exact k_)
  obtain ⟨T8, h8, k8, X8, e8, E8, A8, EA8, st8⟩ := newPE X5 hx hZ (own_w hw 23 rfl) e5 (g := (mkF m 9 #[r_ en, r_ b, i_ 0, u_, u_] [(.int 0)])) rfl (hb hby d21_9) rfl (by decide) (cap := 0) (by decide) (by decide) (by decide) (by decide) (ad := "[B") (by decide +kernel)
  obtain ⟨b8, g8⟩ : ∃ z, z = h0.size := ⟨_, rfl⟩
  rw [← g8] at A8 EA8 st8
  have ne_en_b8 : en ≠ b8 := Nat.ne_of_lt (Nat.lt_of_lt_of_le Fp.lt (Nat.le_of_eq g8.symm))
  have ne_b_b8 : b ≠ b8 := Nat.ne_of_lt (Nat.lt_of_lt_of_le Vb.lt (Nat.le_of_eq g8.symm))
  have g_b8 : n0 ≤ b8 := Nat.le_trans Z0 (Nat.le_of_eq g8.symm)
  have sz_b8 : h0.size ≤ b8 := Nat.le_trans (Keep.refl h0 []).1 (Nat.le_of_eq g8.symm)
  have f9 := O.ext E8
  have f10 := Fp.ext E8
  have f11 := Fl.ext E8
  have f12 := Fe.ext E8
  have f13 := (Keep.refl h0 []).ext E8
  have f14 := Vb.ext E8
  have f15 := Ee.ext E8
  have Z16 : n0 ≤ h8.size := Nat.le_trans Z0 E8.1
  have V8 : Arv Z h8 b8 k8 .byte (0 : Int32) [] (.int 0) := (Arv.new A8 (by decide)).pad (pad_rep [] _ 0)
  have P17 := oS (T8.setTop (mkF m 11 #[r_ en, r_ b, i_ 0, u_, u_] [(.ref b8)])) P7 (fun t_ k_ => st8 t_ k_)
  have P18 := oS (T8.setTop (mkF m 16 #[r_ en, r_ b, i_ 0, r_ b8, u_] [(.ref b), (.int 0), (.ref b), (.ref en)])) P17 (by
    intro _ k_
    refine XS.astoreN X8.here hx rfl (hb hby d21_11) rfl rfl (l' := #[r_ en, r_ b, i_ 0, r_ b8, u_]) rfl ?_
    refine aN_ X8 hx hby d21_12 rfl rfl ?_
    refine aN_ X8 hx hby d21_13 rfl rfl ?_
    refine XS.iconst X8.here hx rfl (hb hby d21_14) ?_
    refine aN_ X8 hx hby d21_15 rfl rfl ?_
    exact k_)
  obtain ⟨cl19, Ar19, q19, S19, M19, H19, G19⟩ := id f14
  have P20 := oS (T8.setTop (mkF m 17 #[r_ en, r_ b, i_ 0, r_ b8, u_] [(.int 0), (.int 0), (.ref b), (.ref en)])) P18 (by
    intro _ k_
    refine X8.arraylength hx (by rw [e8]; exact Ar19.1) (State.isArrayOf_alike hZ.alike Ar19.2.1) (g := (mkF m 16 #[r_ en, r_ b, i_ 0, r_ b8, u_] [(.ref b), (.int 0), (.ref b), (.ref en)])) rfl rfl (hb hby d21_16) _ ?_
    rw [len_of S19 M19]
    exact k_)
  have P21 := oS (T8.setTop (mkF m 18 #[r_ en, r_ b, i_ 0, r_ b8, u_] [(.ref b8), (.int 0), (.int 0), (.ref b), (.ref en)])) P20 (by
    intro _ k_
    refine aN_ X8 hx hby d21_17 rfl rfl ?_
    exact k_)
  obtain ⟨_, T22, L22, X22, hQ22, P22c⟩ := own_cP (W := 0) (rm_enc0_0 l Z a0 hw [] en b k b8 k8 ret_ ket h8 n0 Z16 f9 Set Vet f10 f11 f12 f14 V8 ne_b_b8 g_b8 ne_en_b8) X8 hx hZ (fun _ _ => trivial) hown f15 (own_w hw 141 rfl) (own_w hw 143 rfl) (own_w hw 144 rfl) (own_w hw 142 rfl) (own_w hw 118 rfl) (own_w hw 145 rfl) (by decide) P21 hml rfl [(.ref b), (.int 0), (.int 0), (.ref b8)] [] rfl rfl rfl pd9 rfl (hb hby d21_18) e8 (by decide)
  obtain ⟨rfl, N22q, K22, f23⟩ := hQ22
  have N22 := Fr.app N5 N22q
  have f28 := f13.trans K22 (allS (Or.inr sz_b8) all0)
  have f32 := EA8.keep K22
  have P34 := own_to (C := T22.setTop (mkF m 21 #[r_ en, r_ b, i_ 0, r_ b8, u_] [(.int 0)])) P22c
  have P35 := oS (T22.setTop (mkF m 26 #[r_ en, r_ b, i_ 0, r_ b8, i_ 0] [(.ref b8), (.int 0)])) P34 (by
    intro _ k_
    refine is_ X22 hx hby d21_21 (l' := #[r_ en, r_ b, i_ 0, r_ b8, i_ 0]) rfl ?_
    refine il_ X22 hx hby d21_23 rfl ?_
    refine aN_ X22 hx hby d21_25 rfl rfl ?_
    exact k_)
  obtain ⟨cl36, Ar36, q36, S36, M36, H36, G36⟩ := id f23
  have P37 := oS (T22.setTop (mkF m 27 #[r_ en, r_ b, i_ 0, r_ b8, i_ 0] [(.int 0), (.int 0)])) P35 (by
    intro _ k_
    refine X22.arraylength hx Ar36.1 (State.isArrayOf_alike hZ.alike Ar36.2.1) (g := (mkF m 26 #[r_ en, r_ b, i_ 0, r_ b8, i_ 0] [(.ref b8), (.int 0)])) rfl rfl (hb hby d21_26) _ ?_
    rw [len_of S36 M36]
    exact k_)
  have P38 := oS (T22.setTop (mkF m 38 #[r_ en, r_ b, i_ 0, r_ b8, i_ 0] [(.ref b8)])) P37 (by
    intro _ k_
    refine cY_ X22 hx hby d21_27 (pc := 27) (pc' := 37) (teq (by decide : (0 : Int32) = (0 : Int32))).1 (by decide) ?_
    refine aN_ X22 hx hby d21_37 rfl rfl ?_
    exact k_)
  exact own_out X22 hlk (v := some (.ref b8)) (own_hv hrt) P38 (fun _ q_ => retOut X22 hx hrt rfl (Or.inr (Or.inr (Or.inr (Or.inr ⟨rfl, rfl, rfl⟩)))) (hb hby d21_38) q_) (rfl : T22.heap = _) ⟨b8, k8, rfl, N22, f28, sz_b8, f23, f32⟩ (by decide)
abbrev cB29 := jdk_41_method_13_code
abbrev yM29 : MethodName := ⟨"jdk/internal/util/Preconditions", "checkFromIndexSize", "(IIILjava/util/function/BiFunction;)I"⟩
theorem d29_0 : own_d cB29 0 (.iload_n 2) 1 := by decide +kernel
theorem d29_1 : own_d cB29 1 (.iload_n 0) 1 := by decide +kernel
theorem d29_2 : own_d cB29 2 (.ior) 1 := by decide +kernel
theorem d29_3 : own_d cB29 3 (.iload_n 1) 1 := by decide +kernel
theorem d29_4 : own_d cB29 4 (.ior) 1 := by decide +kernel
theorem d29_5 : own_d cB29 5 (.ifCond .lt 10) 3 := by decide +kernel
theorem d29_8 : own_d cB29 8 (.iload_n 1) 1 := by decide +kernel
theorem d29_9 : own_d cB29 9 (.iload_n 2) 1 := by decide +kernel
theorem d29_10 : own_d cB29 10 (.iload_n 0) 1 := by decide +kernel
theorem d29_11 : own_d cB29 11 (.isub) 1 := by decide +kernel
theorem d29_12 : own_d cB29 12 (.if_icmp .le 11) 3 := by decide +kernel
theorem d29_23 : own_d cB29 23 (.iload_n 0) 1 := by decide +kernel
theorem d29_24 : own_d cB29 24 (.ireturn) 1 := by decide +kernel
theorem ef29IIIRV (m : MethodId) (x0 : Int32) (x1 : Int32) (x2 : Int32) (x3 : Value) (hx3 : x3.category = 1) : entryFrame m #[(.int x0), (.int x1), (.int x2), x3] 4 = mkF m 0 #[i_ x0, i_ x1, i_ x2, .val x3] [] := by cases x3 <;> first | (exfalso; simp [Value.category] at hx3; done) | (first | (simp [entryFrame, mkF, argsToLocals, Value.category]; done) | rfl)
def Q_cfs (Z : State) (zl : Int32) (fm : Value) (h0 : Heap) (n0 : Nat) (v_ : Option Value) (h : Heap) (L_ : List Loc) : Prop := v_ = some (.int 0) ∧ Fr n0 L_ ∧ h = h0
theorem pn5 : plainName "jdk/internal/util/Preconditions" = true := by first | (simp [plainName, overriddenIn]; done) | decide +kernel
set_option maxRecDepth 65536 in
set_option maxHeartbeats 40000000 in
theorem rm_cfs (l : Launch) (Z : State) (a0 : Array Value) (hw : ∀ d ∈ tables_1, d.before a0 Z = true) (ws : List Jvm.Cond) (zl : Int32) (fm : Value) (h0 : Heap) (n0 : Nat) (Z0 : n0 ≤ h0.size) (hfm : fm.category = 1) (hz1 : ¬ (((zl ||| 0) ||| zl) < (0 : Int32))) (hz2 : ¬ ((zl - (0 : Int32)) < zl)) :
    own_MF l yM29 (.code yM29 cB29 4 (some .int)) ws ⟨0, 0, 0, 0⟩ #[(.int 0), (.int zl), (.int zl), fm] Z h0 own_T (Q_cfs Z zl fm h0 n0) := by
  refine own_in "jdk/internal/util/Preconditions" rfl (plainFor_of_name pn5) hisR (fun m => ef29IIIRV m (0 : Int32) zl zl fm hfm) ?_
  intro p e s m below meth c s₁ A_ hx hby hml hown hnm hrt hlk hZ _ X0 e0 pre0
  have N0 := Fr.nil n0
  have P1 := oS (s₁.setTop (mkF m 5 #[i_ 0, i_ zl, i_ zl, .val fm] [(.int ((zl ||| 0) ||| zl))])) pre0 (by
    intro _ k_
    refine iN_ X0 hx hby d29_0 rfl ?_
    refine iN_ X0 hx hby d29_1 rfl ?_
    refine XS.ior X0.here hx rfl (hb hby d29_2) rfl ?_
    refine iN_ X0 hx hby d29_3 rfl ?_
    refine XS.ior X0.here hx rfl (hb hby d29_4) rfl ?_
    exact k_)
  have P2 := oS (s₁.setTop (mkF m 12 #[i_ 0, i_ zl, i_ zl, .val fm] [(.int (zl - (0 : Int32))), (.int zl)])) P1 (by
    intro _ k_
    refine XS.ifNo X0.here hx rfl (hb hby d29_5) rfl ((if0 _ _).trans (flt hz1).1) ?_
    refine iN_ X0 hx hby d29_8 rfl ?_
    refine iN_ X0 hx hby d29_9 rfl ?_
    refine iN_ X0 hx hby d29_10 rfl ?_
    refine XS.isub X0.here hx rfl (hb hby d29_11) rfl ?_
    exact k_)
  have P3 := oS (s₁.setTop (mkF m 24 #[i_ 0, i_ zl, i_ zl, .val fm] [(.int 0)])) P2 (by
    intro _ k_
    refine cY_ X0 hx hby d29_12 (pc := 12) (pc' := 23) (flt hz2).2.2.2 (by decide) ?_
    refine iN_ X0 hx hby d29_23 rfl ?_
    exact k_)
  exact own_out X0 hlk (v := some (.int 0)) (own_hv hrt) P3 (fun _ q_ => retI X0 hx hrt (hb hby d29_24) q_) e0 ⟨rfl, N0, rfl⟩ (by decide)
theorem pd14 : parseMethodDescriptor "(IIILjava/util/function/BiFunction;)I" = some ⟨[.int, .int, .int, (.object "java/util/function/BiFunction")], some .int⟩ := by decide +kernel
abbrev cB28 := jdk_42_method_157_code
abbrev yM28 : MethodName := ⟨"java/lang/String", "checkBoundsOffCount", "(III)I"⟩
theorem d28_0 : own_d cB28 0 (.iload_n 0) 1 := by decide +kernel
theorem d28_1 : own_d cB28 1 (.iload_n 1) 1 := by decide +kernel
theorem d28_2 : own_d cB28 2 (.iload_n 2) 1 := by decide +kernel
theorem d28_3 : own_d cB28 3 (.getstatic 1053) 3 := by decide +kernel
theorem d28_6 : own_d cB28 6 (.invokestatic 1065) 3 := by decide +kernel
theorem d28_9 : own_d cB28 9 (.ireturn) 1 := by decide +kernel
theorem ef28III (m : MethodId) (x0 : Int32) (x1 : Int32) (x2 : Int32) : entryFrame m #[(.int x0), (.int x1), (.int x2)] 3 = mkF m 0 #[i_ x0, i_ x1, i_ x2] [] := by first | (simp [entryFrame, mkF, argsToLocals, Value.category]; done) | rfl
def Q_cbo (Z : State) (zl : Int32) (fm : Value) (h0 : Heap) (n0 : Nat) (v_ : Option Value) (h : Heap) (L_ : List Loc) : Prop := v_ = some (.int 0) ∧ Fr n0 L_ ∧ h = h0
set_option maxRecDepth 65536 in
set_option maxHeartbeats 40000000 in
theorem rm_cbo (l : Launch) (Z : State) (a0 : Array Value) (hw : ∀ d ∈ tables_1, d.before a0 Z = true) (ws : List Jvm.Cond) (zl : Int32) (fm : Value) (h0 : Heap) (n0 : Nat) (Z0 : n0 ≤ h0.size) (O : Old Z n0 h0) (Sfm : Sta Z Z.heap "jdk/internal/util/Preconditions" "SIOOBE_FORMATTER" "Ljava/util/function/BiFunction;" fm) (hfm : fm.category = 1) (hz1 : ¬ (((zl ||| 0) ||| zl) < (0 : Int32))) (hz2 : ¬ ((zl - (0 : Int32)) < zl)) :
    own_MF l yM28 (.code yM28 cB28 3 (some .int)) ws ⟨1, 0, 0, 15⟩ #[(.int 0), (.int zl), (.int zl)] Z h0 own_T (Q_cbo Z zl fm h0 n0) := by
  refine own_in "java/lang/String" rfl (plainFor_of_name pn2) hisR (fun m => ef28III m (0 : Int32) zl zl) ?_
  intro p e s m below meth c s₁ A_ hx hby hml hown hnm hrt hlk hZ _ X0 e0 pre0
  have N0 := Fr.nil n0
  have P1 := oS (s₁.setTop (mkF m 3 #[i_ 0, i_ zl, i_ zl] [(.int zl), (.int zl), (.int 0)])) pre0 (by
    intro _ k_
    refine iN_ X0 hx hby d28_0 rfl ?_
    refine iN_ X0 hx hby d28_1 rfl ?_
    refine iN_ X0 hx hby d28_2 rfl ?_
    exact k_)
  obtain ⟨T2, X2, e2, st2⟩ := getS2 X0 hx hZ hown (host := "") (Or.inl (own_w hw 164 rfl)) Via.refl e0 (Sfm.ext O.2) (g := (mkF m 3 #[i_ 0, i_ zl, i_ zl] [(.int zl), (.int zl), (.int 0)])) rfl (hb hby d28_3)
  have P3 := oS (T2.setTop (mkF m 6 #[i_ 0, i_ zl, i_ zl] [fm, (.int zl), (.int zl), (.int 0)])) P1 (fun t_ k_ => st2 t_ k_)
  obtain ⟨_, T4, L4, X4, hQ4, P4c⟩ := own_cS (W := 0) (rm_cfs l Z a0 hw [] zl fm h0 n0 Z0 hfm hz1 hz2) X2 hx hZ (fun _ _ => trivial) hown (own_w hw 166 rfl) (own_w hw 167 rfl) (own_w hw 165 rfl) (own_w hw 168 rfl) (by decide) P3 hml rfl [(.int 0), (.int zl), (.int zl), fm] [] rfl rfl rfl pd14 rfl (hb hby d28_6) e2 (by decide)
  obtain ⟨rfl, N4q, e4⟩ := hQ4
  have N4 := Fr.app N0 N4q
  have P5 := own_to (C := T4.setTop (mkF m 9 #[i_ 0, i_ zl, i_ zl] [(.int 0)])) P4c
  exact own_out X4 hlk (v := some (.int 0)) (own_hv hrt) P5 (fun _ q_ => retI X4 hx hrt (hb hby d28_9) q_) e4 ⟨rfl, N4, rfl⟩ (by decide)
theorem pd15 : parseMethodDescriptor "(III)I" = some ⟨[.int, .int, .int], some .int⟩ := by decide +kernel
abbrev cB27 := jdk_42_method_7_code
abbrev yM27 : MethodName := ⟨"java/lang/String", "<init>", "([BIII)V"⟩
theorem d27_0 : own_d cB27 0 (.aload_n 0) 1 := by decide +kernel
theorem d27_1 : own_d cB27 1 (.invokespecial 1) 3 := by decide +kernel
theorem d27_4 : own_d cB27 4 (.iload_n 3) 1 := by decide +kernel
theorem d27_5 : own_d cB27 5 (.iload 4) 2 := by decide +kernel
theorem d27_7 : own_d cB27 7 (.aload_n 1) 1 := by decide +kernel
theorem d27_8 : own_d cB27 8 (.arraylength) 1 := by decide +kernel
theorem d27_9 : own_d cB27 9 (.invokestatic 34) 3 := by decide +kernel
theorem d27_12 : own_d cB27 12 (.pop) 1 := by decide +kernel
theorem d27_13 : own_d cB27 13 (.iload 4) 2 := by decide +kernel
theorem d27_15 : own_d cB27 15 (.ifCond .ne 22) 3 := by decide +kernel
theorem d27_18 : own_d cB27 18 (.aload_n 0) 1 := by decide +kernel
theorem d27_19 : own_d cB27 19 (.ldc 7) 2 := by decide +kernel
theorem d27_21 : own_d cB27 21 (.getfield 9) 3 := by decide +kernel
theorem d27_24 : own_d cB27 24 (.putfield 9) 3 := by decide +kernel
theorem d27_27 : own_d cB27 27 (.aload_n 0) 1 := by decide +kernel
theorem d27_28 : own_d cB27 28 (.ldc 7) 2 := by decide +kernel
theorem d27_30 : own_d cB27 30 (.getfield 15) 3 := by decide +kernel
theorem d27_33 : own_d cB27 33 (.putfield 15) 3 := by decide +kernel
theorem d27_36 : own_d cB27 36 (.return_) 1 := by decide +kernel
theorem ef27RRIII (m : MethodId) (x0 : Addr) (x1 : Addr) (x2 : Int32) (x3 : Int32) (x4 : Int32) : entryFrame m #[(.ref x0), (.ref x1), (.int x2), (.int x3), (.int x4)] 7 = mkF m 0 #[r_ x0, r_ x1, i_ x2, i_ x3, i_ x4, u_, u_] [] := by first | (simp [entryFrame, mkF, argsToLocals, Value.category]; done) | rfl
def Q_initB_1 (Z : State) (a : Addr) (b : Addr) (k : ClassId) (vs : List Value) (fm : Value) (cs : Int32) (la : Addr) (lb : Addr) (kl : ClassId) (h0 : Heap) (n0 : Nat) (v_ : Option Value) (h : Heap) (L_ : List Loc) : Prop := v_ = none ∧ Fr n0 L_ ∧ Keep h0 h [a] ∧ Exa Z h a "java/lang/String" ∧ Fld Z h a "java/lang/String" "coder" "B" (.int 0) ∧ Fld Z h a "java/lang/String" "value" "[B" (.ref lb)
set_option maxRecDepth 65536 in
set_option maxHeartbeats 40000000 in
theorem rm_initB_1 (l : Launch) (Z : State) (a0 : Array Value) (hw : ∀ d ∈ tables_1, d.before a0 Z = true) (ws : List Jvm.Cond) (a : Addr) (b : Addr) (k : ClassId) (vs : List Value) (fm : Value) (cs : Int32) (la : Addr) (lb : Addr) (kl : ClassId) (h0 : Heap) (n0 : Nat) (Z0 : n0 ≤ h0.size) (O : Old Z n0 h0) (Scs : Sta Z Z.heap "java/lang/String" "COMPACT_STRINGS" "Z" (.int cs)) (hcs : ¬ (cs = (0 : Int32))) (Sfm : Sta Z Z.heap "jdk/internal/util/Preconditions" "SIOOBE_FORMATTER" "Ljava/util/function/BiFunction;" fm) (hfm : fm.category = 1) (Ea : Exa Z h0 a "java/lang/String") (Fv : Fld Z h0 a "java/lang/String" "value" "[B" .null) (Fc : Fld Z h0 a "java/lang/String" "coder" "B" (.int 0)) (ga : n0 ≤ a) (Vb : Arv Z h0 b k .byte (0 : Int32) vs (.int 0)) (Eb : Exa Z h0 b "[B") (Lv : Fld Z h0 la "java/lang/String" "value" "[B" (.ref lb)) (Lc : Fld Z h0 la "java/lang/String" "coder" "B" (.int 0)) (Vl : Arv Z h0 lb kl .byte (0 : Int32) [] (.int 0)) (El : Exa Z h0 lb "[B") (nla : la ≠ a) :
    own_MF l yM27 (.code yM27 cB27 7 none) ws ⟨2, 0, 0, 29⟩ #[(.ref a), (.ref b), (.int 0), (.int 0), (.int 0)] Z h0 (fun U_ => Lit U_ "java/lang/String" 7 la) (Q_initB_1 Z a b k vs fm cs la lb kl h0 n0) := by
  refine own_in "java/lang/String" rfl (plainFor_of_name pn2) hisR (fun m => ef27RRIII m a b (0 : Int32) (0 : Int32) (0 : Int32)) ?_
  intro p e s m below meth c s₁ A_ hx hby hml hown hnm hrt hlk hZ hLit X0 e0 pre0
  have N0 := Fr.nil n0
  obtain ⟨clV, ArV, -⟩ := id Vb
  obtain ⟨clW, ArW, -⟩ := id Vl
  have P1 := oS (s₁.setTop (mkF m 1 #[r_ a, r_ b, i_ 0, i_ 0, i_ 0, u_, u_] [(.ref a)])) pre0 (by
    intro _ k_
    refine aN_ X0 hx hby d27_0 rfl rfl ?_
    exact k_)
  obtain ⟨T2, X2, e2, st2⟩ := initO X0 hx hZ hown (own_w hw 15 rfl) (own_w hw 16 rfl) (own_w hw 17 rfl) e0 (g := (mkF m 1 #[r_ a, r_ b, i_ 0, i_ 0, i_ 0, u_, u_] [(.ref a)])) rfl (by rw [hml]; rfl) rfl (hb hby d27_1) (by decide) (W := 0) (by show 2 * 0 + _ ≤ _; exact Nat.le_of_eq rfl) (by decide)
  have P3 := oS (T2.setTop (mkF m 4 #[r_ a, r_ b, i_ 0, i_ 0, i_ 0, u_, u_] [])) P1 (fun t_ k_ => st2 t_ k_)
  have P4 := oS (T2.setTop (mkF m 8 #[r_ a, r_ b, i_ 0, i_ 0, i_ 0, u_, u_] [(.ref b), (.int 0), (.int 0)])) P3 (by
    intro _ k_
    refine iN_ X2 hx hby d27_4 rfl ?_
    refine il_ X2 hx hby d27_5 rfl ?_
    refine aN_ X2 hx hby d27_7 rfl rfl ?_
    exact k_)
  obtain ⟨cl5, Ar5, q5, S5, M5, H5, G5⟩ := id Vb
  have P6 := oS (T2.setTop (mkF m 9 #[r_ a, r_ b, i_ 0, i_ 0, i_ 0, u_, u_] [(.int 0), (.int 0), (.int 0)])) P4 (by
    intro _ k_
    refine X2.arraylength hx (by rw [e2]; exact Ar5.1) (State.isArrayOf_alike hZ.alike Ar5.2.1) (g := (mkF m 8 #[r_ a, r_ b, i_ 0, i_ 0, i_ 0, u_, u_] [(.ref b), (.int 0), (.int 0)])) rfl rfl (hb hby d27_8) _ ?_
    rw [len_of S5 M5]
    exact k_)
  obtain ⟨_, T7, L7, X7, hQ7, P7c⟩ := own_cS (W := 0) (rm_cbo l Z a0 hw [] (0 : Int32) fm h0 n0 Z0 O Sfm hfm (by decide) (by decide)) X2 hx hZ (fun _ _ => trivial) hown (own_w hw 161 rfl) (own_w hw 162 rfl) (own_w hw 7 rfl) (own_w hw 163 rfl) (by decide) P6 hml rfl [(.int 0), (.int 0), (.int 0)] [] rfl rfl rfl pd15 rfl (hb hby d27_9) e2 (by decide)
  obtain ⟨rfl, N7q, e7⟩ := hQ7
  have N7 := Fr.app N0 N7q
  have P8 := own_to (C := T7.setTop (mkF m 12 #[r_ a, r_ b, i_ 0, i_ 0, i_ 0, u_, u_] [(.int 0)])) P7c
  have P9 := oS (T7.setTop (mkF m 15 #[r_ a, r_ b, i_ 0, i_ 0, i_ 0, u_, u_] [(.int 0)])) P8 (by
    intro _ k_
    refine XS.pop X7.here hx rfl (hb hby d27_12) rfl rfl ?_
    refine il_ X7 hx hby d27_13 rfl ?_
    exact k_)
  have P10 := oS (T7.setTop (mkF m 19 #[r_ a, r_ b, i_ 0, i_ 0, i_ 0, u_, u_] [(.ref a)])) P9 (by
    intro _ k_
    refine XS.ifNo X7.here hx rfl (hb hby d27_15) rfl ((if0 _ _).trans (teq (by decide : (0 : Int32) = (0 : Int32))).2) ?_
    refine aN_ X7 hx hby d27_18 rfl rfl ?_
    exact k_)
  have P11 := oS (T7.setTop (mkF m 21 #[r_ a, r_ b, i_ 0, i_ 0, i_ 0, u_, u_] [(.ref la), (.ref a)])) P10 (by
    intro _ k_
    refine ldcR (Z := s) (a0 := #[]) X7 hx (State.Warmed39.refl _) hown (refOfLit (mvS (s := s) (args := #[]) hZ (own_w hw 185 rfl)) hLit) hLit (g := (mkF m 19 #[r_ a, r_ b, i_ 0, i_ 0, i_ 0, u_, u_] [(.ref a)])) rfl (hb hby d27_19) _ ?_
    exact k_)
  obtain ⟨T12, X12, e12, st12⟩ := getF X7 hx hZ hown (host := "") (Or.inl (own_w hw 32 rfl)) Via.refl e7 Lv (g := (mkF m 21 #[r_ a, r_ b, i_ 0, i_ 0, i_ 0, u_, u_] [(.ref la), (.ref a)])) rfl rfl (hb hby d27_21)
  have P13 := oS (T12.setTop (mkF m 24 #[r_ a, r_ b, i_ 0, i_ 0, i_ 0, u_, u_] [(.ref lb), (.ref a)])) P11 (fun t_ k_ => st12 t_ k_)
  obtain ⟨T14, h14, X14, e14, W14, st14⟩ := putF X12 hx hZ hown (host := "") (Or.inl (own_w hw 32 rfl)) Via.refl e12 Fv Ea (Or.inr ⟨(own_w hw 33 rfl), rfl, hnm⟩) (own_w hw 6 rfl) (ty := (.array .byte)) (by decide) rfl rfl (g := (mkF m 24 #[r_ a, r_ b, i_ 0, i_ 0, i_ 0, u_, u_] [(.ref lb), (.ref a)])) rfl rfl (hb hby d27_24)
  have f16 := Ea.wr W14
  have f17 := Fc.other W14 (Or.inr (slot_ne (Or.inr (own_w hw 31 rfl)) (Or.inr (own_w hw 33 rfl)) (by decide) (t := .byte) (t' := (.array .byte)) (by decide) (by decide)))
  have f18 := Fv.same W14
  have f19 := (Keep.refl h0 [a]).wr W14 (Or.inl (List.mem_of_getElem? (i := 0) rfl))
  have f23 := Lc.other W14 (Or.inl nla)
  have N14 := Fr.snoc X14 N7 ga
  have P27 := oS (T14.setTop (mkF m 27 #[r_ a, r_ b, i_ 0, i_ 0, i_ 0, u_, u_] [])) P13 (fun t_ k_ => st14 t_ k_)
  have P28 := oS (T14.setTop (mkF m 28 #[r_ a, r_ b, i_ 0, i_ 0, i_ 0, u_, u_] [(.ref a)])) P27 (by
    intro _ k_
    refine aN_ X14 hx hby d27_27 rfl rfl ?_
    exact k_)
  have P29 := oS (T14.setTop (mkF m 30 #[r_ a, r_ b, i_ 0, i_ 0, i_ 0, u_, u_] [(.ref la), (.ref a)])) P28 (by
    intro _ k_
    refine ldcR (Z := s) (a0 := #[]) X14 hx (State.Warmed39.refl _) hown (refOfLit (mvS (s := s) (args := #[]) hZ (own_w hw 185 rfl)) hLit) hLit (g := (mkF m 28 #[r_ a, r_ b, i_ 0, i_ 0, i_ 0, u_, u_] [(.ref a)])) rfl (hb hby d27_28) _ ?_
    exact k_)
  obtain ⟨T30, X30, e30, st30⟩ := getF X14 hx hZ hown (host := "") (Or.inl (own_w hw 30 rfl)) Via.refl e14 f23 (g := (mkF m 30 #[r_ a, r_ b, i_ 0, i_ 0, i_ 0, u_, u_] [(.ref la), (.ref a)])) rfl rfl (hb hby d27_30)
  have P31 := oS (T30.setTop (mkF m 33 #[r_ a, r_ b, i_ 0, i_ 0, i_ 0, u_, u_] [(.int 0), (.ref a)])) P29 (fun t_ k_ => st30 t_ k_)
  obtain ⟨T32, h32, X32, e32, W32, st32⟩ := putFN X30 hx hZ hown (own_w hw 30 rfl) Via.refl e30 f17 f16 (Or.inr ⟨(own_w hw 31 rfl), rfl, hnm⟩) (own_w hw 6 rfl) (ty := .byte) (v' := (.int (0 : Int32).toInt8.toInt32)) (by decide) rfl (fits_nar_byte _) (g := (mkF m 33 #[r_ a, r_ b, i_ 0, i_ 0, i_ 0, u_, u_] [(.int 0), (.ref a)])) rfl rfl (hb hby d27_33)
  have f34 := f16.wr W32
  have f35 := f17.same W32
  have f36 := f18.other W32 (Or.inr (slot_ne (Or.inr (own_w hw 33 rfl)) (Or.inr (own_w hw 31 rfl)) (by decide) (t := (.array .byte)) (t' := .byte) (by decide) (by decide)))
  have f37 := f19.wr W32 (Or.inl (List.mem_of_getElem? (i := 0) rfl))
  have N32 := Fr.snoc X32 N14 ga
  have P45 := oS (T32.setTop (mkF m 36 #[r_ a, r_ b, i_ 0, i_ 0, i_ 0, u_, u_] [])) P31 (fun t_ k_ => st32 t_ k_)
  exact own_out X32 hlk (v := none) (fun _ => rfl) P45 (fun _ q_ => X32.returnOut hx hrt (hb hby d27_36) q_) e32 ⟨rfl, N32, f37, f34, f35, f36⟩ (by decide)
theorem pd16 : parseMethodDescriptor "([BIII)V" = some ⟨[(.array .byte), .int, .int, .int], none⟩ := by decide +kernel
abbrev cB20 := jdk_2452_method_5_code
abbrev yM20 : MethodName := ⟨"java/util/Base64$Encoder", "encodeToString", "([B)Ljava/lang/String;"⟩
theorem d20_0 : own_d cB20 0 (.aload_n 0) 1 := by decide +kernel
theorem d20_1 : own_d cB20 1 (.aload_n 1) 1 := by decide +kernel
theorem d20_2 : own_d cB20 2 (.invokevirtual 61) 3 := by decide +kernel
theorem d20_5 : own_d cB20 5 (.astore_n 2) 1 := by decide +kernel
theorem d20_6 : own_d cB20 6 (.new 65) 3 := by decide +kernel
theorem d20_9 : own_d cB20 9 (.dup) 1 := by decide +kernel
theorem d20_10 : own_d cB20 10 (.aload_n 2) 1 := by decide +kernel
theorem d20_11 : own_d cB20 11 (.iconst 0) 1 := by decide +kernel
theorem d20_12 : own_d cB20 12 (.iconst 0) 1 := by decide +kernel
theorem d20_13 : own_d cB20 13 (.aload_n 2) 1 := by decide +kernel
theorem d20_14 : own_d cB20 14 (.arraylength) 1 := by decide +kernel
theorem d20_15 : own_d cB20 15 (.invokespecial 67) 3 := by decide +kernel
theorem d20_18 : own_d cB20 18 (.areturn) 1 := by decide +kernel
theorem ef20RR (m : MethodId) (x0 : Addr) (x1 : Addr) : entryFrame m #[(.ref x0), (.ref x1)] 3 = mkF m 0 #[r_ x0, r_ x1, u_] [] := by first | (simp [entryFrame, mkF, argsToLocals, Value.category]; done) | rfl
def Q_eStr_0 (Z : State) (en : Addr) (b : Addr) (k : ClassId) (ret_ : Addr) (ket : ClassId) (fm : Value) (cs : Int32) (la : Addr) (lb : Addr) (kl : ClassId) (h0 : Heap) (n0 : Nat) (v_ : Option Value) (h : Heap) (L_ : List Loc) : Prop := ∃ (rs : Addr), v_ = some (.ref rs) ∧ Fr n0 L_ ∧ Keep h0 h [] ∧ h0.size ≤ rs ∧ Exa Z h rs "java/lang/String" ∧ Fld Z h rs "java/lang/String" "coder" "B" (.int 0) ∧ Fld Z h rs "java/lang/String" "value" "[B" (.ref lb)
set_option maxRecDepth 65536 in
set_option maxHeartbeats 40000000 in
theorem rm_eStr_0 (l : Launch) (Z : State) (a0 : Array Value) (hw : ∀ d ∈ tables_1, d.before a0 Z = true) (ws : List Jvm.Cond) (en : Addr) (b : Addr) (k : ClassId) (ret_ : Addr) (ket : ClassId) (fm : Value) (cs : Int32) (la : Addr) (lb : Addr) (kl : ClassId) (h0 : Heap) (n0 : Nat) (Z0 : n0 ≤ h0.size) (O : Old Z n0 h0) (Scs : Sta Z Z.heap "java/lang/String" "COMPACT_STRINGS" "Z" (.int cs)) (hcs : ¬ (cs = (0 : Int32))) (Sfm : Sta Z Z.heap "jdk/internal/util/Preconditions" "SIOOBE_FORMATTER" "Ljava/util/function/BiFunction;" fm) (hfm : fm.category = 1) (Set : Sta Z Z.heap "java/util/Base64$Encoder" "toBase64URL" "[C" (.ref ret_)) (Vet : Arv Z Z.heap ret_ ket .char (64 : Int32) own_enc (.int 0)) (Ee : Exa Z h0 en "java/util/Base64$Encoder") (Fp : Fld Z h0 en "java/util/Base64$Encoder" "doPadding" "Z" (.int 0)) (Fl : Fld Z h0 en "java/util/Base64$Encoder" "linemax" "I" (.int (-1 : Int32))) (Fe : Fld Z h0 en "java/util/Base64$Encoder" "isURL" "Z" (.int 1)) (Vb : Arv Z h0 b k .byte (0 : Int32) [] (.int 0)) (Lv : Fld Z h0 la "java/lang/String" "value" "[B" (.ref lb)) (Lc : Fld Z h0 la "java/lang/String" "coder" "B" (.int 0)) (Vl : Arv Z h0 lb kl .byte (0 : Int32) [] (.int 0)) (El : Exa Z h0 lb "[B") :
    own_MF l yM20 (.code yM20 cB20 3 (some (.object "java/lang/String"))) ws ⟨3, 2, 4, 48⟩ #[(.ref en), (.ref b)] Z h0 (fun U_ => Lit U_ "java/lang/String" 7 la) (Q_eStr_0 Z en b k ret_ ket fm cs la lb kl h0 n0) := by
  refine own_in "java/util/Base64$Encoder" rfl (plainFor_of_name pn4) hisR (fun m => ef20RR m en b) ?_
  intro p e s m below meth c s₁ A_ hx hby hml hown hnm hrt hlk hZ hLit X0 e0 pre0
  have N0 := Fr.nil n0
  have P1 := oS (s₁.setTop (mkF m 2 #[r_ en, r_ b, u_] [(.ref b), (.ref en)])) pre0 (by
    intro _ k_
    refine aN_ X0 hx hby d20_0 rfl rfl ?_
    refine aN_ X0 hx hby d20_1 rfl rfl ?_
    exact k_)
  obtain ⟨_, T2, L2, X2, hQ2, P2c⟩ := own_cV (W := 0) (rm_enc_0 l Z a0 hw [] en b k ret_ ket h0 n0 Z0 O Set Vet Ee Fp Fl Fe Vb) X0 hx hZ (fun _ _ => trivial) hown Ee (own_w hw 120 rfl) (own_w hw 121 rfl) (own_w hw 123 rfl) (own_w hw 122 rfl) (own_w hw 118 rfl) (own_w hw 124 rfl) (by decide) P1 hml rfl [(.ref b)] [] rfl rfl rfl pd11 rfl (hb hby d20_2) e0 (by decide)
  obtain ⟨xq2, kk2, rfl, N2q, K2, f3, f4, f5⟩ := hQ2
  have N2 := Fr.app N0 N2q
  have f6 := O.keep K2 all0
  have f10 := (Keep.refl h0 []).trans K2 all0
  have f13 := Lv.keep K2 nin0
  have f14 := Lc.keep K2 nin0
  have f15 := Vl.keep K2 nin0
  have f16 := El.keep K2
  have Z17 : n0 ≤ T2.heap.size := Nat.le_trans Z0 K2.1
  have P18 := own_to (C := T2.setTop (mkF m 5 #[r_ en, r_ b, u_] [(.ref xq2)])) P2c
  have P19 := oS (T2.setTop (mkF m 6 #[r_ en, r_ b, r_ xq2] [])) P18 (by
    intro _ k_
    refine XS.astoreN X2.here hx rfl (hb hby d20_5) rfl rfl (l' := #[r_ en, r_ b, r_ xq2]) rfl ?_
    exact k_)
  obtain ⟨T20, h20, X20, e20, E20, A20, D20, -, st20⟩ := newO X2 hx hZ hown (own_w hw 157 rfl) (own_w hw 6 rfl) (own_w hw 7 rfl) rfl (g := (mkF m 6 #[r_ en, r_ b, r_ xq2] [])) rfl (hb hby d20_6) (by decide) (by decide)
  obtain ⟨b20, g20⟩ : ∃ z, z = T2.heap.size := ⟨_, rfl⟩
  rw [← g20] at A20 D20 st20
  have ne_la_b20 : la ≠ b20 := Nat.ne_of_lt (Nat.lt_of_lt_of_le f13.lt (Nat.le_of_eq g20.symm))
  have g_b20 : n0 ≤ b20 := Nat.le_trans Z17 (Nat.le_of_eq g20.symm)
  have sz_b20 : h0.size ≤ b20 := Nat.le_trans f10.1 (Nat.le_of_eq g20.symm)
  have f21 := f6.ext E20
  have f25 := f10.ext E20
  have f28 := f13.ext E20
  have f29 := f14.ext E20
  have f30 := f15.ext E20
  have f31 := f16.ext E20
  have f32 := f4.ext E20
  have f33 := f5.ext E20
  have Z34 : n0 ≤ h20.size := Nat.le_trans Z17 E20.1
  have f35 : Fld Z h20 b20 "java/lang/String" "coder" "B" (.int 0) := D20 (Or.inr (own_w hw 31 rfl)) (ty := .byte) (by decide)
  have f36 : Fld Z h20 b20 "java/lang/String" "value" "[B" .null := D20 (Or.inr (own_w hw 33 rfl)) (ty := (.array .byte)) (by decide)
  have P37 := oS (T20.setTop (mkF m 9 #[r_ en, r_ b, r_ xq2] [(.ref b20)])) P19 (fun t_ k_ => st20 t_ k_)
  have P38 := oS (T20.setTop (mkF m 14 #[r_ en, r_ b, r_ xq2] [(.ref xq2), (.int 0), (.int 0), (.ref xq2), (.ref b20), (.ref b20)])) P37 (by
    intro _ k_
    refine XS.dup X20.here hx rfl (hb hby d20_9) rfl rfl ?_
    refine aN_ X20 hx hby d20_10 rfl rfl ?_
    refine XS.iconst X20.here hx rfl (hb hby d20_11) ?_
    refine XS.iconst X20.here hx rfl (hb hby d20_12) ?_
    refine aN_ X20 hx hby d20_13 rfl rfl ?_
    exact k_)
  obtain ⟨cl39, Ar39, q39, S39, M39, H39, G39⟩ := id f32
  have P40 := oS (T20.setTop (mkF m 15 #[r_ en, r_ b, r_ xq2] [(.int 0), (.int 0), (.int 0), (.ref xq2), (.ref b20), (.ref b20)])) P38 (by
    intro _ k_
    refine X20.arraylength hx (by rw [e20]; exact Ar39.1) (State.isArrayOf_alike hZ.alike Ar39.2.1) (g := (mkF m 14 #[r_ en, r_ b, r_ xq2] [(.ref xq2), (.int 0), (.int 0), (.ref xq2), (.ref b20), (.ref b20)])) rfl rfl (hb hby d20_14) _ ?_
    rw [len_of S39 M39]
    exact k_)
  obtain ⟨_, T41, L41, X41, hQ41, P41c⟩ := own_cI (W := 1) (rm_initB_1 l Z a0 hw [] b20 xq2 kk2 [] fm cs la lb kl h20 n0 Z34 f21 Scs hcs Sfm hfm A20 f36 f35 g_b20 f32 f33 f28 f29 f30 f31 ne_la_b20) X20 hx hZ (fun _ q_ => own_litU hLit q_) hown rfl (own_w hw 158 rfl) (own_w hw 159 rfl) (own_w hw 7 rfl) (own_w hw 160 rfl) (by decide) P40 hml rfl [(.ref xq2), (.int 0), (.int 0), (.int 0)] [(.ref b20)] rfl rfl rfl pd16 rfl (hb hby d20_15) e20 (by decide)
  obtain ⟨rfl, N41q, K41, f42, f43, f44⟩ := hQ41
  have N41 := Fr.app N2 N41q
  have f49 := f25.trans K41 (allS (Or.inr sz_b20) all0)
  have P62 := own_to (C := T41.setTop (mkF m 18 #[r_ en, r_ b, r_ xq2] [(.ref b20)])) P41c
  exact own_out X41 hlk (v := some (.ref b20)) (own_hv hrt) P62 (fun _ q_ => retOut X41 hx hrt rfl (Or.inr (Or.inr (Or.inr (Or.inr ⟨rfl, rfl, rfl⟩)))) (hb hby d20_18) q_) (rfl : T41.heap = _) ⟨b20, rfl, N41, f49, sz_b20, f42, f43, f44⟩ (by decide)
theorem pd17 : parseMethodDescriptor "([B)Ljava/lang/String;" = some ⟨[(.array .byte)], some (.object "java/lang/String")⟩ := by decide +kernel
abbrev cB19 := prog_16_method_2_code
abbrev yM19 : MethodName := ⟨"com/example/verified_health_identity/verifiedhealthidentity/jose/Base64url", "encode", "([B)Ljava/lang/String;"⟩
theorem d19_0 : own_d cB19 0 (.getstatic 7) 3 := by decide +kernel
theorem d19_3 : own_d cB19 3 (.aload_n 0) 1 := by decide +kernel
theorem d19_4 : own_d cB19 4 (.invokevirtual 13) 3 := by decide +kernel
theorem d19_7 : own_d cB19 7 (.areturn) 1 := by decide +kernel
theorem ef19R (m : MethodId) (x0 : Addr) : entryFrame m #[(.ref x0)] 1 = mkF m 0 #[r_ x0] [] := by first | (simp [entryFrame, mkF, argsToLocals, Value.category]; done) | rfl
def Q_buE_0 (Z : State) (en : Addr) (b : Addr) (k : ClassId) (ret_ : Addr) (ket : ClassId) (fm : Value) (cs : Int32) (la : Addr) (lb : Addr) (kl : ClassId) (h0 : Heap) (n0 : Nat) (v_ : Option Value) (h : Heap) (L_ : List Loc) : Prop := ∃ (rs : Addr), v_ = some (.ref rs) ∧ Fr n0 L_ ∧ Keep h0 h [] ∧ h0.size ≤ rs ∧ Exa Z h rs "java/lang/String" ∧ Fld Z h rs "java/lang/String" "coder" "B" (.int 0) ∧ Fld Z h rs "java/lang/String" "value" "[B" (.ref lb)
theorem pn6 : plainName "com/example/verified_health_identity/verifiedhealthidentity/jose/Base64url" = true := by first | (simp [plainName, overriddenIn]; done) | decide +kernel
set_option maxRecDepth 65536 in
set_option maxHeartbeats 40000000 in
theorem rm_buE_0 (l : Launch) (Z : State) (a0 : Array Value) (hw : ∀ d ∈ tables_1, d.before a0 Z = true) (ws : List Jvm.Cond) (en : Addr) (b : Addr) (k : ClassId) (ret_ : Addr) (ket : ClassId) (fm : Value) (cs : Int32) (la : Addr) (lb : Addr) (kl : ClassId) (h0 : Heap) (n0 : Nat) (Z0 : n0 ≤ h0.size) (O : Old Z n0 h0) (Scs : Sta Z Z.heap "java/lang/String" "COMPACT_STRINGS" "Z" (.int cs)) (hcs : ¬ (cs = (0 : Int32))) (Sfm : Sta Z Z.heap "jdk/internal/util/Preconditions" "SIOOBE_FORMATTER" "Ljava/util/function/BiFunction;" fm) (hfm : fm.category = 1) (Set : Sta Z Z.heap "java/util/Base64$Encoder" "toBase64URL" "[C" (.ref ret_)) (Vet : Arv Z Z.heap ret_ ket .char (64 : Int32) own_enc (.int 0)) (Ee : Exa Z h0 en "java/util/Base64$Encoder") (Fp : Fld Z h0 en "java/util/Base64$Encoder" "doPadding" "Z" (.int 0)) (Fl : Fld Z h0 en "java/util/Base64$Encoder" "linemax" "I" (.int (-1 : Int32))) (Fe : Fld Z h0 en "java/util/Base64$Encoder" "isURL" "Z" (.int 1)) (Vb : Arv Z h0 b k .byte (0 : Int32) [] (.int 0)) (Lv : Fld Z h0 la "java/lang/String" "value" "[B" (.ref lb)) (Lc : Fld Z h0 la "java/lang/String" "coder" "B" (.int 0)) (Vl : Arv Z h0 lb kl .byte (0 : Int32) [] (.int 0)) (El : Exa Z h0 lb "[B") (Senc : Sta Z Z.heap "com/example/verified_health_identity/verifiedhealthidentity/jose/Base64url" "ENCODER" "Ljava/util/Base64$Encoder;" (.ref en)) :
    own_MF l yM19 (.code yM19 cB19 1 (some (.object "java/lang/String"))) ws ⟨4, 2, 4, 62⟩ #[(.ref b)] Z h0 (fun U_ => Lit U_ "java/lang/String" 7 la) (Q_buE_0 Z en b k ret_ ket fm cs la lb kl h0 n0) := by
  refine own_in "com/example/verified_health_identity/verifiedhealthidentity/jose/Base64url" rfl (plainFor_of_name pn6) hisR (fun m => ef19R m b) ?_
  intro p e s m below meth c s₁ A_ hx hby hml hown hnm hrt hlk hZ hLit X0 e0 pre0
  have N0 := Fr.nil n0
  obtain ⟨T1, X1, e1, st1⟩ := getS2 X0 hx hZ hown (host := "") (Or.inl (own_w hw 112 rfl)) Via.refl e0 (Senc.ext O.2) (g := (mkF m 0 #[r_ b] [])) rfl (hb hby d19_0)
  have P2 := oS (T1.setTop (mkF m 3 #[r_ b] [(.ref en)])) pre0 (fun t_ k_ => st1 t_ k_)
  have P3 := oS (T1.setTop (mkF m 4 #[r_ b] [(.ref b), (.ref en)])) P2 (by
    intro _ k_
    refine aN_ X1 hx hby d19_3 rfl rfl ?_
    exact k_)
  obtain ⟨_, T4, L4, X4, hQ4, P4c⟩ := own_cV (W := 0) (rm_eStr_0 l Z a0 hw [] en b k ret_ ket fm cs la lb kl h0 n0 Z0 O Scs hcs Sfm hfm Set Vet Ee Fp Fl Fe Vb Lv Lc Vl El) X1 hx hZ (fun _ q_ => own_litU hLit q_) hown Ee (own_w hw 114 rfl) (own_w hw 115 rfl) (own_w hw 117 rfl) (own_w hw 116 rfl) (own_w hw 118 rfl) (own_w hw 119 rfl) (by decide) P3 hml rfl [(.ref b)] [] rfl rfl rfl pd17 rfl (hb hby d19_4) e1 (by decide)
  obtain ⟨rs4, rfl, N4q, K4, f5, f6, f7, f8⟩ := hQ4
  have N4 := Fr.app N0 N4q
  have sz_rs4 : h0.size ≤ rs4 := Nat.le_trans (Keep.refl h0 []).1 f5
  have f13 := (Keep.refl h0 []).trans K4 all0
  have P21 := own_to (C := T4.setTop (mkF m 7 #[r_ b] [(.ref rs4)])) P4c
  exact own_out X4 hlk (v := some (.ref rs4)) (own_hv hrt) P21 (fun _ q_ => retOut X4 hx hrt rfl (Or.inr (Or.inr (Or.inr (Or.inr ⟨rfl, rfl, rfl⟩)))) (hb hby d19_7) q_) (rfl : T4.heap = _) ⟨rs4, rfl, N4, f13, sz_rs4, f6, f7, f8⟩ (by decide)
abbrev cB32 := jdk_43_method_13_code
abbrev yM32 : MethodName := ⟨"java/lang/StringLatin1", "equals", "([B[B)Z"⟩
theorem d32_0 : own_d cB32 0 (.aload_n 0) 1 := by decide +kernel
theorem d32_1 : own_d cB32 1 (.arraylength) 1 := by decide +kernel
theorem d32_2 : own_d cB32 2 (.aload_n 1) 1 := by decide +kernel
theorem d32_3 : own_d cB32 3 (.arraylength) 1 := by decide +kernel
theorem d32_4 : own_d cB32 4 (.if_icmp .ne 30) 3 := by decide +kernel
theorem d32_7 : own_d cB32 7 (.iconst 0) 1 := by decide +kernel
theorem d32_8 : own_d cB32 8 (.istore_n 2) 1 := by decide +kernel
theorem d32_9 : own_d cB32 9 (.iload_n 2) 1 := by decide +kernel
theorem d32_10 : own_d cB32 10 (.aload_n 0) 1 := by decide +kernel
theorem d32_11 : own_d cB32 11 (.arraylength) 1 := by decide +kernel
theorem d32_12 : own_d cB32 12 (.if_icmp .ge 20) 3 := by decide +kernel
theorem d32_32 : own_d cB32 32 (.iconst 1) 1 := by decide +kernel
theorem d32_33 : own_d cB32 33 (.ireturn) 1 := by decide +kernel
theorem ef32RR (m : MethodId) (x0 : Addr) (x1 : Addr) : entryFrame m #[(.ref x0), (.ref x1)] 3 = mkF m 0 #[r_ x0, r_ x1, u_] [] := by first | (simp [entryFrame, mkF, argsToLocals, Value.category]; done) | rfl
def Q_eqL_0 (Z : State) (b : Addr) (k : ClassId) (d : Addr) (kd : ClassId) (h0 : Heap) (n0 : Nat) (v_ : Option Value) (h : Heap) (L_ : List Loc) : Prop := v_ = some (.int 1) ∧ Fr n0 L_ ∧ h = h0
theorem pn7 : plainName "java/lang/StringLatin1" = true := by first | (simp [plainName, overriddenIn]; done) | decide +kernel
set_option maxRecDepth 65536 in
set_option maxHeartbeats 40000000 in
theorem rm_eqL_0 (l : Launch) (Z : State) (a0 : Array Value) (hw : ∀ d ∈ tables_1, d.before a0 Z = true) (ws : List Jvm.Cond) (b : Addr) (k : ClassId) (d : Addr) (kd : ClassId) (h0 : Heap) (n0 : Nat) (Z0 : n0 ≤ h0.size) (Vb : Arv Z h0 b k .byte (0 : Int32) [] (.int 0)) (Vd : Arv Z h0 d kd .byte (0 : Int32) [] (.int 0)) :
    own_MF l yM32 (.code yM32 cB32 3 (some .boolean)) ws ⟨0, 0, 0, 0⟩ #[(.ref b), (.ref d)] Z h0 own_T (Q_eqL_0 Z b k d kd h0 n0) := by
  refine own_in "java/lang/StringLatin1" rfl (plainFor_of_name pn7) hisR (fun m => ef32RR m b d) ?_
  intro p e s m below meth c s₁ A_ hx hby hml hown hnm hrt hlk hZ _ X0 e0 pre0
  have N0 := Fr.nil n0
  have P1 := oS (s₁.setTop (mkF m 1 #[r_ b, r_ d, u_] [(.ref b)])) pre0 (by
    intro _ k_
    refine aN_ X0 hx hby d32_0 rfl rfl ?_
    exact k_)
  obtain ⟨cl2, Ar2, q2, S2, M2, H2, G2⟩ := id Vb
  have P3 := oS (s₁.setTop (mkF m 2 #[r_ b, r_ d, u_] [(.int 0)])) P1 (by
    intro _ k_
    refine X0.arraylength hx (by rw [e0]; exact Ar2.1) (State.isArrayOf_alike hZ.alike Ar2.2.1) (g := (mkF m 1 #[r_ b, r_ d, u_] [(.ref b)])) rfl rfl (hb hby d32_1) _ ?_
    rw [len_of S2 M2]
    exact k_)
  have P4 := oS (s₁.setTop (mkF m 3 #[r_ b, r_ d, u_] [(.ref d), (.int 0)])) P3 (by
    intro _ k_
    refine aN_ X0 hx hby d32_2 rfl rfl ?_
    exact k_)
  obtain ⟨cl5, Ar5, q5, S5, M5, H5, G5⟩ := id Vd
  have P6 := oS (s₁.setTop (mkF m 4 #[r_ b, r_ d, u_] [(.int 0), (.int 0)])) P4 (by
    intro _ k_
    refine X0.arraylength hx (by rw [e0]; exact Ar5.1) (State.isArrayOf_alike hZ.alike Ar5.2.1) (g := (mkF m 3 #[r_ b, r_ d, u_] [(.ref d), (.int 0)])) rfl rfl (hb hby d32_3) _ ?_
    rw [len_of S5 M5]
    exact k_)
  have P7 := oS (s₁.setTop (mkF m 11 #[r_ b, r_ d, i_ 0] [(.ref b), (.int 0)])) P6 (by
    intro _ k_
    refine XS.icmpNo X0.here hx rfl (hb hby d32_4) rfl (teq (by decide : (0 : Int32) = (0 : Int32))).2 ?_
    refine XS.iconst X0.here hx rfl (hb hby d32_7) ?_
    refine XS.istoreN X0.here hx rfl (hb hby d32_8) rfl (l' := #[r_ b, r_ d, i_ 0]) rfl ?_
    refine iN_ X0 hx hby d32_9 rfl ?_
    refine aN_ X0 hx hby d32_10 rfl rfl ?_
    exact k_)
  obtain ⟨cl8, Ar8, q8, S8, M8, H8, G8⟩ := id Vb
  have P9 := oS (s₁.setTop (mkF m 12 #[r_ b, r_ d, i_ 0] [(.int 0), (.int 0)])) P7 (by
    intro _ k_
    refine X0.arraylength hx (by rw [e0]; exact Ar8.1) (State.isArrayOf_alike hZ.alike Ar8.2.1) (g := (mkF m 11 #[r_ b, r_ d, i_ 0] [(.ref b), (.int 0)])) rfl rfl (hb hby d32_11) _ ?_
    rw [len_of S8 M8]
    exact k_)
  have P10 := oS (s₁.setTop (mkF m 33 #[r_ b, r_ d, i_ 0] [(.int 1)])) P9 (by
    intro _ k_
    refine cY_ X0 hx hby d32_12 (pc := 12) (pc' := 32) (flt (by decide : ¬ ((0 : Int32) < (0 : Int32)))).2.1 (by decide) ?_
    refine XS.iconst X0.here hx rfl (hb hby d32_32) ?_
    exact k_)
  exact own_out X0 hlk (v := some (.int 1)) (own_hv hrt) P10 (fun _ q_ => retN X0 hx (t := .boolean) hrt (by simp) (hb hby d32_33) q_) e0 ⟨rfl, N0, rfl⟩ (by decide)
theorem pd18 : parseMethodDescriptor "([B[B)Z" = some ⟨[(.array .byte), (.array .byte)], some .boolean⟩ := by decide +kernel
abbrev cB31 := jdk_42_method_66_code
abbrev yM31 : MethodName := ⟨"java/lang/String", "equals", "(Ljava/lang/Object;)Z"⟩
theorem d31_0 : own_d cB31 0 (.aload_n 0) 1 := by decide +kernel
theorem d31_1 : own_d cB31 1 (.aload_n 1) 1 := by decide +kernel
theorem d31_2 : own_d cB31 2 (.if_acmp .ne 5) 3 := by decide +kernel
theorem d31_7 : own_d cB31 7 (.aload_n 1) 1 := by decide +kernel
theorem d31_8 : own_d cB31 8 (.instanceof 10) 3 := by decide +kernel
theorem d31_11 : own_d cB31 11 (.ifCond .eq 43) 3 := by decide +kernel
theorem d31_14 : own_d cB31 14 (.aload_n 1) 1 := by decide +kernel
theorem d31_15 : own_d cB31 15 (.checkcast 10) 3 := by decide +kernel
theorem d31_18 : own_d cB31 18 (.astore_n 2) 1 := by decide +kernel
theorem d31_19 : own_d cB31 19 (.getstatic 38) 3 := by decide +kernel
theorem d31_22 : own_d cB31 22 (.ifCond .eq 14) 3 := by decide +kernel
theorem d31_25 : own_d cB31 25 (.aload_n 0) 1 := by decide +kernel
theorem d31_26 : own_d cB31 26 (.getfield 15) 3 := by decide +kernel
theorem d31_29 : own_d cB31 29 (.aload_n 2) 1 := by decide +kernel
theorem d31_30 : own_d cB31 30 (.getfield 15) 3 := by decide +kernel
theorem d31_33 : own_d cB31 33 (.if_icmp .ne 21) 3 := by decide +kernel
theorem d31_36 : own_d cB31 36 (.aload_n 0) 1 := by decide +kernel
theorem d31_37 : own_d cB31 37 (.getfield 9) 3 := by decide +kernel
theorem d31_40 : own_d cB31 40 (.aload_n 2) 1 := by decide +kernel
theorem d31_41 : own_d cB31 41 (.getfield 9) 3 := by decide +kernel
theorem d31_44 : own_d cB31 44 (.invokestatic 541) 3 := by decide +kernel
theorem d31_47 : own_d cB31 47 (.ifCond .eq 7) 3 := by decide +kernel
theorem d31_50 : own_d cB31 50 (.iconst 1) 1 := by decide +kernel
theorem d31_51 : own_d cB31 51 (.goto 4) 3 := by decide +kernel
theorem d31_55 : own_d cB31 55 (.ireturn) 1 := by decide +kernel
theorem ef31RR (m : MethodId) (x0 : Addr) (x1 : Addr) : entryFrame m #[(.ref x0), (.ref x1)] 3 = mkF m 0 #[r_ x0, r_ x1, u_] [] := by first | (simp [entryFrame, mkF, argsToLocals, Value.category]; done) | rfl
def Q_eqS_0 (Z : State) (a : Addr) (a2 : Addr) (b : Addr) (k : ClassId) (d : Addr) (kd : ClassId) (cs : Int32) (h0 : Heap) (n0 : Nat) (v_ : Option Value) (h : Heap) (L_ : List Loc) : Prop := v_ = some (.int 1) ∧ Fr n0 L_ ∧ h = h0
set_option maxRecDepth 65536 in
set_option maxHeartbeats 40000000 in
theorem rm_eqS_0 (l : Launch) (Z : State) (a0 : Array Value) (hw : ∀ d ∈ tables_1, d.before a0 Z = true) (ws : List Jvm.Cond) (a : Addr) (a2 : Addr) (b : Addr) (k : ClassId) (d : Addr) (kd : ClassId) (cs : Int32) (h0 : Heap) (n0 : Nat) (Z0 : n0 ≤ h0.size) (O : Old Z n0 h0) (Scs : Sta Z Z.heap "java/lang/String" "COMPACT_STRINGS" "Z" (.int cs)) (hcs : ¬ (cs = (0 : Int32))) (naa : a ≠ a2) (Ea : Exa Z h0 a "java/lang/String") (Fc : Fld Z h0 a "java/lang/String" "coder" "B" (.int 0)) (Fv : Fld Z h0 a "java/lang/String" "value" "[B" (.ref b)) (Ea2 : Exa Z h0 a2 "java/lang/String") (Fc2 : Fld Z h0 a2 "java/lang/String" "coder" "B" (.int 0)) (Fv2 : Fld Z h0 a2 "java/lang/String" "value" "[B" (.ref d)) (Vb : Arv Z h0 b k .byte (0 : Int32) [] (.int 0)) (Vd : Arv Z h0 d kd .byte (0 : Int32) [] (.int 0)) :
    own_MF l yM31 (.code yM31 cB31 3 (some .boolean)) ws ⟨1, 0, 0, 14⟩ #[(.ref a), (.ref a2)] Z h0 own_T (Q_eqS_0 Z a a2 b k d kd cs h0 n0) := by
  refine own_in "java/lang/String" rfl (plainFor_of_name pn2) hisR (fun m => ef31RR m a a2) ?_
  intro p e s m below meth c s₁ A_ hx hby hml hown hnm hrt hlk hZ _ X0 e0 pre0
  have N0 := Fr.nil n0
  have P1 := oS (s₁.setTop (mkF m 2 #[r_ a, r_ a2, u_] [(.ref a2), (.ref a)])) pre0 (by
    intro _ k_
    refine aN_ X0 hx hby d31_0 rfl rfl ?_
    refine aN_ X0 hx hby d31_1 rfl rfl ?_
    exact k_)
  have P2 := oS (s₁.setTop (mkF m 7 #[r_ a, r_ a2, u_] [])) P1 (by
    intro _ k_
    refine Jvm.RoadKit.acmp (g := (mkF m 2 #[r_ a, r_ a2, u_] [(.ref a2), (.ref a)])) X0 hx rfl rfl rfl (pc0 := 2) (pc' := 7) (same := false) rfl (hb hby d31_2) rfl (decide_eq_false fun q => naa (Value.ref.inj q)) (by decide) (by decide) ?_
    exact k_)
  have P3 := oS (s₁.setTop (mkF m 8 #[r_ a, r_ a2, u_] [(.ref a2)])) P2 (by
    intro _ k_
    refine aN_ X0 hx hby d31_7 rfl rfl ?_
    exact k_)
  obtain ⟨T4, X4, e4, st4⟩ := instY X0 hx hZ hown (own_w hw 180 rfl) e0 (Ins.self Ea2) (g := (mkF m 8 #[r_ a, r_ a2, u_] [(.ref a2)])) rfl rfl (hb hby d31_8)
  have P5 := oS (T4.setTop (mkF m 11 #[r_ a, r_ a2, u_] [(.int 1)])) P3 (fun t_ k_ => st4 t_ k_)
  have P6 := oS (T4.setTop (mkF m 15 #[r_ a, r_ a2, u_] [(.ref a2)])) P5 (by
    intro _ k_
    refine XS.ifNo X4.here hx rfl (hb hby d31_11) rfl ((if0 _ _).trans (feq (by decide : ¬ ((1 : Int32) = (0 : Int32)))).1) ?_
    refine aN_ X4 hx hby d31_14 rfl rfl ?_
    exact k_)
  obtain ⟨T7, X7, e7, st7⟩ := castY X4 hx hZ hown (own_w hw 180 rfl) e4 (Ins.self Ea2) (g := (mkF m 15 #[r_ a, r_ a2, u_] [(.ref a2)])) rfl rfl (hb hby d31_15)
  have P8 := oS (T7.setTop (mkF m 18 #[r_ a, r_ a2, u_] [(.ref a2)])) P6 (fun t_ k_ => st7 t_ k_)
  have P9 := oS (T7.setTop (mkF m 19 #[r_ a, r_ a2, r_ a2] [])) P8 (by
    intro _ k_
    refine XS.astoreN X7.here hx rfl (hb hby d31_18) rfl rfl (l' := #[r_ a, r_ a2, r_ a2]) rfl ?_
    exact k_)
  obtain ⟨T10, X10, e10, st10⟩ := getS2 X7 hx hZ hown (host := "") (Or.inl (own_w hw 18 rfl)) Via.refl e7 (Scs.ext O.2) (g := (mkF m 19 #[r_ a, r_ a2, r_ a2] [])) rfl (hb hby d31_19)
  have P11 := oS (T10.setTop (mkF m 22 #[r_ a, r_ a2, r_ a2] [(.int cs)])) P9 (fun t_ k_ => st10 t_ k_)
  have P12 := oS (T10.setTop (mkF m 26 #[r_ a, r_ a2, r_ a2] [(.ref a)])) P11 (by
    intro _ k_
    refine XS.ifNo X10.here hx rfl (hb hby d31_22) rfl ((if0 _ _).trans (feq hcs).1) ?_
    refine aN_ X10 hx hby d31_25 rfl rfl ?_
    exact k_)
  obtain ⟨T13, X13, e13, st13⟩ := getF X10 hx hZ hown (host := "") (Or.inl (own_w hw 30 rfl)) Via.refl e10 Fc (g := (mkF m 26 #[r_ a, r_ a2, r_ a2] [(.ref a)])) rfl rfl (hb hby d31_26)
  have P14 := oS (T13.setTop (mkF m 29 #[r_ a, r_ a2, r_ a2] [(.int 0)])) P12 (fun t_ k_ => st13 t_ k_)
  have P15 := oS (T13.setTop (mkF m 30 #[r_ a, r_ a2, r_ a2] [(.ref a2), (.int 0)])) P14 (by
    intro _ k_
    refine aN_ X13 hx hby d31_29 rfl rfl ?_
    exact k_)
  obtain ⟨T16, X16, e16, st16⟩ := getF X13 hx hZ hown (host := "") (Or.inl (own_w hw 30 rfl)) Via.refl e13 Fc2 (g := (mkF m 30 #[r_ a, r_ a2, r_ a2] [(.ref a2), (.int 0)])) rfl rfl (hb hby d31_30)
  have P17 := oS (T16.setTop (mkF m 33 #[r_ a, r_ a2, r_ a2] [(.int 0), (.int 0)])) P15 (fun t_ k_ => st16 t_ k_)
  have P18 := oS (T16.setTop (mkF m 37 #[r_ a, r_ a2, r_ a2] [(.ref a)])) P17 (by
    intro _ k_
    refine XS.icmpNo X16.here hx rfl (hb hby d31_33) rfl (teq (by decide : (0 : Int32) = (0 : Int32))).2 ?_
    refine aN_ X16 hx hby d31_36 rfl rfl ?_
    exact k_)
  obtain ⟨T19, X19, e19, st19⟩ := getF X16 hx hZ hown (host := "") (Or.inl (own_w hw 32 rfl)) Via.refl e16 Fv (g := (mkF m 37 #[r_ a, r_ a2, r_ a2] [(.ref a)])) rfl rfl (hb hby d31_37)
  have P20 := oS (T19.setTop (mkF m 40 #[r_ a, r_ a2, r_ a2] [(.ref b)])) P18 (fun t_ k_ => st19 t_ k_)
  have P21 := oS (T19.setTop (mkF m 41 #[r_ a, r_ a2, r_ a2] [(.ref a2), (.ref b)])) P20 (by
    intro _ k_
    refine aN_ X19 hx hby d31_40 rfl rfl ?_
    exact k_)
  obtain ⟨T22, X22, e22, st22⟩ := getF X19 hx hZ hown (host := "") (Or.inl (own_w hw 32 rfl)) Via.refl e19 Fv2 (g := (mkF m 41 #[r_ a, r_ a2, r_ a2] [(.ref a2), (.ref b)])) rfl rfl (hb hby d31_41)
  have P23 := oS (T22.setTop (mkF m 44 #[r_ a, r_ a2, r_ a2] [(.ref d), (.ref b)])) P21 (fun t_ k_ => st22 t_ k_)
  obtain ⟨_, T24, L24, X24, hQ24, P24c⟩ := own_cS (W := 0) (rm_eqL_0 l Z a0 hw [] b k d kd h0 n0 Z0 Vb Vd) X22 hx hZ (fun _ _ => trivial) hown (own_w hw 181 rfl) (own_w hw 182 rfl) (own_w hw 183 rfl) (own_w hw 184 rfl) (by decide) P23 hml rfl [(.ref b), (.ref d)] [] rfl rfl rfl pd18 rfl (hb hby d31_44) e22 (by decide)
  obtain ⟨rfl, N24q, e24⟩ := hQ24
  have N24 := Fr.app N0 N24q
  have P25 := own_to (C := T24.setTop (mkF m 47 #[r_ a, r_ a2, r_ a2] [(.int 1)])) P24c
  have P26 := oS (T24.setTop (mkF m 55 #[r_ a, r_ a2, r_ a2] [(.int 1)])) P25 (by
    intro _ k_
    refine XS.ifNo X24.here hx rfl (hb hby d31_47) rfl ((if0 _ _).trans (feq (by decide : ¬ ((1 : Int32) = (0 : Int32)))).1) ?_
    refine XS.iconst X24.here hx rfl (hb hby d31_50) ?_
    refine gt_ X24 hx hby d31_51 (pc := 51) (pc' := 55) (by decide) ?_
    exact k_)
  exact own_out X24 hlk (v := some (.int 1)) (own_hv hrt) P26 (fun _ q_ => retN X24 hx (t := .boolean) hrt (by simp) (hb hby d31_55) q_) e24 ⟨rfl, N24, rfl⟩ (by decide)
theorem pd19 : parseMethodDescriptor "(Ljava/lang/String;)[B" = some ⟨[(.object "java/lang/String")], some (.array .byte)⟩ := by decide +kernel
theorem pd20 : parseMethodDescriptor "(Ljava/lang/Object;)Z" = some ⟨[(.object "java/lang/Object")], some .boolean⟩ := by decide +kernel
abbrev cB33 := prog_16_method_3_code
abbrev yM33 : MethodName := ⟨"com/example/verified_health_identity/verifiedhealthidentity/jose/Base64url", "decode", "(Ljava/lang/String;)[B"⟩
theorem d33_0 : own_d cB33 0 (.getstatic 19) 3 := by decide +kernel
theorem d33_3 : own_d cB33 3 (.aload_n 0) 1 := by decide +kernel
theorem d33_4 : own_d cB33 4 (.invokevirtual 23) 3 := by decide +kernel
theorem d33_7 : own_d cB33 7 (.astore_n 1) 1 := by decide +kernel
theorem d33_8 : own_d cB33 8 (.goto 15) 3 := by decide +kernel
theorem d33_23 : own_d cB33 23 (.aload_n 1) 1 := by decide +kernel
theorem d33_24 : own_d cB33 24 (.invokestatic 38) 3 := by decide +kernel
theorem d33_27 : own_d cB33 27 (.aload_n 0) 1 := by decide +kernel
theorem d33_28 : own_d cB33 28 (.invokevirtual 41) 3 := by decide +kernel
theorem d33_31 : own_d cB33 31 (.ifCond .ne 13) 3 := by decide +kernel
theorem d33_44 : own_d cB33 44 (.aload_n 1) 1 := by decide +kernel
theorem d33_45 : own_d cB33 45 (.areturn) 1 := by decide +kernel
theorem ef33R (m : MethodId) (x0 : Addr) : entryFrame m #[(.ref x0)] 3 = mkF m 0 #[r_ x0, u_, u_] [] := by first | (simp [entryFrame, mkF, argsToLocals, Value.category]; done) | rfl
def Q_buD_0 (Z : State) (de : Addr) (a : Addr) (b : Addr) (k : ClassId) (rdt : Addr) (kdt : ClassId) (riso : Addr) (rutf : Addr) (cs : Int32) (en : Addr) (ret_ : Addr) (ket : ClassId) (fm : Value) (la : Addr) (lb : Addr) (kl : ClassId) (h0 : Heap) (n0 : Nat) (v_ : Option Value) (h : Heap) (L_ : List Loc) : Prop := ∃ (xq : Addr) (kk : ClassId), v_ = some (.ref xq) ∧ Fr n0 L_ ∧ Keep h0 h [] ∧ h0.size ≤ xq ∧ Arv Z h xq kk .byte (0 : Int32) [] (.int 0)
set_option maxRecDepth 65536 in
set_option maxHeartbeats 40000000 in
theorem rm_buD_0 (l : Launch) (Z : State) (a0 : Array Value) (hw : ∀ d ∈ tables_1, d.before a0 Z = true) (ws : List Jvm.Cond) (de : Addr) (a : Addr) (b : Addr) (k : ClassId) (rdt : Addr) (kdt : ClassId) (riso : Addr) (rutf : Addr) (cs : Int32) (en : Addr) (ret_ : Addr) (ket : ClassId) (fm : Value) (la : Addr) (lb : Addr) (kl : ClassId) (h0 : Heap) (n0 : Nat) (Z0 : n0 ≤ h0.size) (O : Old Z n0 h0) (Scs : Sta Z Z.heap "java/lang/String" "COMPACT_STRINGS" "Z" (.int cs)) (hcs : ¬ (cs = (0 : Int32))) (Siso : Sta Z Z.heap "sun/nio/cs/ISO_8859_1" "INSTANCE" "Lsun/nio/cs/ISO_8859_1;" (.ref riso)) (Sutf : Sta Z Z.heap "sun/nio/cs/UTF_8" "INSTANCE" "Lsun/nio/cs/UTF_8;" (.ref rutf)) (nci : riso ≠ rutf) (Sdt : Sta Z Z.heap "java/util/Base64$Decoder" "fromBase64URL" "[I" (.ref rdt)) (Vdt : Arv Z Z.heap rdt kdt .int (256 : Int32) own_dec (.int 0)) (Ed : Exa Z h0 de "java/util/Base64$Decoder") (Fu : Fld Z h0 de "java/util/Base64$Decoder" "isURL" "Z" (.int 1)) (Fm : Fld Z h0 de "java/util/Base64$Decoder" "isMIME" "Z" (.int 0)) (Ea : Exa Z h0 a "java/lang/String") (Fc : Fld Z h0 a "java/lang/String" "coder" "B" (.int 0)) (Fv : Fld Z h0 a "java/lang/String" "value" "[B" (.ref b)) (Vb : Arv Z h0 b k .byte (0 : Int32) [] (.int 0)) (Eb : Exa Z h0 b "[B") (Sfm : Sta Z Z.heap "jdk/internal/util/Preconditions" "SIOOBE_FORMATTER" "Ljava/util/function/BiFunction;" fm) (hfm : fm.category = 1) (Set : Sta Z Z.heap "java/util/Base64$Encoder" "toBase64URL" "[C" (.ref ret_)) (Vet : Arv Z Z.heap ret_ ket .char (64 : Int32) own_enc (.int 0)) (Ee : Exa Z h0 en "java/util/Base64$Encoder") (Fp : Fld Z h0 en "java/util/Base64$Encoder" "doPadding" "Z" (.int 0)) (Fl : Fld Z h0 en "java/util/Base64$Encoder" "linemax" "I" (.int (-1 : Int32))) (Fe : Fld Z h0 en "java/util/Base64$Encoder" "isURL" "Z" (.int 1)) (Lv : Fld Z h0 la "java/lang/String" "value" "[B" (.ref lb)) (Lc : Fld Z h0 la "java/lang/String" "coder" "B" (.int 0)) (Vl : Arv Z h0 lb kl .byte (0 : Int32) [] (.int 0)) (El : Exa Z h0 lb "[B") (Senc : Sta Z Z.heap "com/example/verified_health_identity/verifiedhealthidentity/jose/Base64url" "ENCODER" "Ljava/util/Base64$Encoder;" (.ref en)) (Sdec : Sta Z Z.heap "com/example/verified_health_identity/verifiedhealthidentity/jose/Base64url" "DECODER" "Ljava/util/Base64$Decoder;" (.ref de)) :
    own_MF l yM33 (.codeWith yM33 cB33 3 (some (.array .byte)) [(0, 8, 11, 29)]) ws ⟨6, 4, 8, 89⟩ #[(.ref a)] Z h0 (fun U_ => Lit U_ "java/lang/String" 7 la) (Q_buD_0 Z de a b k rdt kdt riso rutf cs en ret_ ket fm la lb kl h0 n0) := by
  refine own_in "com/example/verified_health_identity/verifiedhealthidentity/jose/Base64url" rfl (plainFor_of_name pn6) hisWith (fun m => ef33R m a) ?_
  intro p e s m below meth c s₁ A_ hx hby hml hown hnm hrt hlk hZ hLit X0 e0 pre0
  have N0 := Fr.nil n0
  obtain ⟨T1, X1, e1, st1⟩ := getS2 X0 hx hZ hown (host := "") (Or.inl (own_w hw 51 rfl)) Via.refl e0 (Sdec.ext O.2) (g := (mkF m 0 #[r_ a, u_, u_] [])) rfl (hb hby d33_0)
  have P2 := oS (T1.setTop (mkF m 3 #[r_ a, u_, u_] [(.ref de)])) pre0 (fun t_ k_ => st1 t_ k_)
  have P3 := oS (T1.setTop (mkF m 4 #[r_ a, u_, u_] [(.ref a), (.ref de)])) P2 (by
    intro _ k_
    refine aN_ X1 hx hby d33_3 rfl rfl ?_
    exact k_)
  obtain ⟨_, T4, L4, X4, hQ4, P4c⟩ := own_cV (W := 0) (rm_decS_0 l Z a0 hw [] de a b k rdt kdt riso rutf cs h0 n0 Z0 O Scs hcs Siso Sutf nci Sdt Vdt Ed Fu Fm Ea Fc Fv Vb Eb) X1 hx hZ (fun _ _ => trivial) hown Ed (own_w hw 53 rfl) (own_w hw 54 rfl) (own_w hw 56 rfl) (own_w hw 55 rfl) (own_w hw 57 rfl) (own_w hw 58 rfl) (by decide) P3 hml rfl [(.ref a)] [] rfl rfl rfl pd19 rfl (hb hby d33_4) e1 (by decide)
  obtain ⟨xq4, kk4, rfl, N4q, K4, f5, f6, f7⟩ := hQ4
  have N4 := Fr.app N0 N4q
  have sz_xq4 : h0.size ≤ xq4 := Nat.le_trans (Keep.refl h0 []).1 f5
  have f8 := O.keep K4 all0
  have f11 := Fp.keep K4 nin0
  have f12 := Fl.keep K4 nin0
  have f13 := Fe.keep K4 nin0
  have f14 := (Keep.refl h0 []).trans K4 all0
  have f15 := Ee.keep K4
  have f16 := Ea.keep K4
  have f17 := Fc.keep K4 nin0
  have f18 := Fv.keep K4 nin0
  have f19 := Vb.keep K4 nin0
  have f22 := Lv.keep K4 nin0
  have f23 := Lc.keep K4 nin0
  have f24 := Vl.keep K4 nin0
  have f25 := El.keep K4
  have Z26 : n0 ≤ T4.heap.size := Nat.le_trans Z0 K4.1
  have P27 := own_to (C := T4.setTop (mkF m 7 #[r_ a, u_, u_] [(.ref xq4)])) P4c
  have P28 := oS (T4.setTop (mkF m 24 #[r_ a, r_ xq4, u_] [(.ref xq4)])) P27 (by
    intro _ k_
    refine XS.astoreN X4.here hx rfl (hb hby d33_7) rfl rfl (l' := #[r_ a, r_ xq4, u_]) rfl ?_
    refine gt_ X4 hx hby d33_8 (pc := 8) (pc' := 23) (by decide) ?_
    refine aN_ X4 hx hby d33_23 rfl rfl ?_
    exact k_)
  obtain ⟨_, T29, L29, X29, hQ29, P29c⟩ := own_cS (W := 0) (rm_buE_0 l Z a0 hw [] en xq4 kk4 ret_ ket fm cs la lb kl T4.heap n0 Z26 f8 Scs hcs Sfm hfm Set Vet f15 f11 f12 f13 f6 f22 f23 f24 f25 Senc) X4 hx hZ (fun _ q_ => own_litU hLit q_) hown (own_w hw 109 rfl) (own_w hw 110 rfl) (own_w hw 36 rfl) (own_w hw 111 rfl) (by decide) P28 hml rfl [(.ref xq4)] [] rfl rfl rfl pd17 rfl (hb hby d33_24) (rfl : T4.heap = _) (by decide)
  obtain ⟨rs29, rfl, N29q, K29, f30, f31, f32, f33⟩ := hQ29
  have N29 := Fr.app N4 N29q
  have ne_a_rs29 : a ≠ rs29 := Nat.ne_of_lt (Nat.lt_of_lt_of_le f16.lt f30)
  have f34 := f8.keep K29 all0
  have f40 := f14.trans K29 all0
  have f42 := f16.keep K29
  have f43 := f17.keep K29 nin0
  have f44 := f18.keep K29 nin0
  have f45 := f19.keep K29 nin0
  have f50 := f24.keep K29 nin0
  have f52 := f6.keep K29 nin0
  have Z54 : n0 ≤ T29.heap.size := Nat.le_trans Z26 K29.1
  have P55 := own_to (C := T29.setTop (mkF m 27 #[r_ a, r_ xq4, u_] [(.ref rs29)])) P29c
  have P56 := oS (T29.setTop (mkF m 28 #[r_ a, r_ xq4, u_] [(.ref a), (.ref rs29)])) P55 (by
    intro _ k_
    refine aN_ X29 hx hby d33_27 rfl rfl ?_
    exact k_)
  obtain ⟨_, T57, L57, X57, hQ57, P57c⟩ := own_cV (W := 0) (rm_eqS_0 l Z a0 hw [] rs29 a lb kl b k cs T29.heap n0 Z54 f34 Scs hcs (Ne.symm ne_a_rs29) f31 f32 f33 f42 f43 f44 f50 f45) X29 hx hZ (fun _ _ => trivial) hown f31 (own_w hw 175 rfl) (own_w hw 176 rfl) (own_w hw 178 rfl) (own_w hw 177 rfl) (own_w hw 7 rfl) (own_w hw 179 rfl) (by decide) P56 hml rfl [(.ref a)] [] rfl rfl rfl pd20 rfl (hb hby d33_28) (rfl : T29.heap = _) (by decide)
  obtain ⟨rfl, N57q, e57⟩ := hQ57
  have N57 := Fr.app N29 N57q
  have P58 := own_to (C := T57.setTop (mkF m 31 #[r_ a, r_ xq4, u_] [(.int 1)])) P57c
  have P59 := oS (T57.setTop (mkF m 45 #[r_ a, r_ xq4, u_] [(.ref xq4)])) P58 (by
    intro _ k_
    refine fY_ X57 hx hby d33_31 (pc := 31) (pc' := 44) ((if0 _ _).trans (feq (by decide : ¬ ((1 : Int32) = (0 : Int32)))).2) (by decide) ?_
    refine aN_ X57 hx hby d33_44 rfl rfl ?_
    exact k_)
  exact own_out X57 hlk (v := some (.ref xq4)) (own_hv hrt) P59 (fun _ q_ => retOut X57 hx hrt rfl (Or.inr (Or.inr (Or.inr (Or.inr ⟨rfl, rfl, rfl⟩)))) (hb hby d33_45) q_) e57 ⟨xq4, kk4, rfl, N57, f40, sz_xq4, f52⟩ (by decide)
abbrev cB9 := jdk_42_method_54_code
abbrev yM9 : MethodName := ⟨"java/lang/String", "length", "()I"⟩
theorem d9_0 : own_d cB9 0 (.aload_n 0) 1 := by decide +kernel
theorem d9_1 : own_d cB9 1 (.getfield 9) 3 := by decide +kernel
theorem d9_4 : own_d cB9 4 (.arraylength) 1 := by decide +kernel
theorem d9_5 : own_d cB9 5 (.aload_n 0) 1 := by decide +kernel
theorem d9_6 : own_d cB9 6 (.invokevirtual 335) 3 := by decide +kernel
theorem d9_9 : own_d cB9 9 (.ishr) 1 := by decide +kernel
theorem d9_10 : own_d cB9 10 (.ireturn) 1 := by decide +kernel
theorem ef9R (m : MethodId) (x0 : Addr) : entryFrame m #[(.ref x0)] 1 = mkF m 0 #[r_ x0] [] := by first | (simp [entryFrame, mkF, argsToLocals, Value.category]; done) | rfl
def Q_length (Z : State) (a : Addr) (b : Addr) (k : ClassId) (z : Int32) (vs : List Value) (cs : Int32) (h0 : Heap) (n0 : Nat) (v_ : Option Value) (h : Heap) (L_ : List Loc) : Prop := v_ = some (.int z) ∧ Fr n0 L_ ∧ h = h0
set_option maxRecDepth 65536 in
set_option maxHeartbeats 40000000 in
theorem rm_length (l : Launch) (Z : State) (a0 : Array Value) (hw : ∀ d ∈ tables_1, d.before a0 Z = true) (ws : List Jvm.Cond) (a : Addr) (b : Addr) (k : ClassId) (z : Int32) (vs : List Value) (cs : Int32) (h0 : Heap) (n0 : Nat) (Z0 : n0 ≤ h0.size) (O : Old Z n0 h0) (Scs : Sta Z Z.heap "java/lang/String" "COMPACT_STRINGS" "Z" (.int cs)) (hcs : ¬ (cs = (0 : Int32))) (Ea : Exa Z h0 a "java/lang/String") (Fc : Fld Z h0 a "java/lang/String" "coder" "B" (.int 0)) (Fv : Fld Z h0 a "java/lang/String" "value" "[B" (.ref b)) (Vb : Arv Z h0 b k .byte z vs (.int 0)) :
    own_MF l yM9 (.code yM9 cB9 1 (some .int)) ws ⟨1, 0, 0, 13⟩ #[(.ref a)] Z h0 own_T (Q_length Z a b k z vs cs h0 n0) := by
  refine own_in "java/lang/String" rfl (plainFor_of_name pn2) hisR (fun m => ef9R m a) ?_
  intro p e s m below meth c s₁ A_ hx hby hml hown hnm hrt hlk hZ _ X0 e0 pre0
  have N0 := Fr.nil n0
  have P1 := oS (s₁.setTop (mkF m 1 #[r_ a] [(.ref a)])) pre0 (by
    intro _ k_
    refine aN_ X0 hx hby d9_0 rfl rfl ?_
    exact k_)
  obtain ⟨T2, X2, e2, st2⟩ := getF X0 hx hZ hown (host := "") (Or.inl (own_w hw 32 rfl)) Via.refl e0 Fv (g := (mkF m 1 #[r_ a] [(.ref a)])) rfl rfl (hb hby d9_1)
  have P3 := oS (T2.setTop (mkF m 4 #[r_ a] [(.ref b)])) P1 (fun t_ k_ => st2 t_ k_)
  obtain ⟨cl4, Ar4, q4, S4, M4, H4, G4⟩ := id Vb
  have P5 := oS (T2.setTop (mkF m 5 #[r_ a] [(.int z)])) P3 (by
    intro _ k_
    refine X2.arraylength hx (by rw [e2]; exact Ar4.1) (State.isArrayOf_alike hZ.alike Ar4.2.1) (g := (mkF m 4 #[r_ a] [(.ref b)])) rfl rfl (hb hby d9_4) _ ?_
    rw [len_of S4 M4]
    exact k_)
  have P6 := oS (T2.setTop (mkF m 6 #[r_ a] [(.ref a), (.int z)])) P5 (by
    intro _ k_
    refine aN_ X2 hx hby d9_5 rfl rfl ?_
    exact k_)
  obtain ⟨_, T7, L7, X7, hQ7, P7c⟩ := own_cV (W := 1) (rm_coder0 l Z a0 hw [] a cs h0 n0 Z0 O Scs hcs Fc) X2 hx hZ (fun _ _ => trivial) hown Ea (own_w hw 43 rfl) (own_w hw 44 rfl) (own_w hw 46 rfl) (own_w hw 45 rfl) (own_w hw 7 rfl) (own_w hw 47 rfl) (by decide) P6 hml rfl [] [(.int z)] rfl rfl rfl pd6 rfl (hb hby d9_6) e2 (by decide)
  obtain ⟨rfl, N7q, e7⟩ := hQ7
  have N7 := Fr.app N0 N7q
  have P8 := own_to (C := T7.setTop (mkF m 9 #[r_ a] [(.int 0), (.int z)])) P7c
  have P9 := oS (T7.setTop (mkF m 10 #[r_ a] [(.int (z >>> ((0 : Int32) &&& 31)))])) P8 (by
    intro _ k_
    refine XS.ishr X7.here hx rfl (hb hby d9_9) rfl ?_
    exact k_)
  exact own_out X7 hlk (v := some (.int (z >>> ((0 : Int32) &&& 31)))) (own_hv hrt) P9 (fun _ q_ => retI X7 hx hrt (hb hby d9_10) q_) e7 ⟨by rw [own_shr0], N7, rfl⟩ (by decide)
theorem pd21 : parseMethodDescriptor "()I" = some ⟨[], some .int⟩ := by decide +kernel
abbrev cB8 := prog_16_method_4_code
abbrev yM8 : MethodName := ⟨"com/example/verified_health_identity/verifiedhealthidentity/jose/Base64url", "decode", "(Ljava/lang/String;I)[B"⟩
theorem d8_0 : own_d cB8 0 (.aload_n 0) 1 := by decide +kernel
theorem d8_1 : own_d cB8 1 (.invokevirtual 50) 3 := by decide +kernel
theorem d8_4 : own_d cB8 4 (.iload_n 1) 1 := by decide +kernel
theorem d8_5 : own_d cB8 5 (.iconst 4) 1 := by decide +kernel
theorem d8_6 : own_d cB8 6 (.imul) 1 := by decide +kernel
theorem d8_7 : own_d cB8 7 (.iconst 2) 1 := by decide +kernel
theorem d8_8 : own_d cB8 8 (.iadd) 1 := by decide +kernel
theorem d8_9 : own_d cB8 9 (.iconst 3) 1 := by decide +kernel
theorem d8_10 : own_d cB8 10 (.idiv) 1 := by decide +kernel
theorem d8_11 : own_d cB8 11 (.if_icmp .eq 17) 3 := by decide +kernel
theorem d8_28 : own_d cB8 28 (.aload_n 0) 1 := by decide +kernel
theorem d8_29 : own_d cB8 29 (.invokestatic 58) 3 := by decide +kernel
theorem d8_32 : own_d cB8 32 (.areturn) 1 := by decide +kernel
theorem ef8RI (m : MethodId) (x0 : Addr) (x1 : Int32) : entryFrame m #[(.ref x0), (.int x1)] 2 = mkF m 0 #[r_ x0, i_ x1] [] := by first | (simp [entryFrame, mkF, argsToLocals, Value.category]; done) | rfl
def Q_buD2_0 (Z : State) (de : Addr) (a : Addr) (b : Addr) (k : ClassId) (rdt : Addr) (kdt : ClassId) (riso : Addr) (rutf : Addr) (cs : Int32) (en : Addr) (ret_ : Addr) (ket : ClassId) (fm : Value) (la : Addr) (lb : Addr) (kl : ClassId) (h0 : Heap) (n0 : Nat) (v_ : Option Value) (h : Heap) (L_ : List Loc) : Prop := ∃ (xq : Addr) (kk : ClassId), v_ = some (.ref xq) ∧ Fr n0 L_ ∧ Keep h0 h [] ∧ h0.size ≤ xq ∧ Arv Z h xq kk .byte (0 : Int32) [] (.int 0)
set_option maxRecDepth 65536 in
set_option maxHeartbeats 40000000 in
theorem rm_buD2_0 (l : Launch) (Z : State) (a0 : Array Value) (hw : ∀ d ∈ tables_1, d.before a0 Z = true) (ws : List Jvm.Cond) (de : Addr) (a : Addr) (b : Addr) (k : ClassId) (rdt : Addr) (kdt : ClassId) (riso : Addr) (rutf : Addr) (cs : Int32) (en : Addr) (ret_ : Addr) (ket : ClassId) (fm : Value) (la : Addr) (lb : Addr) (kl : ClassId) (h0 : Heap) (n0 : Nat) (Z0 : n0 ≤ h0.size) (O : Old Z n0 h0) (Scs : Sta Z Z.heap "java/lang/String" "COMPACT_STRINGS" "Z" (.int cs)) (hcs : ¬ (cs = (0 : Int32))) (Siso : Sta Z Z.heap "sun/nio/cs/ISO_8859_1" "INSTANCE" "Lsun/nio/cs/ISO_8859_1;" (.ref riso)) (Sutf : Sta Z Z.heap "sun/nio/cs/UTF_8" "INSTANCE" "Lsun/nio/cs/UTF_8;" (.ref rutf)) (nci : riso ≠ rutf) (Sdt : Sta Z Z.heap "java/util/Base64$Decoder" "fromBase64URL" "[I" (.ref rdt)) (Vdt : Arv Z Z.heap rdt kdt .int (256 : Int32) own_dec (.int 0)) (Ed : Exa Z h0 de "java/util/Base64$Decoder") (Fu : Fld Z h0 de "java/util/Base64$Decoder" "isURL" "Z" (.int 1)) (Fm : Fld Z h0 de "java/util/Base64$Decoder" "isMIME" "Z" (.int 0)) (Ea : Exa Z h0 a "java/lang/String") (Fc : Fld Z h0 a "java/lang/String" "coder" "B" (.int 0)) (Fv : Fld Z h0 a "java/lang/String" "value" "[B" (.ref b)) (Vb : Arv Z h0 b k .byte (0 : Int32) [] (.int 0)) (Eb : Exa Z h0 b "[B") (Sfm : Sta Z Z.heap "jdk/internal/util/Preconditions" "SIOOBE_FORMATTER" "Ljava/util/function/BiFunction;" fm) (hfm : fm.category = 1) (Set : Sta Z Z.heap "java/util/Base64$Encoder" "toBase64URL" "[C" (.ref ret_)) (Vet : Arv Z Z.heap ret_ ket .char (64 : Int32) own_enc (.int 0)) (Ee : Exa Z h0 en "java/util/Base64$Encoder") (Fp : Fld Z h0 en "java/util/Base64$Encoder" "doPadding" "Z" (.int 0)) (Fl : Fld Z h0 en "java/util/Base64$Encoder" "linemax" "I" (.int (-1 : Int32))) (Fe : Fld Z h0 en "java/util/Base64$Encoder" "isURL" "Z" (.int 1)) (Lv : Fld Z h0 la "java/lang/String" "value" "[B" (.ref lb)) (Lc : Fld Z h0 la "java/lang/String" "coder" "B" (.int 0)) (Vl : Arv Z h0 lb kl .byte (0 : Int32) [] (.int 0)) (El : Exa Z h0 lb "[B") (Senc : Sta Z Z.heap "com/example/verified_health_identity/verifiedhealthidentity/jose/Base64url" "ENCODER" "Ljava/util/Base64$Encoder;" (.ref en)) (Sdec : Sta Z Z.heap "com/example/verified_health_identity/verifiedhealthidentity/jose/Base64url" "DECODER" "Ljava/util/Base64$Decoder;" (.ref de)) :
    own_MF l yM8 (.code yM8 cB8 2 (some (.array .byte))) ws ⟨7, 4, 8, 103⟩ #[(.ref a), (.int 0)] Z h0 (fun U_ => Lit U_ "java/lang/String" 7 la) (Q_buD2_0 Z de a b k rdt kdt riso rutf cs en ret_ ket fm la lb kl h0 n0) := by
  refine own_in "com/example/verified_health_identity/verifiedhealthidentity/jose/Base64url" rfl (plainFor_of_name pn6) hisR (fun m => ef8RI m a (0 : Int32)) ?_
  intro p e s m below meth c s₁ A_ hx hby hml hown hnm hrt hlk hZ hLit X0 e0 pre0
  have N0 := Fr.nil n0
  have P1 := oS (s₁.setTop (mkF m 1 #[r_ a, i_ 0] [(.ref a)])) pre0 (by
    intro _ k_
    refine aN_ X0 hx hby d8_0 rfl rfl ?_
    exact k_)
  obtain ⟨_, T2, L2, X2, hQ2, P2c⟩ := own_cV (W := 0) (rm_length l Z a0 hw [] a b k (0 : Int32) [] cs h0 n0 Z0 O Scs hcs Ea Fc Fv Vb) X0 hx hZ (fun _ _ => trivial) hown Ea (own_w hw 38 rfl) (own_w hw 39 rfl) (own_w hw 41 rfl) (own_w hw 40 rfl) (own_w hw 7 rfl) (own_w hw 42 rfl) (by decide) P1 hml rfl [] [] rfl rfl rfl pd21 rfl (hb hby d8_1) e0 (by decide)
  obtain ⟨rfl, N2q, e2⟩ := hQ2
  have N2 := Fr.app N0 N2q
  have P3 := own_to (C := T2.setTop (mkF m 4 #[r_ a, i_ 0] [(.int 0)])) P2c
  have P4 := oS (T2.setTop (mkF m 11 #[r_ a, i_ 0] [(.int 0), (.int 0)])) P3 (by
    intro _ k_
    refine iN_ X2 hx hby d8_4 rfl ?_
    refine XS.iconst X2.here hx rfl (hb hby d8_5) ?_
    refine XS.imul X2.here hx rfl (hb hby d8_6) rfl ?_
    show Steps p.tables e below (T2.setTop (mkF m 7 #[r_ a, i_ 0] [(.int 0), (.int 0)])) _
    refine XS.iconst X2.here hx rfl (hb hby d8_7) ?_
    refine XS.iadd X2.here hx rfl (hb hby d8_8) rfl ?_
    show Steps p.tables e below (T2.setTop (mkF m 9 #[r_ a, i_ 0] [(.int 2), (.int 0)])) _
    refine XS.iconst X2.here hx rfl (hb hby d8_9) ?_
    refine XS.idiv X2.here hx rfl (hb hby d8_10) rfl (by decide) ?_
    exact k_)
  have P5 := oS (T2.setTop (mkF m 29 #[r_ a, i_ 0] [(.ref a)])) P4 (by
    intro _ k_
    refine cY_ X2 hx hby d8_11 (pc := 11) (pc' := 28) (teq (by decide : (0 : Int32) = (0 : Int32))).1 (by decide) ?_
    refine aN_ X2 hx hby d8_28 rfl rfl ?_
    exact k_)
  obtain ⟨_, T6, L6, X6, hQ6, P6c⟩ := own_cSH (W := 0) (rm_buD_0 l Z a0 hw [] de a b k rdt kdt riso rutf cs en ret_ ket fm la lb kl h0 n0 Z0 O Scs hcs Siso Sutf nci Sdt Vdt Ed Fu Fm Ea Fc Fv Vb Eb Sfm hfm Set Vet Ee Fp Fl Fe Lv Lc Vl El Senc Sdec) X2 hx hZ (fun _ q_ => own_litU hLit q_) hown (own_w hw 48 rfl) (own_w hw 49 rfl) (own_w hw 36 rfl) (own_w hw 50 rfl) (by decide) P5 hml rfl [(.ref a)] [] rfl rfl rfl pd19 rfl (hb hby d8_29) e2 (by decide)
  obtain ⟨xq6, kk6, rfl, N6q, K6, f7, f8⟩ := hQ6
  have N6 := Fr.app N2 N6q
  have sz_xq6 : h0.size ≤ xq6 := Nat.le_trans (Keep.refl h0 []).1 f7
  have f15 := (Keep.refl h0 []).trans K6 all0
  have P28 := own_to (C := T6.setTop (mkF m 32 #[r_ a, i_ 0] [(.ref xq6)])) P6c
  exact own_out X6 hlk (v := some (.ref xq6)) (own_hv hrt) P28 (fun _ q_ => retOut X6 hx hrt rfl (Or.inr (Or.inr (Or.inr (Or.inr ⟨rfl, rfl, rfl⟩)))) (hb hby d8_32) q_) (rfl : T6.heap = _) ⟨xq6, kk6, rfl, N6, f15, sz_xq6, f8⟩ (by decide)
theorem d17_33 : own_d cB17 33 (.iload 6) 2 := by decide +kernel
theorem d17_35 : own_d cB17 35 (.iconst 2) 1 := by decide +kernel
theorem d17_36 : own_d cB17 36 (.if_icmp .ge 30) 3 := by decide +kernel
theorem d17_66 : own_d cB17 66 (.aload_n 0) 1 := by decide +kernel
theorem d17_67 : own_d cB17 67 (.getfield 13) 3 := by decide +kernel
theorem d17_70 : own_d cB17 70 (.ifCond .eq 71) 3 := by decide +kernel
theorem d17_141 : own_d cB17 141 (.aload_n 1) 1 := by decide +kernel
theorem d17_142 : own_d cB17 142 (.iload_n 3) 1 := by decide +kernel
theorem d17_143 : own_d cB17 143 (.iconst 1) 1 := by decide +kernel
theorem d17_144 : own_d cB17 144 (.isub) 1 := by decide +kernel
theorem d17_145 : own_d cB17 145 (.baload) 1 := by decide +kernel
theorem d17_146 : own_d cB17 146 (.bipush 61) 2 := by decide +kernel
theorem d17_148 : own_d cB17 148 (.if_icmp .ne 19) 3 := by decide +kernel
theorem d17_167 : own_d cB17 167 (.iload 5) 2 := by decide +kernel
theorem d17_169 : own_d cB17 169 (.ifCond .ne 18) 3 := by decide +kernel
theorem d17_172 : own_d cB17 172 (.iload 6) 2 := by decide +kernel
theorem d17_174 : own_d cB17 174 (.iconst 3) 1 := by decide +kernel
theorem d17_175 : own_d cB17 175 (.iand) 1 := by decide +kernel
theorem d17_176 : own_d cB17 176 (.ifCond .eq 11) 3 := by decide +kernel
theorem d17_179 : own_d cB17 179 (.iconst 4) 1 := by decide +kernel
theorem d17_180 : own_d cB17 180 (.iload 6) 2 := by decide +kernel
theorem d17_182 : own_d cB17 182 (.iconst 3) 1 := by decide +kernel
theorem d17_183 : own_d cB17 183 (.iand) 1 := by decide +kernel
theorem d17_184 : own_d cB17 184 (.isub) 1 := by decide +kernel
theorem d17_185 : own_d cB17 185 (.istore 5) 2 := by decide +kernel
theorem d17_187 : own_d cB17 187 (.iconst 3) 1 := by decide +kernel
theorem d17_188 : own_d cB17 188 (.iload 6) 2 := by decide +kernel
theorem d17_190 : own_d cB17 190 (.i2l) 1 := by decide +kernel
theorem d17_191 : own_d cB17 191 (.ldc2_w 107) 3 := by decide +kernel
theorem d17_194 : own_d cB17 194 (.ladd) 1 := by decide +kernel
theorem d17_195 : own_d cB17 195 (.ldc2_w 109) 3 := by decide +kernel
theorem d17_198 : own_d cB17 198 (.ldiv) 1 := by decide +kernel
theorem d17_199 : own_d cB17 199 (.l2i) 1 := by decide +kernel
theorem d17_200 : own_d cB17 200 (.imul) 1 := by decide +kernel
theorem d17_201 : own_d cB17 201 (.iload 5) 2 := by decide +kernel
theorem d17_203 : own_d cB17 203 (.isub) 1 := by decide +kernel
theorem d17_204 : own_d cB17 204 (.ireturn) 1 := by decide +kernel
def Q_dol_2 (Z : State) (de : Addr) (b : Addr) (k : ClassId) (x0 : Int32) (x1 : Int32) (rdt : Addr) (kdt : ClassId) (h0 : Heap) (n0 : Nat) (v_ : Option Value) (h : Heap) (L_ : List Loc) : Prop := v_ = some (.int 1) ∧ Fr n0 L_ ∧ h = h0
set_option maxRecDepth 65536 in
set_option maxHeartbeats 40000000 in
theorem rm_dol_2 (l : Launch) (Z : State) (a0 : Array Value) (hw : ∀ d ∈ tables_1, d.before a0 Z = true) (ws : List Jvm.Cond) (de : Addr) (b : Addr) (k : ClassId) (x0 : Int32) (x1 : Int32) (rdt : Addr) (kdt : ClassId) (h0 : Heap) (n0 : Nat) (Z0 : n0 ≤ h0.size) (O : Old Z n0 h0) (Sdt : Sta Z Z.heap "java/util/Base64$Decoder" "fromBase64URL" "[I" (.ref rdt)) (Vdt : Arv Z Z.heap rdt kdt .int (256 : Int32) own_dec (.int 0)) (Fu : Fld Z h0 de "java/util/Base64$Decoder" "isURL" "Z" (.int 1)) (Fm : Fld Z h0 de "java/util/Base64$Decoder" "isMIME" "Z" (.int 0)) (Vb : Arv Z h0 b k .byte (2 : Int32) [(.int x0), (.int x1)] (.int 0)) (h61 : ¬ (x1 = (61 : Int32))) :
    own_MF l yM17 (.code yM17 cB17 9 (some .int)) ws ⟨0, 0, 0, 0⟩ #[(.ref de), (.ref b), (.int 0), (.int 2)] Z h0 own_T (Q_dol_2 Z de b k x0 x1 rdt kdt h0 n0) := by
  refine own_in "java/util/Base64$Decoder" rfl (plainFor_of_name pn3) hisR (fun m => ef17RRII m de b (0 : Int32) (2 : Int32)) ?_
  intro p e s m below meth c s₁ A_ hx hby hml hown hnm hrt hlk hZ _ X0 e0 pre0
  have N0 := Fr.nil n0
  have P1 := oS (s₁.setTop (mkF m 1 #[r_ de, r_ b, i_ 0, i_ 2, u_, u_, u_, u_, u_] [(.ref de)])) pre0 (by
    intro _ k_
    refine aN_ X0 hx hby d17_0 rfl rfl ?_
    exact k_)
  obtain ⟨T2, X2, e2, st2⟩ := getF X0 hx hZ hown (host := "") (Or.inl (own_w hw 97 rfl)) Via.refl e0 Fu (g := (mkF m 1 #[r_ de, r_ b, i_ 0, i_ 2, u_, u_, u_, u_, u_] [(.ref de)])) rfl rfl (hb hby d17_1)
  have P3 := oS (T2.setTop (mkF m 4 #[r_ de, r_ b, i_ 0, i_ 2, u_, u_, u_, u_, u_] [(.int 1)])) P1 (fun t_ k_ => st2 t_ k_)
  have P4 := oS (T2.setTop (mkF m 7 #[r_ de, r_ b, i_ 0, i_ 2, u_, u_, u_, u_, u_] [])) P3 (by
    intro _ k_
    refine XS.ifNo X2.here hx rfl (hb hby d17_4) rfl ((if0 _ _).trans (feq (by decide : ¬ ((1 : Int32) = (0 : Int32)))).1) ?_
    exact k_)
  obtain ⟨T5, X5, e5, st5⟩ := getS2 X2 hx hZ hown (host := "") (Or.inl (own_w hw 99 rfl)) Via.refl e2 (Sdt.ext O.2) (g := (mkF m 7 #[r_ de, r_ b, i_ 0, i_ 2, u_, u_, u_, u_, u_] [])) rfl (hb hby d17_7)
  have P6 := oS (T5.setTop (mkF m 10 #[r_ de, r_ b, i_ 0, i_ 2, u_, u_, u_, u_, u_] [(.ref rdt)])) P4 (fun t_ k_ => st5 t_ k_)
  have P7 := oS (T5.setTop (mkF m 28 #[r_ de, r_ b, i_ 0, i_ 2, r_ rdt, i_ 0, i_ 2, u_, u_] [(.int 2)])) P6 (by
    intro _ k_
    refine gt_ X5 hx hby d17_10 (pc := 10) (pc' := 16) (by decide) ?_
    refine XS.astore X5.here hx rfl (hb hby d17_16) rfl rfl (l' := #[r_ de, r_ b, i_ 0, i_ 2, r_ rdt, u_, u_, u_, u_]) rfl ?_
    refine XS.iconst X5.here hx rfl (hb hby d17_18) ?_
    refine is_ X5 hx hby d17_19 (l' := #[r_ de, r_ b, i_ 0, i_ 2, r_ rdt, i_ 0, u_, u_, u_]) rfl ?_
    refine iN_ X5 hx hby d17_21 rfl ?_
    refine iN_ X5 hx hby d17_22 rfl ?_
    refine XS.isub X5.here hx rfl (hb hby d17_23) rfl ?_
    show Steps p.tables e below (T5.setTop (mkF m 24 #[r_ de, r_ b, i_ 0, i_ 2, r_ rdt, i_ 0, u_, u_, u_] [(.int 2)])) _
    refine is_ X5 hx hby d17_24 (l' := #[r_ de, r_ b, i_ 0, i_ 2, r_ rdt, i_ 0, i_ 2, u_, u_]) rfl ?_
    refine il_ X5 hx hby d17_26 rfl ?_
    exact k_)
  have P8 := oS (T5.setTop (mkF m 36 #[r_ de, r_ b, i_ 0, i_ 2, r_ rdt, i_ 0, i_ 2, u_, u_] [(.int 2), (.int 2)])) P7 (by
    intro _ k_
    refine fY_ X5 hx hby d17_28 (pc := 28) (pc' := 33) ((if0 _ _).trans (feq (by decide : ¬ ((2 : Int32) = (0 : Int32)))).2) (by decide) ?_
    refine il_ X5 hx hby d17_33 rfl ?_
    refine XS.iconst X5.here hx rfl (hb hby d17_35) ?_
    exact k_)
  have P9 := oS (T5.setTop (mkF m 67 #[r_ de, r_ b, i_ 0, i_ 2, r_ rdt, i_ 0, i_ 2, u_, u_] [(.ref de)])) P8 (by
    intro _ k_
    refine cY_ X5 hx hby d17_36 (pc := 36) (pc' := 66) (flt (by decide : ¬ ((2 : Int32) < (2 : Int32)))).2.1 (by decide) ?_
    refine aN_ X5 hx hby d17_66 rfl rfl ?_
    exact k_)
  obtain ⟨T10, X10, e10, st10⟩ := getF X5 hx hZ hown (host := "") (Or.inl (own_w hw 100 rfl)) Via.refl e5 Fm (g := (mkF m 67 #[r_ de, r_ b, i_ 0, i_ 2, r_ rdt, i_ 0, i_ 2, u_, u_] [(.ref de)])) rfl rfl (hb hby d17_67)
  have P11 := oS (T10.setTop (mkF m 70 #[r_ de, r_ b, i_ 0, i_ 2, r_ rdt, i_ 0, i_ 2, u_, u_] [(.int 0)])) P9 (fun t_ k_ => st10 t_ k_)
  have P12 := oS (T10.setTop (mkF m 145 #[r_ de, r_ b, i_ 0, i_ 2, r_ rdt, i_ 0, i_ 2, u_, u_] [(.int 1), (.ref b)])) P11 (by
    intro _ k_
    refine fY_ X10 hx hby d17_70 (pc := 70) (pc' := 141) ((if0 _ _).trans (teq (by decide : (0 : Int32) = (0 : Int32))).1) (by decide) ?_
    refine aN_ X10 hx hby d17_141 rfl rfl ?_
    refine iN_ X10 hx hby d17_142 rfl ?_
    refine XS.iconst X10.here hx rfl (hb hby d17_143) ?_
    refine XS.isub X10.here hx rfl (hb hby d17_144) rfl ?_
    exact k_)
  obtain ⟨cl13, Ar13, q13, S13, M13, H13, G13⟩ := id Vb
  have hin13 := inb_of S13 (by decide : ¬ (1 : Int32) < 0 ∧ (1 : Int32) < (2 : Int32))
  have hat13 := Has.at H13 hin13 (v := .int x1) rfl
  have P14 := oS (T10.setTop (mkF m 146 #[r_ de, r_ b, i_ 0, i_ 2, r_ rdt, i_ 0, i_ 2, u_, u_] [(.int x1)])) P12 (by
    intro _ k_
    refine X10.baloadBytes hx (j := (1 : Int32)) (v := (.int x1)) (by rw [e10]; exact Ar13.1) (State.isArrayOf_alike hZ.alike Ar13.2.1) Ar13.2.2 hin13 hat13 (g := (mkF m 145 #[r_ de, r_ b, i_ 0, i_ 2, r_ rdt, i_ 0, i_ 2, u_, u_] [(.int 1), (.ref b)])) rfl rfl (hb hby d17_145) _ ?_
    exact k_)
  have P15 := oS (T10.setTop (mkF m 148 #[r_ de, r_ b, i_ 0, i_ 2, r_ rdt, i_ 0, i_ 2, u_, u_] [(.int 61), (.int x1)])) P14 (by
    intro _ k_
    refine XS.bipush X10.here hx rfl (hb hby d17_146) ?_
    exact k_)
  have P16 := oS (T10.setTop (mkF m 169 #[r_ de, r_ b, i_ 0, i_ 2, r_ rdt, i_ 0, i_ 2, u_, u_] [(.int 0)])) P15 (by
    intro _ k_
    refine cY_ X10 hx hby d17_148 (pc := 148) (pc' := 167) (feq h61).2 (by decide) ?_
    refine il_ X10 hx hby d17_167 rfl ?_
    exact k_)
  have P17 := oS (T10.setTop (mkF m 176 #[r_ de, r_ b, i_ 0, i_ 2, r_ rdt, i_ 0, i_ 2, u_, u_] [(.int 2)])) P16 (by
    intro _ k_
    refine XS.ifNo X10.here hx rfl (hb hby d17_169) rfl ((if0 _ _).trans (teq (by decide : (0 : Int32) = (0 : Int32))).2) ?_
    refine il_ X10 hx hby d17_172 rfl ?_
    refine XS.iconst X10.here hx rfl (hb hby d17_174) ?_
    refine XS.iand X10.here hx rfl (hb hby d17_175) rfl ?_
    exact k_)
  have P18 := oS (T10.setTop (mkF m 204 #[r_ de, r_ b, i_ 0, i_ 2, r_ rdt, i_ 2, i_ 2, u_, u_] [(.int (((3 : Int32) * (((((2 : Int32).toInt64) + (3 : Int64)) / (4 : Int64)).toInt32)) - (2 : Int32)))])) P17 (by
    intro _ k_
    refine XS.ifNo X10.here hx rfl (hb hby d17_176) rfl ((if0 _ _).trans (feq (by decide : ¬ ((2 : Int32) = (0 : Int32)))).1) ?_
    refine XS.iconst X10.here hx rfl (hb hby d17_179) ?_
    refine il_ X10 hx hby d17_180 rfl ?_
    refine XS.iconst X10.here hx rfl (hb hby d17_182) ?_
    refine XS.iand X10.here hx rfl (hb hby d17_183) rfl ?_
    show Steps p.tables e below (T10.setTop (mkF m 184 #[r_ de, r_ b, i_ 0, i_ 2, r_ rdt, i_ 0, i_ 2, u_, u_] [(.int 2), (.int 4)])) _
    refine XS.isub X10.here hx rfl (hb hby d17_184) rfl ?_
    show Steps p.tables e below (T10.setTop (mkF m 185 #[r_ de, r_ b, i_ 0, i_ 2, r_ rdt, i_ 0, i_ 2, u_, u_] [(.int 2)])) _
    refine is_ X10 hx hby d17_185 (l' := #[r_ de, r_ b, i_ 0, i_ 2, r_ rdt, i_ 2, i_ 2, u_, u_]) rfl ?_
    refine XS.iconst X10.here hx rfl (hb hby d17_187) ?_
    refine il_ X10 hx hby d17_188 rfl ?_
    refine XS.i2l X10.here hx rfl (hb hby d17_190) rfl ?_
    refine X10.ldc2Long hx hown (mvT hZ (own_w hw 102 rfl)) (g := (mkF m 191 #[r_ de, r_ b, i_ 0, i_ 2, r_ rdt, i_ 2, i_ 2, u_, u_] [(.long ((2 : Int32).toInt64)), (.int 3)])) rfl (hb hby d17_191) _ ?_
    refine XS.ladd X10.here hx rfl (hb hby d17_194) rfl ?_
    refine X10.ldc2Long hx hown (mvT hZ (own_w hw 103 rfl)) (g := (mkF m 195 #[r_ de, r_ b, i_ 0, i_ 2, r_ rdt, i_ 2, i_ 2, u_, u_] [(.long (((2 : Int32).toInt64) + (3 : Int64))), (.int 3)])) rfl (hb hby d17_195) _ ?_
    refine XS.ldiv X10.here hx rfl (hb hby d17_198) rfl (by decide) ?_
    refine XS.l2i X10.here hx rfl (hb hby d17_199) rfl ?_
    refine XS.imul X10.here hx rfl (hb hby d17_200) rfl ?_
    refine il_ X10 hx hby d17_201 rfl ?_
    refine XS.isub X10.here hx rfl (hb hby d17_203) rfl ?_
    exact k_)
  exact own_out X10 hlk (v := some (.int (((3 : Int32) * (((((2 : Int32).toInt64) + (3 : Int64)) / (4 : Int64)).toInt32)) - (2 : Int32)))) (own_hv hrt) P18 (fun _ q_ => retI X10 hx hrt (hb hby d17_204) q_) e10 ⟨(congrArg (fun z : Int32 => some (Value.int z)) (by decide +kernel)), N0, rfl⟩ (by decide)
theorem d18_33 : own_d cB18 33 (.iload 8) 2 := by decide +kernel
theorem d18_35 : own_d cB18 35 (.bipush 18) 2 := by decide +kernel
theorem d18_37 : own_d cB18 37 (.if_icmp .ne 53) 3 := by decide +kernel
theorem d18_40 : own_d cB18 40 (.iload_n 2) 1 := by decide +kernel
theorem d18_41 : own_d cB18 41 (.iload_n 3) 1 := by decide +kernel
theorem d18_42 : own_d cB18 42 (.iconst 4) 1 := by decide +kernel
theorem d18_43 : own_d cB18 43 (.isub) 1 := by decide +kernel
theorem d18_44 : own_d cB18 44 (.if_icmp .ge 46) 3 := by decide +kernel
theorem d18_90 : own_d cB18 90 (.iload_n 2) 1 := by decide +kernel
theorem d18_91 : own_d cB18 91 (.iload_n 3) 1 := by decide +kernel
theorem d18_92 : own_d cB18 92 (.if_icmp .lt 6) 3 := by decide +kernel
theorem d18_98 : own_d cB18 98 (.aload_n 1) 1 := by decide +kernel
theorem d18_99 : own_d cB18 99 (.iload_n 2) 1 := by decide +kernel
theorem d18_100 : own_d cB18 100 (.iinc 2 1) 3 := by decide +kernel
theorem d18_103 : own_d cB18 103 (.baload) 1 := by decide +kernel
theorem d18_104 : own_d cB18 104 (.sipush 255) 3 := by decide +kernel
theorem d18_107 : own_d cB18 107 (.iand) 1 := by decide +kernel
theorem d18_108 : own_d cB18 108 (.istore 9) 2 := by decide +kernel
theorem d18_110 : own_d cB18 110 (.aload 5) 2 := by decide +kernel
theorem d18_112 : own_d cB18 112 (.iload 9) 2 := by decide +kernel
theorem d18_114 : own_d cB18 114 (.iaload) 1 := by decide +kernel
theorem d18_115 : own_d cB18 115 (.dup) 1 := by decide +kernel
theorem d18_116 : own_d cB18 116 (.istore 9) 2 := by decide +kernel
theorem d18_118 : own_d cB18 118 (.ifCond .ge 96) 3 := by decide +kernel
theorem d18_214 : own_d cB18 214 (.iload 7) 2 := by decide +kernel
theorem d18_216 : own_d cB18 216 (.iload 9) 2 := by decide +kernel
theorem d18_218 : own_d cB18 218 (.iload 8) 2 := by decide +kernel
theorem d18_220 : own_d cB18 220 (.ishl) 1 := by decide +kernel
theorem d18_221 : own_d cB18 221 (.ior) 1 := by decide +kernel
theorem d18_222 : own_d cB18 222 (.istore 7) 2 := by decide +kernel
theorem d18_224 : own_d cB18 224 (.iinc 8 (-6)) 3 := by decide +kernel
theorem d18_227 : own_d cB18 227 (.iload 8) 2 := by decide +kernel
theorem d18_229 : own_d cB18 229 (.ifCond .ge 49) 3 := by decide +kernel
theorem d18_278 : own_d cB18 278 (.goto (-250)) 3 := by decide +kernel
theorem d18_288 : own_d cB18 288 (.aload 4) 2 := by decide +kernel
theorem d18_290 : own_d cB18 290 (.iload 6) 2 := by decide +kernel
theorem d18_292 : own_d cB18 292 (.iinc 6 1) 3 := by decide +kernel
theorem d18_295 : own_d cB18 295 (.iload 7) 2 := by decide +kernel
theorem d18_297 : own_d cB18 297 (.bipush 16) 2 := by decide +kernel
theorem d18_299 : own_d cB18 299 (.ishr) 1 := by decide +kernel
theorem d18_300 : own_d cB18 300 (.i2b) 1 := by decide +kernel
theorem d18_301 : own_d cB18 301 (.bastore) 1 := by decide +kernel
theorem d18_302 : own_d cB18 302 (.goto 56) 3 := by decide +kernel
def Q_dec0_2 (Z : State) (de : Addr) (b : Addr) (k : ClassId) (d : Addr) (kd : ClassId) (x0 : Int32) (x1 : Int32) (s0 : Int32) (s1 : Int32) (y0 : Int32) (rdt : Addr) (kdt : ClassId) (h0 : Heap) (n0 : Nat) (v_ : Option Value) (h : Heap) (L_ : List Loc) : Prop := v_ = some (.int 1) ∧ Fr n0 L_ ∧ Keep h0 h [d] ∧ Arv Z h d kd .byte (1 : Int32) [(.int y0)] (.int 0)
set_option maxRecDepth 65536 in
set_option maxHeartbeats 40000000 in
theorem rm_dec0_2 (l : Launch) (Z : State) (a0 : Array Value) (hw : ∀ d ∈ tables_1, d.before a0 Z = true) (ws : List Jvm.Cond) (de : Addr) (b : Addr) (k : ClassId) (d : Addr) (kd : ClassId) (x0 : Int32) (x1 : Int32) (s0 : Int32) (s1 : Int32) (y0 : Int32) (rdt : Addr) (kdt : ClassId) (h0 : Heap) (n0 : Nat) (Z0 : n0 ≤ h0.size) (O : Old Z n0 h0) (Sdt : Sta Z Z.heap "java/util/Base64$Decoder" "fromBase64URL" "[I" (.ref rdt)) (Vdt : Arv Z Z.heap rdt kdt .int (256 : Int32) own_dec (.int 0)) (Fu : Fld Z h0 de "java/util/Base64$Decoder" "isURL" "Z" (.int 1)) (Fm : Fld Z h0 de "java/util/Base64$Decoder" "isMIME" "Z" (.int 0)) (Vb : Arv Z h0 b k .byte (2 : Int32) [(.int x0), (.int x1)] (.int 0)) (Vd : Arv Z h0 d kd .byte (1 : Int32) [(.int 0)] (.int 0)) (nbd : b ≠ d) (gd : n0 ≤ d) (nde : de ≠ d) (hj0 : ¬ (x0 &&& 255) < 0 ∧ (x0 &&& 255) < (256 : Int32)) (hd0 : own_dec.getD (x0 &&& 255).toNatClampNeg (.int 0) = .int s0) (hs0 : ¬ (s0 < (0 : Int32))) (hj1 : ¬ (x1 &&& 255) < 0 ∧ (x1 &&& 255) < (256 : Int32)) (hd1 : own_dec.getD (x1 &&& 255).toNatClampNeg (.int 0) = .int s1) (hs1 : ¬ (s1 < (0 : Int32))) (hy0 : (((((0 : Int32) ||| (s0 <<< ((18 : Int32) &&& 31))) ||| (s1 <<< ((12 : Int32) &&& 31))) >>> ((16 : Int32) &&& 31)).toInt8.toInt32).toInt8.toInt32 = y0) :
    own_MF l yM18 (.code yM18 cB18 11 (some .int)) ws ⟨0, 0, 0, 0⟩ #[(.ref de), (.ref b), (.int 0), (.int 2), (.ref d)] Z h0 own_T (Q_dec0_2 Z de b k d kd x0 x1 s0 s1 y0 rdt kdt h0 n0) := by
  refine own_in "java/util/Base64$Decoder" rfl (plainFor_of_name pn3) hisR (fun m => ef18RRIIR m de b (0 : Int32) (2 : Int32) d) ?_
  intro p e s m below meth c s₁ A_ hx hby hml hown hnm hrt hlk hZ _ X0 e0 pre0
  have N0 := Fr.nil n0
  have P1 := oS (s₁.setTop (mkF m 1 #[r_ de, r_ b, i_ 0, i_ 2, r_ d, u_, u_, u_, u_, u_, u_] [(.ref de)])) pre0 (by
    intro _ k_
    refine aN_ X0 hx hby d18_0 rfl rfl ?_
    exact k_)
  obtain ⟨T2, X2, e2, st2⟩ := getF X0 hx hZ hown (host := "") (Or.inl (own_w hw 97 rfl)) Via.refl e0 Fu (g := (mkF m 1 #[r_ de, r_ b, i_ 0, i_ 2, r_ d, u_, u_, u_, u_, u_, u_] [(.ref de)])) rfl rfl (hb hby d18_1)
  have P3 := oS (T2.setTop (mkF m 4 #[r_ de, r_ b, i_ 0, i_ 2, r_ d, u_, u_, u_, u_, u_, u_] [(.int 1)])) P1 (fun t_ k_ => st2 t_ k_)
  have P4 := oS (T2.setTop (mkF m 7 #[r_ de, r_ b, i_ 0, i_ 2, r_ d, u_, u_, u_, u_, u_, u_] [])) P3 (by
    intro _ k_
    refine XS.ifNo X2.here hx rfl (hb hby d18_4) rfl ((if0 _ _).trans (feq (by decide : ¬ ((1 : Int32) = (0 : Int32)))).1) ?_
    exact k_)
  obtain ⟨T5, X5, e5, st5⟩ := getS2 X2 hx hZ hown (host := "") (Or.inl (own_w hw 99 rfl)) Via.refl e2 (Sdt.ext O.2) (g := (mkF m 7 #[r_ de, r_ b, i_ 0, i_ 2, r_ d, u_, u_, u_, u_, u_, u_] [])) rfl (hb hby d18_7)
  have P6 := oS (T5.setTop (mkF m 10 #[r_ de, r_ b, i_ 0, i_ 2, r_ d, u_, u_, u_, u_, u_, u_] [(.ref rdt)])) P4 (fun t_ k_ => st5 t_ k_)
  have P7 := oS (T5.setTop (mkF m 30 #[r_ de, r_ b, i_ 0, i_ 2, r_ d, r_ rdt, i_ 0, i_ 0, i_ 18, u_, u_] [(.int 2), (.int 0)])) P6 (by
    intro _ k_
    refine gt_ X5 hx hby d18_10 (pc := 10) (pc' := 16) (by decide) ?_
    refine XS.astore X5.here hx rfl (hb hby d18_16) rfl rfl (l' := #[r_ de, r_ b, i_ 0, i_ 2, r_ d, r_ rdt, u_, u_, u_, u_, u_]) rfl ?_
    refine XS.iconst X5.here hx rfl (hb hby d18_18) ?_
    refine is_ X5 hx hby d18_19 (l' := #[r_ de, r_ b, i_ 0, i_ 2, r_ d, r_ rdt, i_ 0, u_, u_, u_, u_]) rfl ?_
    refine XS.iconst X5.here hx rfl (hb hby d18_21) ?_
    refine is_ X5 hx hby d18_22 (l' := #[r_ de, r_ b, i_ 0, i_ 2, r_ d, r_ rdt, i_ 0, i_ 0, u_, u_, u_]) rfl ?_
    refine XS.bipush X5.here hx rfl (hb hby d18_24) ?_
    refine is_ X5 hx hby d18_26 (l' := #[r_ de, r_ b, i_ 0, i_ 2, r_ d, r_ rdt, i_ 0, i_ 0, i_ 18, u_, u_]) rfl ?_
    refine iN_ X5 hx hby d18_28 rfl ?_
    refine iN_ X5 hx hby d18_29 rfl ?_
    exact k_)
  have P8 := oS (T5.setTop (mkF m 37 #[r_ de, r_ b, i_ 0, i_ 2, r_ d, r_ rdt, i_ 0, i_ 0, i_ 18, u_, u_] [(.int 18), (.int 18)])) P7 (by
    intro _ k_
    refine XS.icmpNo X5.here hx rfl (hb hby d18_30) rfl (tlt (by decide : (0 : Int32) < (2 : Int32))).2.1 ?_
    refine il_ X5 hx hby d18_33 rfl ?_
    refine XS.bipush X5.here hx rfl (hb hby d18_35) ?_
    exact k_)
  have P9 := oS (T5.setTop (mkF m 44 #[r_ de, r_ b, i_ 0, i_ 2, r_ d, r_ rdt, i_ 0, i_ 0, i_ 18, u_, u_] [(.int (-2 : Int32)), (.int 0)])) P8 (by
    intro _ k_
    refine XS.icmpNo X5.here hx rfl (hb hby d18_37) rfl (teq (by decide : (18 : Int32) = (18 : Int32))).2 ?_
    refine iN_ X5 hx hby d18_40 rfl ?_
    refine iN_ X5 hx hby d18_41 rfl ?_
    refine XS.iconst X5.here hx rfl (hb hby d18_42) ?_
    refine XS.isub X5.here hx rfl (hb hby d18_43) rfl ?_
    exact k_)
  have P10 := oS (T5.setTop (mkF m 92 #[r_ de, r_ b, i_ 0, i_ 2, r_ d, r_ rdt, i_ 0, i_ 0, i_ 18, u_, u_] [(.int 2), (.int 0)])) P9 (by
    intro _ k_
    refine cY_ X5 hx hby d18_44 (pc := 44) (pc' := 90) (flt (by decide : ¬ ((0 : Int32) < (-2 : Int32)))).2.1 (by decide) ?_
    refine iN_ X5 hx hby d18_90 rfl ?_
    refine iN_ X5 hx hby d18_91 rfl ?_
    exact k_)
  have P11 := oS (T5.setTop (mkF m 103 #[r_ de, r_ b, i_ 1, i_ 2, r_ d, r_ rdt, i_ 0, i_ 0, i_ 18, u_, u_] [(.int 0), (.ref b)])) P10 (by
    intro _ k_
    refine cY_ X5 hx hby d18_92 (pc := 92) (pc' := 98) (tlt (by decide : (0 : Int32) < (2 : Int32))).1 (by decide) ?_
    refine aN_ X5 hx hby d18_98 rfl rfl ?_
    refine iN_ X5 hx hby d18_99 rfl ?_
    refine XS.iinc X5.here hx rfl (hb hby d18_100) rfl (l' := #[r_ de, r_ b, i_ 1, i_ 2, r_ d, r_ rdt, i_ 0, i_ 0, i_ 18, u_, u_]) rfl ?_
    exact k_)
  obtain ⟨cl12, Ar12, q12, S12, M12, H12, G12⟩ := id Vb
  have hin12 := inb_of S12 (by decide : ¬ (0 : Int32) < 0 ∧ (0 : Int32) < (2 : Int32))
  have hat12 := Has.at H12 hin12 (v := .int x0) rfl
  have P13 := oS (T5.setTop (mkF m 104 #[r_ de, r_ b, i_ 1, i_ 2, r_ d, r_ rdt, i_ 0, i_ 0, i_ 18, u_, u_] [(.int x0)])) P11 (by
    intro _ k_
    refine X5.baloadBytes hx (j := (0 : Int32)) (v := (.int x0)) (by rw [e5]; exact Ar12.1) (State.isArrayOf_alike hZ.alike Ar12.2.1) Ar12.2.2 hin12 hat12 (g := (mkF m 103 #[r_ de, r_ b, i_ 1, i_ 2, r_ d, r_ rdt, i_ 0, i_ 0, i_ 18, u_, u_] [(.int 0), (.ref b)])) rfl rfl (hb hby d18_103) _ ?_
    exact k_)
  have P14 := oS (T5.setTop (mkF m 114 #[r_ de, r_ b, i_ 1, i_ 2, r_ d, r_ rdt, i_ 0, i_ 0, i_ 18, i_ (x0 &&& 255), u_] [(.int (x0 &&& 255)), (.ref rdt)])) P13 (by
    intro _ k_
    refine XS.sipush X5.here hx rfl (hb hby d18_104) ?_
    refine XS.iand X5.here hx rfl (hb hby d18_107) rfl ?_
    refine is_ X5 hx hby d18_108 (l' := #[r_ de, r_ b, i_ 1, i_ 2, r_ d, r_ rdt, i_ 0, i_ 0, i_ 18, i_ (x0 &&& 255), u_]) rfl ?_
    refine a_ X5 hx hby d18_110 rfl rfl ?_
    refine il_ X5 hx hby d18_112 rfl ?_
    exact k_)
  obtain ⟨cl15, Ar15, q15, S15, M15, H15, G15⟩ := Vdt.ext O.2
  have hin15 := inb_of S15 hj0
  have hat15 := Has.at H15 hin15 hd0
  have P16 := oS (T5.setTop (mkF m 115 #[r_ de, r_ b, i_ 1, i_ 2, r_ d, r_ rdt, i_ 0, i_ 0, i_ 18, i_ (x0 &&& 255), u_] [(.int s0)])) P14 (by
    intro _ k_
    refine X5.iaload hx (j := (x0 &&& 255)) (v := (.int s0)) (by rw [e5]; exact Ar15.1) (State.isArrayOf_alike hZ.alike Ar15.2.1) Ar15.2.2 hin15 hat15 (g := (mkF m 114 #[r_ de, r_ b, i_ 1, i_ 2, r_ d, r_ rdt, i_ 0, i_ 0, i_ 18, i_ (x0 &&& 255), u_] [(.int (x0 &&& 255)), (.ref rdt)])) rfl rfl (hb hby d18_114) _ ?_
    exact k_)
  have P17 := oS (T5.setTop (mkF m 118 #[r_ de, r_ b, i_ 1, i_ 2, r_ d, r_ rdt, i_ 0, i_ 0, i_ 18, i_ s0, u_] [(.int s0)])) P16 (by
    intro _ k_
    refine XS.dup X5.here hx rfl (hb hby d18_115) rfl rfl ?_
    refine is_ X5 hx hby d18_116 (l' := #[r_ de, r_ b, i_ 1, i_ 2, r_ d, r_ rdt, i_ 0, i_ 0, i_ 18, i_ s0, u_]) rfl ?_
    exact k_)
  have P18 := oS (T5.setTop (mkF m 229 #[r_ de, r_ b, i_ 1, i_ 2, r_ d, r_ rdt, i_ 0, i_ ((0 : Int32) ||| (s0 <<< ((18 : Int32) &&& 31))), i_ 12, i_ s0, u_] [(.int 12)])) P17 (by
    intro _ k_
    refine fY_ X5 hx hby d18_118 (pc := 118) (pc' := 214) ((if0 _ _).trans (flt hs0).2.1) (by decide) ?_
    refine il_ X5 hx hby d18_214 rfl ?_
    refine il_ X5 hx hby d18_216 rfl ?_
    refine il_ X5 hx hby d18_218 rfl ?_
    refine XS.ishl X5.here hx rfl (hb hby d18_220) rfl ?_
    refine XS.ior X5.here hx rfl (hb hby d18_221) rfl ?_
    refine is_ X5 hx hby d18_222 (l' := #[r_ de, r_ b, i_ 1, i_ 2, r_ d, r_ rdt, i_ 0, i_ ((0 : Int32) ||| (s0 <<< ((18 : Int32) &&& 31))), i_ 18, i_ s0, u_]) rfl ?_
    refine XS.iinc X5.here hx rfl (hb hby d18_224) rfl (l' := #[r_ de, r_ b, i_ 1, i_ 2, r_ d, r_ rdt, i_ 0, i_ ((0 : Int32) ||| (s0 <<< ((18 : Int32) &&& 31))), i_ 12, i_ s0, u_]) rfl ?_
    show Steps p.tables e below (T5.setTop (mkF m 227 #[r_ de, r_ b, i_ 1, i_ 2, r_ d, r_ rdt, i_ 0, i_ ((0 : Int32) ||| (s0 <<< ((18 : Int32) &&& 31))), i_ 12, i_ s0, u_] [])) _
    refine il_ X5 hx hby d18_227 rfl ?_
    exact k_)
  have P19 := oS (T5.setTop (mkF m 30 #[r_ de, r_ b, i_ 1, i_ 2, r_ d, r_ rdt, i_ 0, i_ ((0 : Int32) ||| (s0 <<< ((18 : Int32) &&& 31))), i_ 12, i_ s0, u_] [(.int 2), (.int 1)])) P18 (by
    intro _ k_
    refine fY_ X5 hx hby d18_229 (pc := 229) (pc' := 278) ((if0 _ _).trans (flt (by decide : ¬ ((12 : Int32) < (0 : Int32)))).2.1) (by decide) ?_
    refine gt_ X5 hx hby d18_278 (pc := 278) (pc' := 28) (by decide) ?_
    refine iN_ X5 hx hby d18_28 rfl ?_
    refine iN_ X5 hx hby d18_29 rfl ?_
    exact k_)
  have P20 := oS (T5.setTop (mkF m 37 #[r_ de, r_ b, i_ 1, i_ 2, r_ d, r_ rdt, i_ 0, i_ ((0 : Int32) ||| (s0 <<< ((18 : Int32) &&& 31))), i_ 12, i_ s0, u_] [(.int 18), (.int 12)])) P19 (by
    intro _ k_
    refine XS.icmpNo X5.here hx rfl (hb hby d18_30) rfl (tlt (by decide : (1 : Int32) < (2 : Int32))).2.1 ?_
    refine il_ X5 hx hby d18_33 rfl ?_
    refine XS.bipush X5.here hx rfl (hb hby d18_35) ?_
    exact k_)
  have P21 := oS (T5.setTop (mkF m 92 #[r_ de, r_ b, i_ 1, i_ 2, r_ d, r_ rdt, i_ 0, i_ ((0 : Int32) ||| (s0 <<< ((18 : Int32) &&& 31))), i_ 12, i_ s0, u_] [(.int 2), (.int 1)])) P20 (by
    intro _ k_
    refine cY_ X5 hx hby d18_37 (pc := 37) (pc' := 90) (feq (by decide : ¬ ((12 : Int32) = (18 : Int32)))).2 (by decide) ?_
    refine iN_ X5 hx hby d18_90 rfl ?_
    refine iN_ X5 hx hby d18_91 rfl ?_
    exact k_)
  have P22 := oS (T5.setTop (mkF m 103 #[r_ de, r_ b, i_ 2, i_ 2, r_ d, r_ rdt, i_ 0, i_ ((0 : Int32) ||| (s0 <<< ((18 : Int32) &&& 31))), i_ 12, i_ s0, u_] [(.int 1), (.ref b)])) P21 (by
    intro _ k_
    refine cY_ X5 hx hby d18_92 (pc := 92) (pc' := 98) (tlt (by decide : (1 : Int32) < (2 : Int32))).1 (by decide) ?_
    refine aN_ X5 hx hby d18_98 rfl rfl ?_
    refine iN_ X5 hx hby d18_99 rfl ?_
    refine XS.iinc X5.here hx rfl (hb hby d18_100) rfl (l' := #[r_ de, r_ b, i_ 2, i_ 2, r_ d, r_ rdt, i_ 0, i_ ((0 : Int32) ||| (s0 <<< ((18 : Int32) &&& 31))), i_ 12, i_ s0, u_]) rfl ?_
    exact k_)
  obtain ⟨cl23, Ar23, q23, S23, M23, H23, G23⟩ := id Vb
  have hin23 := inb_of S23 (by decide : ¬ (1 : Int32) < 0 ∧ (1 : Int32) < (2 : Int32))
  have hat23 := Has.at H23 hin23 (v := .int x1) rfl
  have P24 := oS (T5.setTop (mkF m 104 #[r_ de, r_ b, i_ 2, i_ 2, r_ d, r_ rdt, i_ 0, i_ ((0 : Int32) ||| (s0 <<< ((18 : Int32) &&& 31))), i_ 12, i_ s0, u_] [(.int x1)])) P22 (by
    intro _ k_
    refine X5.baloadBytes hx (j := (1 : Int32)) (v := (.int x1)) (by rw [e5]; exact Ar23.1) (State.isArrayOf_alike hZ.alike Ar23.2.1) Ar23.2.2 hin23 hat23 (g := (mkF m 103 #[r_ de, r_ b, i_ 2, i_ 2, r_ d, r_ rdt, i_ 0, i_ ((0 : Int32) ||| (s0 <<< ((18 : Int32) &&& 31))), i_ 12, i_ s0, u_] [(.int 1), (.ref b)])) rfl rfl (hb hby d18_103) _ ?_
    exact k_)
  have P25 := oS (T5.setTop (mkF m 114 #[r_ de, r_ b, i_ 2, i_ 2, r_ d, r_ rdt, i_ 0, i_ ((0 : Int32) ||| (s0 <<< ((18 : Int32) &&& 31))), i_ 12, i_ (x1 &&& 255), u_] [(.int (x1 &&& 255)), (.ref rdt)])) P24 (by
    intro _ k_
    refine XS.sipush X5.here hx rfl (hb hby d18_104) ?_
    refine XS.iand X5.here hx rfl (hb hby d18_107) rfl ?_
    refine is_ X5 hx hby d18_108 (l' := #[r_ de, r_ b, i_ 2, i_ 2, r_ d, r_ rdt, i_ 0, i_ ((0 : Int32) ||| (s0 <<< ((18 : Int32) &&& 31))), i_ 12, i_ (x1 &&& 255), u_]) rfl ?_
    refine a_ X5 hx hby d18_110 rfl rfl ?_
    refine il_ X5 hx hby d18_112 rfl ?_
    exact k_)
  obtain ⟨cl26, Ar26, q26, S26, M26, H26, G26⟩ := Vdt.ext O.2
  have hin26 := inb_of S26 hj1
  have hat26 := Has.at H26 hin26 hd1
  have P27 := oS (T5.setTop (mkF m 115 #[r_ de, r_ b, i_ 2, i_ 2, r_ d, r_ rdt, i_ 0, i_ ((0 : Int32) ||| (s0 <<< ((18 : Int32) &&& 31))), i_ 12, i_ (x1 &&& 255), u_] [(.int s1)])) P25 (by
    intro _ k_
    refine X5.iaload hx (j := (x1 &&& 255)) (v := (.int s1)) (by rw [e5]; exact Ar26.1) (State.isArrayOf_alike hZ.alike Ar26.2.1) Ar26.2.2 hin26 hat26 (g := (mkF m 114 #[r_ de, r_ b, i_ 2, i_ 2, r_ d, r_ rdt, i_ 0, i_ ((0 : Int32) ||| (s0 <<< ((18 : Int32) &&& 31))), i_ 12, i_ (x1 &&& 255), u_] [(.int (x1 &&& 255)), (.ref rdt)])) rfl rfl (hb hby d18_114) _ ?_
    exact k_)
  have P28 := oS (T5.setTop (mkF m 118 #[r_ de, r_ b, i_ 2, i_ 2, r_ d, r_ rdt, i_ 0, i_ ((0 : Int32) ||| (s0 <<< ((18 : Int32) &&& 31))), i_ 12, i_ s1, u_] [(.int s1)])) P27 (by
    intro _ k_
    refine XS.dup X5.here hx rfl (hb hby d18_115) rfl rfl ?_
    refine is_ X5 hx hby d18_116 (l' := #[r_ de, r_ b, i_ 2, i_ 2, r_ d, r_ rdt, i_ 0, i_ ((0 : Int32) ||| (s0 <<< ((18 : Int32) &&& 31))), i_ 12, i_ s1, u_]) rfl ?_
    exact k_)
  have P29 := oS (T5.setTop (mkF m 229 #[r_ de, r_ b, i_ 2, i_ 2, r_ d, r_ rdt, i_ 0, i_ (((0 : Int32) ||| (s0 <<< ((18 : Int32) &&& 31))) ||| (s1 <<< ((12 : Int32) &&& 31))), i_ 6, i_ s1, u_] [(.int 6)])) P28 (by
    intro _ k_
    refine fY_ X5 hx hby d18_118 (pc := 118) (pc' := 214) ((if0 _ _).trans (flt hs1).2.1) (by decide) ?_
    refine il_ X5 hx hby d18_214 rfl ?_
    refine il_ X5 hx hby d18_216 rfl ?_
    refine il_ X5 hx hby d18_218 rfl ?_
    refine XS.ishl X5.here hx rfl (hb hby d18_220) rfl ?_
    refine XS.ior X5.here hx rfl (hb hby d18_221) rfl ?_
    refine is_ X5 hx hby d18_222 (l' := #[r_ de, r_ b, i_ 2, i_ 2, r_ d, r_ rdt, i_ 0, i_ (((0 : Int32) ||| (s0 <<< ((18 : Int32) &&& 31))) ||| (s1 <<< ((12 : Int32) &&& 31))), i_ 12, i_ s1, u_]) rfl ?_
    refine XS.iinc X5.here hx rfl (hb hby d18_224) rfl (l' := #[r_ de, r_ b, i_ 2, i_ 2, r_ d, r_ rdt, i_ 0, i_ (((0 : Int32) ||| (s0 <<< ((18 : Int32) &&& 31))) ||| (s1 <<< ((12 : Int32) &&& 31))), i_ 6, i_ s1, u_]) rfl ?_
    show Steps p.tables e below (T5.setTop (mkF m 227 #[r_ de, r_ b, i_ 2, i_ 2, r_ d, r_ rdt, i_ 0, i_ (((0 : Int32) ||| (s0 <<< ((18 : Int32) &&& 31))) ||| (s1 <<< ((12 : Int32) &&& 31))), i_ 6, i_ s1, u_] [])) _
    refine il_ X5 hx hby d18_227 rfl ?_
    exact k_)
  have P30 := oS (T5.setTop (mkF m 30 #[r_ de, r_ b, i_ 2, i_ 2, r_ d, r_ rdt, i_ 0, i_ (((0 : Int32) ||| (s0 <<< ((18 : Int32) &&& 31))) ||| (s1 <<< ((12 : Int32) &&& 31))), i_ 6, i_ s1, u_] [(.int 2), (.int 2)])) P29 (by
    intro _ k_
    refine fY_ X5 hx hby d18_229 (pc := 229) (pc' := 278) ((if0 _ _).trans (flt (by decide : ¬ ((6 : Int32) < (0 : Int32)))).2.1) (by decide) ?_
    refine gt_ X5 hx hby d18_278 (pc := 278) (pc' := 28) (by decide) ?_
    refine iN_ X5 hx hby d18_28 rfl ?_
    refine iN_ X5 hx hby d18_29 rfl ?_
    exact k_)
  have P31 := oS (T5.setTop (mkF m 285 #[r_ de, r_ b, i_ 2, i_ 2, r_ d, r_ rdt, i_ 0, i_ (((0 : Int32) ||| (s0 <<< ((18 : Int32) &&& 31))) ||| (s1 <<< ((12 : Int32) &&& 31))), i_ 6, i_ s1, u_] [(.int 6), (.int 6)])) P30 (by
    intro _ k_
    refine cY_ X5 hx hby d18_30 (pc := 30) (pc' := 281) (flt (by decide : ¬ ((2 : Int32) < (2 : Int32)))).2.1 (by decide) ?_
    refine il_ X5 hx hby d18_281 rfl ?_
    refine XS.bipush X5.here hx rfl (hb hby d18_283) ?_
    exact k_)
  have P32 := oS (T5.setTop (mkF m 301 #[r_ de, r_ b, i_ 2, i_ 2, r_ d, r_ rdt, i_ 1, i_ (((0 : Int32) ||| (s0 <<< ((18 : Int32) &&& 31))) ||| (s1 <<< ((12 : Int32) &&& 31))), i_ 6, i_ s1, u_] [(.int (((((0 : Int32) ||| (s0 <<< ((18 : Int32) &&& 31))) ||| (s1 <<< ((12 : Int32) &&& 31))) >>> ((16 : Int32) &&& 31)).toInt8.toInt32)), (.int 0), (.ref d)])) P31 (by
    intro _ k_
    refine XS.icmpNo X5.here hx rfl (hb hby d18_285) rfl (teq (by decide : (6 : Int32) = (6 : Int32))).2 ?_
    refine a_ X5 hx hby d18_288 rfl rfl ?_
    refine il_ X5 hx hby d18_290 rfl ?_
    refine XS.iinc X5.here hx rfl (hb hby d18_292) rfl (l' := #[r_ de, r_ b, i_ 2, i_ 2, r_ d, r_ rdt, i_ 1, i_ (((0 : Int32) ||| (s0 <<< ((18 : Int32) &&& 31))) ||| (s1 <<< ((12 : Int32) &&& 31))), i_ 6, i_ s1, u_]) rfl ?_
    show Steps p.tables e below (T5.setTop (mkF m 295 #[r_ de, r_ b, i_ 2, i_ 2, r_ d, r_ rdt, i_ 1, i_ (((0 : Int32) ||| (s0 <<< ((18 : Int32) &&& 31))) ||| (s1 <<< ((12 : Int32) &&& 31))), i_ 6, i_ s1, u_] [(.int 0), (.ref d)])) _
    refine il_ X5 hx hby d18_295 rfl ?_
    refine XS.bipush X5.here hx rfl (hb hby d18_297) ?_
    refine XS.ishr X5.here hx rfl (hb hby d18_299) rfl ?_
    refine XS.i2b X5.here hx rfl (hb hby d18_300) rfl ?_
    exact k_)
  obtain ⟨cl33, Ar33, q33, S33, M33, H33, G33⟩ := id Vd
  obtain ⟨T34, h34, X34, e34, W34, st34⟩ := stB X5 hx hZ e5 Ar33 (j := (0 : Int32)) (inb_of S33 (by decide : ¬ (0 : Int32) < 0 ∧ (0 : Int32) < (1 : Int32))) (g := (mkF m 301 #[r_ de, r_ b, i_ 2, i_ 2, r_ d, r_ rdt, i_ 1, i_ (((0 : Int32) ||| (s0 <<< ((18 : Int32) &&& 31))) ||| (s1 <<< ((12 : Int32) &&& 31))), i_ 6, i_ s1, u_] [(.int (((((0 : Int32) ||| (s0 <<< ((18 : Int32) &&& 31))) ||| (s1 <<< ((12 : Int32) &&& 31))) >>> ((16 : Int32) &&& 31)).toInt8.toInt32)), (.int 0), (.ref d)])) rfl rfl (hb hby d18_301)
  have f40 := (Keep.refl h0 [d]).wr W34 (Or.inl (List.mem_of_getElem? (i := 0) rfl))
  have V34 : Arv Z h34 d kd .byte (1 : Int32) [(.int (((((0 : Int32) ||| (s0 <<< ((18 : Int32) &&& 31))) ||| (s1 <<< ((12 : Int32) &&& 31))) >>> ((16 : Int32) &&& 31)).toInt8.toInt32).toInt8.toInt32)] (.int 0) := Arv.set Ar33 q33 S33 M33 H33 G33 (fits_nar_byte _) W34 0 rfl (Nat.le_of_ble_eq_true rfl)
  have N34 := Fr.snoc X34 N0 gd
  have P42 := oS (T34.setTop (mkF m 302 #[r_ de, r_ b, i_ 2, i_ 2, r_ d, r_ rdt, i_ 1, i_ (((0 : Int32) ||| (s0 <<< ((18 : Int32) &&& 31))) ||| (s1 <<< ((12 : Int32) &&& 31))), i_ 6, i_ s1, u_] [])) P32 (fun t_ k_ => st34 t_ k_)
  have P43 := oS (T34.setTop (mkF m 360 #[r_ de, r_ b, i_ 2, i_ 2, r_ d, r_ rdt, i_ 1, i_ (((0 : Int32) ||| (s0 <<< ((18 : Int32) &&& 31))) ||| (s1 <<< ((12 : Int32) &&& 31))), i_ 6, i_ s1, u_] [(.int 2), (.int 2)])) P42 (by
    intro _ k_
    refine gt_ X34 hx hby d18_302 (pc := 302) (pc' := 358) (by decide) ?_
    refine iN_ X34 hx hby d18_358 rfl ?_
    refine iN_ X34 hx hby d18_359 rfl ?_
    exact k_)
  have P44 := oS (T34.setTop (mkF m 418 #[r_ de, r_ b, i_ 2, i_ 2, r_ d, r_ rdt, i_ 1, i_ (((0 : Int32) ||| (s0 <<< ((18 : Int32) &&& 31))) ||| (s1 <<< ((12 : Int32) &&& 31))), i_ 6, i_ s1, u_] [(.int 1)])) P43 (by
    intro _ k_
    refine cY_ X34 hx hby d18_360 (pc := 360) (pc' := 416) (flt (by decide : ¬ ((2 : Int32) < (2 : Int32)))).2.1 (by decide) ?_
    refine il_ X34 hx hby d18_416 rfl ?_
    exact k_)
  rw [hy0] at V34
  exact own_out X34 hlk (v := some (.int 1)) (own_hv hrt) P44 (fun _ q_ => retI X34 hx hrt (hb hby d18_418) q_) e34 ⟨rfl, N34, f40, V34⟩ (by decide)
def Q_decB_2 (Z : State) (de : Addr) (b : Addr) (k : ClassId) (x0 : Int32) (x1 : Int32) (s0 : Int32) (s1 : Int32) (y0 : Int32) (rdt : Addr) (kdt : ClassId) (h0 : Heap) (n0 : Nat) (v_ : Option Value) (h : Heap) (L_ : List Loc) : Prop := ∃ (xq : Addr) (kk : ClassId), v_ = some (.ref xq) ∧ Fr n0 L_ ∧ Keep h0 h [] ∧ h0.size ≤ xq ∧ Arv Z h xq kk .byte (1 : Int32) [(.int y0)] (.int 0) ∧ Exa Z h xq "[B"
set_option maxRecDepth 65536 in
set_option maxHeartbeats 40000000 in
theorem rm_decB_2 (l : Launch) (Z : State) (a0 : Array Value) (hw : ∀ d ∈ tables_1, d.before a0 Z = true) (ws : List Jvm.Cond) (de : Addr) (b : Addr) (k : ClassId) (x0 : Int32) (x1 : Int32) (s0 : Int32) (s1 : Int32) (y0 : Int32) (rdt : Addr) (kdt : ClassId) (h0 : Heap) (n0 : Nat) (Z0 : n0 ≤ h0.size) (O : Old Z n0 h0) (Sdt : Sta Z Z.heap "java/util/Base64$Decoder" "fromBase64URL" "[I" (.ref rdt)) (Vdt : Arv Z Z.heap rdt kdt .int (256 : Int32) own_dec (.int 0)) (Ed : Exa Z h0 de "java/util/Base64$Decoder") (Fu : Fld Z h0 de "java/util/Base64$Decoder" "isURL" "Z" (.int 1)) (Fm : Fld Z h0 de "java/util/Base64$Decoder" "isMIME" "Z" (.int 0)) (Vb : Arv Z h0 b k .byte (2 : Int32) [(.int x0), (.int x1)] (.int 0)) (h61 : ¬ (x1 = (61 : Int32))) (hj0 : ¬ (x0 &&& 255) < 0 ∧ (x0 &&& 255) < (256 : Int32)) (hd0 : own_dec.getD (x0 &&& 255).toNatClampNeg (.int 0) = .int s0) (hs0 : ¬ (s0 < (0 : Int32))) (hj1 : ¬ (x1 &&& 255) < 0 ∧ (x1 &&& 255) < (256 : Int32)) (hd1 : own_dec.getD (x1 &&& 255).toNatClampNeg (.int 0) = .int s1) (hs1 : ¬ (s1 < (0 : Int32))) (hy0 : (((((0 : Int32) ||| (s0 <<< ((18 : Int32) &&& 31))) ||| (s1 <<< ((12 : Int32) &&& 31))) >>> ((16 : Int32) &&& 31)).toInt8.toInt32).toInt8.toInt32 = y0) :
    own_MF l yM16 (.code yM16 cB16 4 (some (.array .byte))) ws ⟨1, 1, 1, 22⟩ #[(.ref de), (.ref b)] Z h0 own_T (Q_decB_2 Z de b k x0 x1 s0 s1 y0 rdt kdt h0 n0) := by
  refine own_in "java/util/Base64$Decoder" rfl (plainFor_of_name pn3) hisR (fun m => ef16RR m de b) ?_
  intro p e s m below meth c s₁ A_ hx hby hml hown hnm hrt hlk hZ _ X0 e0 pre0
  have N0 := Fr.nil n0
  have P1 := oS (s₁.setTop (mkF m 4 #[r_ de, r_ b, u_, u_] [(.ref b), (.int 0), (.ref b), (.ref de)])) pre0 (by
    intro _ k_
    refine aN_ X0 hx hby d16_0 rfl rfl ?_
    refine aN_ X0 hx hby d16_1 rfl rfl ?_
    refine XS.iconst X0.here hx rfl (hb hby d16_2) ?_
    refine aN_ X0 hx hby d16_3 rfl rfl ?_
    exact k_)
  obtain ⟨cl2, Ar2, q2, S2, M2, H2, G2⟩ := id Vb
  have P3 := oS (s₁.setTop (mkF m 5 #[r_ de, r_ b, u_, u_] [(.int 2), (.int 0), (.ref b), (.ref de)])) P1 (by
    intro _ k_
    refine X0.arraylength hx (by rw [e0]; exact Ar2.1) (State.isArrayOf_alike hZ.alike Ar2.2.1) (g := (mkF m 4 #[r_ de, r_ b, u_, u_] [(.ref b), (.int 0), (.ref b), (.ref de)])) rfl rfl (hb hby d16_4) _ ?_
    rw [len_of S2 M2]
    exact k_)
  obtain ⟨_, T4, L4, X4, hQ4, P4c⟩ := own_cP (W := 0) (rm_dol_2 l Z a0 hw [] de b k x0 x1 rdt kdt h0 n0 Z0 O Sdt Vdt Fu Fm Vb h61) X0 hx hZ (fun _ _ => trivial) hown Ed (own_w hw 92 rfl) (own_w hw 94 rfl) (own_w hw 95 rfl) (own_w hw 93 rfl) (own_w hw 57 rfl) (own_w hw 96 rfl) (by decide) P3 hml rfl [(.ref b), (.int 0), (.int 2)] [] rfl rfl rfl pd8 rfl (hb hby d16_5) e0 (by decide)
  obtain ⟨rfl, N4q, e4⟩ := hQ4
  have N4 := Fr.app N0 N4q
  have P5 := own_to (C := T4.setTop (mkF m 8 #[r_ de, r_ b, u_, u_] [(.int 1)])) P4c
  obtain ⟨T6, h6, k6, X6, e6, E6, A6, EA6, st6⟩ := newPE X4 hx hZ (own_w hw 23 rfl) e4 (g := (mkF m 8 #[r_ de, r_ b, u_, u_] [(.int 1)])) rfl (hb hby d16_8) rfl (by decide) (cap := 1) (by decide) (by decide) (by decide) (by decide) (ad := "[B") (by decide +kernel)
  obtain ⟨b6, g6⟩ : ∃ z, z = h0.size := ⟨_, rfl⟩
  rw [← g6] at A6 EA6 st6
  have ne_de_b6 : de ≠ b6 := Nat.ne_of_lt (Nat.lt_of_lt_of_le Fu.lt (Nat.le_of_eq g6.symm))
  have ne_b_b6 : b ≠ b6 := Nat.ne_of_lt (Nat.lt_of_lt_of_le Vb.lt (Nat.le_of_eq g6.symm))
  have g_b6 : n0 ≤ b6 := Nat.le_trans Z0 (Nat.le_of_eq g6.symm)
  have sz_b6 : h0.size ≤ b6 := Nat.le_trans (Keep.refl h0 []).1 (Nat.le_of_eq g6.symm)
  have f7 := O.ext E6
  have f8 := Fu.ext E6
  have f9 := Fm.ext E6
  have f10 := (Keep.refl h0 []).ext E6
  have f11 := Vb.ext E6
  have f12 := Ed.ext E6
  have Z13 : n0 ≤ h6.size := Nat.le_trans Z0 E6.1
  have V6 : Arv Z h6 b6 k6 .byte (1 : Int32) [(.int 0)] (.int 0) := (Arv.new A6 (by decide)).pad (pad_rep [] _ 1)
  have P14 := oS (T6.setTop (mkF m 10 #[r_ de, r_ b, u_, u_] [(.ref b6)])) P5 (fun t_ k_ => st6 t_ k_)
  have P15 := oS (T6.setTop (mkF m 15 #[r_ de, r_ b, r_ b6, u_] [(.ref b), (.int 0), (.ref b), (.ref de)])) P14 (by
    intro _ k_
    refine XS.astoreN X6.here hx rfl (hb hby d16_10) rfl rfl (l' := #[r_ de, r_ b, r_ b6, u_]) rfl ?_
    refine aN_ X6 hx hby d16_11 rfl rfl ?_
    refine aN_ X6 hx hby d16_12 rfl rfl ?_
    refine XS.iconst X6.here hx rfl (hb hby d16_13) ?_
    refine aN_ X6 hx hby d16_14 rfl rfl ?_
    exact k_)
  obtain ⟨cl16, Ar16, q16, S16, M16, H16, G16⟩ := id f11
  have P17 := oS (T6.setTop (mkF m 16 #[r_ de, r_ b, r_ b6, u_] [(.int 2), (.int 0), (.ref b), (.ref de)])) P15 (by
    intro _ k_
    refine X6.arraylength hx (by rw [e6]; exact Ar16.1) (State.isArrayOf_alike hZ.alike Ar16.2.1) (g := (mkF m 15 #[r_ de, r_ b, r_ b6, u_] [(.ref b), (.int 0), (.ref b), (.ref de)])) rfl rfl (hb hby d16_15) _ ?_
    rw [len_of S16 M16]
    exact k_)
  have P18 := oS (T6.setTop (mkF m 17 #[r_ de, r_ b, r_ b6, u_] [(.ref b6), (.int 2), (.int 0), (.ref b), (.ref de)])) P17 (by
    intro _ k_
    refine aN_ X6 hx hby d16_16 rfl rfl ?_
    exact k_)
  obtain ⟨_, T19, L19, X19, hQ19, P19c⟩ := own_cP (W := 0) (rm_dec0_2 l Z a0 hw [] de b k b6 k6 x0 x1 s0 s1 y0 rdt kdt h6 n0 Z13 f7 Sdt Vdt f8 f9 f11 V6 ne_b_b6 g_b6 ne_de_b6 hj0 hd0 hs0 hj1 hd1 hs1 hy0) X6 hx hZ (fun _ _ => trivial) hown f12 (own_w hw 104 rfl) (own_w hw 106 rfl) (own_w hw 107 rfl) (own_w hw 105 rfl) (own_w hw 57 rfl) (own_w hw 108 rfl) (by decide) P18 hml rfl [(.ref b), (.int 0), (.int 2), (.ref b6)] [] rfl rfl rfl pd9 rfl (hb hby d16_17) e6 (by decide)
  obtain ⟨rfl, N19q, K19, f20⟩ := hQ19
  have N19 := Fr.app N4 N19q
  have f24 := f10.trans K19 (allS (Or.inr sz_b6) all0)
  have f28 := EA6.keep K19
  have P30 := own_to (C := T19.setTop (mkF m 20 #[r_ de, r_ b, r_ b6, u_] [(.int 1)])) P19c
  have P31 := oS (T19.setTop (mkF m 23 #[r_ de, r_ b, r_ b6, i_ 1] [(.ref b6), (.int 1)])) P30 (by
    intro _ k_
    refine XS.istoreN X19.here hx rfl (hb hby d16_20) rfl (l' := #[r_ de, r_ b, r_ b6, i_ 1]) rfl ?_
    refine iN_ X19 hx hby d16_21 rfl ?_
    refine aN_ X19 hx hby d16_22 rfl rfl ?_
    exact k_)
  obtain ⟨cl32, Ar32, q32, S32, M32, H32, G32⟩ := id f20
  have P33 := oS (T19.setTop (mkF m 24 #[r_ de, r_ b, r_ b6, i_ 1] [(.int 1), (.int 1)])) P31 (by
    intro _ k_
    refine X19.arraylength hx Ar32.1 (State.isArrayOf_alike hZ.alike Ar32.2.1) (g := (mkF m 23 #[r_ de, r_ b, r_ b6, i_ 1] [(.ref b6), (.int 1)])) rfl rfl (hb hby d16_23) _ ?_
    rw [len_of S32 M32]
    exact k_)
  have P34 := oS (T19.setTop (mkF m 34 #[r_ de, r_ b, r_ b6, i_ 1] [(.ref b6)])) P33 (by
    intro _ k_
    refine cY_ X19 hx hby d16_24 (pc := 24) (pc' := 33) (teq (by decide : (1 : Int32) = (1 : Int32))).1 (by decide) ?_
    refine aN_ X19 hx hby d16_33 rfl rfl ?_
    exact k_)
  exact own_out X19 hlk (v := some (.ref b6)) (own_hv hrt) P34 (fun _ q_ => retOut X19 hx hrt rfl (Or.inr (Or.inr (Or.inr (Or.inr ⟨rfl, rfl, rfl⟩)))) (hb hby d16_34) q_) (rfl : T19.heap = _) ⟨b6, k6, rfl, N19, f24, sz_b6, f20, f28⟩ (by decide)
def Q_decS_2 (Z : State) (de : Addr) (a : Addr) (b : Addr) (k : ClassId) (x0 : Int32) (x1 : Int32) (s0 : Int32) (s1 : Int32) (y0 : Int32) (rdt : Addr) (kdt : ClassId) (riso : Addr) (rutf : Addr) (cs : Int32) (h0 : Heap) (n0 : Nat) (v_ : Option Value) (h : Heap) (L_ : List Loc) : Prop := ∃ (xq : Addr) (kk : ClassId), v_ = some (.ref xq) ∧ Fr n0 L_ ∧ Keep h0 h [] ∧ h0.size ≤ xq ∧ Arv Z h xq kk .byte (1 : Int32) [(.int y0)] (.int 0) ∧ Exa Z h xq "[B"
set_option maxRecDepth 65536 in
set_option maxHeartbeats 40000000 in
theorem rm_decS_2 (l : Launch) (Z : State) (a0 : Array Value) (hw : ∀ d ∈ tables_1, d.before a0 Z = true) (ws : List Jvm.Cond) (de : Addr) (a : Addr) (b : Addr) (k : ClassId) (x0 : Int32) (x1 : Int32) (s0 : Int32) (s1 : Int32) (y0 : Int32) (rdt : Addr) (kdt : ClassId) (riso : Addr) (rutf : Addr) (cs : Int32) (h0 : Heap) (n0 : Nat) (Z0 : n0 ≤ h0.size) (O : Old Z n0 h0) (Scs : Sta Z Z.heap "java/lang/String" "COMPACT_STRINGS" "Z" (.int cs)) (hcs : ¬ (cs = (0 : Int32))) (Siso : Sta Z Z.heap "sun/nio/cs/ISO_8859_1" "INSTANCE" "Lsun/nio/cs/ISO_8859_1;" (.ref riso)) (Sutf : Sta Z Z.heap "sun/nio/cs/UTF_8" "INSTANCE" "Lsun/nio/cs/UTF_8;" (.ref rutf)) (nci : riso ≠ rutf) (Sdt : Sta Z Z.heap "java/util/Base64$Decoder" "fromBase64URL" "[I" (.ref rdt)) (Vdt : Arv Z Z.heap rdt kdt .int (256 : Int32) own_dec (.int 0)) (Ed : Exa Z h0 de "java/util/Base64$Decoder") (Fu : Fld Z h0 de "java/util/Base64$Decoder" "isURL" "Z" (.int 1)) (Fm : Fld Z h0 de "java/util/Base64$Decoder" "isMIME" "Z" (.int 0)) (Ea : Exa Z h0 a "java/lang/String") (Fc : Fld Z h0 a "java/lang/String" "coder" "B" (.int 0)) (Fv : Fld Z h0 a "java/lang/String" "value" "[B" (.ref b)) (Vb : Arv Z h0 b k .byte (2 : Int32) [(.int x0), (.int x1)] (.int 0)) (Eb : Exa Z h0 b "[B") (h61 : ¬ (x1 = (61 : Int32))) (hj0 : ¬ (x0 &&& 255) < 0 ∧ (x0 &&& 255) < (256 : Int32)) (hd0 : own_dec.getD (x0 &&& 255).toNatClampNeg (.int 0) = .int s0) (hs0 : ¬ (s0 < (0 : Int32))) (hj1 : ¬ (x1 &&& 255) < 0 ∧ (x1 &&& 255) < (256 : Int32)) (hd1 : own_dec.getD (x1 &&& 255).toNatClampNeg (.int 0) = .int s1) (hs1 : ¬ (s1 < (0 : Int32))) (hy0 : (((((0 : Int32) ||| (s0 <<< ((18 : Int32) &&& 31))) ||| (s1 <<< ((12 : Int32) &&& 31))) >>> ((16 : Int32) &&& 31)).toInt8.toInt32).toInt8.toInt32 = y0) :
    own_MF l yM11 (.code yM11 cB11 2 (some (.array .byte))) ws ⟨5, 2, 5, 76⟩ #[(.ref de), (.ref a)] Z h0 own_T (Q_decS_2 Z de a b k x0 x1 s0 s1 y0 rdt kdt riso rutf cs h0 n0) := by
  refine own_in "java/util/Base64$Decoder" rfl (plainFor_of_name pn3) hisR (fun m => ef11RR m de a) ?_
  intro p e s m below meth c s₁ A_ hx hby hml hown hnm hrt hlk hZ _ X0 e0 pre0
  have N0 := Fr.nil n0
  have P1 := oS (s₁.setTop (mkF m 2 #[r_ de, r_ a] [(.ref a), (.ref de)])) pre0 (by
    intro _ k_
    refine aN_ X0 hx hby d11_0 rfl rfl ?_
    refine aN_ X0 hx hby d11_1 rfl rfl ?_
    exact k_)
  obtain ⟨T2, X2, e2, st2⟩ := getS2 X0 hx hZ hown (host := "") (Or.inl (own_w hw 59 rfl)) Via.refl e0 (Siso.ext O.2) (g := (mkF m 2 #[r_ de, r_ a] [(.ref a), (.ref de)])) rfl (hb hby d11_2)
  have P3 := oS (T2.setTop (mkF m 5 #[r_ de, r_ a] [(.ref riso), (.ref a), (.ref de)])) P1 (fun t_ k_ => st2 t_ k_)
  obtain ⟨_, T4, L4, X4, hQ4, P4c⟩ := own_cV (W := 1) (rm_getB l Z a0 hw [] a b k (2 : Int32) [(.int x0), (.int x1)] riso rutf cs h0 n0 Z0 O Scs hcs Siso Sutf nci Ea Fc Fv Vb Eb (by decide)) X2 hx hZ (fun _ _ => trivial) hown Ea (own_w hw 61 rfl) (own_w hw 62 rfl) (own_w hw 64 rfl) (own_w hw 63 rfl) (own_w hw 7 rfl) (own_w hw 65 rfl) (by decide) P3 hml rfl [(.ref riso)] [(.ref de)] rfl rfl rfl pd10 rfl (hb hby d11_5) e2 (by decide)
  obtain ⟨xq4, rfl, N4q, K4, f5, f6, f7⟩ := hQ4
  have N4 := Fr.app N0 N4q
  have f8 := O.keep K4 all0
  have f9 := Fu.keep K4 nin0
  have f10 := Fm.keep K4 nin0
  have f11 := (Keep.refl h0 []).trans K4 all0
  have f17 := Ed.keep K4
  have Z18 : n0 ≤ T4.heap.size := Nat.le_trans Z0 K4.1
  have P19 := own_to (C := T4.setTop (mkF m 8 #[r_ de, r_ a] [(.ref xq4), (.ref de)])) P4c
  obtain ⟨_, T20, L20, X20, hQ20, P20c⟩ := own_cV (W := 0) (rm_decB_2 l Z a0 hw [] de xq4 k x0 x1 s0 s1 y0 rdt kdt T4.heap n0 Z18 f8 Sdt Vdt f17 f9 f10 f6 h61 hj0 hd0 hs0 hj1 hd1 hs1 hy0) X4 hx hZ (fun _ _ => trivial) hown f17 (own_w hw 87 rfl) (own_w hw 88 rfl) (own_w hw 90 rfl) (own_w hw 89 rfl) (own_w hw 57 rfl) (own_w hw 91 rfl) (by decide) P19 hml rfl [(.ref xq4)] [] rfl rfl rfl pd11 rfl (hb hby d11_8) (rfl : T4.heap = _) (by decide)
  obtain ⟨xq20, kk20, rfl, N20q, K20, f21, f22, f23⟩ := hQ20
  have N20 := Fr.app N4 N20q
  have sz_xq20 : h0.size ≤ xq20 := Nat.le_trans f11.1 f21
  have f27 := f11.trans K20 all0
  have P37 := own_to (C := T20.setTop (mkF m 11 #[r_ de, r_ a] [(.ref xq20)])) P20c
  exact own_out X20 hlk (v := some (.ref xq20)) (own_hv hrt) P37 (fun _ q_ => retOut X20 hx hrt rfl (Or.inr (Or.inr (Or.inr (Or.inr ⟨rfl, rfl, rfl⟩)))) (hb hby d11_11) q_) (rfl : T20.heap = _) ⟨xq20, kk20, rfl, N20, f27, sz_xq20, f22, f23⟩ (by decide)
def Q_addExact_0_2 (Z : State)  (h0 : Heap) (n0 : Nat) (v_ : Option Value) (h : Heap) (L_ : List Loc) : Prop := v_ = some (.int 2) ∧ Fr n0 L_ ∧ h = h0
set_option maxRecDepth 65536 in
set_option maxHeartbeats 40000000 in
theorem rm_addExact_0_2 (l : Launch) (Z : State) (a0 : Array Value) (hw : ∀ d ∈ tables_1, d.before a0 Z = true) (ws : List Jvm.Cond)  (h0 : Heap) (n0 : Nat) (Z0 : n0 ≤ h0.size) :
    own_MF l yM23 (.code yM23 cB23 3 (some .int)) ws ⟨0, 0, 0, 0⟩ #[(.int 0), (.int 2)] Z h0 own_T (Q_addExact_0_2 Z  h0 n0) := by
  refine own_in "java/lang/Math" rfl (Jvm.Free.JP.mathPlain rfl (by decide +kernel)) hisR (fun m => ef23II m (0 : Int32) (2 : Int32)) ?_
  intro p e s m below meth c s₁ A_ hx hby hml hown hnm hrt hlk hZ _ X0 e0 pre0
  have N0 := Fr.nil n0
  have P1 := oS (s₁.setTop (mkF m 11 #[i_ 0, i_ 2, i_ 2] [(.int 0)])) pre0 (by
    intro _ k_
    refine iN_ X0 hx hby d23_0 rfl ?_
    refine iN_ X0 hx hby d23_1 rfl ?_
    refine XS.iadd X0.here hx rfl (hb hby d23_2) rfl ?_
    show Steps p.tables e below (s₁.setTop (mkF m 3 #[i_ 0, i_ 2, u_] [(.int 2)])) _
    refine XS.istoreN X0.here hx rfl (hb hby d23_3) rfl (l' := #[i_ 0, i_ 2, i_ 2]) rfl ?_
    refine iN_ X0 hx hby d23_4 rfl ?_
    refine iN_ X0 hx hby d23_5 rfl ?_
    refine XS.ixor X0.here hx rfl (hb hby d23_6) rfl ?_
    show Steps p.tables e below (s₁.setTop (mkF m 7 #[i_ 0, i_ 2, i_ 2] [(.int 2)])) _
    refine iN_ X0 hx hby d23_7 rfl ?_
    refine iN_ X0 hx hby d23_8 rfl ?_
    refine XS.ixor X0.here hx rfl (hb hby d23_9) rfl ?_
    show Steps p.tables e below (s₁.setTop (mkF m 10 #[i_ 0, i_ 2, i_ 2] [(.int 0), (.int 2)])) _
    refine XS.iand X0.here hx rfl (hb hby d23_10) rfl ?_
    exact k_)
  have P2 := oS (s₁.setTop (mkF m 25 #[i_ 0, i_ 2, i_ 2] [(.int 2)])) P1 (by
    intro _ k_
    refine fY_ X0 hx hby d23_11 (pc := 11) (pc' := 24) ((if0 _ _).trans (flt (by decide : ¬ ((0 : Int32) < (0 : Int32)))).2.1) (by decide) ?_
    refine iN_ X0 hx hby d23_24 rfl ?_
    exact k_)
  exact own_out X0 hlk (v := some (.int 2)) (own_hv hrt) P2 (fun _ q_ => retI X0 hx hrt (hb hby d23_25) q_) e0 ⟨(congrArg (fun z : Int32 => some (Value.int z)) (by decide +kernel)), N0, rfl⟩ (by decide)
theorem d34_45 : own_d cB34 45 (.iload 4) 2 := by decide +kernel
theorem d34_47 : own_d cB34 47 (.iconst 1) 1 := by decide +kernel
theorem d34_48 : own_d cB34 48 (.iadd) 1 := by decide +kernel
def Q_eol_1 (Z : State) (en : Addr) (h0 : Heap) (n0 : Nat) (v_ : Option Value) (h : Heap) (L_ : List Loc) : Prop := v_ = some (.int 2) ∧ Fr n0 L_ ∧ h = h0
set_option maxRecDepth 65536 in
set_option maxHeartbeats 40000000 in
theorem rm_eol_1 (l : Launch) (Z : State) (a0 : Array Value) (hw : ∀ d ∈ tables_1, d.before a0 Z = true) (ws : List Jvm.Cond) (en : Addr) (h0 : Heap) (n0 : Nat) (Z0 : n0 ≤ h0.size) (O : Old Z n0 h0) (Fp : Fld Z h0 en "java/util/Base64$Encoder" "doPadding" "Z" (.int 0)) (Fl : Fld Z h0 en "java/util/Base64$Encoder" "linemax" "I" (.int (-1 : Int32))) (Fe : Fld Z h0 en "java/util/Base64$Encoder" "isURL" "Z" (.int 1)) :
    own_MF l yM34 (.codeWith yM34 cB34 5 (some .int) [(2, 79, 82, 33)]) ws ⟨1, 0, 0, 15⟩ #[(.ref en), (.int 1), (.int 1)] Z h0 own_T (Q_eol_1 Z en h0 n0) := by
  refine own_in "java/util/Base64$Encoder" rfl (plainFor_of_name pn4) hisWith (fun m => ef34RII m en (1 : Int32) (1 : Int32)) ?_
  intro p e s m below meth c s₁ A_ hx hby hml hown hnm hrt hlk hZ _ X0 e0 pre0
  have N0 := Fr.nil n0
  have P1 := oS (s₁.setTop (mkF m 3 #[r_ en, i_ 1, i_ 1, i_ 0, u_] [(.ref en)])) pre0 (by
    intro _ k_
    refine XS.iconst X0.here hx rfl (hb hby d34_0) ?_
    refine XS.istoreN X0.here hx rfl (hb hby d34_1) rfl (l' := #[r_ en, i_ 1, i_ 1, i_ 0, u_]) rfl ?_
    refine aN_ X0 hx hby d34_2 rfl rfl ?_
    exact k_)
  obtain ⟨T2, X2, e2, st2⟩ := getF X0 hx hZ hown (host := "") (Or.inl (own_w hw 130 rfl)) Via.refl e0 Fp (g := (mkF m 3 #[r_ en, i_ 1, i_ 1, i_ 0, u_] [(.ref en)])) rfl rfl (hb hby d34_3)
  have P3 := oS (T2.setTop (mkF m 6 #[r_ en, i_ 1, i_ 1, i_ 0, u_] [(.int 0)])) P1 (fun t_ k_ => st2 t_ k_)
  have P4 := oS (T2.setTop (mkF m 33 #[r_ en, i_ 1, i_ 1, i_ 0, i_ 1] [(.int 0), (.int 4)])) P3 (by
    intro _ k_
    refine fY_ X2 hx hby d34_6 (pc := 6) (pc' := 24) ((if0 _ _).trans (teq (by decide : (0 : Int32) = (0 : Int32))).1) (by decide) ?_
    refine iN_ X2 hx hby d34_24 rfl ?_
    refine XS.iconst X2.here hx rfl (hb hby d34_25) ?_
    refine iremM X2 hx rfl (hb hby d34_26) rfl (by decide) ?_
    show Steps p.tables e below (T2.setTop (mkF m 27 #[r_ en, i_ 1, i_ 1, i_ 0, u_] [(.int 1)])) _
    refine is_ X2 hx hby d34_27 (l' := #[r_ en, i_ 1, i_ 1, i_ 0, i_ 1]) rfl ?_
    refine XS.iconst X2.here hx rfl (hb hby d34_29) ?_
    refine iN_ X2 hx hby d34_30 rfl ?_
    refine XS.iconst X2.here hx rfl (hb hby d34_31) ?_
    refine XS.idiv X2.here hx rfl (hb hby d34_32) rfl (by decide) ?_
    exact k_)
  obtain ⟨_, T5, L5, X5, hQ5, P5c⟩ := own_cS (W := 0) (rm_multiplyExact_4_0 l Z a0 hw []  h0 n0 Z0 ) X2 hx hZ (fun _ _ => trivial) hown (own_w hw 132 rfl) (own_w hw 133 rfl) (own_w hw 134 rfl) (own_w hw 135 rfl) (by decide) P4 hml rfl [(.int 4), (.int 0)] [] rfl rfl rfl pd12 rfl (hb hby d34_33) e2 (by decide)
  obtain ⟨rfl, N5q, e5⟩ := hQ5
  have N5 := Fr.app N0 N5q
  have P6 := own_to (C := T5.setTop (mkF m 36 #[r_ en, i_ 1, i_ 1, i_ 0, i_ 1] [(.int 0)])) P5c
  have P7 := oS (T5.setTop (mkF m 38 #[r_ en, i_ 1, i_ 1, i_ 0, i_ 1] [(.int 1), (.int 0)])) P6 (by
    intro _ k_
    refine il_ X5 hx hby d34_36 rfl ?_
    exact k_)
  have P8 := oS (T5.setTop (mkF m 49 #[r_ en, i_ 1, i_ 1, i_ 0, i_ 1] [(.int 2), (.int 0)])) P7 (by
    intro _ k_
    refine fY_ X5 hx hby d34_38 (pc := 38) (pc' := 45) ((if0 _ _).trans (feq (by decide : ¬ ((1 : Int32) = (0 : Int32)))).2) (by decide) ?_
    refine il_ X5 hx hby d34_45 rfl ?_
    refine XS.iconst X5.here hx rfl (hb hby d34_47) ?_
    refine XS.iadd X5.here hx rfl (hb hby d34_48) rfl ?_
    exact k_)
  obtain ⟨_, T9, L9, X9, hQ9, P9c⟩ := own_cS (W := 0) (rm_addExact_0_2 l Z a0 hw []  h0 n0 Z0 ) X5 hx hZ (fun _ _ => trivial) hown (own_w hw 136 rfl) (own_w hw 137 rfl) (own_w hw 134 rfl) (own_w hw 138 rfl) (by decide) P8 hml rfl [(.int 0), (.int 2)] [] rfl rfl rfl pd12 rfl (hb hby d34_49) e5 (by decide)
  obtain ⟨rfl, N9q, e9⟩ := hQ9
  have N9 := Fr.app N5 N9q
  have P10 := own_to (C := T9.setTop (mkF m 52 #[r_ en, i_ 1, i_ 1, i_ 0, i_ 1] [(.int 2)])) P9c
  have P11 := oS (T9.setTop (mkF m 54 #[r_ en, i_ 1, i_ 1, i_ 2, i_ 1] [(.ref en)])) P10 (by
    intro _ k_
    refine XS.istoreN X9.here hx rfl (hb hby d34_52) rfl (l' := #[r_ en, i_ 1, i_ 1, i_ 2, i_ 1]) rfl ?_
    refine aN_ X9 hx hby d34_53 rfl rfl ?_
    exact k_)
  obtain ⟨T12, X12, e12, st12⟩ := getF X9 hx hZ hown (host := "") (Or.inl (own_w hw 139 rfl)) Via.refl e9 Fl (g := (mkF m 54 #[r_ en, i_ 1, i_ 1, i_ 2, i_ 1] [(.ref en)])) rfl rfl (hb hby d34_54)
  have P13 := oS (T12.setTop (mkF m 57 #[r_ en, i_ 1, i_ 1, i_ 2, i_ 1] [(.int (-1 : Int32))])) P11 (fun t_ k_ => st12 t_ k_)
  have P14 := oS (T12.setTop (mkF m 101 #[r_ en, i_ 1, i_ 1, i_ 2, i_ 1] [(.int 2)])) P13 (by
    intro _ k_
    refine fY_ X12 hx hby d34_57 (pc := 57) (pc' := 79) ((if0 _ _).trans (flt (by decide : ¬ ((0 : Int32) < (-1 : Int32)))).2.2.2) (by decide) ?_
    refine gt_ X12 hx hby d34_79 (pc := 79) (pc' := 100) (by decide) ?_
    refine iN_ X12 hx hby d34_100 rfl ?_
    exact k_)
  exact own_out X12 hlk (v := some (.int 2)) (own_hv hrt) P14 (fun _ q_ => retI X12 hx hrt (hb hby d34_101) q_) e12 ⟨rfl, N9, rfl⟩ (by decide)
theorem d24_195 : own_d cB24 195 (.aload_n 1) 1 := by decide +kernel
theorem d24_196 : own_d cB24 196 (.iload 6) 2 := by decide +kernel
theorem d24_198 : own_d cB24 198 (.iinc 6 1) 3 := by decide +kernel
theorem d24_201 : own_d cB24 201 (.baload) 1 := by decide +kernel
theorem d24_202 : own_d cB24 202 (.sipush 255) 3 := by decide +kernel
theorem d24_205 : own_d cB24 205 (.iand) 1 := by decide +kernel
theorem d24_206 : own_d cB24 206 (.istore 10) 2 := by decide +kernel
theorem d24_208 : own_d cB24 208 (.aload 4) 2 := by decide +kernel
theorem d24_210 : own_d cB24 210 (.iload 9) 2 := by decide +kernel
theorem d24_212 : own_d cB24 212 (.iinc 9 1) 3 := by decide +kernel
theorem d24_215 : own_d cB24 215 (.aload 5) 2 := by decide +kernel
theorem d24_217 : own_d cB24 217 (.iload 10) 2 := by decide +kernel
theorem d24_219 : own_d cB24 219 (.iconst 2) 1 := by decide +kernel
theorem d24_220 : own_d cB24 220 (.ishr) 1 := by decide +kernel
theorem d24_221 : own_d cB24 221 (.caload) 1 := by decide +kernel
theorem d24_222 : own_d cB24 222 (.i2b) 1 := by decide +kernel
theorem d24_223 : own_d cB24 223 (.bastore) 1 := by decide +kernel
theorem d24_224 : own_d cB24 224 (.iload 6) 2 := by decide +kernel
theorem d24_226 : own_d cB24 226 (.iload_n 3) 1 := by decide +kernel
theorem d24_227 : own_d cB24 227 (.if_icmp .ne 52) 3 := by decide +kernel
theorem d24_230 : own_d cB24 230 (.aload 4) 2 := by decide +kernel
theorem d24_232 : own_d cB24 232 (.iload 9) 2 := by decide +kernel
theorem d24_234 : own_d cB24 234 (.iinc 9 1) 3 := by decide +kernel
theorem d24_237 : own_d cB24 237 (.aload 5) 2 := by decide +kernel
theorem d24_239 : own_d cB24 239 (.iload 10) 2 := by decide +kernel
theorem d24_241 : own_d cB24 241 (.iconst 4) 1 := by decide +kernel
theorem d24_242 : own_d cB24 242 (.ishl) 1 := by decide +kernel
theorem d24_243 : own_d cB24 243 (.bipush 63) 2 := by decide +kernel
theorem d24_245 : own_d cB24 245 (.iand) 1 := by decide +kernel
theorem d24_246 : own_d cB24 246 (.caload) 1 := by decide +kernel
theorem d24_247 : own_d cB24 247 (.i2b) 1 := by decide +kernel
theorem d24_248 : own_d cB24 248 (.bastore) 1 := by decide +kernel
theorem d24_249 : own_d cB24 249 (.aload_n 0) 1 := by decide +kernel
theorem d24_250 : own_d cB24 250 (.getfield 21) 3 := by decide +kernel
theorem d24_253 : own_d cB24 253 (.ifCond .eq 99) 3 := by decide +kernel
def Q_enc0_1 (Z : State) (en : Addr) (b : Addr) (k : ClassId) (d : Addr) (kd : ClassId) (y0 : Int32) (v0 : Int32) (v1 : Int32) (x0 : Int32) (x1 : Int32) (ret_ : Addr) (ket : ClassId) (h0 : Heap) (n0 : Nat) (v_ : Option Value) (h : Heap) (L_ : List Loc) : Prop := v_ = some (.int 2) ∧ Fr n0 L_ ∧ Keep h0 h [d] ∧ Arv Z h d kd .byte (2 : Int32) [(.int x0), (.int x1)] (.int 0)
set_option maxRecDepth 65536 in
set_option maxHeartbeats 40000000 in
theorem rm_enc0_1 (l : Launch) (Z : State) (a0 : Array Value) (hw : ∀ d ∈ tables_1, d.before a0 Z = true) (ws : List Jvm.Cond) (en : Addr) (b : Addr) (k : ClassId) (d : Addr) (kd : ClassId) (y0 : Int32) (v0 : Int32) (v1 : Int32) (x0 : Int32) (x1 : Int32) (ret_ : Addr) (ket : ClassId) (h0 : Heap) (n0 : Nat) (Z0 : n0 ≤ h0.size) (O : Old Z n0 h0) (Set : Sta Z Z.heap "java/util/Base64$Encoder" "toBase64URL" "[C" (.ref ret_)) (Vet : Arv Z Z.heap ret_ ket .char (64 : Int32) own_enc (.int 0)) (Fp : Fld Z h0 en "java/util/Base64$Encoder" "doPadding" "Z" (.int 0)) (Fl : Fld Z h0 en "java/util/Base64$Encoder" "linemax" "I" (.int (-1 : Int32))) (Fe : Fld Z h0 en "java/util/Base64$Encoder" "isURL" "Z" (.int 1)) (Vb : Arv Z h0 b k .byte (1 : Int32) [(.int y0)] (.int 0)) (Vd : Arv Z h0 d kd .byte (2 : Int32) [(.int 0), (.int 0)] (.int 0)) (nbd : b ≠ d) (gd : n0 ≤ d) (nen : en ≠ d) (hk0 : ¬ ((y0 &&& 255) >>> ((2 : Int32) &&& 31)) < 0 ∧ ((y0 &&& 255) >>> ((2 : Int32) &&& 31)) < (64 : Int32)) (hv0 : own_enc.getD ((y0 &&& 255) >>> ((2 : Int32) &&& 31)).toNatClampNeg (.int 0) = .int v0) (hz0 : v0.toInt8.toInt32.toInt8.toInt32 = x0) (hk1 : ¬ (((y0 &&& 255) <<< ((4 : Int32) &&& 31)) &&& 63) < 0 ∧ (((y0 &&& 255) <<< ((4 : Int32) &&& 31)) &&& 63) < (64 : Int32)) (hv1 : own_enc.getD (((y0 &&& 255) <<< ((4 : Int32) &&& 31)) &&& 63).toNatClampNeg (.int 0) = .int v1) (hz1 : v1.toInt8.toInt32.toInt8.toInt32 = x1) :
    own_MF l yM24 (.code yM24 cB24 16 (some .int)) ws ⟨0, 0, 0, 0⟩ #[(.ref en), (.ref b), (.int 0), (.int 1), (.ref d)] Z h0 own_T (Q_enc0_1 Z en b k d kd y0 v0 v1 x0 x1 ret_ ket h0 n0) := by
  refine own_in "java/util/Base64$Encoder" rfl (plainFor_of_name pn4) hisR (fun m => ef24RRIIR m en b (0 : Int32) (1 : Int32) d) ?_
  intro p e s m below meth c s₁ A_ hx hby hml hown hnm hrt hlk hZ _ X0 e0 pre0
  have N0 := Fr.nil n0
  have P1 := oS (s₁.setTop (mkF m 1 #[r_ en, r_ b, i_ 0, i_ 1, r_ d, u_, u_, u_, u_, u_, u_, u_, u_, u_, u_, u_] [(.ref en)])) pre0 (by
    intro _ k_
    refine aN_ X0 hx hby d24_0 rfl rfl ?_
    exact k_)
  obtain ⟨T2, X2, e2, st2⟩ := getF X0 hx hZ hown (host := "") (Or.inl (own_w hw 146 rfl)) Via.refl e0 Fe (g := (mkF m 1 #[r_ en, r_ b, i_ 0, i_ 1, r_ d, u_, u_, u_, u_, u_, u_, u_, u_, u_, u_, u_] [(.ref en)])) rfl rfl (hb hby d24_1)
  have P3 := oS (T2.setTop (mkF m 4 #[r_ en, r_ b, i_ 0, i_ 1, r_ d, u_, u_, u_, u_, u_, u_, u_, u_, u_, u_, u_] [(.int 1)])) P1 (fun t_ k_ => st2 t_ k_)
  have P4 := oS (T2.setTop (mkF m 7 #[r_ en, r_ b, i_ 0, i_ 1, r_ d, u_, u_, u_, u_, u_, u_, u_, u_, u_, u_, u_] [])) P3 (by
    intro _ k_
    refine XS.ifNo X2.here hx rfl (hb hby d24_4) rfl ((if0 _ _).trans (feq (by decide : ¬ ((1 : Int32) = (0 : Int32)))).1) ?_
    exact k_)
  obtain ⟨T5, X5, e5, st5⟩ := getS2 X2 hx hZ hown (host := "") (Or.inl (own_w hw 148 rfl)) Via.refl e2 (Set.ext O.2) (g := (mkF m 7 #[r_ en, r_ b, i_ 0, i_ 1, r_ d, u_, u_, u_, u_, u_, u_, u_, u_, u_, u_, u_] [])) rfl (hb hby d24_7)
  have P6 := oS (T5.setTop (mkF m 10 #[r_ en, r_ b, i_ 0, i_ 1, r_ d, u_, u_, u_, u_, u_, u_, u_, u_, u_, u_, u_] [(.ref ret_)])) P4 (fun t_ k_ => st5 t_ k_)
  have P7 := oS (T5.setTop (mkF m 37 #[r_ en, r_ b, i_ 0, i_ 1, r_ d, r_ ret_, i_ 0, i_ 0, i_ 0, u_, u_, u_, u_, u_, u_, u_] [(.ref en)])) P6 (by
    intro _ k_
    refine gt_ X5 hx hby d24_10 (pc := 10) (pc' := 16) (by decide) ?_
    refine XS.astore X5.here hx rfl (hb hby d24_16) rfl rfl (l' := #[r_ en, r_ b, i_ 0, i_ 1, r_ d, r_ ret_, u_, u_, u_, u_, u_, u_, u_, u_, u_, u_]) rfl ?_
    refine iN_ X5 hx hby d24_18 rfl ?_
    refine is_ X5 hx hby d24_19 (l' := #[r_ en, r_ b, i_ 0, i_ 1, r_ d, r_ ret_, i_ 0, u_, u_, u_, u_, u_, u_, u_, u_, u_]) rfl ?_
    refine iN_ X5 hx hby d24_21 rfl ?_
    refine iN_ X5 hx hby d24_22 rfl ?_
    refine XS.isub X5.here hx rfl (hb hby d24_23) rfl ?_
    show Steps p.tables e below (T5.setTop (mkF m 24 #[r_ en, r_ b, i_ 0, i_ 1, r_ d, r_ ret_, i_ 0, u_, u_, u_, u_, u_, u_, u_, u_, u_] [(.int 1)])) _
    refine XS.iconst X5.here hx rfl (hb hby d24_24) ?_
    refine XS.idiv X5.here hx rfl (hb hby d24_25) rfl (by decide) ?_
    show Steps p.tables e below (T5.setTop (mkF m 26 #[r_ en, r_ b, i_ 0, i_ 1, r_ d, r_ ret_, i_ 0, u_, u_, u_, u_, u_, u_, u_, u_, u_] [(.int 0)])) _
    refine XS.iconst X5.here hx rfl (hb hby d24_26) ?_
    refine XS.imul X5.here hx rfl (hb hby d24_27) rfl ?_
    show Steps p.tables e below (T5.setTop (mkF m 28 #[r_ en, r_ b, i_ 0, i_ 1, r_ d, r_ ret_, i_ 0, u_, u_, u_, u_, u_, u_, u_, u_, u_] [(.int 0)])) _
    refine is_ X5 hx hby d24_28 (l' := #[r_ en, r_ b, i_ 0, i_ 1, r_ d, r_ ret_, i_ 0, i_ 0, u_, u_, u_, u_, u_, u_, u_, u_]) rfl ?_
    refine iN_ X5 hx hby d24_30 rfl ?_
    refine il_ X5 hx hby d24_31 rfl ?_
    refine XS.iadd X5.here hx rfl (hb hby d24_33) rfl ?_
    show Steps p.tables e below (T5.setTop (mkF m 34 #[r_ en, r_ b, i_ 0, i_ 1, r_ d, r_ ret_, i_ 0, i_ 0, u_, u_, u_, u_, u_, u_, u_, u_] [(.int 0)])) _
    refine is_ X5 hx hby d24_34 (l' := #[r_ en, r_ b, i_ 0, i_ 1, r_ d, r_ ret_, i_ 0, i_ 0, i_ 0, u_, u_, u_, u_, u_, u_, u_]) rfl ?_
    refine aN_ X5 hx hby d24_36 rfl rfl ?_
    exact k_)
  obtain ⟨T8, X8, e8, st8⟩ := getF X5 hx hZ hown (host := "") (Or.inl (own_w hw 139 rfl)) Via.refl e5 Fl (g := (mkF m 37 #[r_ en, r_ b, i_ 0, i_ 1, r_ d, r_ ret_, i_ 0, i_ 0, i_ 0, u_, u_, u_, u_, u_, u_, u_] [(.ref en)])) rfl rfl (hb hby d24_37)
  have P9 := oS (T8.setTop (mkF m 40 #[r_ en, r_ b, i_ 0, i_ 1, r_ d, r_ ret_, i_ 0, i_ 0, i_ 0, u_, u_, u_, u_, u_, u_, u_] [(.int (-1 : Int32))])) P7 (fun t_ k_ => st8 t_ k_)
  have P10 := oS (T8.setTop (mkF m 73 #[r_ en, r_ b, i_ 0, i_ 1, r_ d, r_ ret_, i_ 0, i_ 0, i_ 0, i_ 0, u_, u_, u_, u_, u_, u_] [(.int 0), (.int 0)])) P9 (by
    intro _ k_
    refine fY_ X8 hx hby d24_40 (pc := 40) (pc' := 66) ((if0 _ _).trans (flt (by decide : ¬ ((0 : Int32) < (-1 : Int32)))).2.2.2) (by decide) ?_
    refine XS.iconst X8.here hx rfl (hb hby d24_66) ?_
    refine is_ X8 hx hby d24_67 (l' := #[r_ en, r_ b, i_ 0, i_ 1, r_ d, r_ ret_, i_ 0, i_ 0, i_ 0, i_ 0, u_, u_, u_, u_, u_, u_]) rfl ?_
    refine il_ X8 hx hby d24_69 rfl ?_
    refine il_ X8 hx hby d24_71 rfl ?_
    exact k_)
  have P11 := oS (T8.setTop (mkF m 192 #[r_ en, r_ b, i_ 0, i_ 1, r_ d, r_ ret_, i_ 0, i_ 0, i_ 0, i_ 0, u_, u_, u_, u_, u_, u_] [(.int 1), (.int 0)])) P10 (by
    intro _ k_
    refine cY_ X8 hx hby d24_73 (pc := 73) (pc' := 189) (flt (by decide : ¬ ((0 : Int32) < (0 : Int32)))).2.1 (by decide) ?_
    refine il_ X8 hx hby d24_189 rfl ?_
    refine iN_ X8 hx hby d24_191 rfl ?_
    exact k_)
  have P12 := oS (T8.setTop (mkF m 201 #[r_ en, r_ b, i_ 0, i_ 1, r_ d, r_ ret_, i_ 1, i_ 0, i_ 0, i_ 0, u_, u_, u_, u_, u_, u_] [(.int 0), (.ref b)])) P11 (by
    intro _ k_
    refine XS.icmpNo X8.here hx rfl (hb hby d24_192) rfl (tlt (by decide : (0 : Int32) < (1 : Int32))).2.1 ?_
    refine aN_ X8 hx hby d24_195 rfl rfl ?_
    refine il_ X8 hx hby d24_196 rfl ?_
    refine XS.iinc X8.here hx rfl (hb hby d24_198) rfl (l' := #[r_ en, r_ b, i_ 0, i_ 1, r_ d, r_ ret_, i_ 1, i_ 0, i_ 0, i_ 0, u_, u_, u_, u_, u_, u_]) rfl ?_
    exact k_)
  obtain ⟨cl13, Ar13, q13, S13, M13, H13, G13⟩ := id Vb
  have hin13 := inb_of S13 (by decide : ¬ (0 : Int32) < 0 ∧ (0 : Int32) < (1 : Int32))
  have hat13 := Has.at H13 hin13 (v := .int y0) rfl
  have P14 := oS (T8.setTop (mkF m 202 #[r_ en, r_ b, i_ 0, i_ 1, r_ d, r_ ret_, i_ 1, i_ 0, i_ 0, i_ 0, u_, u_, u_, u_, u_, u_] [(.int y0)])) P12 (by
    intro _ k_
    refine X8.baloadBytes hx (j := (0 : Int32)) (v := (.int y0)) (by rw [e8]; exact Ar13.1) (State.isArrayOf_alike hZ.alike Ar13.2.1) Ar13.2.2 hin13 hat13 (g := (mkF m 201 #[r_ en, r_ b, i_ 0, i_ 1, r_ d, r_ ret_, i_ 1, i_ 0, i_ 0, i_ 0, u_, u_, u_, u_, u_, u_] [(.int 0), (.ref b)])) rfl rfl (hb hby d24_201) _ ?_
    exact k_)
  have P15 := oS (T8.setTop (mkF m 221 #[r_ en, r_ b, i_ 0, i_ 1, r_ d, r_ ret_, i_ 1, i_ 0, i_ 0, i_ 1, i_ (y0 &&& 255), u_, u_, u_, u_, u_] [(.int ((y0 &&& 255) >>> ((2 : Int32) &&& 31))), (.ref ret_), (.int 0), (.ref d)])) P14 (by
    intro _ k_
    refine XS.sipush X8.here hx rfl (hb hby d24_202) ?_
    refine XS.iand X8.here hx rfl (hb hby d24_205) rfl ?_
    refine is_ X8 hx hby d24_206 (l' := #[r_ en, r_ b, i_ 0, i_ 1, r_ d, r_ ret_, i_ 1, i_ 0, i_ 0, i_ 0, i_ (y0 &&& 255), u_, u_, u_, u_, u_]) rfl ?_
    refine a_ X8 hx hby d24_208 rfl rfl ?_
    refine il_ X8 hx hby d24_210 rfl ?_
    refine XS.iinc X8.here hx rfl (hb hby d24_212) rfl (l' := #[r_ en, r_ b, i_ 0, i_ 1, r_ d, r_ ret_, i_ 1, i_ 0, i_ 0, i_ 1, i_ (y0 &&& 255), u_, u_, u_, u_, u_]) rfl ?_
    show Steps p.tables e below (T8.setTop (mkF m 215 #[r_ en, r_ b, i_ 0, i_ 1, r_ d, r_ ret_, i_ 1, i_ 0, i_ 0, i_ 1, i_ (y0 &&& 255), u_, u_, u_, u_, u_] [(.int 0), (.ref d)])) _
    refine a_ X8 hx hby d24_215 rfl rfl ?_
    refine il_ X8 hx hby d24_217 rfl ?_
    refine XS.iconst X8.here hx rfl (hb hby d24_219) ?_
    refine XS.ishr X8.here hx rfl (hb hby d24_220) rfl ?_
    exact k_)
  obtain ⟨cl16, Ar16, q16, S16, M16, H16, G16⟩ := Vet.ext O.2
  have hin16 := inb_of S16 hk0
  have hat16 := Has.at H16 hin16 hv0
  have P17 := oS (T8.setTop (mkF m 222 #[r_ en, r_ b, i_ 0, i_ 1, r_ d, r_ ret_, i_ 1, i_ 0, i_ 0, i_ 1, i_ (y0 &&& 255), u_, u_, u_, u_, u_] [(.int v0), (.int 0), (.ref d)])) P15 (by
    intro _ k_
    refine X8.caload hx (j := ((y0 &&& 255) >>> ((2 : Int32) &&& 31))) (v := (.int v0)) (by rw [e8]; exact Ar16.1) (State.isArrayOf_alike hZ.alike Ar16.2.1) Ar16.2.2 hin16 hat16 (g := (mkF m 221 #[r_ en, r_ b, i_ 0, i_ 1, r_ d, r_ ret_, i_ 1, i_ 0, i_ 0, i_ 1, i_ (y0 &&& 255), u_, u_, u_, u_, u_] [(.int ((y0 &&& 255) >>> ((2 : Int32) &&& 31))), (.ref ret_), (.int 0), (.ref d)])) rfl rfl (hb hby d24_221) _ ?_
    exact k_)
  have P18 := oS (T8.setTop (mkF m 223 #[r_ en, r_ b, i_ 0, i_ 1, r_ d, r_ ret_, i_ 1, i_ 0, i_ 0, i_ 1, i_ (y0 &&& 255), u_, u_, u_, u_, u_] [(.int (v0.toInt8.toInt32)), (.int 0), (.ref d)])) P17 (by
    intro _ k_
    refine XS.i2b X8.here hx rfl (hb hby d24_222) rfl ?_
    exact k_)
  obtain ⟨cl19, Ar19, q19, S19, M19, H19, G19⟩ := id Vd
  obtain ⟨T20, h20, X20, e20, W20, st20⟩ := stB X8 hx hZ e8 Ar19 (j := (0 : Int32)) (inb_of S19 (by decide : ¬ (0 : Int32) < 0 ∧ (0 : Int32) < (2 : Int32))) (g := (mkF m 223 #[r_ en, r_ b, i_ 0, i_ 1, r_ d, r_ ret_, i_ 1, i_ 0, i_ 0, i_ 1, i_ (y0 &&& 255), u_, u_, u_, u_, u_] [(.int (v0.toInt8.toInt32)), (.int 0), (.ref d)])) rfl rfl (hb hby d24_223)
  have f21 := O.wr W20 gd
  have f22 := Fp.other W20 (Or.inl nen)
  have f27 := (Keep.refl h0 [d]).wr W20 (Or.inl (List.mem_of_getElem? (i := 0) rfl))
  have V20 : Arv Z h20 d kd .byte (2 : Int32) [(.int (v0.toInt8.toInt32).toInt8.toInt32), (.int 0)] (.int 0) := Arv.set Ar19 q19 S19 M19 H19 G19 (fits_nar_byte _) W20 0 rfl (Nat.le_of_ble_eq_true rfl)
  have N20 := Fr.snoc X20 N0 gd
  have P29 := oS (T20.setTop (mkF m 224 #[r_ en, r_ b, i_ 0, i_ 1, r_ d, r_ ret_, i_ 1, i_ 0, i_ 0, i_ 1, i_ (y0 &&& 255), u_, u_, u_, u_, u_] [])) P18 (fun t_ k_ => st20 t_ k_)
  have P30 := oS (T20.setTop (mkF m 227 #[r_ en, r_ b, i_ 0, i_ 1, r_ d, r_ ret_, i_ 1, i_ 0, i_ 0, i_ 1, i_ (y0 &&& 255), u_, u_, u_, u_, u_] [(.int 1), (.int 1)])) P29 (by
    intro _ k_
    refine il_ X20 hx hby d24_224 rfl ?_
    refine iN_ X20 hx hby d24_226 rfl ?_
    exact k_)
  have P31 := oS (T20.setTop (mkF m 246 #[r_ en, r_ b, i_ 0, i_ 1, r_ d, r_ ret_, i_ 1, i_ 0, i_ 0, i_ 2, i_ (y0 &&& 255), u_, u_, u_, u_, u_] [(.int (((y0 &&& 255) <<< ((4 : Int32) &&& 31)) &&& 63)), (.ref ret_), (.int 1), (.ref d)])) P30 (by
    intro _ k_
    refine XS.icmpNo X20.here hx rfl (hb hby d24_227) rfl (teq (by decide : (1 : Int32) = (1 : Int32))).2 ?_
    refine a_ X20 hx hby d24_230 rfl rfl ?_
    refine il_ X20 hx hby d24_232 rfl ?_
    refine XS.iinc X20.here hx rfl (hb hby d24_234) rfl (l' := #[r_ en, r_ b, i_ 0, i_ 1, r_ d, r_ ret_, i_ 1, i_ 0, i_ 0, i_ 2, i_ (y0 &&& 255), u_, u_, u_, u_, u_]) rfl ?_
    show Steps p.tables e below (T20.setTop (mkF m 237 #[r_ en, r_ b, i_ 0, i_ 1, r_ d, r_ ret_, i_ 1, i_ 0, i_ 0, i_ 2, i_ (y0 &&& 255), u_, u_, u_, u_, u_] [(.int 1), (.ref d)])) _
    refine a_ X20 hx hby d24_237 rfl rfl ?_
    refine il_ X20 hx hby d24_239 rfl ?_
    refine XS.iconst X20.here hx rfl (hb hby d24_241) ?_
    refine XS.ishl X20.here hx rfl (hb hby d24_242) rfl ?_
    refine XS.bipush X20.here hx rfl (hb hby d24_243) ?_
    refine XS.iand X20.here hx rfl (hb hby d24_245) rfl ?_
    exact k_)
  obtain ⟨cl32, Ar32, q32, S32, M32, H32, G32⟩ := Vet.ext f21.2
  have hin32 := inb_of S32 hk1
  have hat32 := Has.at H32 hin32 hv1
  have P33 := oS (T20.setTop (mkF m 247 #[r_ en, r_ b, i_ 0, i_ 1, r_ d, r_ ret_, i_ 1, i_ 0, i_ 0, i_ 2, i_ (y0 &&& 255), u_, u_, u_, u_, u_] [(.int v1), (.int 1), (.ref d)])) P31 (by
    intro _ k_
    refine X20.caload hx (j := (((y0 &&& 255) <<< ((4 : Int32) &&& 31)) &&& 63)) (v := (.int v1)) (by rw [e20]; exact Ar32.1) (State.isArrayOf_alike hZ.alike Ar32.2.1) Ar32.2.2 hin32 hat32 (g := (mkF m 246 #[r_ en, r_ b, i_ 0, i_ 1, r_ d, r_ ret_, i_ 1, i_ 0, i_ 0, i_ 2, i_ (y0 &&& 255), u_, u_, u_, u_, u_] [(.int (((y0 &&& 255) <<< ((4 : Int32) &&& 31)) &&& 63)), (.ref ret_), (.int 1), (.ref d)])) rfl rfl (hb hby d24_246) _ ?_
    exact k_)
  have P34 := oS (T20.setTop (mkF m 248 #[r_ en, r_ b, i_ 0, i_ 1, r_ d, r_ ret_, i_ 1, i_ 0, i_ 0, i_ 2, i_ (y0 &&& 255), u_, u_, u_, u_, u_] [(.int (v1.toInt8.toInt32)), (.int 1), (.ref d)])) P33 (by
    intro _ k_
    refine XS.i2b X20.here hx rfl (hb hby d24_247) rfl ?_
    exact k_)
  obtain ⟨cl35, Ar35, q35, S35, M35, H35, G35⟩ := id V20
  obtain ⟨T36, h36, X36, e36, W36, st36⟩ := stB X20 hx hZ e20 Ar35 (j := (1 : Int32)) (inb_of S35 (by decide : ¬ (1 : Int32) < 0 ∧ (1 : Int32) < (2 : Int32))) (g := (mkF m 248 #[r_ en, r_ b, i_ 0, i_ 1, r_ d, r_ ret_, i_ 1, i_ 0, i_ 0, i_ 2, i_ (y0 &&& 255), u_, u_, u_, u_, u_] [(.int (v1.toInt8.toInt32)), (.int 1), (.ref d)])) rfl rfl (hb hby d24_248)
  have f38 := f22.other W36 (Or.inl nen)
  have f43 := f27.wr W36 (Or.inl (List.mem_of_getElem? (i := 0) rfl))
  have V36 : Arv Z h36 d kd .byte (2 : Int32) [(.int (v0.toInt8.toInt32).toInt8.toInt32), (.int (v1.toInt8.toInt32).toInt8.toInt32)] (.int 0) := Arv.set Ar35 q35 S35 M35 H35 G35 (fits_nar_byte _) W36 1 rfl (Nat.le_of_ble_eq_true rfl)
  have N36 := Fr.snoc X36 N20 gd
  have P45 := oS (T36.setTop (mkF m 249 #[r_ en, r_ b, i_ 0, i_ 1, r_ d, r_ ret_, i_ 1, i_ 0, i_ 0, i_ 2, i_ (y0 &&& 255), u_, u_, u_, u_, u_] [])) P34 (fun t_ k_ => st36 t_ k_)
  have P46 := oS (T36.setTop (mkF m 250 #[r_ en, r_ b, i_ 0, i_ 1, r_ d, r_ ret_, i_ 1, i_ 0, i_ 0, i_ 2, i_ (y0 &&& 255), u_, u_, u_, u_, u_] [(.ref en)])) P45 (by
    intro _ k_
    refine aN_ X36 hx hby d24_249 rfl rfl ?_
    exact k_)
  obtain ⟨T47, X47, e47, st47⟩ := getF X36 hx hZ hown (host := "") (Or.inl (own_w hw 130 rfl)) Via.refl e36 f38 (g := (mkF m 250 #[r_ en, r_ b, i_ 0, i_ 1, r_ d, r_ ret_, i_ 1, i_ 0, i_ 0, i_ 2, i_ (y0 &&& 255), u_, u_, u_, u_, u_] [(.ref en)])) rfl rfl (hb hby d24_250)
  have P48 := oS (T47.setTop (mkF m 253 #[r_ en, r_ b, i_ 0, i_ 1, r_ d, r_ ret_, i_ 1, i_ 0, i_ 0, i_ 2, i_ (y0 &&& 255), u_, u_, u_, u_, u_] [(.int 0)])) P46 (fun t_ k_ => st47 t_ k_)
  have P49 := oS (T47.setTop (mkF m 354 #[r_ en, r_ b, i_ 0, i_ 1, r_ d, r_ ret_, i_ 1, i_ 0, i_ 0, i_ 2, i_ (y0 &&& 255), u_, u_, u_, u_, u_] [(.int 2)])) P48 (by
    intro _ k_
    refine fY_ X47 hx hby d24_253 (pc := 253) (pc' := 352) ((if0 _ _).trans (teq (by decide : (0 : Int32) = (0 : Int32))).1) (by decide) ?_
    refine il_ X47 hx hby d24_352 rfl ?_
    exact k_)
  rw [hz0, hz1] at V36
  exact own_out X47 hlk (v := some (.int 2)) (own_hv hrt) P49 (fun _ q_ => retI X47 hx hrt (hb hby d24_354) q_) e47 ⟨rfl, N36, f43, V36⟩ (by decide)
def Q_enc_1 (Z : State) (en : Addr) (b : Addr) (k : ClassId) (y0 : Int32) (v0 : Int32) (v1 : Int32) (x0 : Int32) (x1 : Int32) (ret_ : Addr) (ket : ClassId) (h0 : Heap) (n0 : Nat) (v_ : Option Value) (h : Heap) (L_ : List Loc) : Prop := ∃ (xq : Addr) (kk : ClassId), v_ = some (.ref xq) ∧ Fr n0 L_ ∧ Keep h0 h [] ∧ h0.size ≤ xq ∧ Arv Z h xq kk .byte (2 : Int32) [(.int x0), (.int x1)] (.int 0) ∧ Exa Z h xq "[B"
set_option maxRecDepth 65536 in
set_option maxHeartbeats 40000000 in
theorem rm_enc_1 (l : Launch) (Z : State) (a0 : Array Value) (hw : ∀ d ∈ tables_1, d.before a0 Z = true) (ws : List Jvm.Cond) (en : Addr) (b : Addr) (k : ClassId) (y0 : Int32) (v0 : Int32) (v1 : Int32) (x0 : Int32) (x1 : Int32) (ret_ : Addr) (ket : ClassId) (h0 : Heap) (n0 : Nat) (Z0 : n0 ≤ h0.size) (O : Old Z n0 h0) (Set : Sta Z Z.heap "java/util/Base64$Encoder" "toBase64URL" "[C" (.ref ret_)) (Vet : Arv Z Z.heap ret_ ket .char (64 : Int32) own_enc (.int 0)) (Ee : Exa Z h0 en "java/util/Base64$Encoder") (Fp : Fld Z h0 en "java/util/Base64$Encoder" "doPadding" "Z" (.int 0)) (Fl : Fld Z h0 en "java/util/Base64$Encoder" "linemax" "I" (.int (-1 : Int32))) (Fe : Fld Z h0 en "java/util/Base64$Encoder" "isURL" "Z" (.int 1)) (Vb : Arv Z h0 b k .byte (1 : Int32) [(.int y0)] (.int 0)) (hk0 : ¬ ((y0 &&& 255) >>> ((2 : Int32) &&& 31)) < 0 ∧ ((y0 &&& 255) >>> ((2 : Int32) &&& 31)) < (64 : Int32)) (hv0 : own_enc.getD ((y0 &&& 255) >>> ((2 : Int32) &&& 31)).toNatClampNeg (.int 0) = .int v0) (hz0 : v0.toInt8.toInt32.toInt8.toInt32 = x0) (hk1 : ¬ (((y0 &&& 255) <<< ((4 : Int32) &&& 31)) &&& 63) < 0 ∧ (((y0 &&& 255) <<< ((4 : Int32) &&& 31)) &&& 63) < (64 : Int32)) (hv1 : own_enc.getD (((y0 &&& 255) <<< ((4 : Int32) &&& 31)) &&& 63).toNatClampNeg (.int 0) = .int v1) (hz1 : v1.toInt8.toInt32.toInt8.toInt32 = x1) :
    own_MF l yM21 (.code yM21 cB21 5 (some (.array .byte))) ws ⟨2, 1, 2, 31⟩ #[(.ref en), (.ref b)] Z h0 own_T (Q_enc_1 Z en b k y0 v0 v1 x0 x1 ret_ ket h0 n0) := by
  refine own_in "java/util/Base64$Encoder" rfl (plainFor_of_name pn4) hisR (fun m => ef21RR m en b) ?_
  intro p e s m below meth c s₁ A_ hx hby hml hown hnm hrt hlk hZ _ X0 e0 pre0
  have N0 := Fr.nil n0
  have P1 := oS (s₁.setTop (mkF m 2 #[r_ en, r_ b, u_, u_, u_] [(.ref b), (.ref en)])) pre0 (by
    intro _ k_
    refine aN_ X0 hx hby d21_0 rfl rfl ?_
    refine aN_ X0 hx hby d21_1 rfl rfl ?_
    exact k_)
  obtain ⟨cl2, Ar2, q2, S2, M2, H2, G2⟩ := id Vb
  have P3 := oS (s₁.setTop (mkF m 3 #[r_ en, r_ b, u_, u_, u_] [(.int 1), (.ref en)])) P1 (by
    intro _ k_
    refine X0.arraylength hx (by rw [e0]; exact Ar2.1) (State.isArrayOf_alike hZ.alike Ar2.2.1) (g := (mkF m 2 #[r_ en, r_ b, u_, u_, u_] [(.ref b), (.ref en)])) rfl rfl (hb hby d21_2) _ ?_
    rw [len_of S2 M2]
    exact k_)
  have P4 := oS (s₁.setTop (mkF m 4 #[r_ en, r_ b, u_, u_, u_] [(.int 1), (.int 1), (.ref en)])) P3 (by
    intro _ k_
    refine XS.iconst X0.here hx rfl (hb hby d21_3) ?_
    exact k_)
  obtain ⟨_, T5, L5, X5, hQ5, P5c⟩ := own_cPH (W := 0) (rm_eol_1 l Z a0 hw [] en h0 n0 Z0 O Fp Fl Fe) X0 hx hZ (fun _ _ => trivial) hown Ee (own_w hw 125 rfl) (own_w hw 127 rfl) (own_w hw 128 rfl) (own_w hw 126 rfl) (own_w hw 118 rfl) (own_w hw 129 rfl) (by decide) P4 hml rfl [(.int 1), (.int 1)] [] rfl rfl rfl pd13 rfl (hb hby d21_4) e0 (by decide)
  obtain ⟨rfl, N5q, e5⟩ := hQ5
  have N5 := Fr.app N0 N5q
  have P6 := own_to (C := T5.setTop (mkF m 7 #[r_ en, r_ b, u_, u_, u_] [(.int 2)])) P5c
  have P7 := oS (T5.setTop (mkF m 9 #[r_ en, r_ b, i_ 2, u_, u_] [(.int 2)])) P6 (by
    intro _ k_
    refine XS.istoreN X5.here hx rfl (hb hby d21_7) rfl (l' := #[r_ en, r_ b, i_ 2, u_, u_]) rfl ?_
    refine iN_ X5 hx hby d21_8 rfl ?_
    exact k_)
  obtain ⟨T8, h8, k8, X8, e8, E8, A8, EA8, st8⟩ := newPE X5 hx hZ (own_w hw 23 rfl) e5 (g := (mkF m 9 #[r_ en, r_ b, i_ 2, u_, u_] [(.int 2)])) rfl (hb hby d21_9) rfl (by decide) (cap := 2) (by decide) (by decide) (by decide) (by decide) (ad := "[B") (by decide +kernel)
  obtain ⟨b8, g8⟩ : ∃ z, z = h0.size := ⟨_, rfl⟩
  rw [← g8] at A8 EA8 st8
  have ne_en_b8 : en ≠ b8 := Nat.ne_of_lt (Nat.lt_of_lt_of_le Fp.lt (Nat.le_of_eq g8.symm))
  have ne_b_b8 : b ≠ b8 := Nat.ne_of_lt (Nat.lt_of_lt_of_le Vb.lt (Nat.le_of_eq g8.symm))
  have g_b8 : n0 ≤ b8 := Nat.le_trans Z0 (Nat.le_of_eq g8.symm)
  have sz_b8 : h0.size ≤ b8 := Nat.le_trans (Keep.refl h0 []).1 (Nat.le_of_eq g8.symm)
  have f9 := O.ext E8
  have f10 := Fp.ext E8
  have f11 := Fl.ext E8
  have f12 := Fe.ext E8
  have f13 := (Keep.refl h0 []).ext E8
  have f14 := Vb.ext E8
  have f15 := Ee.ext E8
  have Z16 : n0 ≤ h8.size := Nat.le_trans Z0 E8.1
  have V8 : Arv Z h8 b8 k8 .byte (2 : Int32) [(.int 0), (.int 0)] (.int 0) := (Arv.new A8 (by decide)).pad (pad_rep [] _ 2)
  have P17 := oS (T8.setTop (mkF m 11 #[r_ en, r_ b, i_ 2, u_, u_] [(.ref b8)])) P7 (fun t_ k_ => st8 t_ k_)
  have P18 := oS (T8.setTop (mkF m 16 #[r_ en, r_ b, i_ 2, r_ b8, u_] [(.ref b), (.int 0), (.ref b), (.ref en)])) P17 (by
    intro _ k_
    refine XS.astoreN X8.here hx rfl (hb hby d21_11) rfl rfl (l' := #[r_ en, r_ b, i_ 2, r_ b8, u_]) rfl ?_
    refine aN_ X8 hx hby d21_12 rfl rfl ?_
    refine aN_ X8 hx hby d21_13 rfl rfl ?_
    refine XS.iconst X8.here hx rfl (hb hby d21_14) ?_
    refine aN_ X8 hx hby d21_15 rfl rfl ?_
    exact k_)
  obtain ⟨cl19, Ar19, q19, S19, M19, H19, G19⟩ := id f14
  have P20 := oS (T8.setTop (mkF m 17 #[r_ en, r_ b, i_ 2, r_ b8, u_] [(.int 1), (.int 0), (.ref b), (.ref en)])) P18 (by
    intro _ k_
    refine X8.arraylength hx (by rw [e8]; exact Ar19.1) (State.isArrayOf_alike hZ.alike Ar19.2.1) (g := (mkF m 16 #[r_ en, r_ b, i_ 2, r_ b8, u_] [(.ref b), (.int 0), (.ref b), (.ref en)])) rfl rfl (hb hby d21_16) _ ?_
    rw [len_of S19 M19]
    exact k_)
  have P21 := oS (T8.setTop (mkF m 18 #[r_ en, r_ b, i_ 2, r_ b8, u_] [(.ref b8), (.int 1), (.int 0), (.ref b), (.ref en)])) P20 (by
    intro _ k_
    refine aN_ X8 hx hby d21_17 rfl rfl ?_
    exact k_)
  obtain ⟨_, T22, L22, X22, hQ22, P22c⟩ := own_cP (W := 0) (rm_enc0_1 l Z a0 hw [] en b k b8 k8 y0 v0 v1 x0 x1 ret_ ket h8 n0 Z16 f9 Set Vet f10 f11 f12 f14 V8 ne_b_b8 g_b8 ne_en_b8 hk0 hv0 hz0 hk1 hv1 hz1) X8 hx hZ (fun _ _ => trivial) hown f15 (own_w hw 141 rfl) (own_w hw 143 rfl) (own_w hw 144 rfl) (own_w hw 142 rfl) (own_w hw 118 rfl) (own_w hw 145 rfl) (by decide) P21 hml rfl [(.ref b), (.int 0), (.int 1), (.ref b8)] [] rfl rfl rfl pd9 rfl (hb hby d21_18) e8 (by decide)
  obtain ⟨rfl, N22q, K22, f23⟩ := hQ22
  have N22 := Fr.app N5 N22q
  have f28 := f13.trans K22 (allS (Or.inr sz_b8) all0)
  have f32 := EA8.keep K22
  have P34 := own_to (C := T22.setTop (mkF m 21 #[r_ en, r_ b, i_ 2, r_ b8, u_] [(.int 2)])) P22c
  have P35 := oS (T22.setTop (mkF m 26 #[r_ en, r_ b, i_ 2, r_ b8, i_ 2] [(.ref b8), (.int 2)])) P34 (by
    intro _ k_
    refine is_ X22 hx hby d21_21 (l' := #[r_ en, r_ b, i_ 2, r_ b8, i_ 2]) rfl ?_
    refine il_ X22 hx hby d21_23 rfl ?_
    refine aN_ X22 hx hby d21_25 rfl rfl ?_
    exact k_)
  obtain ⟨cl36, Ar36, q36, S36, M36, H36, G36⟩ := id f23
  have P37 := oS (T22.setTop (mkF m 27 #[r_ en, r_ b, i_ 2, r_ b8, i_ 2] [(.int 2), (.int 2)])) P35 (by
    intro _ k_
    refine X22.arraylength hx Ar36.1 (State.isArrayOf_alike hZ.alike Ar36.2.1) (g := (mkF m 26 #[r_ en, r_ b, i_ 2, r_ b8, i_ 2] [(.ref b8), (.int 2)])) rfl rfl (hb hby d21_26) _ ?_
    rw [len_of S36 M36]
    exact k_)
  have P38 := oS (T22.setTop (mkF m 38 #[r_ en, r_ b, i_ 2, r_ b8, i_ 2] [(.ref b8)])) P37 (by
    intro _ k_
    refine cY_ X22 hx hby d21_27 (pc := 27) (pc' := 37) (teq (by decide : (2 : Int32) = (2 : Int32))).1 (by decide) ?_
    refine aN_ X22 hx hby d21_37 rfl rfl ?_
    exact k_)
  exact own_out X22 hlk (v := some (.ref b8)) (own_hv hrt) P38 (fun _ q_ => retOut X22 hx hrt rfl (Or.inr (Or.inr (Or.inr (Or.inr ⟨rfl, rfl, rfl⟩)))) (hb hby d21_38) q_) (rfl : T22.heap = _) ⟨b8, k8, rfl, N22, f28, sz_b8, f23, f32⟩ (by decide)
abbrev cB30 := jdk_65_method_132_code
abbrev yM30 : MethodName := ⟨"java/util/Arrays", "copyOfRange", "([BII)[B"⟩
theorem d30_0 : own_d cB30 0 (.iload_n 1) 1 := by decide +kernel
theorem d30_1 : own_d cB30 1 (.ifCond .ne 9) 3 := by decide +kernel
theorem d30_4 : own_d cB30 4 (.iload_n 2) 1 := by decide +kernel
theorem d30_5 : own_d cB30 5 (.aload_n 0) 1 := by decide +kernel
theorem d30_6 : own_d cB30 6 (.arraylength) 1 := by decide +kernel
theorem d30_7 : own_d cB30 7 (.if_icmp .eq 10) 3 := by decide +kernel
theorem d30_17 : own_d cB30 17 (.aload_n 0) 1 := by decide +kernel
theorem d30_18 : own_d cB30 18 (.invokevirtual 310) 3 := by decide +kernel
theorem d30_21 : own_d cB30 21 (.checkcast 311) 3 := by decide +kernel
theorem d30_24 : own_d cB30 24 (.areturn) 1 := by decide +kernel
theorem ef30RII (m : MethodId) (x0 : Addr) (x1 : Int32) (x2 : Int32) : entryFrame m #[(.ref x0), (.int x1), (.int x2)] 3 = mkF m 0 #[r_ x0, i_ x1, i_ x2] [] := by first | (simp [entryFrame, mkF, argsToLocals, Value.category]; done) | rfl
def Q_cor (Z : State) (b : Addr) (k : ClassId) (zl : Int32) (vs : List Value) (h0 : Heap) (n0 : Nat) (v_ : Option Value) (h : Heap) (L_ : List Loc) : Prop := ∃ (xq : Addr), v_ = some (.ref xq) ∧ Fr n0 L_ ∧ Keep h0 h [] ∧ h0.size ≤ xq ∧ Arv Z h xq k .byte zl vs (.int 0) ∧ Exa Z h xq "[B"
theorem pn8 : plainName "java/util/Arrays" = true := by first | (simp [plainName, overriddenIn]; done) | decide +kernel
set_option maxRecDepth 65536 in
set_option maxHeartbeats 40000000 in
theorem rm_cor (l : Launch) (Z : State) (a0 : Array Value) (hw : ∀ d ∈ tables_1, d.before a0 Z = true) (ws : List Jvm.Cond) (b : Addr) (k : ClassId) (zl : Int32) (vs : List Value) (h0 : Heap) (n0 : Nat) (Z0 : n0 ≤ h0.size) (O : Old Z n0 h0) (Vb : Arv Z h0 b k .byte zl vs (.int 0)) (Eb : Exa Z h0 b "[B") (hzl : zl.toNatClampNeg ≤ 4) (hz3 : ((0 : Int32) + zl) = zl) :
    own_MF l yM30 (.code yM30 cB30 3 (some (.array .byte))) ws ⟨1, 1, 4, 14⟩ #[(.ref b), (.int 0), (.int ((0 : Int32) + zl))] Z h0 own_T (Q_cor Z b k zl vs h0 n0) := by
  refine own_in "java/util/Arrays" rfl (plainFor_of_name pn8) hisR (fun m => ef30RII m b (0 : Int32) ((0 : Int32) + zl)) ?_
  intro p e s m below meth c s₁ A_ hx hby hml hown hnm hrt hlk hZ _ X0 e0 pre0
  have N0 := Fr.nil n0
  have P1 := oS (s₁.setTop (mkF m 1 #[r_ b, i_ 0, i_ ((0 : Int32) + zl)] [(.int 0)])) pre0 (by
    intro _ k_
    refine iN_ X0 hx hby d30_0 rfl ?_
    exact k_)
  have P2 := oS (s₁.setTop (mkF m 6 #[r_ b, i_ 0, i_ ((0 : Int32) + zl)] [(.ref b), (.int ((0 : Int32) + zl))])) P1 (by
    intro _ k_
    refine XS.ifNo X0.here hx rfl (hb hby d30_1) rfl ((if0 _ _).trans (teq (by decide : (0 : Int32) = (0 : Int32))).2) ?_
    refine iN_ X0 hx hby d30_4 rfl ?_
    refine aN_ X0 hx hby d30_5 rfl rfl ?_
    exact k_)
  obtain ⟨cl3, Ar3, q3, S3, M3, H3, G3⟩ := id Vb
  have P4 := oS (s₁.setTop (mkF m 7 #[r_ b, i_ 0, i_ ((0 : Int32) + zl)] [(.int zl), (.int ((0 : Int32) + zl))])) P2 (by
    intro _ k_
    refine X0.arraylength hx (by rw [e0]; exact Ar3.1) (State.isArrayOf_alike hZ.alike Ar3.2.1) (g := (mkF m 6 #[r_ b, i_ 0, i_ ((0 : Int32) + zl)] [(.ref b), (.int ((0 : Int32) + zl))])) rfl rfl (hb hby d30_6) _ ?_
    rw [len_of S3 M3]
    exact k_)
  have P5 := oS (s₁.setTop (mkF m 18 #[r_ b, i_ 0, i_ ((0 : Int32) + zl)] [(.ref b)])) P4 (by
    intro _ k_
    refine cY_ X0 hx hby d30_7 (pc := 7) (pc' := 17) (teq hz3).1 (by decide) ?_
    refine aN_ X0 hx hby d30_17 rfl rfl ?_
    exact k_)
  obtain ⟨T6, h6, X6, e6, E6, V6, EA6, st6⟩ := cloneH X0 hx hZ hown (own_w hw 173 rfl) (own_w hw 79 rfl) (own_w hw 83 rfl) (own_w hw 81 rfl) (own_w hw 82 rfl) (own_w hw 84 rfl) e0 (Arv.arh Vb) Eb (g := (mkF m 18 #[r_ b, i_ 0, i_ ((0 : Int32) + zl)] [(.ref b)])) rfl (by rw [hml]; rfl) rfl (hb hby d30_18) (by decide) (W := 0) (cap := 4) (by show 2 * 0 + _ ≤ _; exact Nat.le_of_eq rfl) (by decide) hzl (by decide) (by decide)
  obtain ⟨b6, g6⟩ : ∃ z, z = h0.size := ⟨_, rfl⟩
  rw [← g6] at V6 EA6 st6
  have sz_b6 : h0.size ≤ b6 := Nat.le_trans (Keep.refl h0 []).1 (Nat.le_of_eq g6.symm)
  have f8 := (Keep.refl h0 []).ext E6
  have V6v : Arv Z h6 b6 k .byte zl vs (.int 0) := V6
  have P12 := oS (T6.setTop (mkF m 21 #[r_ b, i_ 0, i_ ((0 : Int32) + zl)] [(.ref b6)])) P5 (fun t_ k_ => st6 t_ k_)
  obtain ⟨T13, X13, e13, st13⟩ := castY X6 hx hZ hown (own_w hw 174 rfl) e6 (Ins.self EA6) (g := (mkF m 21 #[r_ b, i_ 0, i_ ((0 : Int32) + zl)] [(.ref b6)])) rfl rfl (hb hby d30_21)
  have P14 := oS (T13.setTop (mkF m 24 #[r_ b, i_ 0, i_ ((0 : Int32) + zl)] [(.ref b6)])) P12 (fun t_ k_ => st13 t_ k_)
  exact own_out X13 hlk (v := some (.ref b6)) (own_hv hrt) P14 (fun _ q_ => retOut X13 hx hrt rfl (Or.inr (Or.inr (Or.inr (Or.inr ⟨rfl, rfl, rfl⟩)))) (hb hby d30_24) q_) e13 ⟨b6, rfl, N0, f8, sz_b6, V6v, EA6⟩ (by decide)
theorem pd22 : parseMethodDescriptor "([BII)[B" = some ⟨[(.array .byte), .int, .int], some (.array .byte)⟩ := by decide +kernel
theorem d27_37 : own_d cB27 37 (.getstatic 38) 3 := by decide +kernel
theorem d27_40 : own_d cB27 40 (.ifCond .eq 29) 3 := by decide +kernel
theorem d27_43 : own_d cB27 43 (.iload_n 2) 1 := by decide +kernel
theorem d27_44 : own_d cB27 44 (.i2b) 1 := by decide +kernel
theorem d27_45 : own_d cB27 45 (.ifCond .ne 24) 3 := by decide +kernel
theorem d27_48 : own_d cB27 48 (.aload_n 0) 1 := by decide +kernel
theorem d27_49 : own_d cB27 49 (.aload_n 1) 1 := by decide +kernel
theorem d27_50 : own_d cB27 50 (.iload_n 3) 1 := by decide +kernel
theorem d27_51 : own_d cB27 51 (.iload_n 3) 1 := by decide +kernel
theorem d27_52 : own_d cB27 52 (.iload 4) 2 := by decide +kernel
theorem d27_54 : own_d cB27 54 (.iadd) 1 := by decide +kernel
theorem d27_55 : own_d cB27 55 (.invokestatic 54) 3 := by decide +kernel
theorem d27_58 : own_d cB27 58 (.putfield 9) 3 := by decide +kernel
theorem d27_61 : own_d cB27 61 (.aload_n 0) 1 := by decide +kernel
theorem d27_62 : own_d cB27 62 (.iconst 0) 1 := by decide +kernel
theorem d27_63 : own_d cB27 63 (.putfield 15) 3 := by decide +kernel
theorem d27_66 : own_d cB27 66 (.goto 61) 3 := by decide +kernel
theorem d27_127 : own_d cB27 127 (.return_) 1 := by decide +kernel
def Q_initB_0 (Z : State) (a : Addr) (b : Addr) (k : ClassId) (vs : List Value) (fm : Value) (cs : Int32) (zl : Int32) (h0 : Heap) (n0 : Nat) (v_ : Option Value) (h : Heap) (L_ : List Loc) : Prop := ∃ (xq : Addr), v_ = none ∧ Fr n0 L_ ∧ Keep h0 h [a] ∧ Exa Z h a "java/lang/String" ∧ Fld Z h a "java/lang/String" "coder" "B" (.int 0) ∧ Fld Z h a "java/lang/String" "value" "[B" (.ref xq) ∧ Arv Z h xq k .byte zl vs (.int 0) ∧ h0.size ≤ xq
set_option maxRecDepth 65536 in
set_option maxHeartbeats 40000000 in
theorem rm_initB_0 (l : Launch) (Z : State) (a0 : Array Value) (hw : ∀ d ∈ tables_1, d.before a0 Z = true) (ws : List Jvm.Cond) (a : Addr) (b : Addr) (k : ClassId) (vs : List Value) (fm : Value) (cs : Int32) (zl : Int32) (h0 : Heap) (n0 : Nat) (Z0 : n0 ≤ h0.size) (O : Old Z n0 h0) (Scs : Sta Z Z.heap "java/lang/String" "COMPACT_STRINGS" "Z" (.int cs)) (hcs : ¬ (cs = (0 : Int32))) (Sfm : Sta Z Z.heap "jdk/internal/util/Preconditions" "SIOOBE_FORMATTER" "Ljava/util/function/BiFunction;" fm) (hfm : fm.category = 1) (Ea : Exa Z h0 a "java/lang/String") (Fv : Fld Z h0 a "java/lang/String" "value" "[B" .null) (Fc : Fld Z h0 a "java/lang/String" "coder" "B" (.int 0)) (ga : n0 ≤ a) (Vb : Arv Z h0 b k .byte zl vs (.int 0)) (Eb : Exa Z h0 b "[B") (hzl : zl.toNatClampNeg ≤ 4) (hz0 : ¬ (zl = (0 : Int32))) (hz1 : ¬ (((zl ||| 0) ||| zl) < (0 : Int32))) (hz2 : ¬ ((zl - (0 : Int32)) < zl)) (hz3 : ((0 : Int32) + zl) = zl) :
    own_MF l yM27 (.code yM27 cB27 7 none) ws ⟨2, 1, 4, 29⟩ #[(.ref a), (.ref b), (.int 0), (.int 0), (.int zl)] Z h0 own_T (Q_initB_0 Z a b k vs fm cs zl h0 n0) := by
  refine own_in "java/lang/String" rfl (plainFor_of_name pn2) hisR (fun m => ef27RRIII m a b (0 : Int32) (0 : Int32) zl) ?_
  intro p e s m below meth c s₁ A_ hx hby hml hown hnm hrt hlk hZ _ X0 e0 pre0
  have N0 := Fr.nil n0
  obtain ⟨clV, ArV, -⟩ := id Vb
  have P1 := oS (s₁.setTop (mkF m 1 #[r_ a, r_ b, i_ 0, i_ 0, i_ zl, u_, u_] [(.ref a)])) pre0 (by
    intro _ k_
    refine aN_ X0 hx hby d27_0 rfl rfl ?_
    exact k_)
  obtain ⟨T2, X2, e2, st2⟩ := initO X0 hx hZ hown (own_w hw 15 rfl) (own_w hw 16 rfl) (own_w hw 17 rfl) e0 (g := (mkF m 1 #[r_ a, r_ b, i_ 0, i_ 0, i_ zl, u_, u_] [(.ref a)])) rfl (by rw [hml]; rfl) rfl (hb hby d27_1) (by decide) (W := 0) (by show 2 * 0 + _ ≤ _; exact Nat.le_of_eq rfl) (by decide)
  have P3 := oS (T2.setTop (mkF m 4 #[r_ a, r_ b, i_ 0, i_ 0, i_ zl, u_, u_] [])) P1 (fun t_ k_ => st2 t_ k_)
  have P4 := oS (T2.setTop (mkF m 8 #[r_ a, r_ b, i_ 0, i_ 0, i_ zl, u_, u_] [(.ref b), (.int zl), (.int 0)])) P3 (by
    intro _ k_
    refine iN_ X2 hx hby d27_4 rfl ?_
    refine il_ X2 hx hby d27_5 rfl ?_
    refine aN_ X2 hx hby d27_7 rfl rfl ?_
    exact k_)
  obtain ⟨cl5, Ar5, q5, S5, M5, H5, G5⟩ := id Vb
  have P6 := oS (T2.setTop (mkF m 9 #[r_ a, r_ b, i_ 0, i_ 0, i_ zl, u_, u_] [(.int zl), (.int zl), (.int 0)])) P4 (by
    intro _ k_
    refine X2.arraylength hx (by rw [e2]; exact Ar5.1) (State.isArrayOf_alike hZ.alike Ar5.2.1) (g := (mkF m 8 #[r_ a, r_ b, i_ 0, i_ 0, i_ zl, u_, u_] [(.ref b), (.int zl), (.int 0)])) rfl rfl (hb hby d27_8) _ ?_
    rw [len_of S5 M5]
    exact k_)
  obtain ⟨_, T7, L7, X7, hQ7, P7c⟩ := own_cS (W := 0) (rm_cbo l Z a0 hw [] zl fm h0 n0 Z0 O Sfm hfm hz1 hz2) X2 hx hZ (fun _ _ => trivial) hown (own_w hw 161 rfl) (own_w hw 162 rfl) (own_w hw 7 rfl) (own_w hw 163 rfl) (by decide) P6 hml rfl [(.int 0), (.int zl), (.int zl)] [] rfl rfl rfl pd15 rfl (hb hby d27_9) e2 (by decide)
  obtain ⟨rfl, N7q, e7⟩ := hQ7
  have N7 := Fr.app N0 N7q
  have P8 := own_to (C := T7.setTop (mkF m 12 #[r_ a, r_ b, i_ 0, i_ 0, i_ zl, u_, u_] [(.int 0)])) P7c
  have P9 := oS (T7.setTop (mkF m 15 #[r_ a, r_ b, i_ 0, i_ 0, i_ zl, u_, u_] [(.int zl)])) P8 (by
    intro _ k_
    refine XS.pop X7.here hx rfl (hb hby d27_12) rfl rfl ?_
    refine il_ X7 hx hby d27_13 rfl ?_
    exact k_)
  have P10 := oS (T7.setTop (mkF m 37 #[r_ a, r_ b, i_ 0, i_ 0, i_ zl, u_, u_] [])) P9 (by
    intro _ k_
    refine fY_ X7 hx hby d27_15 (pc := 15) (pc' := 37) ((if0 _ _).trans (feq hz0).2) (by decide) ?_
    exact k_)
  obtain ⟨T11, X11, e11, st11⟩ := getS2 X7 hx hZ hown (host := "") (Or.inl (own_w hw 18 rfl)) Via.refl e7 (Scs.ext O.2) (g := (mkF m 37 #[r_ a, r_ b, i_ 0, i_ 0, i_ zl, u_, u_] [])) rfl (hb hby d27_37)
  have P12 := oS (T11.setTop (mkF m 40 #[r_ a, r_ b, i_ 0, i_ 0, i_ zl, u_, u_] [(.int cs)])) P10 (fun t_ k_ => st11 t_ k_)
  have P13 := oS (T11.setTop (mkF m 45 #[r_ a, r_ b, i_ 0, i_ 0, i_ zl, u_, u_] [(.int ((0 : Int32).toInt8.toInt32))])) P12 (by
    intro _ k_
    refine XS.ifNo X11.here hx rfl (hb hby d27_40) rfl ((if0 _ _).trans (feq hcs).1) ?_
    refine iN_ X11 hx hby d27_43 rfl ?_
    refine XS.i2b X11.here hx rfl (hb hby d27_44) rfl ?_
    exact k_)
  have P14 := oS (T11.setTop (mkF m 55 #[r_ a, r_ b, i_ 0, i_ 0, i_ zl, u_, u_] [(.int ((0 : Int32) + zl)), (.int 0), (.ref b), (.ref a)])) P13 (by
    intro _ k_
    refine XS.ifNo X11.here hx rfl (hb hby d27_45) rfl ((if0 _ _).trans (teq (by decide : ((0 : Int32).toInt8.toInt32) = (0 : Int32))).2) ?_
    refine aN_ X11 hx hby d27_48 rfl rfl ?_
    refine aN_ X11 hx hby d27_49 rfl rfl ?_
    refine iN_ X11 hx hby d27_50 rfl ?_
    refine iN_ X11 hx hby d27_51 rfl ?_
    refine il_ X11 hx hby d27_52 rfl ?_
    refine XS.iadd X11.here hx rfl (hb hby d27_54) rfl ?_
    exact k_)
  obtain ⟨_, T15, L15, X15, hQ15, P15c⟩ := own_cS (W := 1) (rm_cor l Z a0 hw [] b k zl vs h0 n0 Z0 O Vb Eb hzl hz3) X11 hx hZ (fun _ _ => trivial) hown (own_w hw 169 rfl) (own_w hw 170 rfl) (own_w hw 171 rfl) (own_w hw 172 rfl) (by decide) P14 hml rfl [(.ref b), (.int 0), (.int ((0 : Int32) + zl))] [(.ref a)] rfl rfl rfl pd22 rfl (hb hby d27_55) e11 (by decide)
  obtain ⟨xq15, rfl, N15q, K15, f16, f17, f18⟩ := hQ15
  have N15 := Fr.app N7 N15q
  have ne_a_xq15 : a ≠ xq15 := Nat.ne_of_lt (Nat.lt_of_lt_of_le Ea.lt f16)
  have sz_xq15 : h0.size ≤ xq15 := Nat.le_trans (Keep.refl h0 [a]).1 f16
  have f20 := Ea.keep K15
  have f21 := Fc.keep K15 nin0
  have f22 := Fv.keep K15 nin0
  have f23 := (Keep.refl h0 [a]).trans K15 all0
  have P27 := own_to (C := T15.setTop (mkF m 58 #[r_ a, r_ b, i_ 0, i_ 0, i_ zl, u_, u_] [(.ref xq15), (.ref a)])) P15c
  obtain ⟨T28, h28, X28, e28, W28, st28⟩ := putF X15 hx hZ hown (host := "") (Or.inl (own_w hw 32 rfl)) Via.refl rfl f22 f20 (Or.inr ⟨(own_w hw 33 rfl), rfl, hnm⟩) (own_w hw 6 rfl) (ty := (.array .byte)) (by decide) rfl rfl (g := (mkF m 58 #[r_ a, r_ b, i_ 0, i_ 0, i_ zl, u_, u_] [(.ref xq15), (.ref a)])) rfl rfl (hb hby d27_58)
  have f30 := f20.wr W28
  have f31 := f21.other W28 (Or.inr (slot_ne (Or.inr (own_w hw 31 rfl)) (Or.inr (own_w hw 33 rfl)) (by decide) (t := .byte) (t' := (.array .byte)) (by decide) (by decide)))
  have f32 := f22.same W28
  have f33 := f23.wr W28 (Or.inl (List.mem_of_getElem? (i := 0) rfl))
  have f36 := f17.other W28 (Ne.symm ne_a_xq15)
  have N28 := Fr.snoc X28 N15 ga
  have P39 := oS (T28.setTop (mkF m 61 #[r_ a, r_ b, i_ 0, i_ 0, i_ zl, u_, u_] [])) P27 (fun t_ k_ => st28 t_ k_)
  have P40 := oS (T28.setTop (mkF m 63 #[r_ a, r_ b, i_ 0, i_ 0, i_ zl, u_, u_] [(.int 0), (.ref a)])) P39 (by
    intro _ k_
    refine aN_ X28 hx hby d27_61 rfl rfl ?_
    refine XS.iconst X28.here hx rfl (hb hby d27_62) ?_
    exact k_)
  obtain ⟨T41, h41, X41, e41, W41, st41⟩ := putFN X28 hx hZ hown (own_w hw 30 rfl) Via.refl e28 f31 f30 (Or.inr ⟨(own_w hw 31 rfl), rfl, hnm⟩) (own_w hw 6 rfl) (ty := .byte) (v' := (.int (0 : Int32).toInt8.toInt32)) (by decide) rfl (fits_nar_byte _) (g := (mkF m 63 #[r_ a, r_ b, i_ 0, i_ 0, i_ zl, u_, u_] [(.int 0), (.ref a)])) rfl rfl (hb hby d27_63)
  have f43 := f30.wr W41
  have f44 := f31.same W41
  have f45 := f32.other W41 (Or.inr (slot_ne (Or.inr (own_w hw 33 rfl)) (Or.inr (own_w hw 31 rfl)) (by decide) (t := (.array .byte)) (t' := .byte) (by decide) (by decide)))
  have f46 := f33.wr W41 (Or.inl (List.mem_of_getElem? (i := 0) rfl))
  have f49 := f36.other W41 (Ne.symm ne_a_xq15)
  have N41 := Fr.snoc X41 N28 ga
  have P52 := oS (T41.setTop (mkF m 66 #[r_ a, r_ b, i_ 0, i_ 0, i_ zl, u_, u_] [])) P40 (fun t_ k_ => st41 t_ k_)
  have P53 := oS (T41.setTop (mkF m 127 #[r_ a, r_ b, i_ 0, i_ 0, i_ zl, u_, u_] [])) P52 (by
    intro _ k_
    refine gt_ X41 hx hby d27_66 (pc := 66) (pc' := 127) (by decide) ?_
    exact k_)
  exact own_out X41 hlk (v := none) (fun _ => rfl) P53 (fun _ q_ => X41.returnOut hx hrt (hb hby d27_127) q_) e41 ⟨xq15, rfl, N41, f46, f43, f44, f45, f49, sz_xq15⟩ (by decide)
def Q_eStr_1 (Z : State) (en : Addr) (b : Addr) (k : ClassId) (y0 : Int32) (v0 : Int32) (v1 : Int32) (x0 : Int32) (x1 : Int32) (ret_ : Addr) (ket : ClassId) (fm : Value) (cs : Int32) (h0 : Heap) (n0 : Nat) (v_ : Option Value) (h : Heap) (L_ : List Loc) : Prop := ∃ (rs : Addr) (rv : Addr) (kr : ClassId), v_ = some (.ref rs) ∧ Fr n0 L_ ∧ Keep h0 h [] ∧ h0.size ≤ rs ∧ Exa Z h rs "java/lang/String" ∧ Fld Z h rs "java/lang/String" "coder" "B" (.int 0) ∧ Fld Z h rs "java/lang/String" "value" "[B" (.ref rv) ∧ Arv Z h rv kr .byte (2 : Int32) [(.int x0), (.int x1)] (.int 0) ∧ h0.size ≤ rv
set_option maxRecDepth 65536 in
set_option maxHeartbeats 40000000 in
theorem rm_eStr_1 (l : Launch) (Z : State) (a0 : Array Value) (hw : ∀ d ∈ tables_1, d.before a0 Z = true) (ws : List Jvm.Cond) (en : Addr) (b : Addr) (k : ClassId) (y0 : Int32) (v0 : Int32) (v1 : Int32) (x0 : Int32) (x1 : Int32) (ret_ : Addr) (ket : ClassId) (fm : Value) (cs : Int32) (h0 : Heap) (n0 : Nat) (Z0 : n0 ≤ h0.size) (O : Old Z n0 h0) (Scs : Sta Z Z.heap "java/lang/String" "COMPACT_STRINGS" "Z" (.int cs)) (hcs : ¬ (cs = (0 : Int32))) (Sfm : Sta Z Z.heap "jdk/internal/util/Preconditions" "SIOOBE_FORMATTER" "Ljava/util/function/BiFunction;" fm) (hfm : fm.category = 1) (Set : Sta Z Z.heap "java/util/Base64$Encoder" "toBase64URL" "[C" (.ref ret_)) (Vet : Arv Z Z.heap ret_ ket .char (64 : Int32) own_enc (.int 0)) (Ee : Exa Z h0 en "java/util/Base64$Encoder") (Fp : Fld Z h0 en "java/util/Base64$Encoder" "doPadding" "Z" (.int 0)) (Fl : Fld Z h0 en "java/util/Base64$Encoder" "linemax" "I" (.int (-1 : Int32))) (Fe : Fld Z h0 en "java/util/Base64$Encoder" "isURL" "Z" (.int 1)) (Vb : Arv Z h0 b k .byte (1 : Int32) [(.int y0)] (.int 0)) (hk0 : ¬ ((y0 &&& 255) >>> ((2 : Int32) &&& 31)) < 0 ∧ ((y0 &&& 255) >>> ((2 : Int32) &&& 31)) < (64 : Int32)) (hv0 : own_enc.getD ((y0 &&& 255) >>> ((2 : Int32) &&& 31)).toNatClampNeg (.int 0) = .int v0) (hz0 : v0.toInt8.toInt32.toInt8.toInt32 = x0) (hk1 : ¬ (((y0 &&& 255) <<< ((4 : Int32) &&& 31)) &&& 63) < 0 ∧ (((y0 &&& 255) <<< ((4 : Int32) &&& 31)) &&& 63) < (64 : Int32)) (hv1 : own_enc.getD (((y0 &&& 255) <<< ((4 : Int32) &&& 31)) &&& 63).toNatClampNeg (.int 0) = .int v1) (hz1 : v1.toInt8.toInt32.toInt8.toInt32 = x1) :
    own_MF l yM20 (.code yM20 cB20 3 (some (.object "java/lang/String"))) ws ⟨3, 3, 10, 48⟩ #[(.ref en), (.ref b)] Z h0 own_T (Q_eStr_1 Z en b k y0 v0 v1 x0 x1 ret_ ket fm cs h0 n0) := by
  refine own_in "java/util/Base64$Encoder" rfl (plainFor_of_name pn4) hisR (fun m => ef20RR m en b) ?_
  intro p e s m below meth c s₁ A_ hx hby hml hown hnm hrt hlk hZ _ X0 e0 pre0
  have N0 := Fr.nil n0
  have P1 := oS (s₁.setTop (mkF m 2 #[r_ en, r_ b, u_] [(.ref b), (.ref en)])) pre0 (by
    intro _ k_
    refine aN_ X0 hx hby d20_0 rfl rfl ?_
    refine aN_ X0 hx hby d20_1 rfl rfl ?_
    exact k_)
  obtain ⟨_, T2, L2, X2, hQ2, P2c⟩ := own_cV (W := 0) (rm_enc_1 l Z a0 hw [] en b k y0 v0 v1 x0 x1 ret_ ket h0 n0 Z0 O Set Vet Ee Fp Fl Fe Vb hk0 hv0 hz0 hk1 hv1 hz1) X0 hx hZ (fun _ _ => trivial) hown Ee (own_w hw 120 rfl) (own_w hw 121 rfl) (own_w hw 123 rfl) (own_w hw 122 rfl) (own_w hw 118 rfl) (own_w hw 124 rfl) (by decide) P1 hml rfl [(.ref b)] [] rfl rfl rfl pd11 rfl (hb hby d20_2) e0 (by decide)
  obtain ⟨xq2, kk2, rfl, N2q, K2, f3, f4, f5⟩ := hQ2
  have N2 := Fr.app N0 N2q
  have f6 := O.keep K2 all0
  have f10 := (Keep.refl h0 []).trans K2 all0
  have Z13 : n0 ≤ T2.heap.size := Nat.le_trans Z0 K2.1
  have P14 := own_to (C := T2.setTop (mkF m 5 #[r_ en, r_ b, u_] [(.ref xq2)])) P2c
  have P15 := oS (T2.setTop (mkF m 6 #[r_ en, r_ b, r_ xq2] [])) P14 (by
    intro _ k_
    refine XS.astoreN X2.here hx rfl (hb hby d20_5) rfl rfl (l' := #[r_ en, r_ b, r_ xq2]) rfl ?_
    exact k_)
  obtain ⟨T16, h16, X16, e16, E16, A16, D16, -, st16⟩ := newO X2 hx hZ hown (own_w hw 157 rfl) (own_w hw 6 rfl) (own_w hw 7 rfl) rfl (g := (mkF m 6 #[r_ en, r_ b, r_ xq2] [])) rfl (hb hby d20_6) (by decide) (by decide)
  obtain ⟨b16, g16⟩ : ∃ z, z = T2.heap.size := ⟨_, rfl⟩
  rw [← g16] at A16 D16 st16
  have g_b16 : n0 ≤ b16 := Nat.le_trans Z13 (Nat.le_of_eq g16.symm)
  have sz_b16 : h0.size ≤ b16 := Nat.le_trans f10.1 (Nat.le_of_eq g16.symm)
  have f17 := f6.ext E16
  have f21 := f10.ext E16
  have f24 := f4.ext E16
  have f25 := f5.ext E16
  have Z26 : n0 ≤ h16.size := Nat.le_trans Z13 E16.1
  have f27 : Fld Z h16 b16 "java/lang/String" "coder" "B" (.int 0) := D16 (Or.inr (own_w hw 31 rfl)) (ty := .byte) (by decide)
  have f28 : Fld Z h16 b16 "java/lang/String" "value" "[B" .null := D16 (Or.inr (own_w hw 33 rfl)) (ty := (.array .byte)) (by decide)
  have P29 := oS (T16.setTop (mkF m 9 #[r_ en, r_ b, r_ xq2] [(.ref b16)])) P15 (fun t_ k_ => st16 t_ k_)
  have P30 := oS (T16.setTop (mkF m 14 #[r_ en, r_ b, r_ xq2] [(.ref xq2), (.int 0), (.int 0), (.ref xq2), (.ref b16), (.ref b16)])) P29 (by
    intro _ k_
    refine XS.dup X16.here hx rfl (hb hby d20_9) rfl rfl ?_
    refine aN_ X16 hx hby d20_10 rfl rfl ?_
    refine XS.iconst X16.here hx rfl (hb hby d20_11) ?_
    refine XS.iconst X16.here hx rfl (hb hby d20_12) ?_
    refine aN_ X16 hx hby d20_13 rfl rfl ?_
    exact k_)
  obtain ⟨cl31, Ar31, q31, S31, M31, H31, G31⟩ := id f24
  have P32 := oS (T16.setTop (mkF m 15 #[r_ en, r_ b, r_ xq2] [(.int 2), (.int 0), (.int 0), (.ref xq2), (.ref b16), (.ref b16)])) P30 (by
    intro _ k_
    refine X16.arraylength hx (by rw [e16]; exact Ar31.1) (State.isArrayOf_alike hZ.alike Ar31.2.1) (g := (mkF m 14 #[r_ en, r_ b, r_ xq2] [(.ref xq2), (.int 0), (.int 0), (.ref xq2), (.ref b16), (.ref b16)])) rfl rfl (hb hby d20_14) _ ?_
    rw [len_of S31 M31]
    exact k_)
  obtain ⟨_, T33, L33, X33, hQ33, P33c⟩ := own_cI (W := 1) (rm_initB_0 l Z a0 hw [] b16 xq2 kk2 [(.int x0), (.int x1)] fm cs (2 : Int32) h16 n0 Z26 f17 Scs hcs Sfm hfm A16 f28 f27 g_b16 f24 f25 (by decide) (by decide) (by decide) (by decide) (by decide)) X16 hx hZ (fun _ _ => trivial) hown rfl (own_w hw 158 rfl) (own_w hw 159 rfl) (own_w hw 7 rfl) (own_w hw 160 rfl) (by decide) P32 hml rfl [(.ref xq2), (.int 0), (.int 0), (.int 2)] [(.ref b16)] rfl rfl rfl pd16 rfl (hb hby d20_15) e16 (by decide)
  obtain ⟨xq33, rfl, N33q, K33, f34, f35, f36, f37, f38⟩ := hQ33
  have N33 := Fr.app N2 N33q
  have sz_xq33 : h0.size ≤ xq33 := Nat.le_trans f21.1 f38
  have f43 := f21.trans K33 (allS (Or.inr sz_b16) all0)
  have P52 := own_to (C := T33.setTop (mkF m 18 #[r_ en, r_ b, r_ xq2] [(.ref b16)])) P33c
  exact own_out X33 hlk (v := some (.ref b16)) (own_hv hrt) P52 (fun _ q_ => retOut X33 hx hrt rfl (Or.inr (Or.inr (Or.inr (Or.inr ⟨rfl, rfl, rfl⟩)))) (hb hby d20_18) q_) (rfl : T33.heap = _) ⟨b16, xq33, kk2, rfl, N33, f43, sz_b16, f34, f35, f36, f37, sz_xq33⟩ (by decide)
def Q_buE_1 (Z : State) (en : Addr) (b : Addr) (k : ClassId) (y0 : Int32) (v0 : Int32) (v1 : Int32) (x0 : Int32) (x1 : Int32) (ret_ : Addr) (ket : ClassId) (fm : Value) (cs : Int32) (h0 : Heap) (n0 : Nat) (v_ : Option Value) (h : Heap) (L_ : List Loc) : Prop := ∃ (rs : Addr) (rv : Addr) (kr : ClassId), v_ = some (.ref rs) ∧ Fr n0 L_ ∧ Keep h0 h [] ∧ h0.size ≤ rs ∧ Exa Z h rs "java/lang/String" ∧ Fld Z h rs "java/lang/String" "coder" "B" (.int 0) ∧ Fld Z h rs "java/lang/String" "value" "[B" (.ref rv) ∧ Arv Z h rv kr .byte (2 : Int32) [(.int x0), (.int x1)] (.int 0) ∧ h0.size ≤ rv
set_option maxRecDepth 65536 in
set_option maxHeartbeats 40000000 in
theorem rm_buE_1 (l : Launch) (Z : State) (a0 : Array Value) (hw : ∀ d ∈ tables_1, d.before a0 Z = true) (ws : List Jvm.Cond) (en : Addr) (b : Addr) (k : ClassId) (y0 : Int32) (v0 : Int32) (v1 : Int32) (x0 : Int32) (x1 : Int32) (ret_ : Addr) (ket : ClassId) (fm : Value) (cs : Int32) (h0 : Heap) (n0 : Nat) (Z0 : n0 ≤ h0.size) (O : Old Z n0 h0) (Scs : Sta Z Z.heap "java/lang/String" "COMPACT_STRINGS" "Z" (.int cs)) (hcs : ¬ (cs = (0 : Int32))) (Sfm : Sta Z Z.heap "jdk/internal/util/Preconditions" "SIOOBE_FORMATTER" "Ljava/util/function/BiFunction;" fm) (hfm : fm.category = 1) (Set : Sta Z Z.heap "java/util/Base64$Encoder" "toBase64URL" "[C" (.ref ret_)) (Vet : Arv Z Z.heap ret_ ket .char (64 : Int32) own_enc (.int 0)) (Ee : Exa Z h0 en "java/util/Base64$Encoder") (Fp : Fld Z h0 en "java/util/Base64$Encoder" "doPadding" "Z" (.int 0)) (Fl : Fld Z h0 en "java/util/Base64$Encoder" "linemax" "I" (.int (-1 : Int32))) (Fe : Fld Z h0 en "java/util/Base64$Encoder" "isURL" "Z" (.int 1)) (Vb : Arv Z h0 b k .byte (1 : Int32) [(.int y0)] (.int 0)) (hk0 : ¬ ((y0 &&& 255) >>> ((2 : Int32) &&& 31)) < 0 ∧ ((y0 &&& 255) >>> ((2 : Int32) &&& 31)) < (64 : Int32)) (hv0 : own_enc.getD ((y0 &&& 255) >>> ((2 : Int32) &&& 31)).toNatClampNeg (.int 0) = .int v0) (hz0 : v0.toInt8.toInt32.toInt8.toInt32 = x0) (hk1 : ¬ (((y0 &&& 255) <<< ((4 : Int32) &&& 31)) &&& 63) < 0 ∧ (((y0 &&& 255) <<< ((4 : Int32) &&& 31)) &&& 63) < (64 : Int32)) (hv1 : own_enc.getD (((y0 &&& 255) <<< ((4 : Int32) &&& 31)) &&& 63).toNatClampNeg (.int 0) = .int v1) (hz1 : v1.toInt8.toInt32.toInt8.toInt32 = x1) (Senc : Sta Z Z.heap "com/example/verified_health_identity/verifiedhealthidentity/jose/Base64url" "ENCODER" "Ljava/util/Base64$Encoder;" (.ref en)) :
    own_MF l yM19 (.code yM19 cB19 1 (some (.object "java/lang/String"))) ws ⟨4, 3, 10, 62⟩ #[(.ref b)] Z h0 own_T (Q_buE_1 Z en b k y0 v0 v1 x0 x1 ret_ ket fm cs h0 n0) := by
  refine own_in "com/example/verified_health_identity/verifiedhealthidentity/jose/Base64url" rfl (plainFor_of_name pn6) hisR (fun m => ef19R m b) ?_
  intro p e s m below meth c s₁ A_ hx hby hml hown hnm hrt hlk hZ _ X0 e0 pre0
  have N0 := Fr.nil n0
  obtain ⟨T1, X1, e1, st1⟩ := getS2 X0 hx hZ hown (host := "") (Or.inl (own_w hw 112 rfl)) Via.refl e0 (Senc.ext O.2) (g := (mkF m 0 #[r_ b] [])) rfl (hb hby d19_0)
  have P2 := oS (T1.setTop (mkF m 3 #[r_ b] [(.ref en)])) pre0 (fun t_ k_ => st1 t_ k_)
  have P3 := oS (T1.setTop (mkF m 4 #[r_ b] [(.ref b), (.ref en)])) P2 (by
    intro _ k_
    refine aN_ X1 hx hby d19_3 rfl rfl ?_
    exact k_)
  obtain ⟨_, T4, L4, X4, hQ4, P4c⟩ := own_cV (W := 0) (rm_eStr_1 l Z a0 hw [] en b k y0 v0 v1 x0 x1 ret_ ket fm cs h0 n0 Z0 O Scs hcs Sfm hfm Set Vet Ee Fp Fl Fe Vb hk0 hv0 hz0 hk1 hv1 hz1) X1 hx hZ (fun _ _ => trivial) hown Ee (own_w hw 114 rfl) (own_w hw 115 rfl) (own_w hw 117 rfl) (own_w hw 116 rfl) (own_w hw 118 rfl) (own_w hw 119 rfl) (by decide) P3 hml rfl [(.ref b)] [] rfl rfl rfl pd17 rfl (hb hby d19_4) e1 (by decide)
  obtain ⟨rs4, rv4, kr4, rfl, N4q, K4, f5, f6, f7, f8, f9, f10⟩ := hQ4
  have N4 := Fr.app N0 N4q
  have sz_rs4 : h0.size ≤ rs4 := Nat.le_trans (Keep.refl h0 []).1 f5
  have sz_rv4 : h0.size ≤ rv4 := Nat.le_trans (Keep.refl h0 []).1 f10
  have f15 := (Keep.refl h0 []).trans K4 all0
  have P19 := own_to (C := T4.setTop (mkF m 7 #[r_ b] [(.ref rs4)])) P4c
  exact own_out X4 hlk (v := some (.ref rs4)) (own_hv hrt) P19 (fun _ q_ => retOut X4 hx hrt rfl (Or.inr (Or.inr (Or.inr (Or.inr ⟨rfl, rfl, rfl⟩)))) (hb hby d19_7) q_) (rfl : T4.heap = _) ⟨rs4, rv4, kr4, rfl, N4, f15, sz_rs4, f6, f7, f8, f9, sz_rv4⟩ (by decide)
theorem d32_15 : own_d cB32 15 (.aload_n 0) 1 := by decide +kernel
theorem d32_16 : own_d cB32 16 (.iload_n 2) 1 := by decide +kernel
theorem d32_17 : own_d cB32 17 (.baload) 1 := by decide +kernel
theorem d32_18 : own_d cB32 18 (.aload_n 1) 1 := by decide +kernel
theorem d32_19 : own_d cB32 19 (.iload_n 2) 1 := by decide +kernel
theorem d32_20 : own_d cB32 20 (.baload) 1 := by decide +kernel
theorem d32_21 : own_d cB32 21 (.if_icmp .eq 5) 3 := by decide +kernel
theorem d32_26 : own_d cB32 26 (.iinc 2 1) 3 := by decide +kernel
theorem d32_29 : own_d cB32 29 (.goto (-20)) 3 := by decide +kernel
def Q_eqL_2 (Z : State) (b : Addr) (k : ClassId) (d : Addr) (kd : ClassId) (x0 : Int32) (x1 : Int32) (h0 : Heap) (n0 : Nat) (v_ : Option Value) (h : Heap) (L_ : List Loc) : Prop := v_ = some (.int 1) ∧ Fr n0 L_ ∧ h = h0
set_option maxRecDepth 65536 in
set_option maxHeartbeats 40000000 in
theorem rm_eqL_2 (l : Launch) (Z : State) (a0 : Array Value) (hw : ∀ d ∈ tables_1, d.before a0 Z = true) (ws : List Jvm.Cond) (b : Addr) (k : ClassId) (d : Addr) (kd : ClassId) (x0 : Int32) (x1 : Int32) (h0 : Heap) (n0 : Nat) (Z0 : n0 ≤ h0.size) (Vb : Arv Z h0 b k .byte (2 : Int32) [(.int x0), (.int x1)] (.int 0)) (Vd : Arv Z h0 d kd .byte (2 : Int32) [(.int x0), (.int x1)] (.int 0)) :
    own_MF l yM32 (.code yM32 cB32 3 (some .boolean)) ws ⟨0, 0, 0, 0⟩ #[(.ref b), (.ref d)] Z h0 own_T (Q_eqL_2 Z b k d kd x0 x1 h0 n0) := by
  refine own_in "java/lang/StringLatin1" rfl (plainFor_of_name pn7) hisR (fun m => ef32RR m b d) ?_
  intro p e s m below meth c s₁ A_ hx hby hml hown hnm hrt hlk hZ _ X0 e0 pre0
  have N0 := Fr.nil n0
  have P1 := oS (s₁.setTop (mkF m 1 #[r_ b, r_ d, u_] [(.ref b)])) pre0 (by
    intro _ k_
    refine aN_ X0 hx hby d32_0 rfl rfl ?_
    exact k_)
  obtain ⟨cl2, Ar2, q2, S2, M2, H2, G2⟩ := id Vb
  have P3 := oS (s₁.setTop (mkF m 2 #[r_ b, r_ d, u_] [(.int 2)])) P1 (by
    intro _ k_
    refine X0.arraylength hx (by rw [e0]; exact Ar2.1) (State.isArrayOf_alike hZ.alike Ar2.2.1) (g := (mkF m 1 #[r_ b, r_ d, u_] [(.ref b)])) rfl rfl (hb hby d32_1) _ ?_
    rw [len_of S2 M2]
    exact k_)
  have P4 := oS (s₁.setTop (mkF m 3 #[r_ b, r_ d, u_] [(.ref d), (.int 2)])) P3 (by
    intro _ k_
    refine aN_ X0 hx hby d32_2 rfl rfl ?_
    exact k_)
  obtain ⟨cl5, Ar5, q5, S5, M5, H5, G5⟩ := id Vd
  have P6 := oS (s₁.setTop (mkF m 4 #[r_ b, r_ d, u_] [(.int 2), (.int 2)])) P4 (by
    intro _ k_
    refine X0.arraylength hx (by rw [e0]; exact Ar5.1) (State.isArrayOf_alike hZ.alike Ar5.2.1) (g := (mkF m 3 #[r_ b, r_ d, u_] [(.ref d), (.int 2)])) rfl rfl (hb hby d32_3) _ ?_
    rw [len_of S5 M5]
    exact k_)
  have P7 := oS (s₁.setTop (mkF m 11 #[r_ b, r_ d, i_ 0] [(.ref b), (.int 0)])) P6 (by
    intro _ k_
    refine XS.icmpNo X0.here hx rfl (hb hby d32_4) rfl (teq (by decide : (2 : Int32) = (2 : Int32))).2 ?_
    refine XS.iconst X0.here hx rfl (hb hby d32_7) ?_
    refine XS.istoreN X0.here hx rfl (hb hby d32_8) rfl (l' := #[r_ b, r_ d, i_ 0]) rfl ?_
    refine iN_ X0 hx hby d32_9 rfl ?_
    refine aN_ X0 hx hby d32_10 rfl rfl ?_
    exact k_)
  obtain ⟨cl8, Ar8, q8, S8, M8, H8, G8⟩ := id Vb
  have P9 := oS (s₁.setTop (mkF m 12 #[r_ b, r_ d, i_ 0] [(.int 2), (.int 0)])) P7 (by
    intro _ k_
    refine X0.arraylength hx (by rw [e0]; exact Ar8.1) (State.isArrayOf_alike hZ.alike Ar8.2.1) (g := (mkF m 11 #[r_ b, r_ d, i_ 0] [(.ref b), (.int 0)])) rfl rfl (hb hby d32_11) _ ?_
    rw [len_of S8 M8]
    exact k_)
  have P10 := oS (s₁.setTop (mkF m 17 #[r_ b, r_ d, i_ 0] [(.int 0), (.ref b)])) P9 (by
    intro _ k_
    refine XS.icmpNo X0.here hx rfl (hb hby d32_12) rfl (tlt (by decide : (0 : Int32) < (2 : Int32))).2.1 ?_
    refine aN_ X0 hx hby d32_15 rfl rfl ?_
    refine iN_ X0 hx hby d32_16 rfl ?_
    exact k_)
  obtain ⟨cl11, Ar11, q11, S11, M11, H11, G11⟩ := id Vb
  have hin11 := inb_of S11 (by decide : ¬ (0 : Int32) < 0 ∧ (0 : Int32) < (2 : Int32))
  have hat11 := Has.at H11 hin11 (v := .int x0) rfl
  have P12 := oS (s₁.setTop (mkF m 18 #[r_ b, r_ d, i_ 0] [(.int x0)])) P10 (by
    intro _ k_
    refine X0.baloadBytes hx (j := (0 : Int32)) (v := (.int x0)) (by rw [e0]; exact Ar11.1) (State.isArrayOf_alike hZ.alike Ar11.2.1) Ar11.2.2 hin11 hat11 (g := (mkF m 17 #[r_ b, r_ d, i_ 0] [(.int 0), (.ref b)])) rfl rfl (hb hby d32_17) _ ?_
    exact k_)
  have P13 := oS (s₁.setTop (mkF m 20 #[r_ b, r_ d, i_ 0] [(.int 0), (.ref d), (.int x0)])) P12 (by
    intro _ k_
    refine aN_ X0 hx hby d32_18 rfl rfl ?_
    refine iN_ X0 hx hby d32_19 rfl ?_
    exact k_)
  obtain ⟨cl14, Ar14, q14, S14, M14, H14, G14⟩ := id Vd
  have hin14 := inb_of S14 (by decide : ¬ (0 : Int32) < 0 ∧ (0 : Int32) < (2 : Int32))
  have hat14 := Has.at H14 hin14 (v := .int x0) rfl
  have P15 := oS (s₁.setTop (mkF m 21 #[r_ b, r_ d, i_ 0] [(.int x0), (.int x0)])) P13 (by
    intro _ k_
    refine X0.baloadBytes hx (j := (0 : Int32)) (v := (.int x0)) (by rw [e0]; exact Ar14.1) (State.isArrayOf_alike hZ.alike Ar14.2.1) Ar14.2.2 hin14 hat14 (g := (mkF m 20 #[r_ b, r_ d, i_ 0] [(.int 0), (.ref d), (.int x0)])) rfl rfl (hb hby d32_20) _ ?_
    exact k_)
  have P16 := oS (s₁.setTop (mkF m 11 #[r_ b, r_ d, i_ 1] [(.ref b), (.int 1)])) P15 (by
    intro _ k_
    refine cY_ X0 hx hby d32_21 (pc := 21) (pc' := 26) (teq (rfl : x0 = x0)).1 (by decide) ?_
    refine XS.iinc X0.here hx rfl (hb hby d32_26) rfl (l' := #[r_ b, r_ d, i_ 1]) rfl ?_
    show Steps p.tables e below (s₁.setTop (mkF m 29 #[r_ b, r_ d, i_ 1] [])) _
    refine gt_ X0 hx hby d32_29 (pc := 29) (pc' := 9) (by decide) ?_
    refine iN_ X0 hx hby d32_9 rfl ?_
    refine aN_ X0 hx hby d32_10 rfl rfl ?_
    exact k_)
  obtain ⟨cl17, Ar17, q17, S17, M17, H17, G17⟩ := id Vb
  have P18 := oS (s₁.setTop (mkF m 12 #[r_ b, r_ d, i_ 1] [(.int 2), (.int 1)])) P16 (by
    intro _ k_
    refine X0.arraylength hx (by rw [e0]; exact Ar17.1) (State.isArrayOf_alike hZ.alike Ar17.2.1) (g := (mkF m 11 #[r_ b, r_ d, i_ 1] [(.ref b), (.int 1)])) rfl rfl (hb hby d32_11) _ ?_
    rw [len_of S17 M17]
    exact k_)
  have P19 := oS (s₁.setTop (mkF m 17 #[r_ b, r_ d, i_ 1] [(.int 1), (.ref b)])) P18 (by
    intro _ k_
    refine XS.icmpNo X0.here hx rfl (hb hby d32_12) rfl (tlt (by decide : (1 : Int32) < (2 : Int32))).2.1 ?_
    refine aN_ X0 hx hby d32_15 rfl rfl ?_
    refine iN_ X0 hx hby d32_16 rfl ?_
    exact k_)
  obtain ⟨cl20, Ar20, q20, S20, M20, H20, G20⟩ := id Vb
  have hin20 := inb_of S20 (by decide : ¬ (1 : Int32) < 0 ∧ (1 : Int32) < (2 : Int32))
  have hat20 := Has.at H20 hin20 (v := .int x1) rfl
  have P21 := oS (s₁.setTop (mkF m 18 #[r_ b, r_ d, i_ 1] [(.int x1)])) P19 (by
    intro _ k_
    refine X0.baloadBytes hx (j := (1 : Int32)) (v := (.int x1)) (by rw [e0]; exact Ar20.1) (State.isArrayOf_alike hZ.alike Ar20.2.1) Ar20.2.2 hin20 hat20 (g := (mkF m 17 #[r_ b, r_ d, i_ 1] [(.int 1), (.ref b)])) rfl rfl (hb hby d32_17) _ ?_
    exact k_)
  have P22 := oS (s₁.setTop (mkF m 20 #[r_ b, r_ d, i_ 1] [(.int 1), (.ref d), (.int x1)])) P21 (by
    intro _ k_
    refine aN_ X0 hx hby d32_18 rfl rfl ?_
    refine iN_ X0 hx hby d32_19 rfl ?_
    exact k_)
  obtain ⟨cl23, Ar23, q23, S23, M23, H23, G23⟩ := id Vd
  have hin23 := inb_of S23 (by decide : ¬ (1 : Int32) < 0 ∧ (1 : Int32) < (2 : Int32))
  have hat23 := Has.at H23 hin23 (v := .int x1) rfl
  have P24 := oS (s₁.setTop (mkF m 21 #[r_ b, r_ d, i_ 1] [(.int x1), (.int x1)])) P22 (by
    intro _ k_
    refine X0.baloadBytes hx (j := (1 : Int32)) (v := (.int x1)) (by rw [e0]; exact Ar23.1) (State.isArrayOf_alike hZ.alike Ar23.2.1) Ar23.2.2 hin23 hat23 (g := (mkF m 20 #[r_ b, r_ d, i_ 1] [(.int 1), (.ref d), (.int x1)])) rfl rfl (hb hby d32_20) _ ?_
    exact k_)
  have P25 := oS (s₁.setTop (mkF m 11 #[r_ b, r_ d, i_ 2] [(.ref b), (.int 2)])) P24 (by
    intro _ k_
    refine cY_ X0 hx hby d32_21 (pc := 21) (pc' := 26) (teq (rfl : x1 = x1)).1 (by decide) ?_
    refine XS.iinc X0.here hx rfl (hb hby d32_26) rfl (l' := #[r_ b, r_ d, i_ 2]) rfl ?_
    show Steps p.tables e below (s₁.setTop (mkF m 29 #[r_ b, r_ d, i_ 2] [])) _
    refine gt_ X0 hx hby d32_29 (pc := 29) (pc' := 9) (by decide) ?_
    refine iN_ X0 hx hby d32_9 rfl ?_
    refine aN_ X0 hx hby d32_10 rfl rfl ?_
    exact k_)
  obtain ⟨cl26, Ar26, q26, S26, M26, H26, G26⟩ := id Vb
  have P27 := oS (s₁.setTop (mkF m 12 #[r_ b, r_ d, i_ 2] [(.int 2), (.int 2)])) P25 (by
    intro _ k_
    refine X0.arraylength hx (by rw [e0]; exact Ar26.1) (State.isArrayOf_alike hZ.alike Ar26.2.1) (g := (mkF m 11 #[r_ b, r_ d, i_ 2] [(.ref b), (.int 2)])) rfl rfl (hb hby d32_11) _ ?_
    rw [len_of S26 M26]
    exact k_)
  have P28 := oS (s₁.setTop (mkF m 33 #[r_ b, r_ d, i_ 2] [(.int 1)])) P27 (by
    intro _ k_
    refine cY_ X0 hx hby d32_12 (pc := 12) (pc' := 32) (flt (by decide : ¬ ((2 : Int32) < (2 : Int32)))).2.1 (by decide) ?_
    refine XS.iconst X0.here hx rfl (hb hby d32_32) ?_
    exact k_)
  exact own_out X0 hlk (v := some (.int 1)) (own_hv hrt) P28 (fun _ q_ => retN X0 hx (t := .boolean) hrt (by simp) (hb hby d32_33) q_) e0 ⟨rfl, N0, rfl⟩ (by decide)
def Q_eqS_2 (Z : State) (a : Addr) (a2 : Addr) (b : Addr) (k : ClassId) (d : Addr) (kd : ClassId) (x0 : Int32) (x1 : Int32) (cs : Int32) (h0 : Heap) (n0 : Nat) (v_ : Option Value) (h : Heap) (L_ : List Loc) : Prop := v_ = some (.int 1) ∧ Fr n0 L_ ∧ h = h0
set_option maxRecDepth 65536 in
set_option maxHeartbeats 40000000 in
theorem rm_eqS_2 (l : Launch) (Z : State) (a0 : Array Value) (hw : ∀ d ∈ tables_1, d.before a0 Z = true) (ws : List Jvm.Cond) (a : Addr) (a2 : Addr) (b : Addr) (k : ClassId) (d : Addr) (kd : ClassId) (x0 : Int32) (x1 : Int32) (cs : Int32) (h0 : Heap) (n0 : Nat) (Z0 : n0 ≤ h0.size) (O : Old Z n0 h0) (Scs : Sta Z Z.heap "java/lang/String" "COMPACT_STRINGS" "Z" (.int cs)) (hcs : ¬ (cs = (0 : Int32))) (naa : a ≠ a2) (Ea : Exa Z h0 a "java/lang/String") (Fc : Fld Z h0 a "java/lang/String" "coder" "B" (.int 0)) (Fv : Fld Z h0 a "java/lang/String" "value" "[B" (.ref b)) (Ea2 : Exa Z h0 a2 "java/lang/String") (Fc2 : Fld Z h0 a2 "java/lang/String" "coder" "B" (.int 0)) (Fv2 : Fld Z h0 a2 "java/lang/String" "value" "[B" (.ref d)) (Vb : Arv Z h0 b k .byte (2 : Int32) [(.int x0), (.int x1)] (.int 0)) (Vd : Arv Z h0 d kd .byte (2 : Int32) [(.int x0), (.int x1)] (.int 0)) :
    own_MF l yM31 (.code yM31 cB31 3 (some .boolean)) ws ⟨1, 0, 0, 14⟩ #[(.ref a), (.ref a2)] Z h0 own_T (Q_eqS_2 Z a a2 b k d kd x0 x1 cs h0 n0) := by
  refine own_in "java/lang/String" rfl (plainFor_of_name pn2) hisR (fun m => ef31RR m a a2) ?_
  intro p e s m below meth c s₁ A_ hx hby hml hown hnm hrt hlk hZ _ X0 e0 pre0
  have N0 := Fr.nil n0
  have P1 := oS (s₁.setTop (mkF m 2 #[r_ a, r_ a2, u_] [(.ref a2), (.ref a)])) pre0 (by
    intro _ k_
    refine aN_ X0 hx hby d31_0 rfl rfl ?_
    refine aN_ X0 hx hby d31_1 rfl rfl ?_
    exact k_)
  have P2 := oS (s₁.setTop (mkF m 7 #[r_ a, r_ a2, u_] [])) P1 (by
    intro _ k_
    refine Jvm.RoadKit.acmp (g := (mkF m 2 #[r_ a, r_ a2, u_] [(.ref a2), (.ref a)])) X0 hx rfl rfl rfl (pc0 := 2) (pc' := 7) (same := false) rfl (hb hby d31_2) rfl (decide_eq_false fun q => naa (Value.ref.inj q)) (by decide) (by decide) ?_
    exact k_)
  have P3 := oS (s₁.setTop (mkF m 8 #[r_ a, r_ a2, u_] [(.ref a2)])) P2 (by
    intro _ k_
    refine aN_ X0 hx hby d31_7 rfl rfl ?_
    exact k_)
  obtain ⟨T4, X4, e4, st4⟩ := instY X0 hx hZ hown (own_w hw 180 rfl) e0 (Ins.self Ea2) (g := (mkF m 8 #[r_ a, r_ a2, u_] [(.ref a2)])) rfl rfl (hb hby d31_8)
  have P5 := oS (T4.setTop (mkF m 11 #[r_ a, r_ a2, u_] [(.int 1)])) P3 (fun t_ k_ => st4 t_ k_)
  have P6 := oS (T4.setTop (mkF m 15 #[r_ a, r_ a2, u_] [(.ref a2)])) P5 (by
    intro _ k_
    refine XS.ifNo X4.here hx rfl (hb hby d31_11) rfl ((if0 _ _).trans (feq (by decide : ¬ ((1 : Int32) = (0 : Int32)))).1) ?_
    refine aN_ X4 hx hby d31_14 rfl rfl ?_
    exact k_)
  obtain ⟨T7, X7, e7, st7⟩ := castY X4 hx hZ hown (own_w hw 180 rfl) e4 (Ins.self Ea2) (g := (mkF m 15 #[r_ a, r_ a2, u_] [(.ref a2)])) rfl rfl (hb hby d31_15)
  have P8 := oS (T7.setTop (mkF m 18 #[r_ a, r_ a2, u_] [(.ref a2)])) P6 (fun t_ k_ => st7 t_ k_)
  have P9 := oS (T7.setTop (mkF m 19 #[r_ a, r_ a2, r_ a2] [])) P8 (by
    intro _ k_
    refine XS.astoreN X7.here hx rfl (hb hby d31_18) rfl rfl (l' := #[r_ a, r_ a2, r_ a2]) rfl ?_
    exact k_)
  obtain ⟨T10, X10, e10, st10⟩ := getS2 X7 hx hZ hown (host := "") (Or.inl (own_w hw 18 rfl)) Via.refl e7 (Scs.ext O.2) (g := (mkF m 19 #[r_ a, r_ a2, r_ a2] [])) rfl (hb hby d31_19)
  have P11 := oS (T10.setTop (mkF m 22 #[r_ a, r_ a2, r_ a2] [(.int cs)])) P9 (fun t_ k_ => st10 t_ k_)
  have P12 := oS (T10.setTop (mkF m 26 #[r_ a, r_ a2, r_ a2] [(.ref a)])) P11 (by
    intro _ k_
    refine XS.ifNo X10.here hx rfl (hb hby d31_22) rfl ((if0 _ _).trans (feq hcs).1) ?_
    refine aN_ X10 hx hby d31_25 rfl rfl ?_
    exact k_)
  obtain ⟨T13, X13, e13, st13⟩ := getF X10 hx hZ hown (host := "") (Or.inl (own_w hw 30 rfl)) Via.refl e10 Fc (g := (mkF m 26 #[r_ a, r_ a2, r_ a2] [(.ref a)])) rfl rfl (hb hby d31_26)
  have P14 := oS (T13.setTop (mkF m 29 #[r_ a, r_ a2, r_ a2] [(.int 0)])) P12 (fun t_ k_ => st13 t_ k_)
  have P15 := oS (T13.setTop (mkF m 30 #[r_ a, r_ a2, r_ a2] [(.ref a2), (.int 0)])) P14 (by
    intro _ k_
    refine aN_ X13 hx hby d31_29 rfl rfl ?_
    exact k_)
  obtain ⟨T16, X16, e16, st16⟩ := getF X13 hx hZ hown (host := "") (Or.inl (own_w hw 30 rfl)) Via.refl e13 Fc2 (g := (mkF m 30 #[r_ a, r_ a2, r_ a2] [(.ref a2), (.int 0)])) rfl rfl (hb hby d31_30)
  have P17 := oS (T16.setTop (mkF m 33 #[r_ a, r_ a2, r_ a2] [(.int 0), (.int 0)])) P15 (fun t_ k_ => st16 t_ k_)
  have P18 := oS (T16.setTop (mkF m 37 #[r_ a, r_ a2, r_ a2] [(.ref a)])) P17 (by
    intro _ k_
    refine XS.icmpNo X16.here hx rfl (hb hby d31_33) rfl (teq (by decide : (0 : Int32) = (0 : Int32))).2 ?_
    refine aN_ X16 hx hby d31_36 rfl rfl ?_
    exact k_)
  obtain ⟨T19, X19, e19, st19⟩ := getF X16 hx hZ hown (host := "") (Or.inl (own_w hw 32 rfl)) Via.refl e16 Fv (g := (mkF m 37 #[r_ a, r_ a2, r_ a2] [(.ref a)])) rfl rfl (hb hby d31_37)
  have P20 := oS (T19.setTop (mkF m 40 #[r_ a, r_ a2, r_ a2] [(.ref b)])) P18 (fun t_ k_ => st19 t_ k_)
  have P21 := oS (T19.setTop (mkF m 41 #[r_ a, r_ a2, r_ a2] [(.ref a2), (.ref b)])) P20 (by
    intro _ k_
    refine aN_ X19 hx hby d31_40 rfl rfl ?_
    exact k_)
  obtain ⟨T22, X22, e22, st22⟩ := getF X19 hx hZ hown (host := "") (Or.inl (own_w hw 32 rfl)) Via.refl e19 Fv2 (g := (mkF m 41 #[r_ a, r_ a2, r_ a2] [(.ref a2), (.ref b)])) rfl rfl (hb hby d31_41)
  have P23 := oS (T22.setTop (mkF m 44 #[r_ a, r_ a2, r_ a2] [(.ref d), (.ref b)])) P21 (fun t_ k_ => st22 t_ k_)
  obtain ⟨_, T24, L24, X24, hQ24, P24c⟩ := own_cS (W := 0) (rm_eqL_2 l Z a0 hw [] b k d kd x0 x1 h0 n0 Z0 Vb Vd) X22 hx hZ (fun _ _ => trivial) hown (own_w hw 181 rfl) (own_w hw 182 rfl) (own_w hw 183 rfl) (own_w hw 184 rfl) (by decide) P23 hml rfl [(.ref b), (.ref d)] [] rfl rfl rfl pd18 rfl (hb hby d31_44) e22 (by decide)
  obtain ⟨rfl, N24q, e24⟩ := hQ24
  have N24 := Fr.app N0 N24q
  have P25 := own_to (C := T24.setTop (mkF m 47 #[r_ a, r_ a2, r_ a2] [(.int 1)])) P24c
  have P26 := oS (T24.setTop (mkF m 55 #[r_ a, r_ a2, r_ a2] [(.int 1)])) P25 (by
    intro _ k_
    refine XS.ifNo X24.here hx rfl (hb hby d31_47) rfl ((if0 _ _).trans (feq (by decide : ¬ ((1 : Int32) = (0 : Int32)))).1) ?_
    refine XS.iconst X24.here hx rfl (hb hby d31_50) ?_
    refine gt_ X24 hx hby d31_51 (pc := 51) (pc' := 55) (by decide) ?_
    exact k_)
  exact own_out X24 hlk (v := some (.int 1)) (own_hv hrt) P26 (fun _ q_ => retN X24 hx (t := .boolean) hrt (by simp) (hb hby d31_55) q_) e24 ⟨rfl, N24, rfl⟩ (by decide)
def Q_buD_2 (Z : State) (de : Addr) (a : Addr) (b : Addr) (k : ClassId) (x0 : Int32) (x1 : Int32) (s0 : Int32) (s1 : Int32) (y0 : Int32) (rdt : Addr) (kdt : ClassId) (riso : Addr) (rutf : Addr) (cs : Int32) (en : Addr) (v0 : Int32) (v1 : Int32) (ret_ : Addr) (ket : ClassId) (fm : Value) (h0 : Heap) (n0 : Nat) (v_ : Option Value) (h : Heap) (L_ : List Loc) : Prop := ∃ (xq : Addr) (kk : ClassId), v_ = some (.ref xq) ∧ Fr n0 L_ ∧ Keep h0 h [] ∧ h0.size ≤ xq ∧ Arv Z h xq kk .byte (1 : Int32) [(.int y0)] (.int 0)
set_option maxRecDepth 65536 in
set_option maxHeartbeats 40000000 in
theorem rm_buD_2 (l : Launch) (Z : State) (a0 : Array Value) (hw : ∀ d ∈ tables_1, d.before a0 Z = true) (ws : List Jvm.Cond) (de : Addr) (a : Addr) (b : Addr) (k : ClassId) (x0 : Int32) (x1 : Int32) (s0 : Int32) (s1 : Int32) (y0 : Int32) (rdt : Addr) (kdt : ClassId) (riso : Addr) (rutf : Addr) (cs : Int32) (en : Addr) (v0 : Int32) (v1 : Int32) (ret_ : Addr) (ket : ClassId) (fm : Value) (h0 : Heap) (n0 : Nat) (Z0 : n0 ≤ h0.size) (O : Old Z n0 h0) (Scs : Sta Z Z.heap "java/lang/String" "COMPACT_STRINGS" "Z" (.int cs)) (hcs : ¬ (cs = (0 : Int32))) (Siso : Sta Z Z.heap "sun/nio/cs/ISO_8859_1" "INSTANCE" "Lsun/nio/cs/ISO_8859_1;" (.ref riso)) (Sutf : Sta Z Z.heap "sun/nio/cs/UTF_8" "INSTANCE" "Lsun/nio/cs/UTF_8;" (.ref rutf)) (nci : riso ≠ rutf) (Sdt : Sta Z Z.heap "java/util/Base64$Decoder" "fromBase64URL" "[I" (.ref rdt)) (Vdt : Arv Z Z.heap rdt kdt .int (256 : Int32) own_dec (.int 0)) (Ed : Exa Z h0 de "java/util/Base64$Decoder") (Fu : Fld Z h0 de "java/util/Base64$Decoder" "isURL" "Z" (.int 1)) (Fm : Fld Z h0 de "java/util/Base64$Decoder" "isMIME" "Z" (.int 0)) (Ea : Exa Z h0 a "java/lang/String") (Fc : Fld Z h0 a "java/lang/String" "coder" "B" (.int 0)) (Fv : Fld Z h0 a "java/lang/String" "value" "[B" (.ref b)) (Vb : Arv Z h0 b k .byte (2 : Int32) [(.int x0), (.int x1)] (.int 0)) (Eb : Exa Z h0 b "[B") (h61 : ¬ (x1 = (61 : Int32))) (hj0 : ¬ (x0 &&& 255) < 0 ∧ (x0 &&& 255) < (256 : Int32)) (hd0 : own_dec.getD (x0 &&& 255).toNatClampNeg (.int 0) = .int s0) (hs0 : ¬ (s0 < (0 : Int32))) (hj1 : ¬ (x1 &&& 255) < 0 ∧ (x1 &&& 255) < (256 : Int32)) (hd1 : own_dec.getD (x1 &&& 255).toNatClampNeg (.int 0) = .int s1) (hs1 : ¬ (s1 < (0 : Int32))) (hy0 : (((((0 : Int32) ||| (s0 <<< ((18 : Int32) &&& 31))) ||| (s1 <<< ((12 : Int32) &&& 31))) >>> ((16 : Int32) &&& 31)).toInt8.toInt32).toInt8.toInt32 = y0) (Sfm : Sta Z Z.heap "jdk/internal/util/Preconditions" "SIOOBE_FORMATTER" "Ljava/util/function/BiFunction;" fm) (hfm : fm.category = 1) (Set : Sta Z Z.heap "java/util/Base64$Encoder" "toBase64URL" "[C" (.ref ret_)) (Vet : Arv Z Z.heap ret_ ket .char (64 : Int32) own_enc (.int 0)) (Ee : Exa Z h0 en "java/util/Base64$Encoder") (Fp : Fld Z h0 en "java/util/Base64$Encoder" "doPadding" "Z" (.int 0)) (Fl : Fld Z h0 en "java/util/Base64$Encoder" "linemax" "I" (.int (-1 : Int32))) (Fe : Fld Z h0 en "java/util/Base64$Encoder" "isURL" "Z" (.int 1)) (hk0 : ¬ ((y0 &&& 255) >>> ((2 : Int32) &&& 31)) < 0 ∧ ((y0 &&& 255) >>> ((2 : Int32) &&& 31)) < (64 : Int32)) (hv0 : own_enc.getD ((y0 &&& 255) >>> ((2 : Int32) &&& 31)).toNatClampNeg (.int 0) = .int v0) (hz0 : v0.toInt8.toInt32.toInt8.toInt32 = x0) (hk1 : ¬ (((y0 &&& 255) <<< ((4 : Int32) &&& 31)) &&& 63) < 0 ∧ (((y0 &&& 255) <<< ((4 : Int32) &&& 31)) &&& 63) < (64 : Int32)) (hv1 : own_enc.getD (((y0 &&& 255) <<< ((4 : Int32) &&& 31)) &&& 63).toNatClampNeg (.int 0) = .int v1) (hz1 : v1.toInt8.toInt32.toInt8.toInt32 = x1) (Senc : Sta Z Z.heap "com/example/verified_health_identity/verifiedhealthidentity/jose/Base64url" "ENCODER" "Ljava/util/Base64$Encoder;" (.ref en)) (Sdec : Sta Z Z.heap "com/example/verified_health_identity/verifiedhealthidentity/jose/Base64url" "DECODER" "Ljava/util/Base64$Decoder;" (.ref de)) :
    own_MF l yM33 (.codeWith yM33 cB33 3 (some (.array .byte)) [(0, 8, 11, 29)]) ws ⟨6, 5, 15, 89⟩ #[(.ref a)] Z h0 own_T (Q_buD_2 Z de a b k x0 x1 s0 s1 y0 rdt kdt riso rutf cs en v0 v1 ret_ ket fm h0 n0) := by
  refine own_in "com/example/verified_health_identity/verifiedhealthidentity/jose/Base64url" rfl (plainFor_of_name pn6) hisWith (fun m => ef33R m a) ?_
  intro p e s m below meth c s₁ A_ hx hby hml hown hnm hrt hlk hZ _ X0 e0 pre0
  have N0 := Fr.nil n0
  obtain ⟨T1, X1, e1, st1⟩ := getS2 X0 hx hZ hown (host := "") (Or.inl (own_w hw 51 rfl)) Via.refl e0 (Sdec.ext O.2) (g := (mkF m 0 #[r_ a, u_, u_] [])) rfl (hb hby d33_0)
  have P2 := oS (T1.setTop (mkF m 3 #[r_ a, u_, u_] [(.ref de)])) pre0 (fun t_ k_ => st1 t_ k_)
  have P3 := oS (T1.setTop (mkF m 4 #[r_ a, u_, u_] [(.ref a), (.ref de)])) P2 (by
    intro _ k_
    refine aN_ X1 hx hby d33_3 rfl rfl ?_
    exact k_)
  obtain ⟨_, T4, L4, X4, hQ4, P4c⟩ := own_cV (W := 0) (rm_decS_2 l Z a0 hw [] de a b k x0 x1 s0 s1 y0 rdt kdt riso rutf cs h0 n0 Z0 O Scs hcs Siso Sutf nci Sdt Vdt Ed Fu Fm Ea Fc Fv Vb Eb h61 hj0 hd0 hs0 hj1 hd1 hs1 hy0) X1 hx hZ (fun _ _ => trivial) hown Ed (own_w hw 53 rfl) (own_w hw 54 rfl) (own_w hw 56 rfl) (own_w hw 55 rfl) (own_w hw 57 rfl) (own_w hw 58 rfl) (by decide) P3 hml rfl [(.ref a)] [] rfl rfl rfl pd19 rfl (hb hby d33_4) e1 (by decide)
  obtain ⟨xq4, kk4, rfl, N4q, K4, f5, f6, f7⟩ := hQ4
  have N4 := Fr.app N0 N4q
  have sz_xq4 : h0.size ≤ xq4 := Nat.le_trans (Keep.refl h0 []).1 f5
  have f8 := O.keep K4 all0
  have f11 := Fp.keep K4 nin0
  have f12 := Fl.keep K4 nin0
  have f13 := Fe.keep K4 nin0
  have f14 := (Keep.refl h0 []).trans K4 all0
  have f15 := Ee.keep K4
  have f16 := Ea.keep K4
  have f17 := Fc.keep K4 nin0
  have f18 := Fv.keep K4 nin0
  have f19 := Vb.keep K4 nin0
  have Z22 : n0 ≤ T4.heap.size := Nat.le_trans Z0 K4.1
  have P23 := own_to (C := T4.setTop (mkF m 7 #[r_ a, u_, u_] [(.ref xq4)])) P4c
  have P24 := oS (T4.setTop (mkF m 24 #[r_ a, r_ xq4, u_] [(.ref xq4)])) P23 (by
    intro _ k_
    refine XS.astoreN X4.here hx rfl (hb hby d33_7) rfl rfl (l' := #[r_ a, r_ xq4, u_]) rfl ?_
    refine gt_ X4 hx hby d33_8 (pc := 8) (pc' := 23) (by decide) ?_
    refine aN_ X4 hx hby d33_23 rfl rfl ?_
    exact k_)
  obtain ⟨_, T25, L25, X25, hQ25, P25c⟩ := own_cS (W := 0) (rm_buE_1 l Z a0 hw [] en xq4 kk4 y0 v0 v1 x0 x1 ret_ ket fm cs T4.heap n0 Z22 f8 Scs hcs Sfm hfm Set Vet f15 f11 f12 f13 f6 hk0 hv0 hz0 hk1 hv1 hz1 Senc) X4 hx hZ (fun _ _ => trivial) hown (own_w hw 109 rfl) (own_w hw 110 rfl) (own_w hw 36 rfl) (own_w hw 111 rfl) (by decide) P24 hml rfl [(.ref xq4)] [] rfl rfl rfl pd17 rfl (hb hby d33_24) (rfl : T4.heap = _) (by decide)
  obtain ⟨rs25, rv25, kr25, rfl, N25q, K25, f26, f27, f28, f29, f30, f31⟩ := hQ25
  have N25 := Fr.app N4 N25q
  have ne_a_rs25 : a ≠ rs25 := Nat.ne_of_lt (Nat.lt_of_lt_of_le f16.lt f26)
  have f32 := f8.keep K25 all0
  have f38 := f14.trans K25 all0
  have f40 := f16.keep K25
  have f41 := f17.keep K25 nin0
  have f42 := f18.keep K25 nin0
  have f43 := f19.keep K25 nin0
  have f46 := f6.keep K25 nin0
  have Z48 : n0 ≤ T25.heap.size := Nat.le_trans Z22 K25.1
  have P49 := own_to (C := T25.setTop (mkF m 27 #[r_ a, r_ xq4, u_] [(.ref rs25)])) P25c
  have P50 := oS (T25.setTop (mkF m 28 #[r_ a, r_ xq4, u_] [(.ref a), (.ref rs25)])) P49 (by
    intro _ k_
    refine aN_ X25 hx hby d33_27 rfl rfl ?_
    exact k_)
  obtain ⟨_, T51, L51, X51, hQ51, P51c⟩ := own_cV (W := 0) (rm_eqS_2 l Z a0 hw [] rs25 a rv25 kr25 b k x0 x1 cs T25.heap n0 Z48 f32 Scs hcs (Ne.symm ne_a_rs25) f27 f28 f29 f40 f41 f42 f30 f43) X25 hx hZ (fun _ _ => trivial) hown f27 (own_w hw 175 rfl) (own_w hw 176 rfl) (own_w hw 178 rfl) (own_w hw 177 rfl) (own_w hw 7 rfl) (own_w hw 179 rfl) (by decide) P50 hml rfl [(.ref a)] [] rfl rfl rfl pd20 rfl (hb hby d33_28) (rfl : T25.heap = _) (by decide)
  obtain ⟨rfl, N51q, e51⟩ := hQ51
  have N51 := Fr.app N25 N51q
  have P52 := own_to (C := T51.setTop (mkF m 31 #[r_ a, r_ xq4, u_] [(.int 1)])) P51c
  have P53 := oS (T51.setTop (mkF m 45 #[r_ a, r_ xq4, u_] [(.ref xq4)])) P52 (by
    intro _ k_
    refine fY_ X51 hx hby d33_31 (pc := 31) (pc' := 44) ((if0 _ _).trans (feq (by decide : ¬ ((1 : Int32) = (0 : Int32)))).2) (by decide) ?_
    refine aN_ X51 hx hby d33_44 rfl rfl ?_
    exact k_)
  exact own_out X51 hlk (v := some (.ref xq4)) (own_hv hrt) P53 (fun _ q_ => retOut X51 hx hrt rfl (Or.inr (Or.inr (Or.inr (Or.inr ⟨rfl, rfl, rfl⟩)))) (hb hby d33_45) q_) e51 ⟨xq4, kk4, rfl, N51, f38, sz_xq4, f46⟩ (by decide)
def Q_buD2_2 (Z : State) (de : Addr) (a : Addr) (b : Addr) (k : ClassId) (x0 : Int32) (x1 : Int32) (s0 : Int32) (s1 : Int32) (y0 : Int32) (rdt : Addr) (kdt : ClassId) (riso : Addr) (rutf : Addr) (cs : Int32) (en : Addr) (v0 : Int32) (v1 : Int32) (ret_ : Addr) (ket : ClassId) (fm : Value) (h0 : Heap) (n0 : Nat) (v_ : Option Value) (h : Heap) (L_ : List Loc) : Prop := ∃ (xq : Addr) (kk : ClassId), v_ = some (.ref xq) ∧ Fr n0 L_ ∧ Keep h0 h [] ∧ h0.size ≤ xq ∧ Arv Z h xq kk .byte (1 : Int32) [(.int y0)] (.int 0)
set_option maxRecDepth 65536 in
set_option maxHeartbeats 40000000 in
theorem rm_buD2_2 (l : Launch) (Z : State) (a0 : Array Value) (hw : ∀ d ∈ tables_1, d.before a0 Z = true) (ws : List Jvm.Cond) (de : Addr) (a : Addr) (b : Addr) (k : ClassId) (x0 : Int32) (x1 : Int32) (s0 : Int32) (s1 : Int32) (y0 : Int32) (rdt : Addr) (kdt : ClassId) (riso : Addr) (rutf : Addr) (cs : Int32) (en : Addr) (v0 : Int32) (v1 : Int32) (ret_ : Addr) (ket : ClassId) (fm : Value) (h0 : Heap) (n0 : Nat) (Z0 : n0 ≤ h0.size) (O : Old Z n0 h0) (Scs : Sta Z Z.heap "java/lang/String" "COMPACT_STRINGS" "Z" (.int cs)) (hcs : ¬ (cs = (0 : Int32))) (Siso : Sta Z Z.heap "sun/nio/cs/ISO_8859_1" "INSTANCE" "Lsun/nio/cs/ISO_8859_1;" (.ref riso)) (Sutf : Sta Z Z.heap "sun/nio/cs/UTF_8" "INSTANCE" "Lsun/nio/cs/UTF_8;" (.ref rutf)) (nci : riso ≠ rutf) (Sdt : Sta Z Z.heap "java/util/Base64$Decoder" "fromBase64URL" "[I" (.ref rdt)) (Vdt : Arv Z Z.heap rdt kdt .int (256 : Int32) own_dec (.int 0)) (Ed : Exa Z h0 de "java/util/Base64$Decoder") (Fu : Fld Z h0 de "java/util/Base64$Decoder" "isURL" "Z" (.int 1)) (Fm : Fld Z h0 de "java/util/Base64$Decoder" "isMIME" "Z" (.int 0)) (Ea : Exa Z h0 a "java/lang/String") (Fc : Fld Z h0 a "java/lang/String" "coder" "B" (.int 0)) (Fv : Fld Z h0 a "java/lang/String" "value" "[B" (.ref b)) (Vb : Arv Z h0 b k .byte (2 : Int32) [(.int x0), (.int x1)] (.int 0)) (Eb : Exa Z h0 b "[B") (h61 : ¬ (x1 = (61 : Int32))) (hj0 : ¬ (x0 &&& 255) < 0 ∧ (x0 &&& 255) < (256 : Int32)) (hd0 : own_dec.getD (x0 &&& 255).toNatClampNeg (.int 0) = .int s0) (hs0 : ¬ (s0 < (0 : Int32))) (hj1 : ¬ (x1 &&& 255) < 0 ∧ (x1 &&& 255) < (256 : Int32)) (hd1 : own_dec.getD (x1 &&& 255).toNatClampNeg (.int 0) = .int s1) (hs1 : ¬ (s1 < (0 : Int32))) (hy0 : (((((0 : Int32) ||| (s0 <<< ((18 : Int32) &&& 31))) ||| (s1 <<< ((12 : Int32) &&& 31))) >>> ((16 : Int32) &&& 31)).toInt8.toInt32).toInt8.toInt32 = y0) (Sfm : Sta Z Z.heap "jdk/internal/util/Preconditions" "SIOOBE_FORMATTER" "Ljava/util/function/BiFunction;" fm) (hfm : fm.category = 1) (Set : Sta Z Z.heap "java/util/Base64$Encoder" "toBase64URL" "[C" (.ref ret_)) (Vet : Arv Z Z.heap ret_ ket .char (64 : Int32) own_enc (.int 0)) (Ee : Exa Z h0 en "java/util/Base64$Encoder") (Fp : Fld Z h0 en "java/util/Base64$Encoder" "doPadding" "Z" (.int 0)) (Fl : Fld Z h0 en "java/util/Base64$Encoder" "linemax" "I" (.int (-1 : Int32))) (Fe : Fld Z h0 en "java/util/Base64$Encoder" "isURL" "Z" (.int 1)) (hk0 : ¬ ((y0 &&& 255) >>> ((2 : Int32) &&& 31)) < 0 ∧ ((y0 &&& 255) >>> ((2 : Int32) &&& 31)) < (64 : Int32)) (hv0 : own_enc.getD ((y0 &&& 255) >>> ((2 : Int32) &&& 31)).toNatClampNeg (.int 0) = .int v0) (hz0 : v0.toInt8.toInt32.toInt8.toInt32 = x0) (hk1 : ¬ (((y0 &&& 255) <<< ((4 : Int32) &&& 31)) &&& 63) < 0 ∧ (((y0 &&& 255) <<< ((4 : Int32) &&& 31)) &&& 63) < (64 : Int32)) (hv1 : own_enc.getD (((y0 &&& 255) <<< ((4 : Int32) &&& 31)) &&& 63).toNatClampNeg (.int 0) = .int v1) (hz1 : v1.toInt8.toInt32.toInt8.toInt32 = x1) (Senc : Sta Z Z.heap "com/example/verified_health_identity/verifiedhealthidentity/jose/Base64url" "ENCODER" "Ljava/util/Base64$Encoder;" (.ref en)) (Sdec : Sta Z Z.heap "com/example/verified_health_identity/verifiedhealthidentity/jose/Base64url" "DECODER" "Ljava/util/Base64$Decoder;" (.ref de)) :
    own_MF l yM8 (.code yM8 cB8 2 (some (.array .byte))) ws ⟨7, 5, 15, 103⟩ #[(.ref a), (.int 1)] Z h0 own_T (Q_buD2_2 Z de a b k x0 x1 s0 s1 y0 rdt kdt riso rutf cs en v0 v1 ret_ ket fm h0 n0) := by
  refine own_in "com/example/verified_health_identity/verifiedhealthidentity/jose/Base64url" rfl (plainFor_of_name pn6) hisR (fun m => ef8RI m a (1 : Int32)) ?_
  intro p e s m below meth c s₁ A_ hx hby hml hown hnm hrt hlk hZ _ X0 e0 pre0
  have N0 := Fr.nil n0
  have P1 := oS (s₁.setTop (mkF m 1 #[r_ a, i_ 1] [(.ref a)])) pre0 (by
    intro _ k_
    refine aN_ X0 hx hby d8_0 rfl rfl ?_
    exact k_)
  obtain ⟨_, T2, L2, X2, hQ2, P2c⟩ := own_cV (W := 0) (rm_length l Z a0 hw [] a b k (2 : Int32) [(.int x0), (.int x1)] cs h0 n0 Z0 O Scs hcs Ea Fc Fv Vb) X0 hx hZ (fun _ _ => trivial) hown Ea (own_w hw 38 rfl) (own_w hw 39 rfl) (own_w hw 41 rfl) (own_w hw 40 rfl) (own_w hw 7 rfl) (own_w hw 42 rfl) (by decide) P1 hml rfl [] [] rfl rfl rfl pd21 rfl (hb hby d8_1) e0 (by decide)
  obtain ⟨rfl, N2q, e2⟩ := hQ2
  have N2 := Fr.app N0 N2q
  have P3 := own_to (C := T2.setTop (mkF m 4 #[r_ a, i_ 1] [(.int 2)])) P2c
  have P4 := oS (T2.setTop (mkF m 11 #[r_ a, i_ 1] [(.int 2), (.int 2)])) P3 (by
    intro _ k_
    refine iN_ X2 hx hby d8_4 rfl ?_
    refine XS.iconst X2.here hx rfl (hb hby d8_5) ?_
    refine XS.imul X2.here hx rfl (hb hby d8_6) rfl ?_
    show Steps p.tables e below (T2.setTop (mkF m 7 #[r_ a, i_ 1] [(.int 4), (.int 2)])) _
    refine XS.iconst X2.here hx rfl (hb hby d8_7) ?_
    refine XS.iadd X2.here hx rfl (hb hby d8_8) rfl ?_
    show Steps p.tables e below (T2.setTop (mkF m 9 #[r_ a, i_ 1] [(.int 6), (.int 2)])) _
    refine XS.iconst X2.here hx rfl (hb hby d8_9) ?_
    refine XS.idiv X2.here hx rfl (hb hby d8_10) rfl (by decide) ?_
    exact k_)
  have P5 := oS (T2.setTop (mkF m 29 #[r_ a, i_ 1] [(.ref a)])) P4 (by
    intro _ k_
    refine cY_ X2 hx hby d8_11 (pc := 11) (pc' := 28) (teq (by decide : (2 : Int32) = (2 : Int32))).1 (by decide) ?_
    refine aN_ X2 hx hby d8_28 rfl rfl ?_
    exact k_)
  obtain ⟨_, T6, L6, X6, hQ6, P6c⟩ := own_cSH (W := 0) (rm_buD_2 l Z a0 hw [] de a b k x0 x1 s0 s1 y0 rdt kdt riso rutf cs en v0 v1 ret_ ket fm h0 n0 Z0 O Scs hcs Siso Sutf nci Sdt Vdt Ed Fu Fm Ea Fc Fv Vb Eb h61 hj0 hd0 hs0 hj1 hd1 hs1 hy0 Sfm hfm Set Vet Ee Fp Fl Fe hk0 hv0 hz0 hk1 hv1 hz1 Senc Sdec) X2 hx hZ (fun _ _ => trivial) hown (own_w hw 48 rfl) (own_w hw 49 rfl) (own_w hw 36 rfl) (own_w hw 50 rfl) (by decide) P5 hml rfl [(.ref a)] [] rfl rfl rfl pd19 rfl (hb hby d8_29) e2 (by decide)
  obtain ⟨xq6, kk6, rfl, N6q, K6, f7, f8⟩ := hQ6
  have N6 := Fr.app N2 N6q
  have sz_xq6 : h0.size ≤ xq6 := Nat.le_trans (Keep.refl h0 []).1 f7
  have f15 := (Keep.refl h0 []).trans K6 all0
  have P24 := own_to (C := T6.setTop (mkF m 32 #[r_ a, i_ 1] [(.ref xq6)])) P6c
  exact own_out X6 hlk (v := some (.ref xq6)) (own_hv hrt) P24 (fun _ q_ => retOut X6 hx hrt rfl (Or.inr (Or.inr (Or.inr (Or.inr ⟨rfl, rfl, rfl⟩)))) (hb hby d8_32) q_) (rfl : T6.heap = _) ⟨xq6, kk6, rfl, N6, f15, sz_xq6, f8⟩ (by decide)
def Q_dol_3 (Z : State) (de : Addr) (b : Addr) (k : ClassId) (x0 : Int32) (x1 : Int32) (x2 : Int32) (rdt : Addr) (kdt : ClassId) (h0 : Heap) (n0 : Nat) (v_ : Option Value) (h : Heap) (L_ : List Loc) : Prop := v_ = some (.int 2) ∧ Fr n0 L_ ∧ h = h0
set_option maxRecDepth 65536 in
set_option maxHeartbeats 40000000 in
theorem rm_dol_3 (l : Launch) (Z : State) (a0 : Array Value) (hw : ∀ d ∈ tables_1, d.before a0 Z = true) (ws : List Jvm.Cond) (de : Addr) (b : Addr) (k : ClassId) (x0 : Int32) (x1 : Int32) (x2 : Int32) (rdt : Addr) (kdt : ClassId) (h0 : Heap) (n0 : Nat) (Z0 : n0 ≤ h0.size) (O : Old Z n0 h0) (Sdt : Sta Z Z.heap "java/util/Base64$Decoder" "fromBase64URL" "[I" (.ref rdt)) (Vdt : Arv Z Z.heap rdt kdt .int (256 : Int32) own_dec (.int 0)) (Fu : Fld Z h0 de "java/util/Base64$Decoder" "isURL" "Z" (.int 1)) (Fm : Fld Z h0 de "java/util/Base64$Decoder" "isMIME" "Z" (.int 0)) (Vb : Arv Z h0 b k .byte (3 : Int32) [(.int x0), (.int x1), (.int x2)] (.int 0)) (h61 : ¬ (x2 = (61 : Int32))) :
    own_MF l yM17 (.code yM17 cB17 9 (some .int)) ws ⟨0, 0, 0, 0⟩ #[(.ref de), (.ref b), (.int 0), (.int 3)] Z h0 own_T (Q_dol_3 Z de b k x0 x1 x2 rdt kdt h0 n0) := by
  refine own_in "java/util/Base64$Decoder" rfl (plainFor_of_name pn3) hisR (fun m => ef17RRII m de b (0 : Int32) (3 : Int32)) ?_
  intro p e s m below meth c s₁ A_ hx hby hml hown hnm hrt hlk hZ _ X0 e0 pre0
  have N0 := Fr.nil n0
  have P1 := oS (s₁.setTop (mkF m 1 #[r_ de, r_ b, i_ 0, i_ 3, u_, u_, u_, u_, u_] [(.ref de)])) pre0 (by
    intro _ k_
    refine aN_ X0 hx hby d17_0 rfl rfl ?_
    exact k_)
  obtain ⟨T2, X2, e2, st2⟩ := getF X0 hx hZ hown (host := "") (Or.inl (own_w hw 97 rfl)) Via.refl e0 Fu (g := (mkF m 1 #[r_ de, r_ b, i_ 0, i_ 3, u_, u_, u_, u_, u_] [(.ref de)])) rfl rfl (hb hby d17_1)
  have P3 := oS (T2.setTop (mkF m 4 #[r_ de, r_ b, i_ 0, i_ 3, u_, u_, u_, u_, u_] [(.int 1)])) P1 (fun t_ k_ => st2 t_ k_)
  have P4 := oS (T2.setTop (mkF m 7 #[r_ de, r_ b, i_ 0, i_ 3, u_, u_, u_, u_, u_] [])) P3 (by
    intro _ k_
    refine XS.ifNo X2.here hx rfl (hb hby d17_4) rfl ((if0 _ _).trans (feq (by decide : ¬ ((1 : Int32) = (0 : Int32)))).1) ?_
    exact k_)
  obtain ⟨T5, X5, e5, st5⟩ := getS2 X2 hx hZ hown (host := "") (Or.inl (own_w hw 99 rfl)) Via.refl e2 (Sdt.ext O.2) (g := (mkF m 7 #[r_ de, r_ b, i_ 0, i_ 3, u_, u_, u_, u_, u_] [])) rfl (hb hby d17_7)
  have P6 := oS (T5.setTop (mkF m 10 #[r_ de, r_ b, i_ 0, i_ 3, u_, u_, u_, u_, u_] [(.ref rdt)])) P4 (fun t_ k_ => st5 t_ k_)
  have P7 := oS (T5.setTop (mkF m 28 #[r_ de, r_ b, i_ 0, i_ 3, r_ rdt, i_ 0, i_ 3, u_, u_] [(.int 3)])) P6 (by
    intro _ k_
    refine gt_ X5 hx hby d17_10 (pc := 10) (pc' := 16) (by decide) ?_
    refine XS.astore X5.here hx rfl (hb hby d17_16) rfl rfl (l' := #[r_ de, r_ b, i_ 0, i_ 3, r_ rdt, u_, u_, u_, u_]) rfl ?_
    refine XS.iconst X5.here hx rfl (hb hby d17_18) ?_
    refine is_ X5 hx hby d17_19 (l' := #[r_ de, r_ b, i_ 0, i_ 3, r_ rdt, i_ 0, u_, u_, u_]) rfl ?_
    refine iN_ X5 hx hby d17_21 rfl ?_
    refine iN_ X5 hx hby d17_22 rfl ?_
    refine XS.isub X5.here hx rfl (hb hby d17_23) rfl ?_
    show Steps p.tables e below (T5.setTop (mkF m 24 #[r_ de, r_ b, i_ 0, i_ 3, r_ rdt, i_ 0, u_, u_, u_] [(.int 3)])) _
    refine is_ X5 hx hby d17_24 (l' := #[r_ de, r_ b, i_ 0, i_ 3, r_ rdt, i_ 0, i_ 3, u_, u_]) rfl ?_
    refine il_ X5 hx hby d17_26 rfl ?_
    exact k_)
  have P8 := oS (T5.setTop (mkF m 36 #[r_ de, r_ b, i_ 0, i_ 3, r_ rdt, i_ 0, i_ 3, u_, u_] [(.int 2), (.int 3)])) P7 (by
    intro _ k_
    refine fY_ X5 hx hby d17_28 (pc := 28) (pc' := 33) ((if0 _ _).trans (feq (by decide : ¬ ((3 : Int32) = (0 : Int32)))).2) (by decide) ?_
    refine il_ X5 hx hby d17_33 rfl ?_
    refine XS.iconst X5.here hx rfl (hb hby d17_35) ?_
    exact k_)
  have P9 := oS (T5.setTop (mkF m 67 #[r_ de, r_ b, i_ 0, i_ 3, r_ rdt, i_ 0, i_ 3, u_, u_] [(.ref de)])) P8 (by
    intro _ k_
    refine cY_ X5 hx hby d17_36 (pc := 36) (pc' := 66) (flt (by decide : ¬ ((3 : Int32) < (2 : Int32)))).2.1 (by decide) ?_
    refine aN_ X5 hx hby d17_66 rfl rfl ?_
    exact k_)
  obtain ⟨T10, X10, e10, st10⟩ := getF X5 hx hZ hown (host := "") (Or.inl (own_w hw 100 rfl)) Via.refl e5 Fm (g := (mkF m 67 #[r_ de, r_ b, i_ 0, i_ 3, r_ rdt, i_ 0, i_ 3, u_, u_] [(.ref de)])) rfl rfl (hb hby d17_67)
  have P11 := oS (T10.setTop (mkF m 70 #[r_ de, r_ b, i_ 0, i_ 3, r_ rdt, i_ 0, i_ 3, u_, u_] [(.int 0)])) P9 (fun t_ k_ => st10 t_ k_)
  have P12 := oS (T10.setTop (mkF m 145 #[r_ de, r_ b, i_ 0, i_ 3, r_ rdt, i_ 0, i_ 3, u_, u_] [(.int 2), (.ref b)])) P11 (by
    intro _ k_
    refine fY_ X10 hx hby d17_70 (pc := 70) (pc' := 141) ((if0 _ _).trans (teq (by decide : (0 : Int32) = (0 : Int32))).1) (by decide) ?_
    refine aN_ X10 hx hby d17_141 rfl rfl ?_
    refine iN_ X10 hx hby d17_142 rfl ?_
    refine XS.iconst X10.here hx rfl (hb hby d17_143) ?_
    refine XS.isub X10.here hx rfl (hb hby d17_144) rfl ?_
    exact k_)
  obtain ⟨cl13, Ar13, q13, S13, M13, H13, G13⟩ := id Vb
  have hin13 := inb_of S13 (by decide : ¬ (2 : Int32) < 0 ∧ (2 : Int32) < (3 : Int32))
  have hat13 := Has.at H13 hin13 (v := .int x2) rfl
  have P14 := oS (T10.setTop (mkF m 146 #[r_ de, r_ b, i_ 0, i_ 3, r_ rdt, i_ 0, i_ 3, u_, u_] [(.int x2)])) P12 (by
    intro _ k_
    refine X10.baloadBytes hx (j := (2 : Int32)) (v := (.int x2)) (by rw [e10]; exact Ar13.1) (State.isArrayOf_alike hZ.alike Ar13.2.1) Ar13.2.2 hin13 hat13 (g := (mkF m 145 #[r_ de, r_ b, i_ 0, i_ 3, r_ rdt, i_ 0, i_ 3, u_, u_] [(.int 2), (.ref b)])) rfl rfl (hb hby d17_145) _ ?_
    exact k_)
  have P15 := oS (T10.setTop (mkF m 148 #[r_ de, r_ b, i_ 0, i_ 3, r_ rdt, i_ 0, i_ 3, u_, u_] [(.int 61), (.int x2)])) P14 (by
    intro _ k_
    refine XS.bipush X10.here hx rfl (hb hby d17_146) ?_
    exact k_)
  have P16 := oS (T10.setTop (mkF m 169 #[r_ de, r_ b, i_ 0, i_ 3, r_ rdt, i_ 0, i_ 3, u_, u_] [(.int 0)])) P15 (by
    intro _ k_
    refine cY_ X10 hx hby d17_148 (pc := 148) (pc' := 167) (feq h61).2 (by decide) ?_
    refine il_ X10 hx hby d17_167 rfl ?_
    exact k_)
  have P17 := oS (T10.setTop (mkF m 176 #[r_ de, r_ b, i_ 0, i_ 3, r_ rdt, i_ 0, i_ 3, u_, u_] [(.int 3)])) P16 (by
    intro _ k_
    refine XS.ifNo X10.here hx rfl (hb hby d17_169) rfl ((if0 _ _).trans (teq (by decide : (0 : Int32) = (0 : Int32))).2) ?_
    refine il_ X10 hx hby d17_172 rfl ?_
    refine XS.iconst X10.here hx rfl (hb hby d17_174) ?_
    refine XS.iand X10.here hx rfl (hb hby d17_175) rfl ?_
    exact k_)
  have P18 := oS (T10.setTop (mkF m 204 #[r_ de, r_ b, i_ 0, i_ 3, r_ rdt, i_ 1, i_ 3, u_, u_] [(.int (((3 : Int32) * (((((3 : Int32).toInt64) + (3 : Int64)) / (4 : Int64)).toInt32)) - (1 : Int32)))])) P17 (by
    intro _ k_
    refine XS.ifNo X10.here hx rfl (hb hby d17_176) rfl ((if0 _ _).trans (feq (by decide : ¬ ((3 : Int32) = (0 : Int32)))).1) ?_
    refine XS.iconst X10.here hx rfl (hb hby d17_179) ?_
    refine il_ X10 hx hby d17_180 rfl ?_
    refine XS.iconst X10.here hx rfl (hb hby d17_182) ?_
    refine XS.iand X10.here hx rfl (hb hby d17_183) rfl ?_
    show Steps p.tables e below (T10.setTop (mkF m 184 #[r_ de, r_ b, i_ 0, i_ 3, r_ rdt, i_ 0, i_ 3, u_, u_] [(.int 3), (.int 4)])) _
    refine XS.isub X10.here hx rfl (hb hby d17_184) rfl ?_
    show Steps p.tables e below (T10.setTop (mkF m 185 #[r_ de, r_ b, i_ 0, i_ 3, r_ rdt, i_ 0, i_ 3, u_, u_] [(.int 1)])) _
    refine is_ X10 hx hby d17_185 (l' := #[r_ de, r_ b, i_ 0, i_ 3, r_ rdt, i_ 1, i_ 3, u_, u_]) rfl ?_
    refine XS.iconst X10.here hx rfl (hb hby d17_187) ?_
    refine il_ X10 hx hby d17_188 rfl ?_
    refine XS.i2l X10.here hx rfl (hb hby d17_190) rfl ?_
    refine X10.ldc2Long hx hown (mvT hZ (own_w hw 102 rfl)) (g := (mkF m 191 #[r_ de, r_ b, i_ 0, i_ 3, r_ rdt, i_ 1, i_ 3, u_, u_] [(.long ((3 : Int32).toInt64)), (.int 3)])) rfl (hb hby d17_191) _ ?_
    refine XS.ladd X10.here hx rfl (hb hby d17_194) rfl ?_
    refine X10.ldc2Long hx hown (mvT hZ (own_w hw 103 rfl)) (g := (mkF m 195 #[r_ de, r_ b, i_ 0, i_ 3, r_ rdt, i_ 1, i_ 3, u_, u_] [(.long (((3 : Int32).toInt64) + (3 : Int64))), (.int 3)])) rfl (hb hby d17_195) _ ?_
    refine XS.ldiv X10.here hx rfl (hb hby d17_198) rfl (by decide) ?_
    refine XS.l2i X10.here hx rfl (hb hby d17_199) rfl ?_
    refine XS.imul X10.here hx rfl (hb hby d17_200) rfl ?_
    refine il_ X10 hx hby d17_201 rfl ?_
    refine XS.isub X10.here hx rfl (hb hby d17_203) rfl ?_
    exact k_)
  exact own_out X10 hlk (v := some (.int (((3 : Int32) * (((((3 : Int32).toInt64) + (3 : Int64)) / (4 : Int64)).toInt32)) - (1 : Int32)))) (own_hv hrt) P18 (fun _ q_ => retI X10 hx hrt (hb hby d17_204) q_) e10 ⟨(congrArg (fun z : Int32 => some (Value.int z)) (by decide +kernel)), N0, rfl⟩ (by decide)
theorem d18_310 : own_d cB18 310 (.aload 4) 2 := by decide +kernel
theorem d18_312 : own_d cB18 312 (.iload 6) 2 := by decide +kernel
theorem d18_314 : own_d cB18 314 (.iinc 6 1) 3 := by decide +kernel
theorem d18_317 : own_d cB18 317 (.iload 7) 2 := by decide +kernel
theorem d18_319 : own_d cB18 319 (.bipush 16) 2 := by decide +kernel
theorem d18_321 : own_d cB18 321 (.ishr) 1 := by decide +kernel
theorem d18_322 : own_d cB18 322 (.i2b) 1 := by decide +kernel
theorem d18_323 : own_d cB18 323 (.bastore) 1 := by decide +kernel
theorem d18_324 : own_d cB18 324 (.aload 4) 2 := by decide +kernel
theorem d18_326 : own_d cB18 326 (.iload 6) 2 := by decide +kernel
theorem d18_328 : own_d cB18 328 (.iinc 6 1) 3 := by decide +kernel
theorem d18_331 : own_d cB18 331 (.iload 7) 2 := by decide +kernel
theorem d18_333 : own_d cB18 333 (.bipush 8) 2 := by decide +kernel
theorem d18_335 : own_d cB18 335 (.ishr) 1 := by decide +kernel
theorem d18_336 : own_d cB18 336 (.i2b) 1 := by decide +kernel
theorem d18_337 : own_d cB18 337 (.bastore) 1 := by decide +kernel
theorem d18_338 : own_d cB18 338 (.goto 20) 3 := by decide +kernel
def Q_dec0_3 (Z : State) (de : Addr) (b : Addr) (k : ClassId) (d : Addr) (kd : ClassId) (x0 : Int32) (x1 : Int32) (x2 : Int32) (s0 : Int32) (s1 : Int32) (s2 : Int32) (y0 : Int32) (y1 : Int32) (rdt : Addr) (kdt : ClassId) (h0 : Heap) (n0 : Nat) (v_ : Option Value) (h : Heap) (L_ : List Loc) : Prop := v_ = some (.int 2) ∧ Fr n0 L_ ∧ Keep h0 h [d] ∧ Arv Z h d kd .byte (2 : Int32) [(.int y0), (.int y1)] (.int 0)
set_option maxRecDepth 65536 in
set_option maxHeartbeats 40000000 in
theorem rm_dec0_3 (l : Launch) (Z : State) (a0 : Array Value) (hw : ∀ d ∈ tables_1, d.before a0 Z = true) (ws : List Jvm.Cond) (de : Addr) (b : Addr) (k : ClassId) (d : Addr) (kd : ClassId) (x0 : Int32) (x1 : Int32) (x2 : Int32) (s0 : Int32) (s1 : Int32) (s2 : Int32) (y0 : Int32) (y1 : Int32) (rdt : Addr) (kdt : ClassId) (h0 : Heap) (n0 : Nat) (Z0 : n0 ≤ h0.size) (O : Old Z n0 h0) (Sdt : Sta Z Z.heap "java/util/Base64$Decoder" "fromBase64URL" "[I" (.ref rdt)) (Vdt : Arv Z Z.heap rdt kdt .int (256 : Int32) own_dec (.int 0)) (Fu : Fld Z h0 de "java/util/Base64$Decoder" "isURL" "Z" (.int 1)) (Fm : Fld Z h0 de "java/util/Base64$Decoder" "isMIME" "Z" (.int 0)) (Vb : Arv Z h0 b k .byte (3 : Int32) [(.int x0), (.int x1), (.int x2)] (.int 0)) (Vd : Arv Z h0 d kd .byte (2 : Int32) [(.int 0), (.int 0)] (.int 0)) (nbd : b ≠ d) (gd : n0 ≤ d) (nde : de ≠ d) (hj0 : ¬ (x0 &&& 255) < 0 ∧ (x0 &&& 255) < (256 : Int32)) (hd0 : own_dec.getD (x0 &&& 255).toNatClampNeg (.int 0) = .int s0) (hs0 : ¬ (s0 < (0 : Int32))) (hj1 : ¬ (x1 &&& 255) < 0 ∧ (x1 &&& 255) < (256 : Int32)) (hd1 : own_dec.getD (x1 &&& 255).toNatClampNeg (.int 0) = .int s1) (hs1 : ¬ (s1 < (0 : Int32))) (hj2 : ¬ (x2 &&& 255) < 0 ∧ (x2 &&& 255) < (256 : Int32)) (hd2 : own_dec.getD (x2 &&& 255).toNatClampNeg (.int 0) = .int s2) (hs2 : ¬ (s2 < (0 : Int32))) (hy0 : ((((((0 : Int32) ||| (s0 <<< ((18 : Int32) &&& 31))) ||| (s1 <<< ((12 : Int32) &&& 31))) ||| (s2 <<< ((6 : Int32) &&& 31))) >>> ((16 : Int32) &&& 31)).toInt8.toInt32).toInt8.toInt32 = y0) (hy1 : ((((((0 : Int32) ||| (s0 <<< ((18 : Int32) &&& 31))) ||| (s1 <<< ((12 : Int32) &&& 31))) ||| (s2 <<< ((6 : Int32) &&& 31))) >>> ((8 : Int32) &&& 31)).toInt8.toInt32).toInt8.toInt32 = y1) :
    own_MF l yM18 (.code yM18 cB18 11 (some .int)) ws ⟨0, 0, 0, 0⟩ #[(.ref de), (.ref b), (.int 0), (.int 3), (.ref d)] Z h0 own_T (Q_dec0_3 Z de b k d kd x0 x1 x2 s0 s1 s2 y0 y1 rdt kdt h0 n0) := by
  refine own_in "java/util/Base64$Decoder" rfl (plainFor_of_name pn3) hisR (fun m => ef18RRIIR m de b (0 : Int32) (3 : Int32) d) ?_
  intro p e s m below meth c s₁ A_ hx hby hml hown hnm hrt hlk hZ _ X0 e0 pre0
  have N0 := Fr.nil n0
  have P1 := oS (s₁.setTop (mkF m 1 #[r_ de, r_ b, i_ 0, i_ 3, r_ d, u_, u_, u_, u_, u_, u_] [(.ref de)])) pre0 (by
    intro _ k_
    refine aN_ X0 hx hby d18_0 rfl rfl ?_
    exact k_)
  obtain ⟨T2, X2, e2, st2⟩ := getF X0 hx hZ hown (host := "") (Or.inl (own_w hw 97 rfl)) Via.refl e0 Fu (g := (mkF m 1 #[r_ de, r_ b, i_ 0, i_ 3, r_ d, u_, u_, u_, u_, u_, u_] [(.ref de)])) rfl rfl (hb hby d18_1)
  have P3 := oS (T2.setTop (mkF m 4 #[r_ de, r_ b, i_ 0, i_ 3, r_ d, u_, u_, u_, u_, u_, u_] [(.int 1)])) P1 (fun t_ k_ => st2 t_ k_)
  have P4 := oS (T2.setTop (mkF m 7 #[r_ de, r_ b, i_ 0, i_ 3, r_ d, u_, u_, u_, u_, u_, u_] [])) P3 (by
    intro _ k_
    refine XS.ifNo X2.here hx rfl (hb hby d18_4) rfl ((if0 _ _).trans (feq (by decide : ¬ ((1 : Int32) = (0 : Int32)))).1) ?_
    exact k_)
  obtain ⟨T5, X5, e5, st5⟩ := getS2 X2 hx hZ hown (host := "") (Or.inl (own_w hw 99 rfl)) Via.refl e2 (Sdt.ext O.2) (g := (mkF m 7 #[r_ de, r_ b, i_ 0, i_ 3, r_ d, u_, u_, u_, u_, u_, u_] [])) rfl (hb hby d18_7)
  have P6 := oS (T5.setTop (mkF m 10 #[r_ de, r_ b, i_ 0, i_ 3, r_ d, u_, u_, u_, u_, u_, u_] [(.ref rdt)])) P4 (fun t_ k_ => st5 t_ k_)
  have P7 := oS (T5.setTop (mkF m 30 #[r_ de, r_ b, i_ 0, i_ 3, r_ d, r_ rdt, i_ 0, i_ 0, i_ 18, u_, u_] [(.int 3), (.int 0)])) P6 (by
    intro _ k_
    refine gt_ X5 hx hby d18_10 (pc := 10) (pc' := 16) (by decide) ?_
    refine XS.astore X5.here hx rfl (hb hby d18_16) rfl rfl (l' := #[r_ de, r_ b, i_ 0, i_ 3, r_ d, r_ rdt, u_, u_, u_, u_, u_]) rfl ?_
    refine XS.iconst X5.here hx rfl (hb hby d18_18) ?_
    refine is_ X5 hx hby d18_19 (l' := #[r_ de, r_ b, i_ 0, i_ 3, r_ d, r_ rdt, i_ 0, u_, u_, u_, u_]) rfl ?_
    refine XS.iconst X5.here hx rfl (hb hby d18_21) ?_
    refine is_ X5 hx hby d18_22 (l' := #[r_ de, r_ b, i_ 0, i_ 3, r_ d, r_ rdt, i_ 0, i_ 0, u_, u_, u_]) rfl ?_
    refine XS.bipush X5.here hx rfl (hb hby d18_24) ?_
    refine is_ X5 hx hby d18_26 (l' := #[r_ de, r_ b, i_ 0, i_ 3, r_ d, r_ rdt, i_ 0, i_ 0, i_ 18, u_, u_]) rfl ?_
    refine iN_ X5 hx hby d18_28 rfl ?_
    refine iN_ X5 hx hby d18_29 rfl ?_
    exact k_)
  have P8 := oS (T5.setTop (mkF m 37 #[r_ de, r_ b, i_ 0, i_ 3, r_ d, r_ rdt, i_ 0, i_ 0, i_ 18, u_, u_] [(.int 18), (.int 18)])) P7 (by
    intro _ k_
    refine XS.icmpNo X5.here hx rfl (hb hby d18_30) rfl (tlt (by decide : (0 : Int32) < (3 : Int32))).2.1 ?_
    refine il_ X5 hx hby d18_33 rfl ?_
    refine XS.bipush X5.here hx rfl (hb hby d18_35) ?_
    exact k_)
  have P9 := oS (T5.setTop (mkF m 44 #[r_ de, r_ b, i_ 0, i_ 3, r_ d, r_ rdt, i_ 0, i_ 0, i_ 18, u_, u_] [(.int (-1 : Int32)), (.int 0)])) P8 (by
    intro _ k_
    refine XS.icmpNo X5.here hx rfl (hb hby d18_37) rfl (teq (by decide : (18 : Int32) = (18 : Int32))).2 ?_
    refine iN_ X5 hx hby d18_40 rfl ?_
    refine iN_ X5 hx hby d18_41 rfl ?_
    refine XS.iconst X5.here hx rfl (hb hby d18_42) ?_
    refine XS.isub X5.here hx rfl (hb hby d18_43) rfl ?_
    exact k_)
  have P10 := oS (T5.setTop (mkF m 92 #[r_ de, r_ b, i_ 0, i_ 3, r_ d, r_ rdt, i_ 0, i_ 0, i_ 18, u_, u_] [(.int 3), (.int 0)])) P9 (by
    intro _ k_
    refine cY_ X5 hx hby d18_44 (pc := 44) (pc' := 90) (flt (by decide : ¬ ((0 : Int32) < (-1 : Int32)))).2.1 (by decide) ?_
    refine iN_ X5 hx hby d18_90 rfl ?_
    refine iN_ X5 hx hby d18_91 rfl ?_
    exact k_)
  have P11 := oS (T5.setTop (mkF m 103 #[r_ de, r_ b, i_ 1, i_ 3, r_ d, r_ rdt, i_ 0, i_ 0, i_ 18, u_, u_] [(.int 0), (.ref b)])) P10 (by
    intro _ k_
    refine cY_ X5 hx hby d18_92 (pc := 92) (pc' := 98) (tlt (by decide : (0 : Int32) < (3 : Int32))).1 (by decide) ?_
    refine aN_ X5 hx hby d18_98 rfl rfl ?_
    refine iN_ X5 hx hby d18_99 rfl ?_
    refine XS.iinc X5.here hx rfl (hb hby d18_100) rfl (l' := #[r_ de, r_ b, i_ 1, i_ 3, r_ d, r_ rdt, i_ 0, i_ 0, i_ 18, u_, u_]) rfl ?_
    exact k_)
  obtain ⟨cl12, Ar12, q12, S12, M12, H12, G12⟩ := id Vb
  have hin12 := inb_of S12 (by decide : ¬ (0 : Int32) < 0 ∧ (0 : Int32) < (3 : Int32))
  have hat12 := Has.at H12 hin12 (v := .int x0) rfl
  have P13 := oS (T5.setTop (mkF m 104 #[r_ de, r_ b, i_ 1, i_ 3, r_ d, r_ rdt, i_ 0, i_ 0, i_ 18, u_, u_] [(.int x0)])) P11 (by
    intro _ k_
    refine X5.baloadBytes hx (j := (0 : Int32)) (v := (.int x0)) (by rw [e5]; exact Ar12.1) (State.isArrayOf_alike hZ.alike Ar12.2.1) Ar12.2.2 hin12 hat12 (g := (mkF m 103 #[r_ de, r_ b, i_ 1, i_ 3, r_ d, r_ rdt, i_ 0, i_ 0, i_ 18, u_, u_] [(.int 0), (.ref b)])) rfl rfl (hb hby d18_103) _ ?_
    exact k_)
  have P14 := oS (T5.setTop (mkF m 114 #[r_ de, r_ b, i_ 1, i_ 3, r_ d, r_ rdt, i_ 0, i_ 0, i_ 18, i_ (x0 &&& 255), u_] [(.int (x0 &&& 255)), (.ref rdt)])) P13 (by
    intro _ k_
    refine XS.sipush X5.here hx rfl (hb hby d18_104) ?_
    refine XS.iand X5.here hx rfl (hb hby d18_107) rfl ?_
    refine is_ X5 hx hby d18_108 (l' := #[r_ de, r_ b, i_ 1, i_ 3, r_ d, r_ rdt, i_ 0, i_ 0, i_ 18, i_ (x0 &&& 255), u_]) rfl ?_
    refine a_ X5 hx hby d18_110 rfl rfl ?_
    refine il_ X5 hx hby d18_112 rfl ?_
    exact k_)
  obtain ⟨cl15, Ar15, q15, S15, M15, H15, G15⟩ := Vdt.ext O.2
  have hin15 := inb_of S15 hj0
  have hat15 := Has.at H15 hin15 hd0
  have P16 := oS (T5.setTop (mkF m 115 #[r_ de, r_ b, i_ 1, i_ 3, r_ d, r_ rdt, i_ 0, i_ 0, i_ 18, i_ (x0 &&& 255), u_] [(.int s0)])) P14 (by
    intro _ k_
    refine X5.iaload hx (j := (x0 &&& 255)) (v := (.int s0)) (by rw [e5]; exact Ar15.1) (State.isArrayOf_alike hZ.alike Ar15.2.1) Ar15.2.2 hin15 hat15 (g := (mkF m 114 #[r_ de, r_ b, i_ 1, i_ 3, r_ d, r_ rdt, i_ 0, i_ 0, i_ 18, i_ (x0 &&& 255), u_] [(.int (x0 &&& 255)), (.ref rdt)])) rfl rfl (hb hby d18_114) _ ?_
    exact k_)
  have P17 := oS (T5.setTop (mkF m 118 #[r_ de, r_ b, i_ 1, i_ 3, r_ d, r_ rdt, i_ 0, i_ 0, i_ 18, i_ s0, u_] [(.int s0)])) P16 (by
    intro _ k_
    refine XS.dup X5.here hx rfl (hb hby d18_115) rfl rfl ?_
    refine is_ X5 hx hby d18_116 (l' := #[r_ de, r_ b, i_ 1, i_ 3, r_ d, r_ rdt, i_ 0, i_ 0, i_ 18, i_ s0, u_]) rfl ?_
    exact k_)
  have P18 := oS (T5.setTop (mkF m 229 #[r_ de, r_ b, i_ 1, i_ 3, r_ d, r_ rdt, i_ 0, i_ ((0 : Int32) ||| (s0 <<< ((18 : Int32) &&& 31))), i_ 12, i_ s0, u_] [(.int 12)])) P17 (by
    intro _ k_
    refine fY_ X5 hx hby d18_118 (pc := 118) (pc' := 214) ((if0 _ _).trans (flt hs0).2.1) (by decide) ?_
    refine il_ X5 hx hby d18_214 rfl ?_
    refine il_ X5 hx hby d18_216 rfl ?_
    refine il_ X5 hx hby d18_218 rfl ?_
    refine XS.ishl X5.here hx rfl (hb hby d18_220) rfl ?_
    refine XS.ior X5.here hx rfl (hb hby d18_221) rfl ?_
    refine is_ X5 hx hby d18_222 (l' := #[r_ de, r_ b, i_ 1, i_ 3, r_ d, r_ rdt, i_ 0, i_ ((0 : Int32) ||| (s0 <<< ((18 : Int32) &&& 31))), i_ 18, i_ s0, u_]) rfl ?_
    refine XS.iinc X5.here hx rfl (hb hby d18_224) rfl (l' := #[r_ de, r_ b, i_ 1, i_ 3, r_ d, r_ rdt, i_ 0, i_ ((0 : Int32) ||| (s0 <<< ((18 : Int32) &&& 31))), i_ 12, i_ s0, u_]) rfl ?_
    show Steps p.tables e below (T5.setTop (mkF m 227 #[r_ de, r_ b, i_ 1, i_ 3, r_ d, r_ rdt, i_ 0, i_ ((0 : Int32) ||| (s0 <<< ((18 : Int32) &&& 31))), i_ 12, i_ s0, u_] [])) _
    refine il_ X5 hx hby d18_227 rfl ?_
    exact k_)
  have P19 := oS (T5.setTop (mkF m 30 #[r_ de, r_ b, i_ 1, i_ 3, r_ d, r_ rdt, i_ 0, i_ ((0 : Int32) ||| (s0 <<< ((18 : Int32) &&& 31))), i_ 12, i_ s0, u_] [(.int 3), (.int 1)])) P18 (by
    intro _ k_
    refine fY_ X5 hx hby d18_229 (pc := 229) (pc' := 278) ((if0 _ _).trans (flt (by decide : ¬ ((12 : Int32) < (0 : Int32)))).2.1) (by decide) ?_
    refine gt_ X5 hx hby d18_278 (pc := 278) (pc' := 28) (by decide) ?_
    refine iN_ X5 hx hby d18_28 rfl ?_
    refine iN_ X5 hx hby d18_29 rfl ?_
    exact k_)
  have P20 := oS (T5.setTop (mkF m 37 #[r_ de, r_ b, i_ 1, i_ 3, r_ d, r_ rdt, i_ 0, i_ ((0 : Int32) ||| (s0 <<< ((18 : Int32) &&& 31))), i_ 12, i_ s0, u_] [(.int 18), (.int 12)])) P19 (by
    intro _ k_
    refine XS.icmpNo X5.here hx rfl (hb hby d18_30) rfl (tlt (by decide : (1 : Int32) < (3 : Int32))).2.1 ?_
    refine il_ X5 hx hby d18_33 rfl ?_
    refine XS.bipush X5.here hx rfl (hb hby d18_35) ?_
    exact k_)
  have P21 := oS (T5.setTop (mkF m 92 #[r_ de, r_ b, i_ 1, i_ 3, r_ d, r_ rdt, i_ 0, i_ ((0 : Int32) ||| (s0 <<< ((18 : Int32) &&& 31))), i_ 12, i_ s0, u_] [(.int 3), (.int 1)])) P20 (by
    intro _ k_
    refine cY_ X5 hx hby d18_37 (pc := 37) (pc' := 90) (feq (by decide : ¬ ((12 : Int32) = (18 : Int32)))).2 (by decide) ?_
    refine iN_ X5 hx hby d18_90 rfl ?_
    refine iN_ X5 hx hby d18_91 rfl ?_
    exact k_)
  have P22 := oS (T5.setTop (mkF m 103 #[r_ de, r_ b, i_ 2, i_ 3, r_ d, r_ rdt, i_ 0, i_ ((0 : Int32) ||| (s0 <<< ((18 : Int32) &&& 31))), i_ 12, i_ s0, u_] [(.int 1), (.ref b)])) P21 (by
    intro _ k_
    refine cY_ X5 hx hby d18_92 (pc := 92) (pc' := 98) (tlt (by decide : (1 : Int32) < (3 : Int32))).1 (by decide) ?_
    refine aN_ X5 hx hby d18_98 rfl rfl ?_
    refine iN_ X5 hx hby d18_99 rfl ?_
    refine XS.iinc X5.here hx rfl (hb hby d18_100) rfl (l' := #[r_ de, r_ b, i_ 2, i_ 3, r_ d, r_ rdt, i_ 0, i_ ((0 : Int32) ||| (s0 <<< ((18 : Int32) &&& 31))), i_ 12, i_ s0, u_]) rfl ?_
    exact k_)
  obtain ⟨cl23, Ar23, q23, S23, M23, H23, G23⟩ := id Vb
  have hin23 := inb_of S23 (by decide : ¬ (1 : Int32) < 0 ∧ (1 : Int32) < (3 : Int32))
  have hat23 := Has.at H23 hin23 (v := .int x1) rfl
  have P24 := oS (T5.setTop (mkF m 104 #[r_ de, r_ b, i_ 2, i_ 3, r_ d, r_ rdt, i_ 0, i_ ((0 : Int32) ||| (s0 <<< ((18 : Int32) &&& 31))), i_ 12, i_ s0, u_] [(.int x1)])) P22 (by
    intro _ k_
    refine X5.baloadBytes hx (j := (1 : Int32)) (v := (.int x1)) (by rw [e5]; exact Ar23.1) (State.isArrayOf_alike hZ.alike Ar23.2.1) Ar23.2.2 hin23 hat23 (g := (mkF m 103 #[r_ de, r_ b, i_ 2, i_ 3, r_ d, r_ rdt, i_ 0, i_ ((0 : Int32) ||| (s0 <<< ((18 : Int32) &&& 31))), i_ 12, i_ s0, u_] [(.int 1), (.ref b)])) rfl rfl (hb hby d18_103) _ ?_
    exact k_)
  have P25 := oS (T5.setTop (mkF m 114 #[r_ de, r_ b, i_ 2, i_ 3, r_ d, r_ rdt, i_ 0, i_ ((0 : Int32) ||| (s0 <<< ((18 : Int32) &&& 31))), i_ 12, i_ (x1 &&& 255), u_] [(.int (x1 &&& 255)), (.ref rdt)])) P24 (by
    intro _ k_
    refine XS.sipush X5.here hx rfl (hb hby d18_104) ?_
    refine XS.iand X5.here hx rfl (hb hby d18_107) rfl ?_
    refine is_ X5 hx hby d18_108 (l' := #[r_ de, r_ b, i_ 2, i_ 3, r_ d, r_ rdt, i_ 0, i_ ((0 : Int32) ||| (s0 <<< ((18 : Int32) &&& 31))), i_ 12, i_ (x1 &&& 255), u_]) rfl ?_
    refine a_ X5 hx hby d18_110 rfl rfl ?_
    refine il_ X5 hx hby d18_112 rfl ?_
    exact k_)
  obtain ⟨cl26, Ar26, q26, S26, M26, H26, G26⟩ := Vdt.ext O.2
  have hin26 := inb_of S26 hj1
  have hat26 := Has.at H26 hin26 hd1
  have P27 := oS (T5.setTop (mkF m 115 #[r_ de, r_ b, i_ 2, i_ 3, r_ d, r_ rdt, i_ 0, i_ ((0 : Int32) ||| (s0 <<< ((18 : Int32) &&& 31))), i_ 12, i_ (x1 &&& 255), u_] [(.int s1)])) P25 (by
    intro _ k_
    refine X5.iaload hx (j := (x1 &&& 255)) (v := (.int s1)) (by rw [e5]; exact Ar26.1) (State.isArrayOf_alike hZ.alike Ar26.2.1) Ar26.2.2 hin26 hat26 (g := (mkF m 114 #[r_ de, r_ b, i_ 2, i_ 3, r_ d, r_ rdt, i_ 0, i_ ((0 : Int32) ||| (s0 <<< ((18 : Int32) &&& 31))), i_ 12, i_ (x1 &&& 255), u_] [(.int (x1 &&& 255)), (.ref rdt)])) rfl rfl (hb hby d18_114) _ ?_
    exact k_)
  have P28 := oS (T5.setTop (mkF m 118 #[r_ de, r_ b, i_ 2, i_ 3, r_ d, r_ rdt, i_ 0, i_ ((0 : Int32) ||| (s0 <<< ((18 : Int32) &&& 31))), i_ 12, i_ s1, u_] [(.int s1)])) P27 (by
    intro _ k_
    refine XS.dup X5.here hx rfl (hb hby d18_115) rfl rfl ?_
    refine is_ X5 hx hby d18_116 (l' := #[r_ de, r_ b, i_ 2, i_ 3, r_ d, r_ rdt, i_ 0, i_ ((0 : Int32) ||| (s0 <<< ((18 : Int32) &&& 31))), i_ 12, i_ s1, u_]) rfl ?_
    exact k_)
  have P29 := oS (T5.setTop (mkF m 229 #[r_ de, r_ b, i_ 2, i_ 3, r_ d, r_ rdt, i_ 0, i_ (((0 : Int32) ||| (s0 <<< ((18 : Int32) &&& 31))) ||| (s1 <<< ((12 : Int32) &&& 31))), i_ 6, i_ s1, u_] [(.int 6)])) P28 (by
    intro _ k_
    refine fY_ X5 hx hby d18_118 (pc := 118) (pc' := 214) ((if0 _ _).trans (flt hs1).2.1) (by decide) ?_
    refine il_ X5 hx hby d18_214 rfl ?_
    refine il_ X5 hx hby d18_216 rfl ?_
    refine il_ X5 hx hby d18_218 rfl ?_
    refine XS.ishl X5.here hx rfl (hb hby d18_220) rfl ?_
    refine XS.ior X5.here hx rfl (hb hby d18_221) rfl ?_
    refine is_ X5 hx hby d18_222 (l' := #[r_ de, r_ b, i_ 2, i_ 3, r_ d, r_ rdt, i_ 0, i_ (((0 : Int32) ||| (s0 <<< ((18 : Int32) &&& 31))) ||| (s1 <<< ((12 : Int32) &&& 31))), i_ 12, i_ s1, u_]) rfl ?_
    refine XS.iinc X5.here hx rfl (hb hby d18_224) rfl (l' := #[r_ de, r_ b, i_ 2, i_ 3, r_ d, r_ rdt, i_ 0, i_ (((0 : Int32) ||| (s0 <<< ((18 : Int32) &&& 31))) ||| (s1 <<< ((12 : Int32) &&& 31))), i_ 6, i_ s1, u_]) rfl ?_
    show Steps p.tables e below (T5.setTop (mkF m 227 #[r_ de, r_ b, i_ 2, i_ 3, r_ d, r_ rdt, i_ 0, i_ (((0 : Int32) ||| (s0 <<< ((18 : Int32) &&& 31))) ||| (s1 <<< ((12 : Int32) &&& 31))), i_ 6, i_ s1, u_] [])) _
    refine il_ X5 hx hby d18_227 rfl ?_
    exact k_)
  have P30 := oS (T5.setTop (mkF m 30 #[r_ de, r_ b, i_ 2, i_ 3, r_ d, r_ rdt, i_ 0, i_ (((0 : Int32) ||| (s0 <<< ((18 : Int32) &&& 31))) ||| (s1 <<< ((12 : Int32) &&& 31))), i_ 6, i_ s1, u_] [(.int 3), (.int 2)])) P29 (by
    intro _ k_
    refine fY_ X5 hx hby d18_229 (pc := 229) (pc' := 278) ((if0 _ _).trans (flt (by decide : ¬ ((6 : Int32) < (0 : Int32)))).2.1) (by decide) ?_
    refine gt_ X5 hx hby d18_278 (pc := 278) (pc' := 28) (by decide) ?_
    refine iN_ X5 hx hby d18_28 rfl ?_
    refine iN_ X5 hx hby d18_29 rfl ?_
    exact k_)
  have P31 := oS (T5.setTop (mkF m 37 #[r_ de, r_ b, i_ 2, i_ 3, r_ d, r_ rdt, i_ 0, i_ (((0 : Int32) ||| (s0 <<< ((18 : Int32) &&& 31))) ||| (s1 <<< ((12 : Int32) &&& 31))), i_ 6, i_ s1, u_] [(.int 18), (.int 6)])) P30 (by
    intro _ k_
    refine XS.icmpNo X5.here hx rfl (hb hby d18_30) rfl (tlt (by decide : (2 : Int32) < (3 : Int32))).2.1 ?_
    refine il_ X5 hx hby d18_33 rfl ?_
    refine XS.bipush X5.here hx rfl (hb hby d18_35) ?_
    exact k_)
  have P32 := oS (T5.setTop (mkF m 92 #[r_ de, r_ b, i_ 2, i_ 3, r_ d, r_ rdt, i_ 0, i_ (((0 : Int32) ||| (s0 <<< ((18 : Int32) &&& 31))) ||| (s1 <<< ((12 : Int32) &&& 31))), i_ 6, i_ s1, u_] [(.int 3), (.int 2)])) P31 (by
    intro _ k_
    refine cY_ X5 hx hby d18_37 (pc := 37) (pc' := 90) (feq (by decide : ¬ ((6 : Int32) = (18 : Int32)))).2 (by decide) ?_
    refine iN_ X5 hx hby d18_90 rfl ?_
    refine iN_ X5 hx hby d18_91 rfl ?_
    exact k_)
  have P33 := oS (T5.setTop (mkF m 103 #[r_ de, r_ b, i_ 3, i_ 3, r_ d, r_ rdt, i_ 0, i_ (((0 : Int32) ||| (s0 <<< ((18 : Int32) &&& 31))) ||| (s1 <<< ((12 : Int32) &&& 31))), i_ 6, i_ s1, u_] [(.int 2), (.ref b)])) P32 (by
    intro _ k_
    refine cY_ X5 hx hby d18_92 (pc := 92) (pc' := 98) (tlt (by decide : (2 : Int32) < (3 : Int32))).1 (by decide) ?_
    refine aN_ X5 hx hby d18_98 rfl rfl ?_
    refine iN_ X5 hx hby d18_99 rfl ?_
    refine XS.iinc X5.here hx rfl (hb hby d18_100) rfl (l' := #[r_ de, r_ b, i_ 3, i_ 3, r_ d, r_ rdt, i_ 0, i_ (((0 : Int32) ||| (s0 <<< ((18 : Int32) &&& 31))) ||| (s1 <<< ((12 : Int32) &&& 31))), i_ 6, i_ s1, u_]) rfl ?_
    exact k_)
  obtain ⟨cl34, Ar34, q34, S34, M34, H34, G34⟩ := id Vb
  have hin34 := inb_of S34 (by decide : ¬ (2 : Int32) < 0 ∧ (2 : Int32) < (3 : Int32))
  have hat34 := Has.at H34 hin34 (v := .int x2) rfl
  have P35 := oS (T5.setTop (mkF m 104 #[r_ de, r_ b, i_ 3, i_ 3, r_ d, r_ rdt, i_ 0, i_ (((0 : Int32) ||| (s0 <<< ((18 : Int32) &&& 31))) ||| (s1 <<< ((12 : Int32) &&& 31))), i_ 6, i_ s1, u_] [(.int x2)])) P33 (by
    intro _ k_
    refine X5.baloadBytes hx (j := (2 : Int32)) (v := (.int x2)) (by rw [e5]; exact Ar34.1) (State.isArrayOf_alike hZ.alike Ar34.2.1) Ar34.2.2 hin34 hat34 (g := (mkF m 103 #[r_ de, r_ b, i_ 3, i_ 3, r_ d, r_ rdt, i_ 0, i_ (((0 : Int32) ||| (s0 <<< ((18 : Int32) &&& 31))) ||| (s1 <<< ((12 : Int32) &&& 31))), i_ 6, i_ s1, u_] [(.int 2), (.ref b)])) rfl rfl (hb hby d18_103) _ ?_
    exact k_)
  have P36 := oS (T5.setTop (mkF m 114 #[r_ de, r_ b, i_ 3, i_ 3, r_ d, r_ rdt, i_ 0, i_ (((0 : Int32) ||| (s0 <<< ((18 : Int32) &&& 31))) ||| (s1 <<< ((12 : Int32) &&& 31))), i_ 6, i_ (x2 &&& 255), u_] [(.int (x2 &&& 255)), (.ref rdt)])) P35 (by
    intro _ k_
    refine XS.sipush X5.here hx rfl (hb hby d18_104) ?_
    refine XS.iand X5.here hx rfl (hb hby d18_107) rfl ?_
    refine is_ X5 hx hby d18_108 (l' := #[r_ de, r_ b, i_ 3, i_ 3, r_ d, r_ rdt, i_ 0, i_ (((0 : Int32) ||| (s0 <<< ((18 : Int32) &&& 31))) ||| (s1 <<< ((12 : Int32) &&& 31))), i_ 6, i_ (x2 &&& 255), u_]) rfl ?_
    refine a_ X5 hx hby d18_110 rfl rfl ?_
    refine il_ X5 hx hby d18_112 rfl ?_
    exact k_)
  obtain ⟨cl37, Ar37, q37, S37, M37, H37, G37⟩ := Vdt.ext O.2
  have hin37 := inb_of S37 hj2
  have hat37 := Has.at H37 hin37 hd2
  have P38 := oS (T5.setTop (mkF m 115 #[r_ de, r_ b, i_ 3, i_ 3, r_ d, r_ rdt, i_ 0, i_ (((0 : Int32) ||| (s0 <<< ((18 : Int32) &&& 31))) ||| (s1 <<< ((12 : Int32) &&& 31))), i_ 6, i_ (x2 &&& 255), u_] [(.int s2)])) P36 (by
    intro _ k_
    refine X5.iaload hx (j := (x2 &&& 255)) (v := (.int s2)) (by rw [e5]; exact Ar37.1) (State.isArrayOf_alike hZ.alike Ar37.2.1) Ar37.2.2 hin37 hat37 (g := (mkF m 114 #[r_ de, r_ b, i_ 3, i_ 3, r_ d, r_ rdt, i_ 0, i_ (((0 : Int32) ||| (s0 <<< ((18 : Int32) &&& 31))) ||| (s1 <<< ((12 : Int32) &&& 31))), i_ 6, i_ (x2 &&& 255), u_] [(.int (x2 &&& 255)), (.ref rdt)])) rfl rfl (hb hby d18_114) _ ?_
    exact k_)
  have P39 := oS (T5.setTop (mkF m 118 #[r_ de, r_ b, i_ 3, i_ 3, r_ d, r_ rdt, i_ 0, i_ (((0 : Int32) ||| (s0 <<< ((18 : Int32) &&& 31))) ||| (s1 <<< ((12 : Int32) &&& 31))), i_ 6, i_ s2, u_] [(.int s2)])) P38 (by
    intro _ k_
    refine XS.dup X5.here hx rfl (hb hby d18_115) rfl rfl ?_
    refine is_ X5 hx hby d18_116 (l' := #[r_ de, r_ b, i_ 3, i_ 3, r_ d, r_ rdt, i_ 0, i_ (((0 : Int32) ||| (s0 <<< ((18 : Int32) &&& 31))) ||| (s1 <<< ((12 : Int32) &&& 31))), i_ 6, i_ s2, u_]) rfl ?_
    exact k_)
  have P40 := oS (T5.setTop (mkF m 229 #[r_ de, r_ b, i_ 3, i_ 3, r_ d, r_ rdt, i_ 0, i_ ((((0 : Int32) ||| (s0 <<< ((18 : Int32) &&& 31))) ||| (s1 <<< ((12 : Int32) &&& 31))) ||| (s2 <<< ((6 : Int32) &&& 31))), i_ 0, i_ s2, u_] [(.int 0)])) P39 (by
    intro _ k_
    refine fY_ X5 hx hby d18_118 (pc := 118) (pc' := 214) ((if0 _ _).trans (flt hs2).2.1) (by decide) ?_
    refine il_ X5 hx hby d18_214 rfl ?_
    refine il_ X5 hx hby d18_216 rfl ?_
    refine il_ X5 hx hby d18_218 rfl ?_
    refine XS.ishl X5.here hx rfl (hb hby d18_220) rfl ?_
    refine XS.ior X5.here hx rfl (hb hby d18_221) rfl ?_
    refine is_ X5 hx hby d18_222 (l' := #[r_ de, r_ b, i_ 3, i_ 3, r_ d, r_ rdt, i_ 0, i_ ((((0 : Int32) ||| (s0 <<< ((18 : Int32) &&& 31))) ||| (s1 <<< ((12 : Int32) &&& 31))) ||| (s2 <<< ((6 : Int32) &&& 31))), i_ 6, i_ s2, u_]) rfl ?_
    refine XS.iinc X5.here hx rfl (hb hby d18_224) rfl (l' := #[r_ de, r_ b, i_ 3, i_ 3, r_ d, r_ rdt, i_ 0, i_ ((((0 : Int32) ||| (s0 <<< ((18 : Int32) &&& 31))) ||| (s1 <<< ((12 : Int32) &&& 31))) ||| (s2 <<< ((6 : Int32) &&& 31))), i_ 0, i_ s2, u_]) rfl ?_
    show Steps p.tables e below (T5.setTop (mkF m 227 #[r_ de, r_ b, i_ 3, i_ 3, r_ d, r_ rdt, i_ 0, i_ ((((0 : Int32) ||| (s0 <<< ((18 : Int32) &&& 31))) ||| (s1 <<< ((12 : Int32) &&& 31))) ||| (s2 <<< ((6 : Int32) &&& 31))), i_ 0, i_ s2, u_] [])) _
    refine il_ X5 hx hby d18_227 rfl ?_
    exact k_)
  have P41 := oS (T5.setTop (mkF m 30 #[r_ de, r_ b, i_ 3, i_ 3, r_ d, r_ rdt, i_ 0, i_ ((((0 : Int32) ||| (s0 <<< ((18 : Int32) &&& 31))) ||| (s1 <<< ((12 : Int32) &&& 31))) ||| (s2 <<< ((6 : Int32) &&& 31))), i_ 0, i_ s2, u_] [(.int 3), (.int 3)])) P40 (by
    intro _ k_
    refine fY_ X5 hx hby d18_229 (pc := 229) (pc' := 278) ((if0 _ _).trans (flt (by decide : ¬ ((0 : Int32) < (0 : Int32)))).2.1) (by decide) ?_
    refine gt_ X5 hx hby d18_278 (pc := 278) (pc' := 28) (by decide) ?_
    refine iN_ X5 hx hby d18_28 rfl ?_
    refine iN_ X5 hx hby d18_29 rfl ?_
    exact k_)
  have P42 := oS (T5.setTop (mkF m 285 #[r_ de, r_ b, i_ 3, i_ 3, r_ d, r_ rdt, i_ 0, i_ ((((0 : Int32) ||| (s0 <<< ((18 : Int32) &&& 31))) ||| (s1 <<< ((12 : Int32) &&& 31))) ||| (s2 <<< ((6 : Int32) &&& 31))), i_ 0, i_ s2, u_] [(.int 6), (.int 0)])) P41 (by
    intro _ k_
    refine cY_ X5 hx hby d18_30 (pc := 30) (pc' := 281) (flt (by decide : ¬ ((3 : Int32) < (3 : Int32)))).2.1 (by decide) ?_
    refine il_ X5 hx hby d18_281 rfl ?_
    refine XS.bipush X5.here hx rfl (hb hby d18_283) ?_
    exact k_)
  have P43 := oS (T5.setTop (mkF m 307 #[r_ de, r_ b, i_ 3, i_ 3, r_ d, r_ rdt, i_ 0, i_ ((((0 : Int32) ||| (s0 <<< ((18 : Int32) &&& 31))) ||| (s1 <<< ((12 : Int32) &&& 31))) ||| (s2 <<< ((6 : Int32) &&& 31))), i_ 0, i_ s2, u_] [(.int 0)])) P42 (by
    intro _ k_
    refine cY_ X5 hx hby d18_285 (pc := 285) (pc' := 305) (feq (by decide : ¬ ((0 : Int32) = (6 : Int32)))).2 (by decide) ?_
    refine il_ X5 hx hby d18_305 rfl ?_
    exact k_)
  have P44 := oS (T5.setTop (mkF m 323 #[r_ de, r_ b, i_ 3, i_ 3, r_ d, r_ rdt, i_ 1, i_ ((((0 : Int32) ||| (s0 <<< ((18 : Int32) &&& 31))) ||| (s1 <<< ((12 : Int32) &&& 31))) ||| (s2 <<< ((6 : Int32) &&& 31))), i_ 0, i_ s2, u_] [(.int ((((((0 : Int32) ||| (s0 <<< ((18 : Int32) &&& 31))) ||| (s1 <<< ((12 : Int32) &&& 31))) ||| (s2 <<< ((6 : Int32) &&& 31))) >>> ((16 : Int32) &&& 31)).toInt8.toInt32)), (.int 0), (.ref d)])) P43 (by
    intro _ k_
    refine XS.ifNo X5.here hx rfl (hb hby d18_307) rfl ((if0 _ _).trans (teq (by decide : (0 : Int32) = (0 : Int32))).2) ?_
    refine a_ X5 hx hby d18_310 rfl rfl ?_
    refine il_ X5 hx hby d18_312 rfl ?_
    refine XS.iinc X5.here hx rfl (hb hby d18_314) rfl (l' := #[r_ de, r_ b, i_ 3, i_ 3, r_ d, r_ rdt, i_ 1, i_ ((((0 : Int32) ||| (s0 <<< ((18 : Int32) &&& 31))) ||| (s1 <<< ((12 : Int32) &&& 31))) ||| (s2 <<< ((6 : Int32) &&& 31))), i_ 0, i_ s2, u_]) rfl ?_
    show Steps p.tables e below (T5.setTop (mkF m 317 #[r_ de, r_ b, i_ 3, i_ 3, r_ d, r_ rdt, i_ 1, i_ ((((0 : Int32) ||| (s0 <<< ((18 : Int32) &&& 31))) ||| (s1 <<< ((12 : Int32) &&& 31))) ||| (s2 <<< ((6 : Int32) &&& 31))), i_ 0, i_ s2, u_] [(.int 0), (.ref d)])) _
    refine il_ X5 hx hby d18_317 rfl ?_
    refine XS.bipush X5.here hx rfl (hb hby d18_319) ?_
    refine XS.ishr X5.here hx rfl (hb hby d18_321) rfl ?_
    refine XS.i2b X5.here hx rfl (hb hby d18_322) rfl ?_
    exact k_)
  obtain ⟨cl45, Ar45, q45, S45, M45, H45, G45⟩ := id Vd
  obtain ⟨T46, h46, X46, e46, W46, st46⟩ := stB X5 hx hZ e5 Ar45 (j := (0 : Int32)) (inb_of S45 (by decide : ¬ (0 : Int32) < 0 ∧ (0 : Int32) < (2 : Int32))) (g := (mkF m 323 #[r_ de, r_ b, i_ 3, i_ 3, r_ d, r_ rdt, i_ 1, i_ ((((0 : Int32) ||| (s0 <<< ((18 : Int32) &&& 31))) ||| (s1 <<< ((12 : Int32) &&& 31))) ||| (s2 <<< ((6 : Int32) &&& 31))), i_ 0, i_ s2, u_] [(.int ((((((0 : Int32) ||| (s0 <<< ((18 : Int32) &&& 31))) ||| (s1 <<< ((12 : Int32) &&& 31))) ||| (s2 <<< ((6 : Int32) &&& 31))) >>> ((16 : Int32) &&& 31)).toInt8.toInt32)), (.int 0), (.ref d)])) rfl rfl (hb hby d18_323)
  have f52 := (Keep.refl h0 [d]).wr W46 (Or.inl (List.mem_of_getElem? (i := 0) rfl))
  have V46 : Arv Z h46 d kd .byte (2 : Int32) [(.int ((((((0 : Int32) ||| (s0 <<< ((18 : Int32) &&& 31))) ||| (s1 <<< ((12 : Int32) &&& 31))) ||| (s2 <<< ((6 : Int32) &&& 31))) >>> ((16 : Int32) &&& 31)).toInt8.toInt32).toInt8.toInt32), (.int 0)] (.int 0) := Arv.set Ar45 q45 S45 M45 H45 G45 (fits_nar_byte _) W46 0 rfl (Nat.le_of_ble_eq_true rfl)
  have N46 := Fr.snoc X46 N0 gd
  have P54 := oS (T46.setTop (mkF m 324 #[r_ de, r_ b, i_ 3, i_ 3, r_ d, r_ rdt, i_ 1, i_ ((((0 : Int32) ||| (s0 <<< ((18 : Int32) &&& 31))) ||| (s1 <<< ((12 : Int32) &&& 31))) ||| (s2 <<< ((6 : Int32) &&& 31))), i_ 0, i_ s2, u_] [])) P44 (fun t_ k_ => st46 t_ k_)
  have P55 := oS (T46.setTop (mkF m 337 #[r_ de, r_ b, i_ 3, i_ 3, r_ d, r_ rdt, i_ 2, i_ ((((0 : Int32) ||| (s0 <<< ((18 : Int32) &&& 31))) ||| (s1 <<< ((12 : Int32) &&& 31))) ||| (s2 <<< ((6 : Int32) &&& 31))), i_ 0, i_ s2, u_] [(.int ((((((0 : Int32) ||| (s0 <<< ((18 : Int32) &&& 31))) ||| (s1 <<< ((12 : Int32) &&& 31))) ||| (s2 <<< ((6 : Int32) &&& 31))) >>> ((8 : Int32) &&& 31)).toInt8.toInt32)), (.int 1), (.ref d)])) P54 (by
    intro _ k_
    refine a_ X46 hx hby d18_324 rfl rfl ?_
    refine il_ X46 hx hby d18_326 rfl ?_
    refine XS.iinc X46.here hx rfl (hb hby d18_328) rfl (l' := #[r_ de, r_ b, i_ 3, i_ 3, r_ d, r_ rdt, i_ 2, i_ ((((0 : Int32) ||| (s0 <<< ((18 : Int32) &&& 31))) ||| (s1 <<< ((12 : Int32) &&& 31))) ||| (s2 <<< ((6 : Int32) &&& 31))), i_ 0, i_ s2, u_]) rfl ?_
    show Steps p.tables e below (T46.setTop (mkF m 331 #[r_ de, r_ b, i_ 3, i_ 3, r_ d, r_ rdt, i_ 2, i_ ((((0 : Int32) ||| (s0 <<< ((18 : Int32) &&& 31))) ||| (s1 <<< ((12 : Int32) &&& 31))) ||| (s2 <<< ((6 : Int32) &&& 31))), i_ 0, i_ s2, u_] [(.int 1), (.ref d)])) _
    refine il_ X46 hx hby d18_331 rfl ?_
    refine XS.bipush X46.here hx rfl (hb hby d18_333) ?_
    refine XS.ishr X46.here hx rfl (hb hby d18_335) rfl ?_
    refine XS.i2b X46.here hx rfl (hb hby d18_336) rfl ?_
    exact k_)
  obtain ⟨cl56, Ar56, q56, S56, M56, H56, G56⟩ := id V46
  obtain ⟨T57, h57, X57, e57, W57, st57⟩ := stB X46 hx hZ e46 Ar56 (j := (1 : Int32)) (inb_of S56 (by decide : ¬ (1 : Int32) < 0 ∧ (1 : Int32) < (2 : Int32))) (g := (mkF m 337 #[r_ de, r_ b, i_ 3, i_ 3, r_ d, r_ rdt, i_ 2, i_ ((((0 : Int32) ||| (s0 <<< ((18 : Int32) &&& 31))) ||| (s1 <<< ((12 : Int32) &&& 31))) ||| (s2 <<< ((6 : Int32) &&& 31))), i_ 0, i_ s2, u_] [(.int ((((((0 : Int32) ||| (s0 <<< ((18 : Int32) &&& 31))) ||| (s1 <<< ((12 : Int32) &&& 31))) ||| (s2 <<< ((6 : Int32) &&& 31))) >>> ((8 : Int32) &&& 31)).toInt8.toInt32)), (.int 1), (.ref d)])) rfl rfl (hb hby d18_337)
  have f63 := f52.wr W57 (Or.inl (List.mem_of_getElem? (i := 0) rfl))
  have V57 : Arv Z h57 d kd .byte (2 : Int32) [(.int ((((((0 : Int32) ||| (s0 <<< ((18 : Int32) &&& 31))) ||| (s1 <<< ((12 : Int32) &&& 31))) ||| (s2 <<< ((6 : Int32) &&& 31))) >>> ((16 : Int32) &&& 31)).toInt8.toInt32).toInt8.toInt32), (.int ((((((0 : Int32) ||| (s0 <<< ((18 : Int32) &&& 31))) ||| (s1 <<< ((12 : Int32) &&& 31))) ||| (s2 <<< ((6 : Int32) &&& 31))) >>> ((8 : Int32) &&& 31)).toInt8.toInt32).toInt8.toInt32)] (.int 0) := Arv.set Ar56 q56 S56 M56 H56 G56 (fits_nar_byte _) W57 1 rfl (Nat.le_of_ble_eq_true rfl)
  have N57 := Fr.snoc X57 N46 gd
  have P65 := oS (T57.setTop (mkF m 338 #[r_ de, r_ b, i_ 3, i_ 3, r_ d, r_ rdt, i_ 2, i_ ((((0 : Int32) ||| (s0 <<< ((18 : Int32) &&& 31))) ||| (s1 <<< ((12 : Int32) &&& 31))) ||| (s2 <<< ((6 : Int32) &&& 31))), i_ 0, i_ s2, u_] [])) P55 (fun t_ k_ => st57 t_ k_)
  have P66 := oS (T57.setTop (mkF m 360 #[r_ de, r_ b, i_ 3, i_ 3, r_ d, r_ rdt, i_ 2, i_ ((((0 : Int32) ||| (s0 <<< ((18 : Int32) &&& 31))) ||| (s1 <<< ((12 : Int32) &&& 31))) ||| (s2 <<< ((6 : Int32) &&& 31))), i_ 0, i_ s2, u_] [(.int 3), (.int 3)])) P65 (by
    intro _ k_
    refine gt_ X57 hx hby d18_338 (pc := 338) (pc' := 358) (by decide) ?_
    refine iN_ X57 hx hby d18_358 rfl ?_
    refine iN_ X57 hx hby d18_359 rfl ?_
    exact k_)
  have P67 := oS (T57.setTop (mkF m 418 #[r_ de, r_ b, i_ 3, i_ 3, r_ d, r_ rdt, i_ 2, i_ ((((0 : Int32) ||| (s0 <<< ((18 : Int32) &&& 31))) ||| (s1 <<< ((12 : Int32) &&& 31))) ||| (s2 <<< ((6 : Int32) &&& 31))), i_ 0, i_ s2, u_] [(.int 2)])) P66 (by
    intro _ k_
    refine cY_ X57 hx hby d18_360 (pc := 360) (pc' := 416) (flt (by decide : ¬ ((3 : Int32) < (3 : Int32)))).2.1 (by decide) ?_
    refine il_ X57 hx hby d18_416 rfl ?_
    exact k_)
  rw [hy0, hy1] at V57
  exact own_out X57 hlk (v := some (.int 2)) (own_hv hrt) P67 (fun _ q_ => retI X57 hx hrt (hb hby d18_418) q_) e57 ⟨rfl, N57, f63, V57⟩ (by decide)
def Q_decB_3 (Z : State) (de : Addr) (b : Addr) (k : ClassId) (x0 : Int32) (x1 : Int32) (x2 : Int32) (s0 : Int32) (s1 : Int32) (s2 : Int32) (y0 : Int32) (y1 : Int32) (rdt : Addr) (kdt : ClassId) (h0 : Heap) (n0 : Nat) (v_ : Option Value) (h : Heap) (L_ : List Loc) : Prop := ∃ (xq : Addr) (kk : ClassId), v_ = some (.ref xq) ∧ Fr n0 L_ ∧ Keep h0 h [] ∧ h0.size ≤ xq ∧ Arv Z h xq kk .byte (2 : Int32) [(.int y0), (.int y1)] (.int 0) ∧ Exa Z h xq "[B"
set_option maxRecDepth 65536 in
set_option maxHeartbeats 40000000 in
theorem rm_decB_3 (l : Launch) (Z : State) (a0 : Array Value) (hw : ∀ d ∈ tables_1, d.before a0 Z = true) (ws : List Jvm.Cond) (de : Addr) (b : Addr) (k : ClassId) (x0 : Int32) (x1 : Int32) (x2 : Int32) (s0 : Int32) (s1 : Int32) (s2 : Int32) (y0 : Int32) (y1 : Int32) (rdt : Addr) (kdt : ClassId) (h0 : Heap) (n0 : Nat) (Z0 : n0 ≤ h0.size) (O : Old Z n0 h0) (Sdt : Sta Z Z.heap "java/util/Base64$Decoder" "fromBase64URL" "[I" (.ref rdt)) (Vdt : Arv Z Z.heap rdt kdt .int (256 : Int32) own_dec (.int 0)) (Ed : Exa Z h0 de "java/util/Base64$Decoder") (Fu : Fld Z h0 de "java/util/Base64$Decoder" "isURL" "Z" (.int 1)) (Fm : Fld Z h0 de "java/util/Base64$Decoder" "isMIME" "Z" (.int 0)) (Vb : Arv Z h0 b k .byte (3 : Int32) [(.int x0), (.int x1), (.int x2)] (.int 0)) (h61 : ¬ (x2 = (61 : Int32))) (hj0 : ¬ (x0 &&& 255) < 0 ∧ (x0 &&& 255) < (256 : Int32)) (hd0 : own_dec.getD (x0 &&& 255).toNatClampNeg (.int 0) = .int s0) (hs0 : ¬ (s0 < (0 : Int32))) (hj1 : ¬ (x1 &&& 255) < 0 ∧ (x1 &&& 255) < (256 : Int32)) (hd1 : own_dec.getD (x1 &&& 255).toNatClampNeg (.int 0) = .int s1) (hs1 : ¬ (s1 < (0 : Int32))) (hj2 : ¬ (x2 &&& 255) < 0 ∧ (x2 &&& 255) < (256 : Int32)) (hd2 : own_dec.getD (x2 &&& 255).toNatClampNeg (.int 0) = .int s2) (hs2 : ¬ (s2 < (0 : Int32))) (hy0 : ((((((0 : Int32) ||| (s0 <<< ((18 : Int32) &&& 31))) ||| (s1 <<< ((12 : Int32) &&& 31))) ||| (s2 <<< ((6 : Int32) &&& 31))) >>> ((16 : Int32) &&& 31)).toInt8.toInt32).toInt8.toInt32 = y0) (hy1 : ((((((0 : Int32) ||| (s0 <<< ((18 : Int32) &&& 31))) ||| (s1 <<< ((12 : Int32) &&& 31))) ||| (s2 <<< ((6 : Int32) &&& 31))) >>> ((8 : Int32) &&& 31)).toInt8.toInt32).toInt8.toInt32 = y1) :
    own_MF l yM16 (.code yM16 cB16 4 (some (.array .byte))) ws ⟨1, 1, 2, 22⟩ #[(.ref de), (.ref b)] Z h0 own_T (Q_decB_3 Z de b k x0 x1 x2 s0 s1 s2 y0 y1 rdt kdt h0 n0) := by
  refine own_in "java/util/Base64$Decoder" rfl (plainFor_of_name pn3) hisR (fun m => ef16RR m de b) ?_
  intro p e s m below meth c s₁ A_ hx hby hml hown hnm hrt hlk hZ _ X0 e0 pre0
  have N0 := Fr.nil n0
  have P1 := oS (s₁.setTop (mkF m 4 #[r_ de, r_ b, u_, u_] [(.ref b), (.int 0), (.ref b), (.ref de)])) pre0 (by
    intro _ k_
    refine aN_ X0 hx hby d16_0 rfl rfl ?_
    refine aN_ X0 hx hby d16_1 rfl rfl ?_
    refine XS.iconst X0.here hx rfl (hb hby d16_2) ?_
    refine aN_ X0 hx hby d16_3 rfl rfl ?_
    exact k_)
  obtain ⟨cl2, Ar2, q2, S2, M2, H2, G2⟩ := id Vb
  have P3 := oS (s₁.setTop (mkF m 5 #[r_ de, r_ b, u_, u_] [(.int 3), (.int 0), (.ref b), (.ref de)])) P1 (by
    intro _ k_
    refine X0.arraylength hx (by rw [e0]; exact Ar2.1) (State.isArrayOf_alike hZ.alike Ar2.2.1) (g := (mkF m 4 #[r_ de, r_ b, u_, u_] [(.ref b), (.int 0), (.ref b), (.ref de)])) rfl rfl (hb hby d16_4) _ ?_
    rw [len_of S2 M2]
    exact k_)
  obtain ⟨_, T4, L4, X4, hQ4, P4c⟩ := own_cP (W := 0) (rm_dol_3 l Z a0 hw [] de b k x0 x1 x2 rdt kdt h0 n0 Z0 O Sdt Vdt Fu Fm Vb h61) X0 hx hZ (fun _ _ => trivial) hown Ed (own_w hw 92 rfl) (own_w hw 94 rfl) (own_w hw 95 rfl) (own_w hw 93 rfl) (own_w hw 57 rfl) (own_w hw 96 rfl) (by decide) P3 hml rfl [(.ref b), (.int 0), (.int 3)] [] rfl rfl rfl pd8 rfl (hb hby d16_5) e0 (by decide)
  obtain ⟨rfl, N4q, e4⟩ := hQ4
  have N4 := Fr.app N0 N4q
  have P5 := own_to (C := T4.setTop (mkF m 8 #[r_ de, r_ b, u_, u_] [(.int 2)])) P4c
  obtain ⟨T6, h6, k6, X6, e6, E6, A6, EA6, st6⟩ := newPE X4 hx hZ (own_w hw 23 rfl) e4 (g := (mkF m 8 #[r_ de, r_ b, u_, u_] [(.int 2)])) rfl (hb hby d16_8) rfl (by decide) (cap := 2) (by decide) (by decide) (by decide) (by decide) (ad := "[B") (by decide +kernel)
  obtain ⟨b6, g6⟩ : ∃ z, z = h0.size := ⟨_, rfl⟩
  rw [← g6] at A6 EA6 st6
  have ne_de_b6 : de ≠ b6 := Nat.ne_of_lt (Nat.lt_of_lt_of_le Fu.lt (Nat.le_of_eq g6.symm))
  have ne_b_b6 : b ≠ b6 := Nat.ne_of_lt (Nat.lt_of_lt_of_le Vb.lt (Nat.le_of_eq g6.symm))
  have g_b6 : n0 ≤ b6 := Nat.le_trans Z0 (Nat.le_of_eq g6.symm)
  have sz_b6 : h0.size ≤ b6 := Nat.le_trans (Keep.refl h0 []).1 (Nat.le_of_eq g6.symm)
  have f7 := O.ext E6
  have f8 := Fu.ext E6
  have f9 := Fm.ext E6
  have f10 := (Keep.refl h0 []).ext E6
  have f11 := Vb.ext E6
  have f12 := Ed.ext E6
  have Z13 : n0 ≤ h6.size := Nat.le_trans Z0 E6.1
  have V6 : Arv Z h6 b6 k6 .byte (2 : Int32) [(.int 0), (.int 0)] (.int 0) := (Arv.new A6 (by decide)).pad (pad_rep [] _ 2)
  have P14 := oS (T6.setTop (mkF m 10 #[r_ de, r_ b, u_, u_] [(.ref b6)])) P5 (fun t_ k_ => st6 t_ k_)
  have P15 := oS (T6.setTop (mkF m 15 #[r_ de, r_ b, r_ b6, u_] [(.ref b), (.int 0), (.ref b), (.ref de)])) P14 (by
    intro _ k_
    refine XS.astoreN X6.here hx rfl (hb hby d16_10) rfl rfl (l' := #[r_ de, r_ b, r_ b6, u_]) rfl ?_
    refine aN_ X6 hx hby d16_11 rfl rfl ?_
    refine aN_ X6 hx hby d16_12 rfl rfl ?_
    refine XS.iconst X6.here hx rfl (hb hby d16_13) ?_
    refine aN_ X6 hx hby d16_14 rfl rfl ?_
    exact k_)
  obtain ⟨cl16, Ar16, q16, S16, M16, H16, G16⟩ := id f11
  have P17 := oS (T6.setTop (mkF m 16 #[r_ de, r_ b, r_ b6, u_] [(.int 3), (.int 0), (.ref b), (.ref de)])) P15 (by
    intro _ k_
    refine X6.arraylength hx (by rw [e6]; exact Ar16.1) (State.isArrayOf_alike hZ.alike Ar16.2.1) (g := (mkF m 15 #[r_ de, r_ b, r_ b6, u_] [(.ref b), (.int 0), (.ref b), (.ref de)])) rfl rfl (hb hby d16_15) _ ?_
    rw [len_of S16 M16]
    exact k_)
  have P18 := oS (T6.setTop (mkF m 17 #[r_ de, r_ b, r_ b6, u_] [(.ref b6), (.int 3), (.int 0), (.ref b), (.ref de)])) P17 (by
    intro _ k_
    refine aN_ X6 hx hby d16_16 rfl rfl ?_
    exact k_)
  obtain ⟨_, T19, L19, X19, hQ19, P19c⟩ := own_cP (W := 0) (rm_dec0_3 l Z a0 hw [] de b k b6 k6 x0 x1 x2 s0 s1 s2 y0 y1 rdt kdt h6 n0 Z13 f7 Sdt Vdt f8 f9 f11 V6 ne_b_b6 g_b6 ne_de_b6 hj0 hd0 hs0 hj1 hd1 hs1 hj2 hd2 hs2 hy0 hy1) X6 hx hZ (fun _ _ => trivial) hown f12 (own_w hw 104 rfl) (own_w hw 106 rfl) (own_w hw 107 rfl) (own_w hw 105 rfl) (own_w hw 57 rfl) (own_w hw 108 rfl) (by decide) P18 hml rfl [(.ref b), (.int 0), (.int 3), (.ref b6)] [] rfl rfl rfl pd9 rfl (hb hby d16_17) e6 (by decide)
  obtain ⟨rfl, N19q, K19, f20⟩ := hQ19
  have N19 := Fr.app N4 N19q
  have f24 := f10.trans K19 (allS (Or.inr sz_b6) all0)
  have f28 := EA6.keep K19
  have P30 := own_to (C := T19.setTop (mkF m 20 #[r_ de, r_ b, r_ b6, u_] [(.int 2)])) P19c
  have P31 := oS (T19.setTop (mkF m 23 #[r_ de, r_ b, r_ b6, i_ 2] [(.ref b6), (.int 2)])) P30 (by
    intro _ k_
    refine XS.istoreN X19.here hx rfl (hb hby d16_20) rfl (l' := #[r_ de, r_ b, r_ b6, i_ 2]) rfl ?_
    refine iN_ X19 hx hby d16_21 rfl ?_
    refine aN_ X19 hx hby d16_22 rfl rfl ?_
    exact k_)
  obtain ⟨cl32, Ar32, q32, S32, M32, H32, G32⟩ := id f20
  have P33 := oS (T19.setTop (mkF m 24 #[r_ de, r_ b, r_ b6, i_ 2] [(.int 2), (.int 2)])) P31 (by
    intro _ k_
    refine X19.arraylength hx Ar32.1 (State.isArrayOf_alike hZ.alike Ar32.2.1) (g := (mkF m 23 #[r_ de, r_ b, r_ b6, i_ 2] [(.ref b6), (.int 2)])) rfl rfl (hb hby d16_23) _ ?_
    rw [len_of S32 M32]
    exact k_)
  have P34 := oS (T19.setTop (mkF m 34 #[r_ de, r_ b, r_ b6, i_ 2] [(.ref b6)])) P33 (by
    intro _ k_
    refine cY_ X19 hx hby d16_24 (pc := 24) (pc' := 33) (teq (by decide : (2 : Int32) = (2 : Int32))).1 (by decide) ?_
    refine aN_ X19 hx hby d16_33 rfl rfl ?_
    exact k_)
  exact own_out X19 hlk (v := some (.ref b6)) (own_hv hrt) P34 (fun _ q_ => retOut X19 hx hrt rfl (Or.inr (Or.inr (Or.inr (Or.inr ⟨rfl, rfl, rfl⟩)))) (hb hby d16_34) q_) (rfl : T19.heap = _) ⟨b6, k6, rfl, N19, f24, sz_b6, f20, f28⟩ (by decide)
def Q_decS_3 (Z : State) (de : Addr) (a : Addr) (b : Addr) (k : ClassId) (x0 : Int32) (x1 : Int32) (x2 : Int32) (s0 : Int32) (s1 : Int32) (s2 : Int32) (y0 : Int32) (y1 : Int32) (rdt : Addr) (kdt : ClassId) (riso : Addr) (rutf : Addr) (cs : Int32) (h0 : Heap) (n0 : Nat) (v_ : Option Value) (h : Heap) (L_ : List Loc) : Prop := ∃ (xq : Addr) (kk : ClassId), v_ = some (.ref xq) ∧ Fr n0 L_ ∧ Keep h0 h [] ∧ h0.size ≤ xq ∧ Arv Z h xq kk .byte (2 : Int32) [(.int y0), (.int y1)] (.int 0) ∧ Exa Z h xq "[B"
set_option maxRecDepth 65536 in
set_option maxHeartbeats 40000000 in
theorem rm_decS_3 (l : Launch) (Z : State) (a0 : Array Value) (hw : ∀ d ∈ tables_1, d.before a0 Z = true) (ws : List Jvm.Cond) (de : Addr) (a : Addr) (b : Addr) (k : ClassId) (x0 : Int32) (x1 : Int32) (x2 : Int32) (s0 : Int32) (s1 : Int32) (s2 : Int32) (y0 : Int32) (y1 : Int32) (rdt : Addr) (kdt : ClassId) (riso : Addr) (rutf : Addr) (cs : Int32) (h0 : Heap) (n0 : Nat) (Z0 : n0 ≤ h0.size) (O : Old Z n0 h0) (Scs : Sta Z Z.heap "java/lang/String" "COMPACT_STRINGS" "Z" (.int cs)) (hcs : ¬ (cs = (0 : Int32))) (Siso : Sta Z Z.heap "sun/nio/cs/ISO_8859_1" "INSTANCE" "Lsun/nio/cs/ISO_8859_1;" (.ref riso)) (Sutf : Sta Z Z.heap "sun/nio/cs/UTF_8" "INSTANCE" "Lsun/nio/cs/UTF_8;" (.ref rutf)) (nci : riso ≠ rutf) (Sdt : Sta Z Z.heap "java/util/Base64$Decoder" "fromBase64URL" "[I" (.ref rdt)) (Vdt : Arv Z Z.heap rdt kdt .int (256 : Int32) own_dec (.int 0)) (Ed : Exa Z h0 de "java/util/Base64$Decoder") (Fu : Fld Z h0 de "java/util/Base64$Decoder" "isURL" "Z" (.int 1)) (Fm : Fld Z h0 de "java/util/Base64$Decoder" "isMIME" "Z" (.int 0)) (Ea : Exa Z h0 a "java/lang/String") (Fc : Fld Z h0 a "java/lang/String" "coder" "B" (.int 0)) (Fv : Fld Z h0 a "java/lang/String" "value" "[B" (.ref b)) (Vb : Arv Z h0 b k .byte (3 : Int32) [(.int x0), (.int x1), (.int x2)] (.int 0)) (Eb : Exa Z h0 b "[B") (h61 : ¬ (x2 = (61 : Int32))) (hj0 : ¬ (x0 &&& 255) < 0 ∧ (x0 &&& 255) < (256 : Int32)) (hd0 : own_dec.getD (x0 &&& 255).toNatClampNeg (.int 0) = .int s0) (hs0 : ¬ (s0 < (0 : Int32))) (hj1 : ¬ (x1 &&& 255) < 0 ∧ (x1 &&& 255) < (256 : Int32)) (hd1 : own_dec.getD (x1 &&& 255).toNatClampNeg (.int 0) = .int s1) (hs1 : ¬ (s1 < (0 : Int32))) (hj2 : ¬ (x2 &&& 255) < 0 ∧ (x2 &&& 255) < (256 : Int32)) (hd2 : own_dec.getD (x2 &&& 255).toNatClampNeg (.int 0) = .int s2) (hs2 : ¬ (s2 < (0 : Int32))) (hy0 : ((((((0 : Int32) ||| (s0 <<< ((18 : Int32) &&& 31))) ||| (s1 <<< ((12 : Int32) &&& 31))) ||| (s2 <<< ((6 : Int32) &&& 31))) >>> ((16 : Int32) &&& 31)).toInt8.toInt32).toInt8.toInt32 = y0) (hy1 : ((((((0 : Int32) ||| (s0 <<< ((18 : Int32) &&& 31))) ||| (s1 <<< ((12 : Int32) &&& 31))) ||| (s2 <<< ((6 : Int32) &&& 31))) >>> ((8 : Int32) &&& 31)).toInt8.toInt32).toInt8.toInt32 = y1) :
    own_MF l yM11 (.code yM11 cB11 2 (some (.array .byte))) ws ⟨5, 2, 6, 76⟩ #[(.ref de), (.ref a)] Z h0 own_T (Q_decS_3 Z de a b k x0 x1 x2 s0 s1 s2 y0 y1 rdt kdt riso rutf cs h0 n0) := by
  refine own_in "java/util/Base64$Decoder" rfl (plainFor_of_name pn3) hisR (fun m => ef11RR m de a) ?_
  intro p e s m below meth c s₁ A_ hx hby hml hown hnm hrt hlk hZ _ X0 e0 pre0
  have N0 := Fr.nil n0
  have P1 := oS (s₁.setTop (mkF m 2 #[r_ de, r_ a] [(.ref a), (.ref de)])) pre0 (by
    intro _ k_
    refine aN_ X0 hx hby d11_0 rfl rfl ?_
    refine aN_ X0 hx hby d11_1 rfl rfl ?_
    exact k_)
  obtain ⟨T2, X2, e2, st2⟩ := getS2 X0 hx hZ hown (host := "") (Or.inl (own_w hw 59 rfl)) Via.refl e0 (Siso.ext O.2) (g := (mkF m 2 #[r_ de, r_ a] [(.ref a), (.ref de)])) rfl (hb hby d11_2)
  have P3 := oS (T2.setTop (mkF m 5 #[r_ de, r_ a] [(.ref riso), (.ref a), (.ref de)])) P1 (fun t_ k_ => st2 t_ k_)
  obtain ⟨_, T4, L4, X4, hQ4, P4c⟩ := own_cV (W := 1) (rm_getB l Z a0 hw [] a b k (3 : Int32) [(.int x0), (.int x1), (.int x2)] riso rutf cs h0 n0 Z0 O Scs hcs Siso Sutf nci Ea Fc Fv Vb Eb (by decide)) X2 hx hZ (fun _ _ => trivial) hown Ea (own_w hw 61 rfl) (own_w hw 62 rfl) (own_w hw 64 rfl) (own_w hw 63 rfl) (own_w hw 7 rfl) (own_w hw 65 rfl) (by decide) P3 hml rfl [(.ref riso)] [(.ref de)] rfl rfl rfl pd10 rfl (hb hby d11_5) e2 (by decide)
  obtain ⟨xq4, rfl, N4q, K4, f5, f6, f7⟩ := hQ4
  have N4 := Fr.app N0 N4q
  have f8 := O.keep K4 all0
  have f9 := Fu.keep K4 nin0
  have f10 := Fm.keep K4 nin0
  have f11 := (Keep.refl h0 []).trans K4 all0
  have f17 := Ed.keep K4
  have Z18 : n0 ≤ T4.heap.size := Nat.le_trans Z0 K4.1
  have P19 := own_to (C := T4.setTop (mkF m 8 #[r_ de, r_ a] [(.ref xq4), (.ref de)])) P4c
  obtain ⟨_, T20, L20, X20, hQ20, P20c⟩ := own_cV (W := 0) (rm_decB_3 l Z a0 hw [] de xq4 k x0 x1 x2 s0 s1 s2 y0 y1 rdt kdt T4.heap n0 Z18 f8 Sdt Vdt f17 f9 f10 f6 h61 hj0 hd0 hs0 hj1 hd1 hs1 hj2 hd2 hs2 hy0 hy1) X4 hx hZ (fun _ _ => trivial) hown f17 (own_w hw 87 rfl) (own_w hw 88 rfl) (own_w hw 90 rfl) (own_w hw 89 rfl) (own_w hw 57 rfl) (own_w hw 91 rfl) (by decide) P19 hml rfl [(.ref xq4)] [] rfl rfl rfl pd11 rfl (hb hby d11_8) (rfl : T4.heap = _) (by decide)
  obtain ⟨xq20, kk20, rfl, N20q, K20, f21, f22, f23⟩ := hQ20
  have N20 := Fr.app N4 N20q
  have sz_xq20 : h0.size ≤ xq20 := Nat.le_trans f11.1 f21
  have f27 := f11.trans K20 all0
  have P37 := own_to (C := T20.setTop (mkF m 11 #[r_ de, r_ a] [(.ref xq20)])) P20c
  exact own_out X20 hlk (v := some (.ref xq20)) (own_hv hrt) P37 (fun _ q_ => retOut X20 hx hrt rfl (Or.inr (Or.inr (Or.inr (Or.inr ⟨rfl, rfl, rfl⟩)))) (hb hby d11_11) q_) (rfl : T20.heap = _) ⟨xq20, kk20, rfl, N20, f27, sz_xq20, f22, f23⟩ (by decide)
def Q_addExact_0_3 (Z : State)  (h0 : Heap) (n0 : Nat) (v_ : Option Value) (h : Heap) (L_ : List Loc) : Prop := v_ = some (.int 3) ∧ Fr n0 L_ ∧ h = h0
set_option maxRecDepth 65536 in
set_option maxHeartbeats 40000000 in
theorem rm_addExact_0_3 (l : Launch) (Z : State) (a0 : Array Value) (hw : ∀ d ∈ tables_1, d.before a0 Z = true) (ws : List Jvm.Cond)  (h0 : Heap) (n0 : Nat) (Z0 : n0 ≤ h0.size) :
    own_MF l yM23 (.code yM23 cB23 3 (some .int)) ws ⟨0, 0, 0, 0⟩ #[(.int 0), (.int 3)] Z h0 own_T (Q_addExact_0_3 Z  h0 n0) := by
  refine own_in "java/lang/Math" rfl (Jvm.Free.JP.mathPlain rfl (by decide +kernel)) hisR (fun m => ef23II m (0 : Int32) (3 : Int32)) ?_
  intro p e s m below meth c s₁ A_ hx hby hml hown hnm hrt hlk hZ _ X0 e0 pre0
  have N0 := Fr.nil n0
  have P1 := oS (s₁.setTop (mkF m 11 #[i_ 0, i_ 3, i_ 3] [(.int 0)])) pre0 (by
    intro _ k_
    refine iN_ X0 hx hby d23_0 rfl ?_
    refine iN_ X0 hx hby d23_1 rfl ?_
    refine XS.iadd X0.here hx rfl (hb hby d23_2) rfl ?_
    show Steps p.tables e below (s₁.setTop (mkF m 3 #[i_ 0, i_ 3, u_] [(.int 3)])) _
    refine XS.istoreN X0.here hx rfl (hb hby d23_3) rfl (l' := #[i_ 0, i_ 3, i_ 3]) rfl ?_
    refine iN_ X0 hx hby d23_4 rfl ?_
    refine iN_ X0 hx hby d23_5 rfl ?_
    refine XS.ixor X0.here hx rfl (hb hby d23_6) rfl ?_
    show Steps p.tables e below (s₁.setTop (mkF m 7 #[i_ 0, i_ 3, i_ 3] [(.int 3)])) _
    refine iN_ X0 hx hby d23_7 rfl ?_
    refine iN_ X0 hx hby d23_8 rfl ?_
    refine XS.ixor X0.here hx rfl (hb hby d23_9) rfl ?_
    show Steps p.tables e below (s₁.setTop (mkF m 10 #[i_ 0, i_ 3, i_ 3] [(.int 0), (.int 3)])) _
    refine XS.iand X0.here hx rfl (hb hby d23_10) rfl ?_
    exact k_)
  have P2 := oS (s₁.setTop (mkF m 25 #[i_ 0, i_ 3, i_ 3] [(.int 3)])) P1 (by
    intro _ k_
    refine fY_ X0 hx hby d23_11 (pc := 11) (pc' := 24) ((if0 _ _).trans (flt (by decide : ¬ ((0 : Int32) < (0 : Int32)))).2.1) (by decide) ?_
    refine iN_ X0 hx hby d23_24 rfl ?_
    exact k_)
  exact own_out X0 hlk (v := some (.int 3)) (own_hv hrt) P2 (fun _ q_ => retI X0 hx hrt (hb hby d23_25) q_) e0 ⟨(congrArg (fun z : Int32 => some (Value.int z)) (by decide +kernel)), N0, rfl⟩ (by decide)
def Q_eol_2 (Z : State) (en : Addr) (h0 : Heap) (n0 : Nat) (v_ : Option Value) (h : Heap) (L_ : List Loc) : Prop := v_ = some (.int 3) ∧ Fr n0 L_ ∧ h = h0
set_option maxRecDepth 65536 in
set_option maxHeartbeats 40000000 in
theorem rm_eol_2 (l : Launch) (Z : State) (a0 : Array Value) (hw : ∀ d ∈ tables_1, d.before a0 Z = true) (ws : List Jvm.Cond) (en : Addr) (h0 : Heap) (n0 : Nat) (Z0 : n0 ≤ h0.size) (O : Old Z n0 h0) (Fp : Fld Z h0 en "java/util/Base64$Encoder" "doPadding" "Z" (.int 0)) (Fl : Fld Z h0 en "java/util/Base64$Encoder" "linemax" "I" (.int (-1 : Int32))) (Fe : Fld Z h0 en "java/util/Base64$Encoder" "isURL" "Z" (.int 1)) :
    own_MF l yM34 (.codeWith yM34 cB34 5 (some .int) [(2, 79, 82, 33)]) ws ⟨1, 0, 0, 15⟩ #[(.ref en), (.int 2), (.int 1)] Z h0 own_T (Q_eol_2 Z en h0 n0) := by
  refine own_in "java/util/Base64$Encoder" rfl (plainFor_of_name pn4) hisWith (fun m => ef34RII m en (2 : Int32) (1 : Int32)) ?_
  intro p e s m below meth c s₁ A_ hx hby hml hown hnm hrt hlk hZ _ X0 e0 pre0
  have N0 := Fr.nil n0
  have P1 := oS (s₁.setTop (mkF m 3 #[r_ en, i_ 2, i_ 1, i_ 0, u_] [(.ref en)])) pre0 (by
    intro _ k_
    refine XS.iconst X0.here hx rfl (hb hby d34_0) ?_
    refine XS.istoreN X0.here hx rfl (hb hby d34_1) rfl (l' := #[r_ en, i_ 2, i_ 1, i_ 0, u_]) rfl ?_
    refine aN_ X0 hx hby d34_2 rfl rfl ?_
    exact k_)
  obtain ⟨T2, X2, e2, st2⟩ := getF X0 hx hZ hown (host := "") (Or.inl (own_w hw 130 rfl)) Via.refl e0 Fp (g := (mkF m 3 #[r_ en, i_ 2, i_ 1, i_ 0, u_] [(.ref en)])) rfl rfl (hb hby d34_3)
  have P3 := oS (T2.setTop (mkF m 6 #[r_ en, i_ 2, i_ 1, i_ 0, u_] [(.int 0)])) P1 (fun t_ k_ => st2 t_ k_)
  have P4 := oS (T2.setTop (mkF m 33 #[r_ en, i_ 2, i_ 1, i_ 0, i_ 2] [(.int 0), (.int 4)])) P3 (by
    intro _ k_
    refine fY_ X2 hx hby d34_6 (pc := 6) (pc' := 24) ((if0 _ _).trans (teq (by decide : (0 : Int32) = (0 : Int32))).1) (by decide) ?_
    refine iN_ X2 hx hby d34_24 rfl ?_
    refine XS.iconst X2.here hx rfl (hb hby d34_25) ?_
    refine iremM X2 hx rfl (hb hby d34_26) rfl (by decide) ?_
    show Steps p.tables e below (T2.setTop (mkF m 27 #[r_ en, i_ 2, i_ 1, i_ 0, u_] [(.int 2)])) _
    refine is_ X2 hx hby d34_27 (l' := #[r_ en, i_ 2, i_ 1, i_ 0, i_ 2]) rfl ?_
    refine XS.iconst X2.here hx rfl (hb hby d34_29) ?_
    refine iN_ X2 hx hby d34_30 rfl ?_
    refine XS.iconst X2.here hx rfl (hb hby d34_31) ?_
    refine XS.idiv X2.here hx rfl (hb hby d34_32) rfl (by decide) ?_
    exact k_)
  obtain ⟨_, T5, L5, X5, hQ5, P5c⟩ := own_cS (W := 0) (rm_multiplyExact_4_0 l Z a0 hw []  h0 n0 Z0 ) X2 hx hZ (fun _ _ => trivial) hown (own_w hw 132 rfl) (own_w hw 133 rfl) (own_w hw 134 rfl) (own_w hw 135 rfl) (by decide) P4 hml rfl [(.int 4), (.int 0)] [] rfl rfl rfl pd12 rfl (hb hby d34_33) e2 (by decide)
  obtain ⟨rfl, N5q, e5⟩ := hQ5
  have N5 := Fr.app N0 N5q
  have P6 := own_to (C := T5.setTop (mkF m 36 #[r_ en, i_ 2, i_ 1, i_ 0, i_ 2] [(.int 0)])) P5c
  have P7 := oS (T5.setTop (mkF m 38 #[r_ en, i_ 2, i_ 1, i_ 0, i_ 2] [(.int 2), (.int 0)])) P6 (by
    intro _ k_
    refine il_ X5 hx hby d34_36 rfl ?_
    exact k_)
  have P8 := oS (T5.setTop (mkF m 49 #[r_ en, i_ 2, i_ 1, i_ 0, i_ 2] [(.int 3), (.int 0)])) P7 (by
    intro _ k_
    refine fY_ X5 hx hby d34_38 (pc := 38) (pc' := 45) ((if0 _ _).trans (feq (by decide : ¬ ((2 : Int32) = (0 : Int32)))).2) (by decide) ?_
    refine il_ X5 hx hby d34_45 rfl ?_
    refine XS.iconst X5.here hx rfl (hb hby d34_47) ?_
    refine XS.iadd X5.here hx rfl (hb hby d34_48) rfl ?_
    exact k_)
  obtain ⟨_, T9, L9, X9, hQ9, P9c⟩ := own_cS (W := 0) (rm_addExact_0_3 l Z a0 hw []  h0 n0 Z0 ) X5 hx hZ (fun _ _ => trivial) hown (own_w hw 136 rfl) (own_w hw 137 rfl) (own_w hw 134 rfl) (own_w hw 138 rfl) (by decide) P8 hml rfl [(.int 0), (.int 3)] [] rfl rfl rfl pd12 rfl (hb hby d34_49) e5 (by decide)
  obtain ⟨rfl, N9q, e9⟩ := hQ9
  have N9 := Fr.app N5 N9q
  have P10 := own_to (C := T9.setTop (mkF m 52 #[r_ en, i_ 2, i_ 1, i_ 0, i_ 2] [(.int 3)])) P9c
  have P11 := oS (T9.setTop (mkF m 54 #[r_ en, i_ 2, i_ 1, i_ 3, i_ 2] [(.ref en)])) P10 (by
    intro _ k_
    refine XS.istoreN X9.here hx rfl (hb hby d34_52) rfl (l' := #[r_ en, i_ 2, i_ 1, i_ 3, i_ 2]) rfl ?_
    refine aN_ X9 hx hby d34_53 rfl rfl ?_
    exact k_)
  obtain ⟨T12, X12, e12, st12⟩ := getF X9 hx hZ hown (host := "") (Or.inl (own_w hw 139 rfl)) Via.refl e9 Fl (g := (mkF m 54 #[r_ en, i_ 2, i_ 1, i_ 3, i_ 2] [(.ref en)])) rfl rfl (hb hby d34_54)
  have P13 := oS (T12.setTop (mkF m 57 #[r_ en, i_ 2, i_ 1, i_ 3, i_ 2] [(.int (-1 : Int32))])) P11 (fun t_ k_ => st12 t_ k_)
  have P14 := oS (T12.setTop (mkF m 101 #[r_ en, i_ 2, i_ 1, i_ 3, i_ 2] [(.int 3)])) P13 (by
    intro _ k_
    refine fY_ X12 hx hby d34_57 (pc := 57) (pc' := 79) ((if0 _ _).trans (flt (by decide : ¬ ((0 : Int32) < (-1 : Int32)))).2.2.2) (by decide) ?_
    refine gt_ X12 hx hby d34_79 (pc := 79) (pc' := 100) (by decide) ?_
    refine iN_ X12 hx hby d34_100 rfl ?_
    exact k_)
  exact own_out X12 hlk (v := some (.int 3)) (own_hv hrt) P14 (fun _ q_ => retI X12 hx hrt (hb hby d34_101) q_) e12 ⟨rfl, N9, rfl⟩ (by decide)
theorem d24_279 : own_d cB24 279 (.aload_n 1) 1 := by decide +kernel
theorem d24_280 : own_d cB24 280 (.iload 6) 2 := by decide +kernel
theorem d24_282 : own_d cB24 282 (.iinc 6 1) 3 := by decide +kernel
theorem d24_285 : own_d cB24 285 (.baload) 1 := by decide +kernel
theorem d24_286 : own_d cB24 286 (.sipush 255) 3 := by decide +kernel
theorem d24_289 : own_d cB24 289 (.iand) 1 := by decide +kernel
theorem d24_290 : own_d cB24 290 (.istore 11) 2 := by decide +kernel
theorem d24_292 : own_d cB24 292 (.aload 4) 2 := by decide +kernel
theorem d24_294 : own_d cB24 294 (.iload 9) 2 := by decide +kernel
theorem d24_296 : own_d cB24 296 (.iinc 9 1) 3 := by decide +kernel
theorem d24_299 : own_d cB24 299 (.aload 5) 2 := by decide +kernel
theorem d24_301 : own_d cB24 301 (.iload 10) 2 := by decide +kernel
theorem d24_303 : own_d cB24 303 (.iconst 4) 1 := by decide +kernel
theorem d24_304 : own_d cB24 304 (.ishl) 1 := by decide +kernel
theorem d24_305 : own_d cB24 305 (.bipush 63) 2 := by decide +kernel
theorem d24_307 : own_d cB24 307 (.iand) 1 := by decide +kernel
theorem d24_308 : own_d cB24 308 (.iload 11) 2 := by decide +kernel
theorem d24_310 : own_d cB24 310 (.iconst 4) 1 := by decide +kernel
theorem d24_311 : own_d cB24 311 (.ishr) 1 := by decide +kernel
theorem d24_312 : own_d cB24 312 (.ior) 1 := by decide +kernel
theorem d24_313 : own_d cB24 313 (.caload) 1 := by decide +kernel
theorem d24_314 : own_d cB24 314 (.i2b) 1 := by decide +kernel
theorem d24_315 : own_d cB24 315 (.bastore) 1 := by decide +kernel
theorem d24_316 : own_d cB24 316 (.aload 4) 2 := by decide +kernel
theorem d24_318 : own_d cB24 318 (.iload 9) 2 := by decide +kernel
theorem d24_320 : own_d cB24 320 (.iinc 9 1) 3 := by decide +kernel
theorem d24_323 : own_d cB24 323 (.aload 5) 2 := by decide +kernel
theorem d24_325 : own_d cB24 325 (.iload 11) 2 := by decide +kernel
theorem d24_327 : own_d cB24 327 (.iconst 2) 1 := by decide +kernel
theorem d24_328 : own_d cB24 328 (.ishl) 1 := by decide +kernel
theorem d24_329 : own_d cB24 329 (.bipush 63) 2 := by decide +kernel
theorem d24_331 : own_d cB24 331 (.iand) 1 := by decide +kernel
theorem d24_332 : own_d cB24 332 (.caload) 1 := by decide +kernel
theorem d24_333 : own_d cB24 333 (.i2b) 1 := by decide +kernel
theorem d24_334 : own_d cB24 334 (.bastore) 1 := by decide +kernel
theorem d24_335 : own_d cB24 335 (.aload_n 0) 1 := by decide +kernel
theorem d24_336 : own_d cB24 336 (.getfield 21) 3 := by decide +kernel
theorem d24_339 : own_d cB24 339 (.ifCond .eq 13) 3 := by decide +kernel
def Q_enc0_2 (Z : State) (en : Addr) (b : Addr) (k : ClassId) (d : Addr) (kd : ClassId) (y0 : Int32) (y1 : Int32) (v0 : Int32) (v1 : Int32) (v2 : Int32) (x0 : Int32) (x1 : Int32) (x2 : Int32) (ret_ : Addr) (ket : ClassId) (h0 : Heap) (n0 : Nat) (v_ : Option Value) (h : Heap) (L_ : List Loc) : Prop := v_ = some (.int 3) ∧ Fr n0 L_ ∧ Keep h0 h [d] ∧ Arv Z h d kd .byte (3 : Int32) [(.int x0), (.int x1), (.int x2)] (.int 0)
set_option maxRecDepth 65536 in
set_option maxHeartbeats 40000000 in
theorem rm_enc0_2 (l : Launch) (Z : State) (a0 : Array Value) (hw : ∀ d ∈ tables_1, d.before a0 Z = true) (ws : List Jvm.Cond) (en : Addr) (b : Addr) (k : ClassId) (d : Addr) (kd : ClassId) (y0 : Int32) (y1 : Int32) (v0 : Int32) (v1 : Int32) (v2 : Int32) (x0 : Int32) (x1 : Int32) (x2 : Int32) (ret_ : Addr) (ket : ClassId) (h0 : Heap) (n0 : Nat) (Z0 : n0 ≤ h0.size) (O : Old Z n0 h0) (Set : Sta Z Z.heap "java/util/Base64$Encoder" "toBase64URL" "[C" (.ref ret_)) (Vet : Arv Z Z.heap ret_ ket .char (64 : Int32) own_enc (.int 0)) (Fp : Fld Z h0 en "java/util/Base64$Encoder" "doPadding" "Z" (.int 0)) (Fl : Fld Z h0 en "java/util/Base64$Encoder" "linemax" "I" (.int (-1 : Int32))) (Fe : Fld Z h0 en "java/util/Base64$Encoder" "isURL" "Z" (.int 1)) (Vb : Arv Z h0 b k .byte (2 : Int32) [(.int y0), (.int y1)] (.int 0)) (Vd : Arv Z h0 d kd .byte (3 : Int32) [(.int 0), (.int 0), (.int 0)] (.int 0)) (nbd : b ≠ d) (gd : n0 ≤ d) (nen : en ≠ d) (hk0 : ¬ ((y0 &&& 255) >>> ((2 : Int32) &&& 31)) < 0 ∧ ((y0 &&& 255) >>> ((2 : Int32) &&& 31)) < (64 : Int32)) (hv0 : own_enc.getD ((y0 &&& 255) >>> ((2 : Int32) &&& 31)).toNatClampNeg (.int 0) = .int v0) (hz0 : v0.toInt8.toInt32.toInt8.toInt32 = x0) (hk1 : ¬ ((((y0 &&& 255) <<< ((4 : Int32) &&& 31)) &&& 63) ||| ((y1 &&& 255) >>> ((4 : Int32) &&& 31))) < 0 ∧ ((((y0 &&& 255) <<< ((4 : Int32) &&& 31)) &&& 63) ||| ((y1 &&& 255) >>> ((4 : Int32) &&& 31))) < (64 : Int32)) (hv1 : own_enc.getD ((((y0 &&& 255) <<< ((4 : Int32) &&& 31)) &&& 63) ||| ((y1 &&& 255) >>> ((4 : Int32) &&& 31))).toNatClampNeg (.int 0) = .int v1) (hz1 : v1.toInt8.toInt32.toInt8.toInt32 = x1) (hk2 : ¬ (((y1 &&& 255) <<< ((2 : Int32) &&& 31)) &&& 63) < 0 ∧ (((y1 &&& 255) <<< ((2 : Int32) &&& 31)) &&& 63) < (64 : Int32)) (hv2 : own_enc.getD (((y1 &&& 255) <<< ((2 : Int32) &&& 31)) &&& 63).toNatClampNeg (.int 0) = .int v2) (hz2 : v2.toInt8.toInt32.toInt8.toInt32 = x2) :
    own_MF l yM24 (.code yM24 cB24 16 (some .int)) ws ⟨0, 0, 0, 0⟩ #[(.ref en), (.ref b), (.int 0), (.int 2), (.ref d)] Z h0 own_T (Q_enc0_2 Z en b k d kd y0 y1 v0 v1 v2 x0 x1 x2 ret_ ket h0 n0) := by
  refine own_in "java/util/Base64$Encoder" rfl (plainFor_of_name pn4) hisR (fun m => ef24RRIIR m en b (0 : Int32) (2 : Int32) d) ?_
  intro p e s m below meth c s₁ A_ hx hby hml hown hnm hrt hlk hZ _ X0 e0 pre0
  have N0 := Fr.nil n0
  have P1 := oS (s₁.setTop (mkF m 1 #[r_ en, r_ b, i_ 0, i_ 2, r_ d, u_, u_, u_, u_, u_, u_, u_, u_, u_, u_, u_] [(.ref en)])) pre0 (by
    intro _ k_
    refine aN_ X0 hx hby d24_0 rfl rfl ?_
    exact k_)
  obtain ⟨T2, X2, e2, st2⟩ := getF X0 hx hZ hown (host := "") (Or.inl (own_w hw 146 rfl)) Via.refl e0 Fe (g := (mkF m 1 #[r_ en, r_ b, i_ 0, i_ 2, r_ d, u_, u_, u_, u_, u_, u_, u_, u_, u_, u_, u_] [(.ref en)])) rfl rfl (hb hby d24_1)
  have P3 := oS (T2.setTop (mkF m 4 #[r_ en, r_ b, i_ 0, i_ 2, r_ d, u_, u_, u_, u_, u_, u_, u_, u_, u_, u_, u_] [(.int 1)])) P1 (fun t_ k_ => st2 t_ k_)
  have P4 := oS (T2.setTop (mkF m 7 #[r_ en, r_ b, i_ 0, i_ 2, r_ d, u_, u_, u_, u_, u_, u_, u_, u_, u_, u_, u_] [])) P3 (by
    intro _ k_
    refine XS.ifNo X2.here hx rfl (hb hby d24_4) rfl ((if0 _ _).trans (feq (by decide : ¬ ((1 : Int32) = (0 : Int32)))).1) ?_
    exact k_)
  obtain ⟨T5, X5, e5, st5⟩ := getS2 X2 hx hZ hown (host := "") (Or.inl (own_w hw 148 rfl)) Via.refl e2 (Set.ext O.2) (g := (mkF m 7 #[r_ en, r_ b, i_ 0, i_ 2, r_ d, u_, u_, u_, u_, u_, u_, u_, u_, u_, u_, u_] [])) rfl (hb hby d24_7)
  have P6 := oS (T5.setTop (mkF m 10 #[r_ en, r_ b, i_ 0, i_ 2, r_ d, u_, u_, u_, u_, u_, u_, u_, u_, u_, u_, u_] [(.ref ret_)])) P4 (fun t_ k_ => st5 t_ k_)
  have P7 := oS (T5.setTop (mkF m 37 #[r_ en, r_ b, i_ 0, i_ 2, r_ d, r_ ret_, i_ 0, i_ 0, i_ 0, u_, u_, u_, u_, u_, u_, u_] [(.ref en)])) P6 (by
    intro _ k_
    refine gt_ X5 hx hby d24_10 (pc := 10) (pc' := 16) (by decide) ?_
    refine XS.astore X5.here hx rfl (hb hby d24_16) rfl rfl (l' := #[r_ en, r_ b, i_ 0, i_ 2, r_ d, r_ ret_, u_, u_, u_, u_, u_, u_, u_, u_, u_, u_]) rfl ?_
    refine iN_ X5 hx hby d24_18 rfl ?_
    refine is_ X5 hx hby d24_19 (l' := #[r_ en, r_ b, i_ 0, i_ 2, r_ d, r_ ret_, i_ 0, u_, u_, u_, u_, u_, u_, u_, u_, u_]) rfl ?_
    refine iN_ X5 hx hby d24_21 rfl ?_
    refine iN_ X5 hx hby d24_22 rfl ?_
    refine XS.isub X5.here hx rfl (hb hby d24_23) rfl ?_
    show Steps p.tables e below (T5.setTop (mkF m 24 #[r_ en, r_ b, i_ 0, i_ 2, r_ d, r_ ret_, i_ 0, u_, u_, u_, u_, u_, u_, u_, u_, u_] [(.int 2)])) _
    refine XS.iconst X5.here hx rfl (hb hby d24_24) ?_
    refine XS.idiv X5.here hx rfl (hb hby d24_25) rfl (by decide) ?_
    show Steps p.tables e below (T5.setTop (mkF m 26 #[r_ en, r_ b, i_ 0, i_ 2, r_ d, r_ ret_, i_ 0, u_, u_, u_, u_, u_, u_, u_, u_, u_] [(.int 0)])) _
    refine XS.iconst X5.here hx rfl (hb hby d24_26) ?_
    refine XS.imul X5.here hx rfl (hb hby d24_27) rfl ?_
    show Steps p.tables e below (T5.setTop (mkF m 28 #[r_ en, r_ b, i_ 0, i_ 2, r_ d, r_ ret_, i_ 0, u_, u_, u_, u_, u_, u_, u_, u_, u_] [(.int 0)])) _
    refine is_ X5 hx hby d24_28 (l' := #[r_ en, r_ b, i_ 0, i_ 2, r_ d, r_ ret_, i_ 0, i_ 0, u_, u_, u_, u_, u_, u_, u_, u_]) rfl ?_
    refine iN_ X5 hx hby d24_30 rfl ?_
    refine il_ X5 hx hby d24_31 rfl ?_
    refine XS.iadd X5.here hx rfl (hb hby d24_33) rfl ?_
    show Steps p.tables e below (T5.setTop (mkF m 34 #[r_ en, r_ b, i_ 0, i_ 2, r_ d, r_ ret_, i_ 0, i_ 0, u_, u_, u_, u_, u_, u_, u_, u_] [(.int 0)])) _
    refine is_ X5 hx hby d24_34 (l' := #[r_ en, r_ b, i_ 0, i_ 2, r_ d, r_ ret_, i_ 0, i_ 0, i_ 0, u_, u_, u_, u_, u_, u_, u_]) rfl ?_
    refine aN_ X5 hx hby d24_36 rfl rfl ?_
    exact k_)
  obtain ⟨T8, X8, e8, st8⟩ := getF X5 hx hZ hown (host := "") (Or.inl (own_w hw 139 rfl)) Via.refl e5 Fl (g := (mkF m 37 #[r_ en, r_ b, i_ 0, i_ 2, r_ d, r_ ret_, i_ 0, i_ 0, i_ 0, u_, u_, u_, u_, u_, u_, u_] [(.ref en)])) rfl rfl (hb hby d24_37)
  have P9 := oS (T8.setTop (mkF m 40 #[r_ en, r_ b, i_ 0, i_ 2, r_ d, r_ ret_, i_ 0, i_ 0, i_ 0, u_, u_, u_, u_, u_, u_, u_] [(.int (-1 : Int32))])) P7 (fun t_ k_ => st8 t_ k_)
  have P10 := oS (T8.setTop (mkF m 73 #[r_ en, r_ b, i_ 0, i_ 2, r_ d, r_ ret_, i_ 0, i_ 0, i_ 0, i_ 0, u_, u_, u_, u_, u_, u_] [(.int 0), (.int 0)])) P9 (by
    intro _ k_
    refine fY_ X8 hx hby d24_40 (pc := 40) (pc' := 66) ((if0 _ _).trans (flt (by decide : ¬ ((0 : Int32) < (-1 : Int32)))).2.2.2) (by decide) ?_
    refine XS.iconst X8.here hx rfl (hb hby d24_66) ?_
    refine is_ X8 hx hby d24_67 (l' := #[r_ en, r_ b, i_ 0, i_ 2, r_ d, r_ ret_, i_ 0, i_ 0, i_ 0, i_ 0, u_, u_, u_, u_, u_, u_]) rfl ?_
    refine il_ X8 hx hby d24_69 rfl ?_
    refine il_ X8 hx hby d24_71 rfl ?_
    exact k_)
  have P11 := oS (T8.setTop (mkF m 192 #[r_ en, r_ b, i_ 0, i_ 2, r_ d, r_ ret_, i_ 0, i_ 0, i_ 0, i_ 0, u_, u_, u_, u_, u_, u_] [(.int 2), (.int 0)])) P10 (by
    intro _ k_
    refine cY_ X8 hx hby d24_73 (pc := 73) (pc' := 189) (flt (by decide : ¬ ((0 : Int32) < (0 : Int32)))).2.1 (by decide) ?_
    refine il_ X8 hx hby d24_189 rfl ?_
    refine iN_ X8 hx hby d24_191 rfl ?_
    exact k_)
  have P12 := oS (T8.setTop (mkF m 201 #[r_ en, r_ b, i_ 0, i_ 2, r_ d, r_ ret_, i_ 1, i_ 0, i_ 0, i_ 0, u_, u_, u_, u_, u_, u_] [(.int 0), (.ref b)])) P11 (by
    intro _ k_
    refine XS.icmpNo X8.here hx rfl (hb hby d24_192) rfl (tlt (by decide : (0 : Int32) < (2 : Int32))).2.1 ?_
    refine aN_ X8 hx hby d24_195 rfl rfl ?_
    refine il_ X8 hx hby d24_196 rfl ?_
    refine XS.iinc X8.here hx rfl (hb hby d24_198) rfl (l' := #[r_ en, r_ b, i_ 0, i_ 2, r_ d, r_ ret_, i_ 1, i_ 0, i_ 0, i_ 0, u_, u_, u_, u_, u_, u_]) rfl ?_
    exact k_)
  obtain ⟨cl13, Ar13, q13, S13, M13, H13, G13⟩ := id Vb
  have hin13 := inb_of S13 (by decide : ¬ (0 : Int32) < 0 ∧ (0 : Int32) < (2 : Int32))
  have hat13 := Has.at H13 hin13 (v := .int y0) rfl
  have P14 := oS (T8.setTop (mkF m 202 #[r_ en, r_ b, i_ 0, i_ 2, r_ d, r_ ret_, i_ 1, i_ 0, i_ 0, i_ 0, u_, u_, u_, u_, u_, u_] [(.int y0)])) P12 (by
    intro _ k_
    refine X8.baloadBytes hx (j := (0 : Int32)) (v := (.int y0)) (by rw [e8]; exact Ar13.1) (State.isArrayOf_alike hZ.alike Ar13.2.1) Ar13.2.2 hin13 hat13 (g := (mkF m 201 #[r_ en, r_ b, i_ 0, i_ 2, r_ d, r_ ret_, i_ 1, i_ 0, i_ 0, i_ 0, u_, u_, u_, u_, u_, u_] [(.int 0), (.ref b)])) rfl rfl (hb hby d24_201) _ ?_
    exact k_)
  have P15 := oS (T8.setTop (mkF m 221 #[r_ en, r_ b, i_ 0, i_ 2, r_ d, r_ ret_, i_ 1, i_ 0, i_ 0, i_ 1, i_ (y0 &&& 255), u_, u_, u_, u_, u_] [(.int ((y0 &&& 255) >>> ((2 : Int32) &&& 31))), (.ref ret_), (.int 0), (.ref d)])) P14 (by
    intro _ k_
    refine XS.sipush X8.here hx rfl (hb hby d24_202) ?_
    refine XS.iand X8.here hx rfl (hb hby d24_205) rfl ?_
    refine is_ X8 hx hby d24_206 (l' := #[r_ en, r_ b, i_ 0, i_ 2, r_ d, r_ ret_, i_ 1, i_ 0, i_ 0, i_ 0, i_ (y0 &&& 255), u_, u_, u_, u_, u_]) rfl ?_
    refine a_ X8 hx hby d24_208 rfl rfl ?_
    refine il_ X8 hx hby d24_210 rfl ?_
    refine XS.iinc X8.here hx rfl (hb hby d24_212) rfl (l' := #[r_ en, r_ b, i_ 0, i_ 2, r_ d, r_ ret_, i_ 1, i_ 0, i_ 0, i_ 1, i_ (y0 &&& 255), u_, u_, u_, u_, u_]) rfl ?_
    show Steps p.tables e below (T8.setTop (mkF m 215 #[r_ en, r_ b, i_ 0, i_ 2, r_ d, r_ ret_, i_ 1, i_ 0, i_ 0, i_ 1, i_ (y0 &&& 255), u_, u_, u_, u_, u_] [(.int 0), (.ref d)])) _
    refine a_ X8 hx hby d24_215 rfl rfl ?_
    refine il_ X8 hx hby d24_217 rfl ?_
    refine XS.iconst X8.here hx rfl (hb hby d24_219) ?_
    refine XS.ishr X8.here hx rfl (hb hby d24_220) rfl ?_
    exact k_)
  obtain ⟨cl16, Ar16, q16, S16, M16, H16, G16⟩ := Vet.ext O.2
  have hin16 := inb_of S16 hk0
  have hat16 := Has.at H16 hin16 hv0
  have P17 := oS (T8.setTop (mkF m 222 #[r_ en, r_ b, i_ 0, i_ 2, r_ d, r_ ret_, i_ 1, i_ 0, i_ 0, i_ 1, i_ (y0 &&& 255), u_, u_, u_, u_, u_] [(.int v0), (.int 0), (.ref d)])) P15 (by
    intro _ k_
    refine X8.caload hx (j := ((y0 &&& 255) >>> ((2 : Int32) &&& 31))) (v := (.int v0)) (by rw [e8]; exact Ar16.1) (State.isArrayOf_alike hZ.alike Ar16.2.1) Ar16.2.2 hin16 hat16 (g := (mkF m 221 #[r_ en, r_ b, i_ 0, i_ 2, r_ d, r_ ret_, i_ 1, i_ 0, i_ 0, i_ 1, i_ (y0 &&& 255), u_, u_, u_, u_, u_] [(.int ((y0 &&& 255) >>> ((2 : Int32) &&& 31))), (.ref ret_), (.int 0), (.ref d)])) rfl rfl (hb hby d24_221) _ ?_
    exact k_)
  have P18 := oS (T8.setTop (mkF m 223 #[r_ en, r_ b, i_ 0, i_ 2, r_ d, r_ ret_, i_ 1, i_ 0, i_ 0, i_ 1, i_ (y0 &&& 255), u_, u_, u_, u_, u_] [(.int (v0.toInt8.toInt32)), (.int 0), (.ref d)])) P17 (by
    intro _ k_
    refine XS.i2b X8.here hx rfl (hb hby d24_222) rfl ?_
    exact k_)
  obtain ⟨cl19, Ar19, q19, S19, M19, H19, G19⟩ := id Vd
  obtain ⟨T20, h20, X20, e20, W20, st20⟩ := stB X8 hx hZ e8 Ar19 (j := (0 : Int32)) (inb_of S19 (by decide : ¬ (0 : Int32) < 0 ∧ (0 : Int32) < (3 : Int32))) (g := (mkF m 223 #[r_ en, r_ b, i_ 0, i_ 2, r_ d, r_ ret_, i_ 1, i_ 0, i_ 0, i_ 1, i_ (y0 &&& 255), u_, u_, u_, u_, u_] [(.int (v0.toInt8.toInt32)), (.int 0), (.ref d)])) rfl rfl (hb hby d24_223)
  have f21 := O.wr W20 gd
  have f22 := Fp.other W20 (Or.inl nen)
  have f25 := Vb.other W20 nbd
  have f27 := (Keep.refl h0 [d]).wr W20 (Or.inl (List.mem_of_getElem? (i := 0) rfl))
  have V20 : Arv Z h20 d kd .byte (3 : Int32) [(.int (v0.toInt8.toInt32).toInt8.toInt32), (.int 0), (.int 0)] (.int 0) := Arv.set Ar19 q19 S19 M19 H19 G19 (fits_nar_byte _) W20 0 rfl (Nat.le_of_ble_eq_true rfl)
  have N20 := Fr.snoc X20 N0 gd
  have P29 := oS (T20.setTop (mkF m 224 #[r_ en, r_ b, i_ 0, i_ 2, r_ d, r_ ret_, i_ 1, i_ 0, i_ 0, i_ 1, i_ (y0 &&& 255), u_, u_, u_, u_, u_] [])) P18 (fun t_ k_ => st20 t_ k_)
  have P30 := oS (T20.setTop (mkF m 227 #[r_ en, r_ b, i_ 0, i_ 2, r_ d, r_ ret_, i_ 1, i_ 0, i_ 0, i_ 1, i_ (y0 &&& 255), u_, u_, u_, u_, u_] [(.int 2), (.int 1)])) P29 (by
    intro _ k_
    refine il_ X20 hx hby d24_224 rfl ?_
    refine iN_ X20 hx hby d24_226 rfl ?_
    exact k_)
  have P31 := oS (T20.setTop (mkF m 285 #[r_ en, r_ b, i_ 0, i_ 2, r_ d, r_ ret_, i_ 2, i_ 0, i_ 0, i_ 1, i_ (y0 &&& 255), u_, u_, u_, u_, u_] [(.int 1), (.ref b)])) P30 (by
    intro _ k_
    refine cY_ X20 hx hby d24_227 (pc := 227) (pc' := 279) (feq (by decide : ¬ ((1 : Int32) = (2 : Int32)))).2 (by decide) ?_
    refine aN_ X20 hx hby d24_279 rfl rfl ?_
    refine il_ X20 hx hby d24_280 rfl ?_
    refine XS.iinc X20.here hx rfl (hb hby d24_282) rfl (l' := #[r_ en, r_ b, i_ 0, i_ 2, r_ d, r_ ret_, i_ 2, i_ 0, i_ 0, i_ 1, i_ (y0 &&& 255), u_, u_, u_, u_, u_]) rfl ?_
    exact k_)
  obtain ⟨cl32, Ar32, q32, S32, M32, H32, G32⟩ := id f25
  have hin32 := inb_of S32 (by decide : ¬ (1 : Int32) < 0 ∧ (1 : Int32) < (2 : Int32))
  have hat32 := Has.at H32 hin32 (v := .int y1) rfl
  have P33 := oS (T20.setTop (mkF m 286 #[r_ en, r_ b, i_ 0, i_ 2, r_ d, r_ ret_, i_ 2, i_ 0, i_ 0, i_ 1, i_ (y0 &&& 255), u_, u_, u_, u_, u_] [(.int y1)])) P31 (by
    intro _ k_
    refine X20.baloadBytes hx (j := (1 : Int32)) (v := (.int y1)) (by rw [e20]; exact Ar32.1) (State.isArrayOf_alike hZ.alike Ar32.2.1) Ar32.2.2 hin32 hat32 (g := (mkF m 285 #[r_ en, r_ b, i_ 0, i_ 2, r_ d, r_ ret_, i_ 2, i_ 0, i_ 0, i_ 1, i_ (y0 &&& 255), u_, u_, u_, u_, u_] [(.int 1), (.ref b)])) rfl rfl (hb hby d24_285) _ ?_
    exact k_)
  have P34 := oS (T20.setTop (mkF m 313 #[r_ en, r_ b, i_ 0, i_ 2, r_ d, r_ ret_, i_ 2, i_ 0, i_ 0, i_ 2, i_ (y0 &&& 255), i_ (y1 &&& 255), u_, u_, u_, u_] [(.int ((((y0 &&& 255) <<< ((4 : Int32) &&& 31)) &&& 63) ||| ((y1 &&& 255) >>> ((4 : Int32) &&& 31)))), (.ref ret_), (.int 1), (.ref d)])) P33 (by
    intro _ k_
    refine XS.sipush X20.here hx rfl (hb hby d24_286) ?_
    refine XS.iand X20.here hx rfl (hb hby d24_289) rfl ?_
    refine is_ X20 hx hby d24_290 (l' := #[r_ en, r_ b, i_ 0, i_ 2, r_ d, r_ ret_, i_ 2, i_ 0, i_ 0, i_ 1, i_ (y0 &&& 255), i_ (y1 &&& 255), u_, u_, u_, u_]) rfl ?_
    refine a_ X20 hx hby d24_292 rfl rfl ?_
    refine il_ X20 hx hby d24_294 rfl ?_
    refine XS.iinc X20.here hx rfl (hb hby d24_296) rfl (l' := #[r_ en, r_ b, i_ 0, i_ 2, r_ d, r_ ret_, i_ 2, i_ 0, i_ 0, i_ 2, i_ (y0 &&& 255), i_ (y1 &&& 255), u_, u_, u_, u_]) rfl ?_
    show Steps p.tables e below (T20.setTop (mkF m 299 #[r_ en, r_ b, i_ 0, i_ 2, r_ d, r_ ret_, i_ 2, i_ 0, i_ 0, i_ 2, i_ (y0 &&& 255), i_ (y1 &&& 255), u_, u_, u_, u_] [(.int 1), (.ref d)])) _
    refine a_ X20 hx hby d24_299 rfl rfl ?_
    refine il_ X20 hx hby d24_301 rfl ?_
    refine XS.iconst X20.here hx rfl (hb hby d24_303) ?_
    refine XS.ishl X20.here hx rfl (hb hby d24_304) rfl ?_
    refine XS.bipush X20.here hx rfl (hb hby d24_305) ?_
    refine XS.iand X20.here hx rfl (hb hby d24_307) rfl ?_
    refine il_ X20 hx hby d24_308 rfl ?_
    refine XS.iconst X20.here hx rfl (hb hby d24_310) ?_
    refine XS.ishr X20.here hx rfl (hb hby d24_311) rfl ?_
    refine XS.ior X20.here hx rfl (hb hby d24_312) rfl ?_
    exact k_)
  obtain ⟨cl35, Ar35, q35, S35, M35, H35, G35⟩ := Vet.ext f21.2
  have hin35 := inb_of S35 hk1
  have hat35 := Has.at H35 hin35 hv1
  have P36 := oS (T20.setTop (mkF m 314 #[r_ en, r_ b, i_ 0, i_ 2, r_ d, r_ ret_, i_ 2, i_ 0, i_ 0, i_ 2, i_ (y0 &&& 255), i_ (y1 &&& 255), u_, u_, u_, u_] [(.int v1), (.int 1), (.ref d)])) P34 (by
    intro _ k_
    refine X20.caload hx (j := ((((y0 &&& 255) <<< ((4 : Int32) &&& 31)) &&& 63) ||| ((y1 &&& 255) >>> ((4 : Int32) &&& 31)))) (v := (.int v1)) (by rw [e20]; exact Ar35.1) (State.isArrayOf_alike hZ.alike Ar35.2.1) Ar35.2.2 hin35 hat35 (g := (mkF m 313 #[r_ en, r_ b, i_ 0, i_ 2, r_ d, r_ ret_, i_ 2, i_ 0, i_ 0, i_ 2, i_ (y0 &&& 255), i_ (y1 &&& 255), u_, u_, u_, u_] [(.int ((((y0 &&& 255) <<< ((4 : Int32) &&& 31)) &&& 63) ||| ((y1 &&& 255) >>> ((4 : Int32) &&& 31)))), (.ref ret_), (.int 1), (.ref d)])) rfl rfl (hb hby d24_313) _ ?_
    exact k_)
  have P37 := oS (T20.setTop (mkF m 315 #[r_ en, r_ b, i_ 0, i_ 2, r_ d, r_ ret_, i_ 2, i_ 0, i_ 0, i_ 2, i_ (y0 &&& 255), i_ (y1 &&& 255), u_, u_, u_, u_] [(.int (v1.toInt8.toInt32)), (.int 1), (.ref d)])) P36 (by
    intro _ k_
    refine XS.i2b X20.here hx rfl (hb hby d24_314) rfl ?_
    exact k_)
  obtain ⟨cl38, Ar38, q38, S38, M38, H38, G38⟩ := id V20
  obtain ⟨T39, h39, X39, e39, W39, st39⟩ := stB X20 hx hZ e20 Ar38 (j := (1 : Int32)) (inb_of S38 (by decide : ¬ (1 : Int32) < 0 ∧ (1 : Int32) < (3 : Int32))) (g := (mkF m 315 #[r_ en, r_ b, i_ 0, i_ 2, r_ d, r_ ret_, i_ 2, i_ 0, i_ 0, i_ 2, i_ (y0 &&& 255), i_ (y1 &&& 255), u_, u_, u_, u_] [(.int (v1.toInt8.toInt32)), (.int 1), (.ref d)])) rfl rfl (hb hby d24_315)
  have f40 := f21.wr W39 gd
  have f41 := f22.other W39 (Or.inl nen)
  have f46 := f27.wr W39 (Or.inl (List.mem_of_getElem? (i := 0) rfl))
  have V39 : Arv Z h39 d kd .byte (3 : Int32) [(.int (v0.toInt8.toInt32).toInt8.toInt32), (.int (v1.toInt8.toInt32).toInt8.toInt32), (.int 0)] (.int 0) := Arv.set Ar38 q38 S38 M38 H38 G38 (fits_nar_byte _) W39 1 rfl (Nat.le_of_ble_eq_true rfl)
  have N39 := Fr.snoc X39 N20 gd
  have P48 := oS (T39.setTop (mkF m 316 #[r_ en, r_ b, i_ 0, i_ 2, r_ d, r_ ret_, i_ 2, i_ 0, i_ 0, i_ 2, i_ (y0 &&& 255), i_ (y1 &&& 255), u_, u_, u_, u_] [])) P37 (fun t_ k_ => st39 t_ k_)
  have P49 := oS (T39.setTop (mkF m 332 #[r_ en, r_ b, i_ 0, i_ 2, r_ d, r_ ret_, i_ 2, i_ 0, i_ 0, i_ 3, i_ (y0 &&& 255), i_ (y1 &&& 255), u_, u_, u_, u_] [(.int (((y1 &&& 255) <<< ((2 : Int32) &&& 31)) &&& 63)), (.ref ret_), (.int 2), (.ref d)])) P48 (by
    intro _ k_
    refine a_ X39 hx hby d24_316 rfl rfl ?_
    refine il_ X39 hx hby d24_318 rfl ?_
    refine XS.iinc X39.here hx rfl (hb hby d24_320) rfl (l' := #[r_ en, r_ b, i_ 0, i_ 2, r_ d, r_ ret_, i_ 2, i_ 0, i_ 0, i_ 3, i_ (y0 &&& 255), i_ (y1 &&& 255), u_, u_, u_, u_]) rfl ?_
    show Steps p.tables e below (T39.setTop (mkF m 323 #[r_ en, r_ b, i_ 0, i_ 2, r_ d, r_ ret_, i_ 2, i_ 0, i_ 0, i_ 3, i_ (y0 &&& 255), i_ (y1 &&& 255), u_, u_, u_, u_] [(.int 2), (.ref d)])) _
    refine a_ X39 hx hby d24_323 rfl rfl ?_
    refine il_ X39 hx hby d24_325 rfl ?_
    refine XS.iconst X39.here hx rfl (hb hby d24_327) ?_
    refine XS.ishl X39.here hx rfl (hb hby d24_328) rfl ?_
    refine XS.bipush X39.here hx rfl (hb hby d24_329) ?_
    refine XS.iand X39.here hx rfl (hb hby d24_331) rfl ?_
    exact k_)
  obtain ⟨cl50, Ar50, q50, S50, M50, H50, G50⟩ := Vet.ext f40.2
  have hin50 := inb_of S50 hk2
  have hat50 := Has.at H50 hin50 hv2
  have P51 := oS (T39.setTop (mkF m 333 #[r_ en, r_ b, i_ 0, i_ 2, r_ d, r_ ret_, i_ 2, i_ 0, i_ 0, i_ 3, i_ (y0 &&& 255), i_ (y1 &&& 255), u_, u_, u_, u_] [(.int v2), (.int 2), (.ref d)])) P49 (by
    intro _ k_
    refine X39.caload hx (j := (((y1 &&& 255) <<< ((2 : Int32) &&& 31)) &&& 63)) (v := (.int v2)) (by rw [e39]; exact Ar50.1) (State.isArrayOf_alike hZ.alike Ar50.2.1) Ar50.2.2 hin50 hat50 (g := (mkF m 332 #[r_ en, r_ b, i_ 0, i_ 2, r_ d, r_ ret_, i_ 2, i_ 0, i_ 0, i_ 3, i_ (y0 &&& 255), i_ (y1 &&& 255), u_, u_, u_, u_] [(.int (((y1 &&& 255) <<< ((2 : Int32) &&& 31)) &&& 63)), (.ref ret_), (.int 2), (.ref d)])) rfl rfl (hb hby d24_332) _ ?_
    exact k_)
  have P52 := oS (T39.setTop (mkF m 334 #[r_ en, r_ b, i_ 0, i_ 2, r_ d, r_ ret_, i_ 2, i_ 0, i_ 0, i_ 3, i_ (y0 &&& 255), i_ (y1 &&& 255), u_, u_, u_, u_] [(.int (v2.toInt8.toInt32)), (.int 2), (.ref d)])) P51 (by
    intro _ k_
    refine XS.i2b X39.here hx rfl (hb hby d24_333) rfl ?_
    exact k_)
  obtain ⟨cl53, Ar53, q53, S53, M53, H53, G53⟩ := id V39
  obtain ⟨T54, h54, X54, e54, W54, st54⟩ := stB X39 hx hZ e39 Ar53 (j := (2 : Int32)) (inb_of S53 (by decide : ¬ (2 : Int32) < 0 ∧ (2 : Int32) < (3 : Int32))) (g := (mkF m 334 #[r_ en, r_ b, i_ 0, i_ 2, r_ d, r_ ret_, i_ 2, i_ 0, i_ 0, i_ 3, i_ (y0 &&& 255), i_ (y1 &&& 255), u_, u_, u_, u_] [(.int (v2.toInt8.toInt32)), (.int 2), (.ref d)])) rfl rfl (hb hby d24_334)
  have f56 := f41.other W54 (Or.inl nen)
  have f61 := f46.wr W54 (Or.inl (List.mem_of_getElem? (i := 0) rfl))
  have V54 : Arv Z h54 d kd .byte (3 : Int32) [(.int (v0.toInt8.toInt32).toInt8.toInt32), (.int (v1.toInt8.toInt32).toInt8.toInt32), (.int (v2.toInt8.toInt32).toInt8.toInt32)] (.int 0) := Arv.set Ar53 q53 S53 M53 H53 G53 (fits_nar_byte _) W54 2 rfl (Nat.le_of_ble_eq_true rfl)
  have N54 := Fr.snoc X54 N39 gd
  have P63 := oS (T54.setTop (mkF m 335 #[r_ en, r_ b, i_ 0, i_ 2, r_ d, r_ ret_, i_ 2, i_ 0, i_ 0, i_ 3, i_ (y0 &&& 255), i_ (y1 &&& 255), u_, u_, u_, u_] [])) P52 (fun t_ k_ => st54 t_ k_)
  have P64 := oS (T54.setTop (mkF m 336 #[r_ en, r_ b, i_ 0, i_ 2, r_ d, r_ ret_, i_ 2, i_ 0, i_ 0, i_ 3, i_ (y0 &&& 255), i_ (y1 &&& 255), u_, u_, u_, u_] [(.ref en)])) P63 (by
    intro _ k_
    refine aN_ X54 hx hby d24_335 rfl rfl ?_
    exact k_)
  obtain ⟨T65, X65, e65, st65⟩ := getF X54 hx hZ hown (host := "") (Or.inl (own_w hw 130 rfl)) Via.refl e54 f56 (g := (mkF m 336 #[r_ en, r_ b, i_ 0, i_ 2, r_ d, r_ ret_, i_ 2, i_ 0, i_ 0, i_ 3, i_ (y0 &&& 255), i_ (y1 &&& 255), u_, u_, u_, u_] [(.ref en)])) rfl rfl (hb hby d24_336)
  have P66 := oS (T65.setTop (mkF m 339 #[r_ en, r_ b, i_ 0, i_ 2, r_ d, r_ ret_, i_ 2, i_ 0, i_ 0, i_ 3, i_ (y0 &&& 255), i_ (y1 &&& 255), u_, u_, u_, u_] [(.int 0)])) P64 (fun t_ k_ => st65 t_ k_)
  have P67 := oS (T65.setTop (mkF m 354 #[r_ en, r_ b, i_ 0, i_ 2, r_ d, r_ ret_, i_ 2, i_ 0, i_ 0, i_ 3, i_ (y0 &&& 255), i_ (y1 &&& 255), u_, u_, u_, u_] [(.int 3)])) P66 (by
    intro _ k_
    refine fY_ X65 hx hby d24_339 (pc := 339) (pc' := 352) ((if0 _ _).trans (teq (by decide : (0 : Int32) = (0 : Int32))).1) (by decide) ?_
    refine il_ X65 hx hby d24_352 rfl ?_
    exact k_)
  rw [hz0, hz1, hz2] at V54
  exact own_out X65 hlk (v := some (.int 3)) (own_hv hrt) P67 (fun _ q_ => retI X65 hx hrt (hb hby d24_354) q_) e65 ⟨rfl, N54, f61, V54⟩ (by decide)
def Q_enc_2 (Z : State) (en : Addr) (b : Addr) (k : ClassId) (y0 : Int32) (y1 : Int32) (v0 : Int32) (v1 : Int32) (v2 : Int32) (x0 : Int32) (x1 : Int32) (x2 : Int32) (ret_ : Addr) (ket : ClassId) (h0 : Heap) (n0 : Nat) (v_ : Option Value) (h : Heap) (L_ : List Loc) : Prop := ∃ (xq : Addr) (kk : ClassId), v_ = some (.ref xq) ∧ Fr n0 L_ ∧ Keep h0 h [] ∧ h0.size ≤ xq ∧ Arv Z h xq kk .byte (3 : Int32) [(.int x0), (.int x1), (.int x2)] (.int 0) ∧ Exa Z h xq "[B"
set_option maxRecDepth 65536 in
set_option maxHeartbeats 40000000 in
theorem rm_enc_2 (l : Launch) (Z : State) (a0 : Array Value) (hw : ∀ d ∈ tables_1, d.before a0 Z = true) (ws : List Jvm.Cond) (en : Addr) (b : Addr) (k : ClassId) (y0 : Int32) (y1 : Int32) (v0 : Int32) (v1 : Int32) (v2 : Int32) (x0 : Int32) (x1 : Int32) (x2 : Int32) (ret_ : Addr) (ket : ClassId) (h0 : Heap) (n0 : Nat) (Z0 : n0 ≤ h0.size) (O : Old Z n0 h0) (Set : Sta Z Z.heap "java/util/Base64$Encoder" "toBase64URL" "[C" (.ref ret_)) (Vet : Arv Z Z.heap ret_ ket .char (64 : Int32) own_enc (.int 0)) (Ee : Exa Z h0 en "java/util/Base64$Encoder") (Fp : Fld Z h0 en "java/util/Base64$Encoder" "doPadding" "Z" (.int 0)) (Fl : Fld Z h0 en "java/util/Base64$Encoder" "linemax" "I" (.int (-1 : Int32))) (Fe : Fld Z h0 en "java/util/Base64$Encoder" "isURL" "Z" (.int 1)) (Vb : Arv Z h0 b k .byte (2 : Int32) [(.int y0), (.int y1)] (.int 0)) (hk0 : ¬ ((y0 &&& 255) >>> ((2 : Int32) &&& 31)) < 0 ∧ ((y0 &&& 255) >>> ((2 : Int32) &&& 31)) < (64 : Int32)) (hv0 : own_enc.getD ((y0 &&& 255) >>> ((2 : Int32) &&& 31)).toNatClampNeg (.int 0) = .int v0) (hz0 : v0.toInt8.toInt32.toInt8.toInt32 = x0) (hk1 : ¬ ((((y0 &&& 255) <<< ((4 : Int32) &&& 31)) &&& 63) ||| ((y1 &&& 255) >>> ((4 : Int32) &&& 31))) < 0 ∧ ((((y0 &&& 255) <<< ((4 : Int32) &&& 31)) &&& 63) ||| ((y1 &&& 255) >>> ((4 : Int32) &&& 31))) < (64 : Int32)) (hv1 : own_enc.getD ((((y0 &&& 255) <<< ((4 : Int32) &&& 31)) &&& 63) ||| ((y1 &&& 255) >>> ((4 : Int32) &&& 31))).toNatClampNeg (.int 0) = .int v1) (hz1 : v1.toInt8.toInt32.toInt8.toInt32 = x1) (hk2 : ¬ (((y1 &&& 255) <<< ((2 : Int32) &&& 31)) &&& 63) < 0 ∧ (((y1 &&& 255) <<< ((2 : Int32) &&& 31)) &&& 63) < (64 : Int32)) (hv2 : own_enc.getD (((y1 &&& 255) <<< ((2 : Int32) &&& 31)) &&& 63).toNatClampNeg (.int 0) = .int v2) (hz2 : v2.toInt8.toInt32.toInt8.toInt32 = x2) :
    own_MF l yM21 (.code yM21 cB21 5 (some (.array .byte))) ws ⟨2, 1, 3, 31⟩ #[(.ref en), (.ref b)] Z h0 own_T (Q_enc_2 Z en b k y0 y1 v0 v1 v2 x0 x1 x2 ret_ ket h0 n0) := by
  refine own_in "java/util/Base64$Encoder" rfl (plainFor_of_name pn4) hisR (fun m => ef21RR m en b) ?_
  intro p e s m below meth c s₁ A_ hx hby hml hown hnm hrt hlk hZ _ X0 e0 pre0
  have N0 := Fr.nil n0
  have P1 := oS (s₁.setTop (mkF m 2 #[r_ en, r_ b, u_, u_, u_] [(.ref b), (.ref en)])) pre0 (by
    intro _ k_
    refine aN_ X0 hx hby d21_0 rfl rfl ?_
    refine aN_ X0 hx hby d21_1 rfl rfl ?_
    exact k_)
  obtain ⟨cl2, Ar2, q2, S2, M2, H2, G2⟩ := id Vb
  have P3 := oS (s₁.setTop (mkF m 3 #[r_ en, r_ b, u_, u_, u_] [(.int 2), (.ref en)])) P1 (by
    intro _ k_
    refine X0.arraylength hx (by rw [e0]; exact Ar2.1) (State.isArrayOf_alike hZ.alike Ar2.2.1) (g := (mkF m 2 #[r_ en, r_ b, u_, u_, u_] [(.ref b), (.ref en)])) rfl rfl (hb hby d21_2) _ ?_
    rw [len_of S2 M2]
    exact k_)
  have P4 := oS (s₁.setTop (mkF m 4 #[r_ en, r_ b, u_, u_, u_] [(.int 1), (.int 2), (.ref en)])) P3 (by
    intro _ k_
    refine XS.iconst X0.here hx rfl (hb hby d21_3) ?_
    exact k_)
  obtain ⟨_, T5, L5, X5, hQ5, P5c⟩ := own_cPH (W := 0) (rm_eol_2 l Z a0 hw [] en h0 n0 Z0 O Fp Fl Fe) X0 hx hZ (fun _ _ => trivial) hown Ee (own_w hw 125 rfl) (own_w hw 127 rfl) (own_w hw 128 rfl) (own_w hw 126 rfl) (own_w hw 118 rfl) (own_w hw 129 rfl) (by decide) P4 hml rfl [(.int 2), (.int 1)] [] rfl rfl rfl pd13 rfl (hb hby d21_4) e0 (by decide)
  obtain ⟨rfl, N5q, e5⟩ := hQ5
  have N5 := Fr.app N0 N5q
  have P6 := own_to (C := T5.setTop (mkF m 7 #[r_ en, r_ b, u_, u_, u_] [(.int 3)])) P5c
  have P7 := oS (T5.setTop (mkF m 9 #[r_ en, r_ b, i_ 3, u_, u_] [(.int 3)])) P6 (by
    intro _ k_
    refine XS.istoreN X5.here hx rfl (hb hby d21_7) rfl (l' := #[r_ en, r_ b, i_ 3, u_, u_]) rfl ?_
    refine iN_ X5 hx hby d21_8 rfl ?_
    exact k_)
  obtain ⟨T8, h8, k8, X8, e8, E8, A8, EA8, st8⟩ := newPE X5 hx hZ (own_w hw 23 rfl) e5 (g := (mkF m 9 #[r_ en, r_ b, i_ 3, u_, u_] [(.int 3)])) rfl (hb hby d21_9) rfl (by decide) (cap := 3) (by decide) (by decide) (by decide) (by decide) (ad := "[B") (by decide +kernel)
  obtain ⟨b8, g8⟩ : ∃ z, z = h0.size := ⟨_, rfl⟩
  rw [← g8] at A8 EA8 st8
  have ne_en_b8 : en ≠ b8 := Nat.ne_of_lt (Nat.lt_of_lt_of_le Fp.lt (Nat.le_of_eq g8.symm))
  have ne_b_b8 : b ≠ b8 := Nat.ne_of_lt (Nat.lt_of_lt_of_le Vb.lt (Nat.le_of_eq g8.symm))
  have g_b8 : n0 ≤ b8 := Nat.le_trans Z0 (Nat.le_of_eq g8.symm)
  have sz_b8 : h0.size ≤ b8 := Nat.le_trans (Keep.refl h0 []).1 (Nat.le_of_eq g8.symm)
  have f9 := O.ext E8
  have f10 := Fp.ext E8
  have f11 := Fl.ext E8
  have f12 := Fe.ext E8
  have f13 := (Keep.refl h0 []).ext E8
  have f14 := Vb.ext E8
  have f15 := Ee.ext E8
  have Z16 : n0 ≤ h8.size := Nat.le_trans Z0 E8.1
  have V8 : Arv Z h8 b8 k8 .byte (3 : Int32) [(.int 0), (.int 0), (.int 0)] (.int 0) := (Arv.new A8 (by decide)).pad (pad_rep [] _ 3)
  have P17 := oS (T8.setTop (mkF m 11 #[r_ en, r_ b, i_ 3, u_, u_] [(.ref b8)])) P7 (fun t_ k_ => st8 t_ k_)
  have P18 := oS (T8.setTop (mkF m 16 #[r_ en, r_ b, i_ 3, r_ b8, u_] [(.ref b), (.int 0), (.ref b), (.ref en)])) P17 (by
    intro _ k_
    refine XS.astoreN X8.here hx rfl (hb hby d21_11) rfl rfl (l' := #[r_ en, r_ b, i_ 3, r_ b8, u_]) rfl ?_
    refine aN_ X8 hx hby d21_12 rfl rfl ?_
    refine aN_ X8 hx hby d21_13 rfl rfl ?_
    refine XS.iconst X8.here hx rfl (hb hby d21_14) ?_
    refine aN_ X8 hx hby d21_15 rfl rfl ?_
    exact k_)
  obtain ⟨cl19, Ar19, q19, S19, M19, H19, G19⟩ := id f14
  have P20 := oS (T8.setTop (mkF m 17 #[r_ en, r_ b, i_ 3, r_ b8, u_] [(.int 2), (.int 0), (.ref b), (.ref en)])) P18 (by
    intro _ k_
    refine X8.arraylength hx (by rw [e8]; exact Ar19.1) (State.isArrayOf_alike hZ.alike Ar19.2.1) (g := (mkF m 16 #[r_ en, r_ b, i_ 3, r_ b8, u_] [(.ref b), (.int 0), (.ref b), (.ref en)])) rfl rfl (hb hby d21_16) _ ?_
    rw [len_of S19 M19]
    exact k_)
  have P21 := oS (T8.setTop (mkF m 18 #[r_ en, r_ b, i_ 3, r_ b8, u_] [(.ref b8), (.int 2), (.int 0), (.ref b), (.ref en)])) P20 (by
    intro _ k_
    refine aN_ X8 hx hby d21_17 rfl rfl ?_
    exact k_)
  obtain ⟨_, T22, L22, X22, hQ22, P22c⟩ := own_cP (W := 0) (rm_enc0_2 l Z a0 hw [] en b k b8 k8 y0 y1 v0 v1 v2 x0 x1 x2 ret_ ket h8 n0 Z16 f9 Set Vet f10 f11 f12 f14 V8 ne_b_b8 g_b8 ne_en_b8 hk0 hv0 hz0 hk1 hv1 hz1 hk2 hv2 hz2) X8 hx hZ (fun _ _ => trivial) hown f15 (own_w hw 141 rfl) (own_w hw 143 rfl) (own_w hw 144 rfl) (own_w hw 142 rfl) (own_w hw 118 rfl) (own_w hw 145 rfl) (by decide) P21 hml rfl [(.ref b), (.int 0), (.int 2), (.ref b8)] [] rfl rfl rfl pd9 rfl (hb hby d21_18) e8 (by decide)
  obtain ⟨rfl, N22q, K22, f23⟩ := hQ22
  have N22 := Fr.app N5 N22q
  have f28 := f13.trans K22 (allS (Or.inr sz_b8) all0)
  have f32 := EA8.keep K22
  have P34 := own_to (C := T22.setTop (mkF m 21 #[r_ en, r_ b, i_ 3, r_ b8, u_] [(.int 3)])) P22c
  have P35 := oS (T22.setTop (mkF m 26 #[r_ en, r_ b, i_ 3, r_ b8, i_ 3] [(.ref b8), (.int 3)])) P34 (by
    intro _ k_
    refine is_ X22 hx hby d21_21 (l' := #[r_ en, r_ b, i_ 3, r_ b8, i_ 3]) rfl ?_
    refine il_ X22 hx hby d21_23 rfl ?_
    refine aN_ X22 hx hby d21_25 rfl rfl ?_
    exact k_)
  obtain ⟨cl36, Ar36, q36, S36, M36, H36, G36⟩ := id f23
  have P37 := oS (T22.setTop (mkF m 27 #[r_ en, r_ b, i_ 3, r_ b8, i_ 3] [(.int 3), (.int 3)])) P35 (by
    intro _ k_
    refine X22.arraylength hx Ar36.1 (State.isArrayOf_alike hZ.alike Ar36.2.1) (g := (mkF m 26 #[r_ en, r_ b, i_ 3, r_ b8, i_ 3] [(.ref b8), (.int 3)])) rfl rfl (hb hby d21_26) _ ?_
    rw [len_of S36 M36]
    exact k_)
  have P38 := oS (T22.setTop (mkF m 38 #[r_ en, r_ b, i_ 3, r_ b8, i_ 3] [(.ref b8)])) P37 (by
    intro _ k_
    refine cY_ X22 hx hby d21_27 (pc := 27) (pc' := 37) (teq (by decide : (3 : Int32) = (3 : Int32))).1 (by decide) ?_
    refine aN_ X22 hx hby d21_37 rfl rfl ?_
    exact k_)
  exact own_out X22 hlk (v := some (.ref b8)) (own_hv hrt) P38 (fun _ q_ => retOut X22 hx hrt rfl (Or.inr (Or.inr (Or.inr (Or.inr ⟨rfl, rfl, rfl⟩)))) (hb hby d21_38) q_) (rfl : T22.heap = _) ⟨b8, k8, rfl, N22, f28, sz_b8, f23, f32⟩ (by decide)
def Q_eStr_2 (Z : State) (en : Addr) (b : Addr) (k : ClassId) (y0 : Int32) (y1 : Int32) (v0 : Int32) (v1 : Int32) (v2 : Int32) (x0 : Int32) (x1 : Int32) (x2 : Int32) (ret_ : Addr) (ket : ClassId) (fm : Value) (cs : Int32) (h0 : Heap) (n0 : Nat) (v_ : Option Value) (h : Heap) (L_ : List Loc) : Prop := ∃ (rs : Addr) (rv : Addr) (kr : ClassId), v_ = some (.ref rs) ∧ Fr n0 L_ ∧ Keep h0 h [] ∧ h0.size ≤ rs ∧ Exa Z h rs "java/lang/String" ∧ Fld Z h rs "java/lang/String" "coder" "B" (.int 0) ∧ Fld Z h rs "java/lang/String" "value" "[B" (.ref rv) ∧ Arv Z h rv kr .byte (3 : Int32) [(.int x0), (.int x1), (.int x2)] (.int 0) ∧ h0.size ≤ rv
set_option maxRecDepth 65536 in
set_option maxHeartbeats 40000000 in
theorem rm_eStr_2 (l : Launch) (Z : State) (a0 : Array Value) (hw : ∀ d ∈ tables_1, d.before a0 Z = true) (ws : List Jvm.Cond) (en : Addr) (b : Addr) (k : ClassId) (y0 : Int32) (y1 : Int32) (v0 : Int32) (v1 : Int32) (v2 : Int32) (x0 : Int32) (x1 : Int32) (x2 : Int32) (ret_ : Addr) (ket : ClassId) (fm : Value) (cs : Int32) (h0 : Heap) (n0 : Nat) (Z0 : n0 ≤ h0.size) (O : Old Z n0 h0) (Scs : Sta Z Z.heap "java/lang/String" "COMPACT_STRINGS" "Z" (.int cs)) (hcs : ¬ (cs = (0 : Int32))) (Sfm : Sta Z Z.heap "jdk/internal/util/Preconditions" "SIOOBE_FORMATTER" "Ljava/util/function/BiFunction;" fm) (hfm : fm.category = 1) (Set : Sta Z Z.heap "java/util/Base64$Encoder" "toBase64URL" "[C" (.ref ret_)) (Vet : Arv Z Z.heap ret_ ket .char (64 : Int32) own_enc (.int 0)) (Ee : Exa Z h0 en "java/util/Base64$Encoder") (Fp : Fld Z h0 en "java/util/Base64$Encoder" "doPadding" "Z" (.int 0)) (Fl : Fld Z h0 en "java/util/Base64$Encoder" "linemax" "I" (.int (-1 : Int32))) (Fe : Fld Z h0 en "java/util/Base64$Encoder" "isURL" "Z" (.int 1)) (Vb : Arv Z h0 b k .byte (2 : Int32) [(.int y0), (.int y1)] (.int 0)) (hk0 : ¬ ((y0 &&& 255) >>> ((2 : Int32) &&& 31)) < 0 ∧ ((y0 &&& 255) >>> ((2 : Int32) &&& 31)) < (64 : Int32)) (hv0 : own_enc.getD ((y0 &&& 255) >>> ((2 : Int32) &&& 31)).toNatClampNeg (.int 0) = .int v0) (hz0 : v0.toInt8.toInt32.toInt8.toInt32 = x0) (hk1 : ¬ ((((y0 &&& 255) <<< ((4 : Int32) &&& 31)) &&& 63) ||| ((y1 &&& 255) >>> ((4 : Int32) &&& 31))) < 0 ∧ ((((y0 &&& 255) <<< ((4 : Int32) &&& 31)) &&& 63) ||| ((y1 &&& 255) >>> ((4 : Int32) &&& 31))) < (64 : Int32)) (hv1 : own_enc.getD ((((y0 &&& 255) <<< ((4 : Int32) &&& 31)) &&& 63) ||| ((y1 &&& 255) >>> ((4 : Int32) &&& 31))).toNatClampNeg (.int 0) = .int v1) (hz1 : v1.toInt8.toInt32.toInt8.toInt32 = x1) (hk2 : ¬ (((y1 &&& 255) <<< ((2 : Int32) &&& 31)) &&& 63) < 0 ∧ (((y1 &&& 255) <<< ((2 : Int32) &&& 31)) &&& 63) < (64 : Int32)) (hv2 : own_enc.getD (((y1 &&& 255) <<< ((2 : Int32) &&& 31)) &&& 63).toNatClampNeg (.int 0) = .int v2) (hz2 : v2.toInt8.toInt32.toInt8.toInt32 = x2) :
    own_MF l yM20 (.code yM20 cB20 3 (some (.object "java/lang/String"))) ws ⟨3, 3, 11, 48⟩ #[(.ref en), (.ref b)] Z h0 own_T (Q_eStr_2 Z en b k y0 y1 v0 v1 v2 x0 x1 x2 ret_ ket fm cs h0 n0) := by
  refine own_in "java/util/Base64$Encoder" rfl (plainFor_of_name pn4) hisR (fun m => ef20RR m en b) ?_
  intro p e s m below meth c s₁ A_ hx hby hml hown hnm hrt hlk hZ _ X0 e0 pre0
  have N0 := Fr.nil n0
  have P1 := oS (s₁.setTop (mkF m 2 #[r_ en, r_ b, u_] [(.ref b), (.ref en)])) pre0 (by
    intro _ k_
    refine aN_ X0 hx hby d20_0 rfl rfl ?_
    refine aN_ X0 hx hby d20_1 rfl rfl ?_
    exact k_)
  obtain ⟨_, T2, L2, X2, hQ2, P2c⟩ := own_cV (W := 0) (rm_enc_2 l Z a0 hw [] en b k y0 y1 v0 v1 v2 x0 x1 x2 ret_ ket h0 n0 Z0 O Set Vet Ee Fp Fl Fe Vb hk0 hv0 hz0 hk1 hv1 hz1 hk2 hv2 hz2) X0 hx hZ (fun _ _ => trivial) hown Ee (own_w hw 120 rfl) (own_w hw 121 rfl) (own_w hw 123 rfl) (own_w hw 122 rfl) (own_w hw 118 rfl) (own_w hw 124 rfl) (by decide) P1 hml rfl [(.ref b)] [] rfl rfl rfl pd11 rfl (hb hby d20_2) e0 (by decide)
  obtain ⟨xq2, kk2, rfl, N2q, K2, f3, f4, f5⟩ := hQ2
  have N2 := Fr.app N0 N2q
  have f6 := O.keep K2 all0
  have f10 := (Keep.refl h0 []).trans K2 all0
  have Z13 : n0 ≤ T2.heap.size := Nat.le_trans Z0 K2.1
  have P14 := own_to (C := T2.setTop (mkF m 5 #[r_ en, r_ b, u_] [(.ref xq2)])) P2c
  have P15 := oS (T2.setTop (mkF m 6 #[r_ en, r_ b, r_ xq2] [])) P14 (by
    intro _ k_
    refine XS.astoreN X2.here hx rfl (hb hby d20_5) rfl rfl (l' := #[r_ en, r_ b, r_ xq2]) rfl ?_
    exact k_)
  obtain ⟨T16, h16, X16, e16, E16, A16, D16, -, st16⟩ := newO X2 hx hZ hown (own_w hw 157 rfl) (own_w hw 6 rfl) (own_w hw 7 rfl) rfl (g := (mkF m 6 #[r_ en, r_ b, r_ xq2] [])) rfl (hb hby d20_6) (by decide) (by decide)
  obtain ⟨b16, g16⟩ : ∃ z, z = T2.heap.size := ⟨_, rfl⟩
  rw [← g16] at A16 D16 st16
  have g_b16 : n0 ≤ b16 := Nat.le_trans Z13 (Nat.le_of_eq g16.symm)
  have sz_b16 : h0.size ≤ b16 := Nat.le_trans f10.1 (Nat.le_of_eq g16.symm)
  have f17 := f6.ext E16
  have f21 := f10.ext E16
  have f24 := f4.ext E16
  have f25 := f5.ext E16
  have Z26 : n0 ≤ h16.size := Nat.le_trans Z13 E16.1
  have f27 : Fld Z h16 b16 "java/lang/String" "coder" "B" (.int 0) := D16 (Or.inr (own_w hw 31 rfl)) (ty := .byte) (by decide)
  have f28 : Fld Z h16 b16 "java/lang/String" "value" "[B" .null := D16 (Or.inr (own_w hw 33 rfl)) (ty := (.array .byte)) (by decide)
  have P29 := oS (T16.setTop (mkF m 9 #[r_ en, r_ b, r_ xq2] [(.ref b16)])) P15 (fun t_ k_ => st16 t_ k_)
  have P30 := oS (T16.setTop (mkF m 14 #[r_ en, r_ b, r_ xq2] [(.ref xq2), (.int 0), (.int 0), (.ref xq2), (.ref b16), (.ref b16)])) P29 (by
    intro _ k_
    refine XS.dup X16.here hx rfl (hb hby d20_9) rfl rfl ?_
    refine aN_ X16 hx hby d20_10 rfl rfl ?_
    refine XS.iconst X16.here hx rfl (hb hby d20_11) ?_
    refine XS.iconst X16.here hx rfl (hb hby d20_12) ?_
    refine aN_ X16 hx hby d20_13 rfl rfl ?_
    exact k_)
  obtain ⟨cl31, Ar31, q31, S31, M31, H31, G31⟩ := id f24
  have P32 := oS (T16.setTop (mkF m 15 #[r_ en, r_ b, r_ xq2] [(.int 3), (.int 0), (.int 0), (.ref xq2), (.ref b16), (.ref b16)])) P30 (by
    intro _ k_
    refine X16.arraylength hx (by rw [e16]; exact Ar31.1) (State.isArrayOf_alike hZ.alike Ar31.2.1) (g := (mkF m 14 #[r_ en, r_ b, r_ xq2] [(.ref xq2), (.int 0), (.int 0), (.ref xq2), (.ref b16), (.ref b16)])) rfl rfl (hb hby d20_14) _ ?_
    rw [len_of S31 M31]
    exact k_)
  obtain ⟨_, T33, L33, X33, hQ33, P33c⟩ := own_cI (W := 1) (rm_initB_0 l Z a0 hw [] b16 xq2 kk2 [(.int x0), (.int x1), (.int x2)] fm cs (3 : Int32) h16 n0 Z26 f17 Scs hcs Sfm hfm A16 f28 f27 g_b16 f24 f25 (by decide) (by decide) (by decide) (by decide) (by decide)) X16 hx hZ (fun _ _ => trivial) hown rfl (own_w hw 158 rfl) (own_w hw 159 rfl) (own_w hw 7 rfl) (own_w hw 160 rfl) (by decide) P32 hml rfl [(.ref xq2), (.int 0), (.int 0), (.int 3)] [(.ref b16)] rfl rfl rfl pd16 rfl (hb hby d20_15) e16 (by decide)
  obtain ⟨xq33, rfl, N33q, K33, f34, f35, f36, f37, f38⟩ := hQ33
  have N33 := Fr.app N2 N33q
  have sz_xq33 : h0.size ≤ xq33 := Nat.le_trans f21.1 f38
  have f43 := f21.trans K33 (allS (Or.inr sz_b16) all0)
  have P52 := own_to (C := T33.setTop (mkF m 18 #[r_ en, r_ b, r_ xq2] [(.ref b16)])) P33c
  exact own_out X33 hlk (v := some (.ref b16)) (own_hv hrt) P52 (fun _ q_ => retOut X33 hx hrt rfl (Or.inr (Or.inr (Or.inr (Or.inr ⟨rfl, rfl, rfl⟩)))) (hb hby d20_18) q_) (rfl : T33.heap = _) ⟨b16, xq33, kk2, rfl, N33, f43, sz_b16, f34, f35, f36, f37, sz_xq33⟩ (by decide)
def Q_buE_2 (Z : State) (en : Addr) (b : Addr) (k : ClassId) (y0 : Int32) (y1 : Int32) (v0 : Int32) (v1 : Int32) (v2 : Int32) (x0 : Int32) (x1 : Int32) (x2 : Int32) (ret_ : Addr) (ket : ClassId) (fm : Value) (cs : Int32) (h0 : Heap) (n0 : Nat) (v_ : Option Value) (h : Heap) (L_ : List Loc) : Prop := ∃ (rs : Addr) (rv : Addr) (kr : ClassId), v_ = some (.ref rs) ∧ Fr n0 L_ ∧ Keep h0 h [] ∧ h0.size ≤ rs ∧ Exa Z h rs "java/lang/String" ∧ Fld Z h rs "java/lang/String" "coder" "B" (.int 0) ∧ Fld Z h rs "java/lang/String" "value" "[B" (.ref rv) ∧ Arv Z h rv kr .byte (3 : Int32) [(.int x0), (.int x1), (.int x2)] (.int 0) ∧ h0.size ≤ rv
set_option maxRecDepth 65536 in
set_option maxHeartbeats 40000000 in
theorem rm_buE_2 (l : Launch) (Z : State) (a0 : Array Value) (hw : ∀ d ∈ tables_1, d.before a0 Z = true) (ws : List Jvm.Cond) (en : Addr) (b : Addr) (k : ClassId) (y0 : Int32) (y1 : Int32) (v0 : Int32) (v1 : Int32) (v2 : Int32) (x0 : Int32) (x1 : Int32) (x2 : Int32) (ret_ : Addr) (ket : ClassId) (fm : Value) (cs : Int32) (h0 : Heap) (n0 : Nat) (Z0 : n0 ≤ h0.size) (O : Old Z n0 h0) (Scs : Sta Z Z.heap "java/lang/String" "COMPACT_STRINGS" "Z" (.int cs)) (hcs : ¬ (cs = (0 : Int32))) (Sfm : Sta Z Z.heap "jdk/internal/util/Preconditions" "SIOOBE_FORMATTER" "Ljava/util/function/BiFunction;" fm) (hfm : fm.category = 1) (Set : Sta Z Z.heap "java/util/Base64$Encoder" "toBase64URL" "[C" (.ref ret_)) (Vet : Arv Z Z.heap ret_ ket .char (64 : Int32) own_enc (.int 0)) (Ee : Exa Z h0 en "java/util/Base64$Encoder") (Fp : Fld Z h0 en "java/util/Base64$Encoder" "doPadding" "Z" (.int 0)) (Fl : Fld Z h0 en "java/util/Base64$Encoder" "linemax" "I" (.int (-1 : Int32))) (Fe : Fld Z h0 en "java/util/Base64$Encoder" "isURL" "Z" (.int 1)) (Vb : Arv Z h0 b k .byte (2 : Int32) [(.int y0), (.int y1)] (.int 0)) (hk0 : ¬ ((y0 &&& 255) >>> ((2 : Int32) &&& 31)) < 0 ∧ ((y0 &&& 255) >>> ((2 : Int32) &&& 31)) < (64 : Int32)) (hv0 : own_enc.getD ((y0 &&& 255) >>> ((2 : Int32) &&& 31)).toNatClampNeg (.int 0) = .int v0) (hz0 : v0.toInt8.toInt32.toInt8.toInt32 = x0) (hk1 : ¬ ((((y0 &&& 255) <<< ((4 : Int32) &&& 31)) &&& 63) ||| ((y1 &&& 255) >>> ((4 : Int32) &&& 31))) < 0 ∧ ((((y0 &&& 255) <<< ((4 : Int32) &&& 31)) &&& 63) ||| ((y1 &&& 255) >>> ((4 : Int32) &&& 31))) < (64 : Int32)) (hv1 : own_enc.getD ((((y0 &&& 255) <<< ((4 : Int32) &&& 31)) &&& 63) ||| ((y1 &&& 255) >>> ((4 : Int32) &&& 31))).toNatClampNeg (.int 0) = .int v1) (hz1 : v1.toInt8.toInt32.toInt8.toInt32 = x1) (hk2 : ¬ (((y1 &&& 255) <<< ((2 : Int32) &&& 31)) &&& 63) < 0 ∧ (((y1 &&& 255) <<< ((2 : Int32) &&& 31)) &&& 63) < (64 : Int32)) (hv2 : own_enc.getD (((y1 &&& 255) <<< ((2 : Int32) &&& 31)) &&& 63).toNatClampNeg (.int 0) = .int v2) (hz2 : v2.toInt8.toInt32.toInt8.toInt32 = x2) (Senc : Sta Z Z.heap "com/example/verified_health_identity/verifiedhealthidentity/jose/Base64url" "ENCODER" "Ljava/util/Base64$Encoder;" (.ref en)) :
    own_MF l yM19 (.code yM19 cB19 1 (some (.object "java/lang/String"))) ws ⟨4, 3, 11, 62⟩ #[(.ref b)] Z h0 own_T (Q_buE_2 Z en b k y0 y1 v0 v1 v2 x0 x1 x2 ret_ ket fm cs h0 n0) := by
  refine own_in "com/example/verified_health_identity/verifiedhealthidentity/jose/Base64url" rfl (plainFor_of_name pn6) hisR (fun m => ef19R m b) ?_
  intro p e s m below meth c s₁ A_ hx hby hml hown hnm hrt hlk hZ _ X0 e0 pre0
  have N0 := Fr.nil n0
  obtain ⟨T1, X1, e1, st1⟩ := getS2 X0 hx hZ hown (host := "") (Or.inl (own_w hw 112 rfl)) Via.refl e0 (Senc.ext O.2) (g := (mkF m 0 #[r_ b] [])) rfl (hb hby d19_0)
  have P2 := oS (T1.setTop (mkF m 3 #[r_ b] [(.ref en)])) pre0 (fun t_ k_ => st1 t_ k_)
  have P3 := oS (T1.setTop (mkF m 4 #[r_ b] [(.ref b), (.ref en)])) P2 (by
    intro _ k_
    refine aN_ X1 hx hby d19_3 rfl rfl ?_
    exact k_)
  obtain ⟨_, T4, L4, X4, hQ4, P4c⟩ := own_cV (W := 0) (rm_eStr_2 l Z a0 hw [] en b k y0 y1 v0 v1 v2 x0 x1 x2 ret_ ket fm cs h0 n0 Z0 O Scs hcs Sfm hfm Set Vet Ee Fp Fl Fe Vb hk0 hv0 hz0 hk1 hv1 hz1 hk2 hv2 hz2) X1 hx hZ (fun _ _ => trivial) hown Ee (own_w hw 114 rfl) (own_w hw 115 rfl) (own_w hw 117 rfl) (own_w hw 116 rfl) (own_w hw 118 rfl) (own_w hw 119 rfl) (by decide) P3 hml rfl [(.ref b)] [] rfl rfl rfl pd17 rfl (hb hby d19_4) e1 (by decide)
  obtain ⟨rs4, rv4, kr4, rfl, N4q, K4, f5, f6, f7, f8, f9, f10⟩ := hQ4
  have N4 := Fr.app N0 N4q
  have sz_rs4 : h0.size ≤ rs4 := Nat.le_trans (Keep.refl h0 []).1 f5
  have sz_rv4 : h0.size ≤ rv4 := Nat.le_trans (Keep.refl h0 []).1 f10
  have f15 := (Keep.refl h0 []).trans K4 all0
  have P19 := own_to (C := T4.setTop (mkF m 7 #[r_ b] [(.ref rs4)])) P4c
  exact own_out X4 hlk (v := some (.ref rs4)) (own_hv hrt) P19 (fun _ q_ => retOut X4 hx hrt rfl (Or.inr (Or.inr (Or.inr (Or.inr ⟨rfl, rfl, rfl⟩)))) (hb hby d19_7) q_) (rfl : T4.heap = _) ⟨rs4, rv4, kr4, rfl, N4, f15, sz_rs4, f6, f7, f8, f9, sz_rv4⟩ (by decide)
def Q_eqL_3 (Z : State) (b : Addr) (k : ClassId) (d : Addr) (kd : ClassId) (x0 : Int32) (x1 : Int32) (x2 : Int32) (h0 : Heap) (n0 : Nat) (v_ : Option Value) (h : Heap) (L_ : List Loc) : Prop := v_ = some (.int 1) ∧ Fr n0 L_ ∧ h = h0
set_option maxRecDepth 65536 in
set_option maxHeartbeats 40000000 in
theorem rm_eqL_3 (l : Launch) (Z : State) (a0 : Array Value) (hw : ∀ d ∈ tables_1, d.before a0 Z = true) (ws : List Jvm.Cond) (b : Addr) (k : ClassId) (d : Addr) (kd : ClassId) (x0 : Int32) (x1 : Int32) (x2 : Int32) (h0 : Heap) (n0 : Nat) (Z0 : n0 ≤ h0.size) (Vb : Arv Z h0 b k .byte (3 : Int32) [(.int x0), (.int x1), (.int x2)] (.int 0)) (Vd : Arv Z h0 d kd .byte (3 : Int32) [(.int x0), (.int x1), (.int x2)] (.int 0)) :
    own_MF l yM32 (.code yM32 cB32 3 (some .boolean)) ws ⟨0, 0, 0, 0⟩ #[(.ref b), (.ref d)] Z h0 own_T (Q_eqL_3 Z b k d kd x0 x1 x2 h0 n0) := by
  refine own_in "java/lang/StringLatin1" rfl (plainFor_of_name pn7) hisR (fun m => ef32RR m b d) ?_
  intro p e s m below meth c s₁ A_ hx hby hml hown hnm hrt hlk hZ _ X0 e0 pre0
  have N0 := Fr.nil n0
  have P1 := oS (s₁.setTop (mkF m 1 #[r_ b, r_ d, u_] [(.ref b)])) pre0 (by
    intro _ k_
    refine aN_ X0 hx hby d32_0 rfl rfl ?_
    exact k_)
  obtain ⟨cl2, Ar2, q2, S2, M2, H2, G2⟩ := id Vb
  have P3 := oS (s₁.setTop (mkF m 2 #[r_ b, r_ d, u_] [(.int 3)])) P1 (by
    intro _ k_
    refine X0.arraylength hx (by rw [e0]; exact Ar2.1) (State.isArrayOf_alike hZ.alike Ar2.2.1) (g := (mkF m 1 #[r_ b, r_ d, u_] [(.ref b)])) rfl rfl (hb hby d32_1) _ ?_
    rw [len_of S2 M2]
    exact k_)
  have P4 := oS (s₁.setTop (mkF m 3 #[r_ b, r_ d, u_] [(.ref d), (.int 3)])) P3 (by
    intro _ k_
    refine aN_ X0 hx hby d32_2 rfl rfl ?_
    exact k_)
  obtain ⟨cl5, Ar5, q5, S5, M5, H5, G5⟩ := id Vd
  have P6 := oS (s₁.setTop (mkF m 4 #[r_ b, r_ d, u_] [(.int 3), (.int 3)])) P4 (by
    intro _ k_
    refine X0.arraylength hx (by rw [e0]; exact Ar5.1) (State.isArrayOf_alike hZ.alike Ar5.2.1) (g := (mkF m 3 #[r_ b, r_ d, u_] [(.ref d), (.int 3)])) rfl rfl (hb hby d32_3) _ ?_
    rw [len_of S5 M5]
    exact k_)
  have P7 := oS (s₁.setTop (mkF m 11 #[r_ b, r_ d, i_ 0] [(.ref b), (.int 0)])) P6 (by
    intro _ k_
    refine XS.icmpNo X0.here hx rfl (hb hby d32_4) rfl (teq (by decide : (3 : Int32) = (3 : Int32))).2 ?_
    refine XS.iconst X0.here hx rfl (hb hby d32_7) ?_
    refine XS.istoreN X0.here hx rfl (hb hby d32_8) rfl (l' := #[r_ b, r_ d, i_ 0]) rfl ?_
    refine iN_ X0 hx hby d32_9 rfl ?_
    refine aN_ X0 hx hby d32_10 rfl rfl ?_
    exact k_)
  obtain ⟨cl8, Ar8, q8, S8, M8, H8, G8⟩ := id Vb
  have P9 := oS (s₁.setTop (mkF m 12 #[r_ b, r_ d, i_ 0] [(.int 3), (.int 0)])) P7 (by
    intro _ k_
    refine X0.arraylength hx (by rw [e0]; exact Ar8.1) (State.isArrayOf_alike hZ.alike Ar8.2.1) (g := (mkF m 11 #[r_ b, r_ d, i_ 0] [(.ref b), (.int 0)])) rfl rfl (hb hby d32_11) _ ?_
    rw [len_of S8 M8]
    exact k_)
  have P10 := oS (s₁.setTop (mkF m 17 #[r_ b, r_ d, i_ 0] [(.int 0), (.ref b)])) P9 (by
    intro _ k_
    refine XS.icmpNo X0.here hx rfl (hb hby d32_12) rfl (tlt (by decide : (0 : Int32) < (3 : Int32))).2.1 ?_
    refine aN_ X0 hx hby d32_15 rfl rfl ?_
    refine iN_ X0 hx hby d32_16 rfl ?_
    exact k_)
  obtain ⟨cl11, Ar11, q11, S11, M11, H11, G11⟩ := id Vb
  have hin11 := inb_of S11 (by decide : ¬ (0 : Int32) < 0 ∧ (0 : Int32) < (3 : Int32))
  have hat11 := Has.at H11 hin11 (v := .int x0) rfl
  have P12 := oS (s₁.setTop (mkF m 18 #[r_ b, r_ d, i_ 0] [(.int x0)])) P10 (by
    intro _ k_
    refine X0.baloadBytes hx (j := (0 : Int32)) (v := (.int x0)) (by rw [e0]; exact Ar11.1) (State.isArrayOf_alike hZ.alike Ar11.2.1) Ar11.2.2 hin11 hat11 (g := (mkF m 17 #[r_ b, r_ d, i_ 0] [(.int 0), (.ref b)])) rfl rfl (hb hby d32_17) _ ?_
    exact k_)
  have P13 := oS (s₁.setTop (mkF m 20 #[r_ b, r_ d, i_ 0] [(.int 0), (.ref d), (.int x0)])) P12 (by
    intro _ k_
    refine aN_ X0 hx hby d32_18 rfl rfl ?_
    refine iN_ X0 hx hby d32_19 rfl ?_
    exact k_)
  obtain ⟨cl14, Ar14, q14, S14, M14, H14, G14⟩ := id Vd
  have hin14 := inb_of S14 (by decide : ¬ (0 : Int32) < 0 ∧ (0 : Int32) < (3 : Int32))
  have hat14 := Has.at H14 hin14 (v := .int x0) rfl
  have P15 := oS (s₁.setTop (mkF m 21 #[r_ b, r_ d, i_ 0] [(.int x0), (.int x0)])) P13 (by
    intro _ k_
    refine X0.baloadBytes hx (j := (0 : Int32)) (v := (.int x0)) (by rw [e0]; exact Ar14.1) (State.isArrayOf_alike hZ.alike Ar14.2.1) Ar14.2.2 hin14 hat14 (g := (mkF m 20 #[r_ b, r_ d, i_ 0] [(.int 0), (.ref d), (.int x0)])) rfl rfl (hb hby d32_20) _ ?_
    exact k_)
  have P16 := oS (s₁.setTop (mkF m 11 #[r_ b, r_ d, i_ 1] [(.ref b), (.int 1)])) P15 (by
    intro _ k_
    refine cY_ X0 hx hby d32_21 (pc := 21) (pc' := 26) (teq (rfl : x0 = x0)).1 (by decide) ?_
    refine XS.iinc X0.here hx rfl (hb hby d32_26) rfl (l' := #[r_ b, r_ d, i_ 1]) rfl ?_
    show Steps p.tables e below (s₁.setTop (mkF m 29 #[r_ b, r_ d, i_ 1] [])) _
    refine gt_ X0 hx hby d32_29 (pc := 29) (pc' := 9) (by decide) ?_
    refine iN_ X0 hx hby d32_9 rfl ?_
    refine aN_ X0 hx hby d32_10 rfl rfl ?_
    exact k_)
  obtain ⟨cl17, Ar17, q17, S17, M17, H17, G17⟩ := id Vb
  have P18 := oS (s₁.setTop (mkF m 12 #[r_ b, r_ d, i_ 1] [(.int 3), (.int 1)])) P16 (by
    intro _ k_
    refine X0.arraylength hx (by rw [e0]; exact Ar17.1) (State.isArrayOf_alike hZ.alike Ar17.2.1) (g := (mkF m 11 #[r_ b, r_ d, i_ 1] [(.ref b), (.int 1)])) rfl rfl (hb hby d32_11) _ ?_
    rw [len_of S17 M17]
    exact k_)
  have P19 := oS (s₁.setTop (mkF m 17 #[r_ b, r_ d, i_ 1] [(.int 1), (.ref b)])) P18 (by
    intro _ k_
    refine XS.icmpNo X0.here hx rfl (hb hby d32_12) rfl (tlt (by decide : (1 : Int32) < (3 : Int32))).2.1 ?_
    refine aN_ X0 hx hby d32_15 rfl rfl ?_
    refine iN_ X0 hx hby d32_16 rfl ?_
    exact k_)
  obtain ⟨cl20, Ar20, q20, S20, M20, H20, G20⟩ := id Vb
  have hin20 := inb_of S20 (by decide : ¬ (1 : Int32) < 0 ∧ (1 : Int32) < (3 : Int32))
  have hat20 := Has.at H20 hin20 (v := .int x1) rfl
  have P21 := oS (s₁.setTop (mkF m 18 #[r_ b, r_ d, i_ 1] [(.int x1)])) P19 (by
    intro _ k_
    refine X0.baloadBytes hx (j := (1 : Int32)) (v := (.int x1)) (by rw [e0]; exact Ar20.1) (State.isArrayOf_alike hZ.alike Ar20.2.1) Ar20.2.2 hin20 hat20 (g := (mkF m 17 #[r_ b, r_ d, i_ 1] [(.int 1), (.ref b)])) rfl rfl (hb hby d32_17) _ ?_
    exact k_)
  have P22 := oS (s₁.setTop (mkF m 20 #[r_ b, r_ d, i_ 1] [(.int 1), (.ref d), (.int x1)])) P21 (by
    intro _ k_
    refine aN_ X0 hx hby d32_18 rfl rfl ?_
    refine iN_ X0 hx hby d32_19 rfl ?_
    exact k_)
  obtain ⟨cl23, Ar23, q23, S23, M23, H23, G23⟩ := id Vd
  have hin23 := inb_of S23 (by decide : ¬ (1 : Int32) < 0 ∧ (1 : Int32) < (3 : Int32))
  have hat23 := Has.at H23 hin23 (v := .int x1) rfl
  have P24 := oS (s₁.setTop (mkF m 21 #[r_ b, r_ d, i_ 1] [(.int x1), (.int x1)])) P22 (by
    intro _ k_
    refine X0.baloadBytes hx (j := (1 : Int32)) (v := (.int x1)) (by rw [e0]; exact Ar23.1) (State.isArrayOf_alike hZ.alike Ar23.2.1) Ar23.2.2 hin23 hat23 (g := (mkF m 20 #[r_ b, r_ d, i_ 1] [(.int 1), (.ref d), (.int x1)])) rfl rfl (hb hby d32_20) _ ?_
    exact k_)
  have P25 := oS (s₁.setTop (mkF m 11 #[r_ b, r_ d, i_ 2] [(.ref b), (.int 2)])) P24 (by
    intro _ k_
    refine cY_ X0 hx hby d32_21 (pc := 21) (pc' := 26) (teq (rfl : x1 = x1)).1 (by decide) ?_
    refine XS.iinc X0.here hx rfl (hb hby d32_26) rfl (l' := #[r_ b, r_ d, i_ 2]) rfl ?_
    show Steps p.tables e below (s₁.setTop (mkF m 29 #[r_ b, r_ d, i_ 2] [])) _
    refine gt_ X0 hx hby d32_29 (pc := 29) (pc' := 9) (by decide) ?_
    refine iN_ X0 hx hby d32_9 rfl ?_
    refine aN_ X0 hx hby d32_10 rfl rfl ?_
    exact k_)
  obtain ⟨cl26, Ar26, q26, S26, M26, H26, G26⟩ := id Vb
  have P27 := oS (s₁.setTop (mkF m 12 #[r_ b, r_ d, i_ 2] [(.int 3), (.int 2)])) P25 (by
    intro _ k_
    refine X0.arraylength hx (by rw [e0]; exact Ar26.1) (State.isArrayOf_alike hZ.alike Ar26.2.1) (g := (mkF m 11 #[r_ b, r_ d, i_ 2] [(.ref b), (.int 2)])) rfl rfl (hb hby d32_11) _ ?_
    rw [len_of S26 M26]
    exact k_)
  have P28 := oS (s₁.setTop (mkF m 17 #[r_ b, r_ d, i_ 2] [(.int 2), (.ref b)])) P27 (by
    intro _ k_
    refine XS.icmpNo X0.here hx rfl (hb hby d32_12) rfl (tlt (by decide : (2 : Int32) < (3 : Int32))).2.1 ?_
    refine aN_ X0 hx hby d32_15 rfl rfl ?_
    refine iN_ X0 hx hby d32_16 rfl ?_
    exact k_)
  obtain ⟨cl29, Ar29, q29, S29, M29, H29, G29⟩ := id Vb
  have hin29 := inb_of S29 (by decide : ¬ (2 : Int32) < 0 ∧ (2 : Int32) < (3 : Int32))
  have hat29 := Has.at H29 hin29 (v := .int x2) rfl
  have P30 := oS (s₁.setTop (mkF m 18 #[r_ b, r_ d, i_ 2] [(.int x2)])) P28 (by
    intro _ k_
    refine X0.baloadBytes hx (j := (2 : Int32)) (v := (.int x2)) (by rw [e0]; exact Ar29.1) (State.isArrayOf_alike hZ.alike Ar29.2.1) Ar29.2.2 hin29 hat29 (g := (mkF m 17 #[r_ b, r_ d, i_ 2] [(.int 2), (.ref b)])) rfl rfl (hb hby d32_17) _ ?_
    exact k_)
  have P31 := oS (s₁.setTop (mkF m 20 #[r_ b, r_ d, i_ 2] [(.int 2), (.ref d), (.int x2)])) P30 (by
    intro _ k_
    refine aN_ X0 hx hby d32_18 rfl rfl ?_
    refine iN_ X0 hx hby d32_19 rfl ?_
    exact k_)
  obtain ⟨cl32, Ar32, q32, S32, M32, H32, G32⟩ := id Vd
  have hin32 := inb_of S32 (by decide : ¬ (2 : Int32) < 0 ∧ (2 : Int32) < (3 : Int32))
  have hat32 := Has.at H32 hin32 (v := .int x2) rfl
  have P33 := oS (s₁.setTop (mkF m 21 #[r_ b, r_ d, i_ 2] [(.int x2), (.int x2)])) P31 (by
    intro _ k_
    refine X0.baloadBytes hx (j := (2 : Int32)) (v := (.int x2)) (by rw [e0]; exact Ar32.1) (State.isArrayOf_alike hZ.alike Ar32.2.1) Ar32.2.2 hin32 hat32 (g := (mkF m 20 #[r_ b, r_ d, i_ 2] [(.int 2), (.ref d), (.int x2)])) rfl rfl (hb hby d32_20) _ ?_
    exact k_)
  have P34 := oS (s₁.setTop (mkF m 11 #[r_ b, r_ d, i_ 3] [(.ref b), (.int 3)])) P33 (by
    intro _ k_
    refine cY_ X0 hx hby d32_21 (pc := 21) (pc' := 26) (teq (rfl : x2 = x2)).1 (by decide) ?_
    refine XS.iinc X0.here hx rfl (hb hby d32_26) rfl (l' := #[r_ b, r_ d, i_ 3]) rfl ?_
    show Steps p.tables e below (s₁.setTop (mkF m 29 #[r_ b, r_ d, i_ 3] [])) _
    refine gt_ X0 hx hby d32_29 (pc := 29) (pc' := 9) (by decide) ?_
    refine iN_ X0 hx hby d32_9 rfl ?_
    refine aN_ X0 hx hby d32_10 rfl rfl ?_
    exact k_)
  obtain ⟨cl35, Ar35, q35, S35, M35, H35, G35⟩ := id Vb
  have P36 := oS (s₁.setTop (mkF m 12 #[r_ b, r_ d, i_ 3] [(.int 3), (.int 3)])) P34 (by
    intro _ k_
    refine X0.arraylength hx (by rw [e0]; exact Ar35.1) (State.isArrayOf_alike hZ.alike Ar35.2.1) (g := (mkF m 11 #[r_ b, r_ d, i_ 3] [(.ref b), (.int 3)])) rfl rfl (hb hby d32_11) _ ?_
    rw [len_of S35 M35]
    exact k_)
  have P37 := oS (s₁.setTop (mkF m 33 #[r_ b, r_ d, i_ 3] [(.int 1)])) P36 (by
    intro _ k_
    refine cY_ X0 hx hby d32_12 (pc := 12) (pc' := 32) (flt (by decide : ¬ ((3 : Int32) < (3 : Int32)))).2.1 (by decide) ?_
    refine XS.iconst X0.here hx rfl (hb hby d32_32) ?_
    exact k_)
  exact own_out X0 hlk (v := some (.int 1)) (own_hv hrt) P37 (fun _ q_ => retN X0 hx (t := .boolean) hrt (by simp) (hb hby d32_33) q_) e0 ⟨rfl, N0, rfl⟩ (by decide)
def Q_eqS_3 (Z : State) (a : Addr) (a2 : Addr) (b : Addr) (k : ClassId) (d : Addr) (kd : ClassId) (x0 : Int32) (x1 : Int32) (x2 : Int32) (cs : Int32) (h0 : Heap) (n0 : Nat) (v_ : Option Value) (h : Heap) (L_ : List Loc) : Prop := v_ = some (.int 1) ∧ Fr n0 L_ ∧ h = h0
set_option maxRecDepth 65536 in
set_option maxHeartbeats 40000000 in
theorem rm_eqS_3 (l : Launch) (Z : State) (a0 : Array Value) (hw : ∀ d ∈ tables_1, d.before a0 Z = true) (ws : List Jvm.Cond) (a : Addr) (a2 : Addr) (b : Addr) (k : ClassId) (d : Addr) (kd : ClassId) (x0 : Int32) (x1 : Int32) (x2 : Int32) (cs : Int32) (h0 : Heap) (n0 : Nat) (Z0 : n0 ≤ h0.size) (O : Old Z n0 h0) (Scs : Sta Z Z.heap "java/lang/String" "COMPACT_STRINGS" "Z" (.int cs)) (hcs : ¬ (cs = (0 : Int32))) (naa : a ≠ a2) (Ea : Exa Z h0 a "java/lang/String") (Fc : Fld Z h0 a "java/lang/String" "coder" "B" (.int 0)) (Fv : Fld Z h0 a "java/lang/String" "value" "[B" (.ref b)) (Ea2 : Exa Z h0 a2 "java/lang/String") (Fc2 : Fld Z h0 a2 "java/lang/String" "coder" "B" (.int 0)) (Fv2 : Fld Z h0 a2 "java/lang/String" "value" "[B" (.ref d)) (Vb : Arv Z h0 b k .byte (3 : Int32) [(.int x0), (.int x1), (.int x2)] (.int 0)) (Vd : Arv Z h0 d kd .byte (3 : Int32) [(.int x0), (.int x1), (.int x2)] (.int 0)) :
    own_MF l yM31 (.code yM31 cB31 3 (some .boolean)) ws ⟨1, 0, 0, 14⟩ #[(.ref a), (.ref a2)] Z h0 own_T (Q_eqS_3 Z a a2 b k d kd x0 x1 x2 cs h0 n0) := by
  refine own_in "java/lang/String" rfl (plainFor_of_name pn2) hisR (fun m => ef31RR m a a2) ?_
  intro p e s m below meth c s₁ A_ hx hby hml hown hnm hrt hlk hZ _ X0 e0 pre0
  have N0 := Fr.nil n0
  have P1 := oS (s₁.setTop (mkF m 2 #[r_ a, r_ a2, u_] [(.ref a2), (.ref a)])) pre0 (by
    intro _ k_
    refine aN_ X0 hx hby d31_0 rfl rfl ?_
    refine aN_ X0 hx hby d31_1 rfl rfl ?_
    exact k_)
  have P2 := oS (s₁.setTop (mkF m 7 #[r_ a, r_ a2, u_] [])) P1 (by
    intro _ k_
    refine Jvm.RoadKit.acmp (g := (mkF m 2 #[r_ a, r_ a2, u_] [(.ref a2), (.ref a)])) X0 hx rfl rfl rfl (pc0 := 2) (pc' := 7) (same := false) rfl (hb hby d31_2) rfl (decide_eq_false fun q => naa (Value.ref.inj q)) (by decide) (by decide) ?_
    exact k_)
  have P3 := oS (s₁.setTop (mkF m 8 #[r_ a, r_ a2, u_] [(.ref a2)])) P2 (by
    intro _ k_
    refine aN_ X0 hx hby d31_7 rfl rfl ?_
    exact k_)
  obtain ⟨T4, X4, e4, st4⟩ := instY X0 hx hZ hown (own_w hw 180 rfl) e0 (Ins.self Ea2) (g := (mkF m 8 #[r_ a, r_ a2, u_] [(.ref a2)])) rfl rfl (hb hby d31_8)
  have P5 := oS (T4.setTop (mkF m 11 #[r_ a, r_ a2, u_] [(.int 1)])) P3 (fun t_ k_ => st4 t_ k_)
  have P6 := oS (T4.setTop (mkF m 15 #[r_ a, r_ a2, u_] [(.ref a2)])) P5 (by
    intro _ k_
    refine XS.ifNo X4.here hx rfl (hb hby d31_11) rfl ((if0 _ _).trans (feq (by decide : ¬ ((1 : Int32) = (0 : Int32)))).1) ?_
    refine aN_ X4 hx hby d31_14 rfl rfl ?_
    exact k_)
  obtain ⟨T7, X7, e7, st7⟩ := castY X4 hx hZ hown (own_w hw 180 rfl) e4 (Ins.self Ea2) (g := (mkF m 15 #[r_ a, r_ a2, u_] [(.ref a2)])) rfl rfl (hb hby d31_15)
  have P8 := oS (T7.setTop (mkF m 18 #[r_ a, r_ a2, u_] [(.ref a2)])) P6 (fun t_ k_ => st7 t_ k_)
  have P9 := oS (T7.setTop (mkF m 19 #[r_ a, r_ a2, r_ a2] [])) P8 (by
    intro _ k_
    refine XS.astoreN X7.here hx rfl (hb hby d31_18) rfl rfl (l' := #[r_ a, r_ a2, r_ a2]) rfl ?_
    exact k_)
  obtain ⟨T10, X10, e10, st10⟩ := getS2 X7 hx hZ hown (host := "") (Or.inl (own_w hw 18 rfl)) Via.refl e7 (Scs.ext O.2) (g := (mkF m 19 #[r_ a, r_ a2, r_ a2] [])) rfl (hb hby d31_19)
  have P11 := oS (T10.setTop (mkF m 22 #[r_ a, r_ a2, r_ a2] [(.int cs)])) P9 (fun t_ k_ => st10 t_ k_)
  have P12 := oS (T10.setTop (mkF m 26 #[r_ a, r_ a2, r_ a2] [(.ref a)])) P11 (by
    intro _ k_
    refine XS.ifNo X10.here hx rfl (hb hby d31_22) rfl ((if0 _ _).trans (feq hcs).1) ?_
    refine aN_ X10 hx hby d31_25 rfl rfl ?_
    exact k_)
  obtain ⟨T13, X13, e13, st13⟩ := getF X10 hx hZ hown (host := "") (Or.inl (own_w hw 30 rfl)) Via.refl e10 Fc (g := (mkF m 26 #[r_ a, r_ a2, r_ a2] [(.ref a)])) rfl rfl (hb hby d31_26)
  have P14 := oS (T13.setTop (mkF m 29 #[r_ a, r_ a2, r_ a2] [(.int 0)])) P12 (fun t_ k_ => st13 t_ k_)
  have P15 := oS (T13.setTop (mkF m 30 #[r_ a, r_ a2, r_ a2] [(.ref a2), (.int 0)])) P14 (by
    intro _ k_
    refine aN_ X13 hx hby d31_29 rfl rfl ?_
    exact k_)
  obtain ⟨T16, X16, e16, st16⟩ := getF X13 hx hZ hown (host := "") (Or.inl (own_w hw 30 rfl)) Via.refl e13 Fc2 (g := (mkF m 30 #[r_ a, r_ a2, r_ a2] [(.ref a2), (.int 0)])) rfl rfl (hb hby d31_30)
  have P17 := oS (T16.setTop (mkF m 33 #[r_ a, r_ a2, r_ a2] [(.int 0), (.int 0)])) P15 (fun t_ k_ => st16 t_ k_)
  have P18 := oS (T16.setTop (mkF m 37 #[r_ a, r_ a2, r_ a2] [(.ref a)])) P17 (by
    intro _ k_
    refine XS.icmpNo X16.here hx rfl (hb hby d31_33) rfl (teq (by decide : (0 : Int32) = (0 : Int32))).2 ?_
    refine aN_ X16 hx hby d31_36 rfl rfl ?_
    exact k_)
  obtain ⟨T19, X19, e19, st19⟩ := getF X16 hx hZ hown (host := "") (Or.inl (own_w hw 32 rfl)) Via.refl e16 Fv (g := (mkF m 37 #[r_ a, r_ a2, r_ a2] [(.ref a)])) rfl rfl (hb hby d31_37)
  have P20 := oS (T19.setTop (mkF m 40 #[r_ a, r_ a2, r_ a2] [(.ref b)])) P18 (fun t_ k_ => st19 t_ k_)
  have P21 := oS (T19.setTop (mkF m 41 #[r_ a, r_ a2, r_ a2] [(.ref a2), (.ref b)])) P20 (by
    intro _ k_
    refine aN_ X19 hx hby d31_40 rfl rfl ?_
    exact k_)
  obtain ⟨T22, X22, e22, st22⟩ := getF X19 hx hZ hown (host := "") (Or.inl (own_w hw 32 rfl)) Via.refl e19 Fv2 (g := (mkF m 41 #[r_ a, r_ a2, r_ a2] [(.ref a2), (.ref b)])) rfl rfl (hb hby d31_41)
  have P23 := oS (T22.setTop (mkF m 44 #[r_ a, r_ a2, r_ a2] [(.ref d), (.ref b)])) P21 (fun t_ k_ => st22 t_ k_)
  obtain ⟨_, T24, L24, X24, hQ24, P24c⟩ := own_cS (W := 0) (rm_eqL_3 l Z a0 hw [] b k d kd x0 x1 x2 h0 n0 Z0 Vb Vd) X22 hx hZ (fun _ _ => trivial) hown (own_w hw 181 rfl) (own_w hw 182 rfl) (own_w hw 183 rfl) (own_w hw 184 rfl) (by decide) P23 hml rfl [(.ref b), (.ref d)] [] rfl rfl rfl pd18 rfl (hb hby d31_44) e22 (by decide)
  obtain ⟨rfl, N24q, e24⟩ := hQ24
  have N24 := Fr.app N0 N24q
  have P25 := own_to (C := T24.setTop (mkF m 47 #[r_ a, r_ a2, r_ a2] [(.int 1)])) P24c
  have P26 := oS (T24.setTop (mkF m 55 #[r_ a, r_ a2, r_ a2] [(.int 1)])) P25 (by
    intro _ k_
    refine XS.ifNo X24.here hx rfl (hb hby d31_47) rfl ((if0 _ _).trans (feq (by decide : ¬ ((1 : Int32) = (0 : Int32)))).1) ?_
    refine XS.iconst X24.here hx rfl (hb hby d31_50) ?_
    refine gt_ X24 hx hby d31_51 (pc := 51) (pc' := 55) (by decide) ?_
    exact k_)
  exact own_out X24 hlk (v := some (.int 1)) (own_hv hrt) P26 (fun _ q_ => retN X24 hx (t := .boolean) hrt (by simp) (hb hby d31_55) q_) e24 ⟨rfl, N24, rfl⟩ (by decide)
def Q_buD_3 (Z : State) (de : Addr) (a : Addr) (b : Addr) (k : ClassId) (x0 : Int32) (x1 : Int32) (x2 : Int32) (s0 : Int32) (s1 : Int32) (s2 : Int32) (y0 : Int32) (y1 : Int32) (rdt : Addr) (kdt : ClassId) (riso : Addr) (rutf : Addr) (cs : Int32) (en : Addr) (v0 : Int32) (v1 : Int32) (v2 : Int32) (ret_ : Addr) (ket : ClassId) (fm : Value) (h0 : Heap) (n0 : Nat) (v_ : Option Value) (h : Heap) (L_ : List Loc) : Prop := ∃ (xq : Addr) (kk : ClassId), v_ = some (.ref xq) ∧ Fr n0 L_ ∧ Keep h0 h [] ∧ h0.size ≤ xq ∧ Arv Z h xq kk .byte (2 : Int32) [(.int y0), (.int y1)] (.int 0)
set_option maxRecDepth 65536 in
set_option maxHeartbeats 40000000 in
theorem rm_buD_3 (l : Launch) (Z : State) (a0 : Array Value) (hw : ∀ d ∈ tables_1, d.before a0 Z = true) (ws : List Jvm.Cond) (de : Addr) (a : Addr) (b : Addr) (k : ClassId) (x0 : Int32) (x1 : Int32) (x2 : Int32) (s0 : Int32) (s1 : Int32) (s2 : Int32) (y0 : Int32) (y1 : Int32) (rdt : Addr) (kdt : ClassId) (riso : Addr) (rutf : Addr) (cs : Int32) (en : Addr) (v0 : Int32) (v1 : Int32) (v2 : Int32) (ret_ : Addr) (ket : ClassId) (fm : Value) (h0 : Heap) (n0 : Nat) (Z0 : n0 ≤ h0.size) (O : Old Z n0 h0) (Scs : Sta Z Z.heap "java/lang/String" "COMPACT_STRINGS" "Z" (.int cs)) (hcs : ¬ (cs = (0 : Int32))) (Siso : Sta Z Z.heap "sun/nio/cs/ISO_8859_1" "INSTANCE" "Lsun/nio/cs/ISO_8859_1;" (.ref riso)) (Sutf : Sta Z Z.heap "sun/nio/cs/UTF_8" "INSTANCE" "Lsun/nio/cs/UTF_8;" (.ref rutf)) (nci : riso ≠ rutf) (Sdt : Sta Z Z.heap "java/util/Base64$Decoder" "fromBase64URL" "[I" (.ref rdt)) (Vdt : Arv Z Z.heap rdt kdt .int (256 : Int32) own_dec (.int 0)) (Ed : Exa Z h0 de "java/util/Base64$Decoder") (Fu : Fld Z h0 de "java/util/Base64$Decoder" "isURL" "Z" (.int 1)) (Fm : Fld Z h0 de "java/util/Base64$Decoder" "isMIME" "Z" (.int 0)) (Ea : Exa Z h0 a "java/lang/String") (Fc : Fld Z h0 a "java/lang/String" "coder" "B" (.int 0)) (Fv : Fld Z h0 a "java/lang/String" "value" "[B" (.ref b)) (Vb : Arv Z h0 b k .byte (3 : Int32) [(.int x0), (.int x1), (.int x2)] (.int 0)) (Eb : Exa Z h0 b "[B") (h61 : ¬ (x2 = (61 : Int32))) (hj0 : ¬ (x0 &&& 255) < 0 ∧ (x0 &&& 255) < (256 : Int32)) (hd0 : own_dec.getD (x0 &&& 255).toNatClampNeg (.int 0) = .int s0) (hs0 : ¬ (s0 < (0 : Int32))) (hj1 : ¬ (x1 &&& 255) < 0 ∧ (x1 &&& 255) < (256 : Int32)) (hd1 : own_dec.getD (x1 &&& 255).toNatClampNeg (.int 0) = .int s1) (hs1 : ¬ (s1 < (0 : Int32))) (hj2 : ¬ (x2 &&& 255) < 0 ∧ (x2 &&& 255) < (256 : Int32)) (hd2 : own_dec.getD (x2 &&& 255).toNatClampNeg (.int 0) = .int s2) (hs2 : ¬ (s2 < (0 : Int32))) (hy0 : ((((((0 : Int32) ||| (s0 <<< ((18 : Int32) &&& 31))) ||| (s1 <<< ((12 : Int32) &&& 31))) ||| (s2 <<< ((6 : Int32) &&& 31))) >>> ((16 : Int32) &&& 31)).toInt8.toInt32).toInt8.toInt32 = y0) (hy1 : ((((((0 : Int32) ||| (s0 <<< ((18 : Int32) &&& 31))) ||| (s1 <<< ((12 : Int32) &&& 31))) ||| (s2 <<< ((6 : Int32) &&& 31))) >>> ((8 : Int32) &&& 31)).toInt8.toInt32).toInt8.toInt32 = y1) (Sfm : Sta Z Z.heap "jdk/internal/util/Preconditions" "SIOOBE_FORMATTER" "Ljava/util/function/BiFunction;" fm) (hfm : fm.category = 1) (Set : Sta Z Z.heap "java/util/Base64$Encoder" "toBase64URL" "[C" (.ref ret_)) (Vet : Arv Z Z.heap ret_ ket .char (64 : Int32) own_enc (.int 0)) (Ee : Exa Z h0 en "java/util/Base64$Encoder") (Fp : Fld Z h0 en "java/util/Base64$Encoder" "doPadding" "Z" (.int 0)) (Fl : Fld Z h0 en "java/util/Base64$Encoder" "linemax" "I" (.int (-1 : Int32))) (Fe : Fld Z h0 en "java/util/Base64$Encoder" "isURL" "Z" (.int 1)) (hk0 : ¬ ((y0 &&& 255) >>> ((2 : Int32) &&& 31)) < 0 ∧ ((y0 &&& 255) >>> ((2 : Int32) &&& 31)) < (64 : Int32)) (hv0 : own_enc.getD ((y0 &&& 255) >>> ((2 : Int32) &&& 31)).toNatClampNeg (.int 0) = .int v0) (hz0 : v0.toInt8.toInt32.toInt8.toInt32 = x0) (hk1 : ¬ ((((y0 &&& 255) <<< ((4 : Int32) &&& 31)) &&& 63) ||| ((y1 &&& 255) >>> ((4 : Int32) &&& 31))) < 0 ∧ ((((y0 &&& 255) <<< ((4 : Int32) &&& 31)) &&& 63) ||| ((y1 &&& 255) >>> ((4 : Int32) &&& 31))) < (64 : Int32)) (hv1 : own_enc.getD ((((y0 &&& 255) <<< ((4 : Int32) &&& 31)) &&& 63) ||| ((y1 &&& 255) >>> ((4 : Int32) &&& 31))).toNatClampNeg (.int 0) = .int v1) (hz1 : v1.toInt8.toInt32.toInt8.toInt32 = x1) (hk2 : ¬ (((y1 &&& 255) <<< ((2 : Int32) &&& 31)) &&& 63) < 0 ∧ (((y1 &&& 255) <<< ((2 : Int32) &&& 31)) &&& 63) < (64 : Int32)) (hv2 : own_enc.getD (((y1 &&& 255) <<< ((2 : Int32) &&& 31)) &&& 63).toNatClampNeg (.int 0) = .int v2) (hz2 : v2.toInt8.toInt32.toInt8.toInt32 = x2) (Senc : Sta Z Z.heap "com/example/verified_health_identity/verifiedhealthidentity/jose/Base64url" "ENCODER" "Ljava/util/Base64$Encoder;" (.ref en)) (Sdec : Sta Z Z.heap "com/example/verified_health_identity/verifiedhealthidentity/jose/Base64url" "DECODER" "Ljava/util/Base64$Decoder;" (.ref de)) :
    own_MF l yM33 (.codeWith yM33 cB33 3 (some (.array .byte)) [(0, 8, 11, 29)]) ws ⟨6, 5, 17, 89⟩ #[(.ref a)] Z h0 own_T (Q_buD_3 Z de a b k x0 x1 x2 s0 s1 s2 y0 y1 rdt kdt riso rutf cs en v0 v1 v2 ret_ ket fm h0 n0) := by
  refine own_in "com/example/verified_health_identity/verifiedhealthidentity/jose/Base64url" rfl (plainFor_of_name pn6) hisWith (fun m => ef33R m a) ?_
  intro p e s m below meth c s₁ A_ hx hby hml hown hnm hrt hlk hZ _ X0 e0 pre0
  have N0 := Fr.nil n0
  obtain ⟨T1, X1, e1, st1⟩ := getS2 X0 hx hZ hown (host := "") (Or.inl (own_w hw 51 rfl)) Via.refl e0 (Sdec.ext O.2) (g := (mkF m 0 #[r_ a, u_, u_] [])) rfl (hb hby d33_0)
  have P2 := oS (T1.setTop (mkF m 3 #[r_ a, u_, u_] [(.ref de)])) pre0 (fun t_ k_ => st1 t_ k_)
  have P3 := oS (T1.setTop (mkF m 4 #[r_ a, u_, u_] [(.ref a), (.ref de)])) P2 (by
    intro _ k_
    refine aN_ X1 hx hby d33_3 rfl rfl ?_
    exact k_)
  obtain ⟨_, T4, L4, X4, hQ4, P4c⟩ := own_cV (W := 0) (rm_decS_3 l Z a0 hw [] de a b k x0 x1 x2 s0 s1 s2 y0 y1 rdt kdt riso rutf cs h0 n0 Z0 O Scs hcs Siso Sutf nci Sdt Vdt Ed Fu Fm Ea Fc Fv Vb Eb h61 hj0 hd0 hs0 hj1 hd1 hs1 hj2 hd2 hs2 hy0 hy1) X1 hx hZ (fun _ _ => trivial) hown Ed (own_w hw 53 rfl) (own_w hw 54 rfl) (own_w hw 56 rfl) (own_w hw 55 rfl) (own_w hw 57 rfl) (own_w hw 58 rfl) (by decide) P3 hml rfl [(.ref a)] [] rfl rfl rfl pd19 rfl (hb hby d33_4) e1 (by decide)
  obtain ⟨xq4, kk4, rfl, N4q, K4, f5, f6, f7⟩ := hQ4
  have N4 := Fr.app N0 N4q
  have sz_xq4 : h0.size ≤ xq4 := Nat.le_trans (Keep.refl h0 []).1 f5
  have f8 := O.keep K4 all0
  have f11 := Fp.keep K4 nin0
  have f12 := Fl.keep K4 nin0
  have f13 := Fe.keep K4 nin0
  have f14 := (Keep.refl h0 []).trans K4 all0
  have f15 := Ee.keep K4
  have f16 := Ea.keep K4
  have f17 := Fc.keep K4 nin0
  have f18 := Fv.keep K4 nin0
  have f19 := Vb.keep K4 nin0
  have Z22 : n0 ≤ T4.heap.size := Nat.le_trans Z0 K4.1
  have P23 := own_to (C := T4.setTop (mkF m 7 #[r_ a, u_, u_] [(.ref xq4)])) P4c
  have P24 := oS (T4.setTop (mkF m 24 #[r_ a, r_ xq4, u_] [(.ref xq4)])) P23 (by
    intro _ k_
    refine XS.astoreN X4.here hx rfl (hb hby d33_7) rfl rfl (l' := #[r_ a, r_ xq4, u_]) rfl ?_
    refine gt_ X4 hx hby d33_8 (pc := 8) (pc' := 23) (by decide) ?_
    refine aN_ X4 hx hby d33_23 rfl rfl ?_
    exact k_)
  obtain ⟨_, T25, L25, X25, hQ25, P25c⟩ := own_cS (W := 0) (rm_buE_2 l Z a0 hw [] en xq4 kk4 y0 y1 v0 v1 v2 x0 x1 x2 ret_ ket fm cs T4.heap n0 Z22 f8 Scs hcs Sfm hfm Set Vet f15 f11 f12 f13 f6 hk0 hv0 hz0 hk1 hv1 hz1 hk2 hv2 hz2 Senc) X4 hx hZ (fun _ _ => trivial) hown (own_w hw 109 rfl) (own_w hw 110 rfl) (own_w hw 36 rfl) (own_w hw 111 rfl) (by decide) P24 hml rfl [(.ref xq4)] [] rfl rfl rfl pd17 rfl (hb hby d33_24) (rfl : T4.heap = _) (by decide)
  obtain ⟨rs25, rv25, kr25, rfl, N25q, K25, f26, f27, f28, f29, f30, f31⟩ := hQ25
  have N25 := Fr.app N4 N25q
  have ne_a_rs25 : a ≠ rs25 := Nat.ne_of_lt (Nat.lt_of_lt_of_le f16.lt f26)
  have f32 := f8.keep K25 all0
  have f38 := f14.trans K25 all0
  have f40 := f16.keep K25
  have f41 := f17.keep K25 nin0
  have f42 := f18.keep K25 nin0
  have f43 := f19.keep K25 nin0
  have f46 := f6.keep K25 nin0
  have Z48 : n0 ≤ T25.heap.size := Nat.le_trans Z22 K25.1
  have P49 := own_to (C := T25.setTop (mkF m 27 #[r_ a, r_ xq4, u_] [(.ref rs25)])) P25c
  have P50 := oS (T25.setTop (mkF m 28 #[r_ a, r_ xq4, u_] [(.ref a), (.ref rs25)])) P49 (by
    intro _ k_
    refine aN_ X25 hx hby d33_27 rfl rfl ?_
    exact k_)
  obtain ⟨_, T51, L51, X51, hQ51, P51c⟩ := own_cV (W := 0) (rm_eqS_3 l Z a0 hw [] rs25 a rv25 kr25 b k x0 x1 x2 cs T25.heap n0 Z48 f32 Scs hcs (Ne.symm ne_a_rs25) f27 f28 f29 f40 f41 f42 f30 f43) X25 hx hZ (fun _ _ => trivial) hown f27 (own_w hw 175 rfl) (own_w hw 176 rfl) (own_w hw 178 rfl) (own_w hw 177 rfl) (own_w hw 7 rfl) (own_w hw 179 rfl) (by decide) P50 hml rfl [(.ref a)] [] rfl rfl rfl pd20 rfl (hb hby d33_28) (rfl : T25.heap = _) (by decide)
  obtain ⟨rfl, N51q, e51⟩ := hQ51
  have N51 := Fr.app N25 N51q
  have P52 := own_to (C := T51.setTop (mkF m 31 #[r_ a, r_ xq4, u_] [(.int 1)])) P51c
  have P53 := oS (T51.setTop (mkF m 45 #[r_ a, r_ xq4, u_] [(.ref xq4)])) P52 (by
    intro _ k_
    refine fY_ X51 hx hby d33_31 (pc := 31) (pc' := 44) ((if0 _ _).trans (feq (by decide : ¬ ((1 : Int32) = (0 : Int32)))).2) (by decide) ?_
    refine aN_ X51 hx hby d33_44 rfl rfl ?_
    exact k_)
  exact own_out X51 hlk (v := some (.ref xq4)) (own_hv hrt) P53 (fun _ q_ => retOut X51 hx hrt rfl (Or.inr (Or.inr (Or.inr (Or.inr ⟨rfl, rfl, rfl⟩)))) (hb hby d33_45) q_) e51 ⟨xq4, kk4, rfl, N51, f38, sz_xq4, f46⟩ (by decide)
def Q_buD2_3 (Z : State) (de : Addr) (a : Addr) (b : Addr) (k : ClassId) (x0 : Int32) (x1 : Int32) (x2 : Int32) (s0 : Int32) (s1 : Int32) (s2 : Int32) (y0 : Int32) (y1 : Int32) (rdt : Addr) (kdt : ClassId) (riso : Addr) (rutf : Addr) (cs : Int32) (en : Addr) (v0 : Int32) (v1 : Int32) (v2 : Int32) (ret_ : Addr) (ket : ClassId) (fm : Value) (h0 : Heap) (n0 : Nat) (v_ : Option Value) (h : Heap) (L_ : List Loc) : Prop := ∃ (xq : Addr) (kk : ClassId), v_ = some (.ref xq) ∧ Fr n0 L_ ∧ Keep h0 h [] ∧ h0.size ≤ xq ∧ Arv Z h xq kk .byte (2 : Int32) [(.int y0), (.int y1)] (.int 0)
set_option maxRecDepth 65536 in
set_option maxHeartbeats 40000000 in
theorem rm_buD2_3 (l : Launch) (Z : State) (a0 : Array Value) (hw : ∀ d ∈ tables_1, d.before a0 Z = true) (ws : List Jvm.Cond) (de : Addr) (a : Addr) (b : Addr) (k : ClassId) (x0 : Int32) (x1 : Int32) (x2 : Int32) (s0 : Int32) (s1 : Int32) (s2 : Int32) (y0 : Int32) (y1 : Int32) (rdt : Addr) (kdt : ClassId) (riso : Addr) (rutf : Addr) (cs : Int32) (en : Addr) (v0 : Int32) (v1 : Int32) (v2 : Int32) (ret_ : Addr) (ket : ClassId) (fm : Value) (h0 : Heap) (n0 : Nat) (Z0 : n0 ≤ h0.size) (O : Old Z n0 h0) (Scs : Sta Z Z.heap "java/lang/String" "COMPACT_STRINGS" "Z" (.int cs)) (hcs : ¬ (cs = (0 : Int32))) (Siso : Sta Z Z.heap "sun/nio/cs/ISO_8859_1" "INSTANCE" "Lsun/nio/cs/ISO_8859_1;" (.ref riso)) (Sutf : Sta Z Z.heap "sun/nio/cs/UTF_8" "INSTANCE" "Lsun/nio/cs/UTF_8;" (.ref rutf)) (nci : riso ≠ rutf) (Sdt : Sta Z Z.heap "java/util/Base64$Decoder" "fromBase64URL" "[I" (.ref rdt)) (Vdt : Arv Z Z.heap rdt kdt .int (256 : Int32) own_dec (.int 0)) (Ed : Exa Z h0 de "java/util/Base64$Decoder") (Fu : Fld Z h0 de "java/util/Base64$Decoder" "isURL" "Z" (.int 1)) (Fm : Fld Z h0 de "java/util/Base64$Decoder" "isMIME" "Z" (.int 0)) (Ea : Exa Z h0 a "java/lang/String") (Fc : Fld Z h0 a "java/lang/String" "coder" "B" (.int 0)) (Fv : Fld Z h0 a "java/lang/String" "value" "[B" (.ref b)) (Vb : Arv Z h0 b k .byte (3 : Int32) [(.int x0), (.int x1), (.int x2)] (.int 0)) (Eb : Exa Z h0 b "[B") (h61 : ¬ (x2 = (61 : Int32))) (hj0 : ¬ (x0 &&& 255) < 0 ∧ (x0 &&& 255) < (256 : Int32)) (hd0 : own_dec.getD (x0 &&& 255).toNatClampNeg (.int 0) = .int s0) (hs0 : ¬ (s0 < (0 : Int32))) (hj1 : ¬ (x1 &&& 255) < 0 ∧ (x1 &&& 255) < (256 : Int32)) (hd1 : own_dec.getD (x1 &&& 255).toNatClampNeg (.int 0) = .int s1) (hs1 : ¬ (s1 < (0 : Int32))) (hj2 : ¬ (x2 &&& 255) < 0 ∧ (x2 &&& 255) < (256 : Int32)) (hd2 : own_dec.getD (x2 &&& 255).toNatClampNeg (.int 0) = .int s2) (hs2 : ¬ (s2 < (0 : Int32))) (hy0 : ((((((0 : Int32) ||| (s0 <<< ((18 : Int32) &&& 31))) ||| (s1 <<< ((12 : Int32) &&& 31))) ||| (s2 <<< ((6 : Int32) &&& 31))) >>> ((16 : Int32) &&& 31)).toInt8.toInt32).toInt8.toInt32 = y0) (hy1 : ((((((0 : Int32) ||| (s0 <<< ((18 : Int32) &&& 31))) ||| (s1 <<< ((12 : Int32) &&& 31))) ||| (s2 <<< ((6 : Int32) &&& 31))) >>> ((8 : Int32) &&& 31)).toInt8.toInt32).toInt8.toInt32 = y1) (Sfm : Sta Z Z.heap "jdk/internal/util/Preconditions" "SIOOBE_FORMATTER" "Ljava/util/function/BiFunction;" fm) (hfm : fm.category = 1) (Set : Sta Z Z.heap "java/util/Base64$Encoder" "toBase64URL" "[C" (.ref ret_)) (Vet : Arv Z Z.heap ret_ ket .char (64 : Int32) own_enc (.int 0)) (Ee : Exa Z h0 en "java/util/Base64$Encoder") (Fp : Fld Z h0 en "java/util/Base64$Encoder" "doPadding" "Z" (.int 0)) (Fl : Fld Z h0 en "java/util/Base64$Encoder" "linemax" "I" (.int (-1 : Int32))) (Fe : Fld Z h0 en "java/util/Base64$Encoder" "isURL" "Z" (.int 1)) (hk0 : ¬ ((y0 &&& 255) >>> ((2 : Int32) &&& 31)) < 0 ∧ ((y0 &&& 255) >>> ((2 : Int32) &&& 31)) < (64 : Int32)) (hv0 : own_enc.getD ((y0 &&& 255) >>> ((2 : Int32) &&& 31)).toNatClampNeg (.int 0) = .int v0) (hz0 : v0.toInt8.toInt32.toInt8.toInt32 = x0) (hk1 : ¬ ((((y0 &&& 255) <<< ((4 : Int32) &&& 31)) &&& 63) ||| ((y1 &&& 255) >>> ((4 : Int32) &&& 31))) < 0 ∧ ((((y0 &&& 255) <<< ((4 : Int32) &&& 31)) &&& 63) ||| ((y1 &&& 255) >>> ((4 : Int32) &&& 31))) < (64 : Int32)) (hv1 : own_enc.getD ((((y0 &&& 255) <<< ((4 : Int32) &&& 31)) &&& 63) ||| ((y1 &&& 255) >>> ((4 : Int32) &&& 31))).toNatClampNeg (.int 0) = .int v1) (hz1 : v1.toInt8.toInt32.toInt8.toInt32 = x1) (hk2 : ¬ (((y1 &&& 255) <<< ((2 : Int32) &&& 31)) &&& 63) < 0 ∧ (((y1 &&& 255) <<< ((2 : Int32) &&& 31)) &&& 63) < (64 : Int32)) (hv2 : own_enc.getD (((y1 &&& 255) <<< ((2 : Int32) &&& 31)) &&& 63).toNatClampNeg (.int 0) = .int v2) (hz2 : v2.toInt8.toInt32.toInt8.toInt32 = x2) (Senc : Sta Z Z.heap "com/example/verified_health_identity/verifiedhealthidentity/jose/Base64url" "ENCODER" "Ljava/util/Base64$Encoder;" (.ref en)) (Sdec : Sta Z Z.heap "com/example/verified_health_identity/verifiedhealthidentity/jose/Base64url" "DECODER" "Ljava/util/Base64$Decoder;" (.ref de)) :
    own_MF l yM8 (.code yM8 cB8 2 (some (.array .byte))) ws ⟨7, 5, 17, 103⟩ #[(.ref a), (.int 2)] Z h0 own_T (Q_buD2_3 Z de a b k x0 x1 x2 s0 s1 s2 y0 y1 rdt kdt riso rutf cs en v0 v1 v2 ret_ ket fm h0 n0) := by
  refine own_in "com/example/verified_health_identity/verifiedhealthidentity/jose/Base64url" rfl (plainFor_of_name pn6) hisR (fun m => ef8RI m a (2 : Int32)) ?_
  intro p e s m below meth c s₁ A_ hx hby hml hown hnm hrt hlk hZ _ X0 e0 pre0
  have N0 := Fr.nil n0
  have P1 := oS (s₁.setTop (mkF m 1 #[r_ a, i_ 2] [(.ref a)])) pre0 (by
    intro _ k_
    refine aN_ X0 hx hby d8_0 rfl rfl ?_
    exact k_)
  obtain ⟨_, T2, L2, X2, hQ2, P2c⟩ := own_cV (W := 0) (rm_length l Z a0 hw [] a b k (3 : Int32) [(.int x0), (.int x1), (.int x2)] cs h0 n0 Z0 O Scs hcs Ea Fc Fv Vb) X0 hx hZ (fun _ _ => trivial) hown Ea (own_w hw 38 rfl) (own_w hw 39 rfl) (own_w hw 41 rfl) (own_w hw 40 rfl) (own_w hw 7 rfl) (own_w hw 42 rfl) (by decide) P1 hml rfl [] [] rfl rfl rfl pd21 rfl (hb hby d8_1) e0 (by decide)
  obtain ⟨rfl, N2q, e2⟩ := hQ2
  have N2 := Fr.app N0 N2q
  have P3 := own_to (C := T2.setTop (mkF m 4 #[r_ a, i_ 2] [(.int 3)])) P2c
  have P4 := oS (T2.setTop (mkF m 11 #[r_ a, i_ 2] [(.int 3), (.int 3)])) P3 (by
    intro _ k_
    refine iN_ X2 hx hby d8_4 rfl ?_
    refine XS.iconst X2.here hx rfl (hb hby d8_5) ?_
    refine XS.imul X2.here hx rfl (hb hby d8_6) rfl ?_
    show Steps p.tables e below (T2.setTop (mkF m 7 #[r_ a, i_ 2] [(.int 8), (.int 3)])) _
    refine XS.iconst X2.here hx rfl (hb hby d8_7) ?_
    refine XS.iadd X2.here hx rfl (hb hby d8_8) rfl ?_
    show Steps p.tables e below (T2.setTop (mkF m 9 #[r_ a, i_ 2] [(.int 10), (.int 3)])) _
    refine XS.iconst X2.here hx rfl (hb hby d8_9) ?_
    refine XS.idiv X2.here hx rfl (hb hby d8_10) rfl (by decide) ?_
    exact k_)
  have P5 := oS (T2.setTop (mkF m 29 #[r_ a, i_ 2] [(.ref a)])) P4 (by
    intro _ k_
    refine cY_ X2 hx hby d8_11 (pc := 11) (pc' := 28) (teq (by decide : (3 : Int32) = (3 : Int32))).1 (by decide) ?_
    refine aN_ X2 hx hby d8_28 rfl rfl ?_
    exact k_)
  obtain ⟨_, T6, L6, X6, hQ6, P6c⟩ := own_cSH (W := 0) (rm_buD_3 l Z a0 hw [] de a b k x0 x1 x2 s0 s1 s2 y0 y1 rdt kdt riso rutf cs en v0 v1 v2 ret_ ket fm h0 n0 Z0 O Scs hcs Siso Sutf nci Sdt Vdt Ed Fu Fm Ea Fc Fv Vb Eb h61 hj0 hd0 hs0 hj1 hd1 hs1 hj2 hd2 hs2 hy0 hy1 Sfm hfm Set Vet Ee Fp Fl Fe hk0 hv0 hz0 hk1 hv1 hz1 hk2 hv2 hz2 Senc Sdec) X2 hx hZ (fun _ _ => trivial) hown (own_w hw 48 rfl) (own_w hw 49 rfl) (own_w hw 36 rfl) (own_w hw 50 rfl) (by decide) P5 hml rfl [(.ref a)] [] rfl rfl rfl pd19 rfl (hb hby d8_29) e2 (by decide)
  obtain ⟨xq6, kk6, rfl, N6q, K6, f7, f8⟩ := hQ6
  have N6 := Fr.app N2 N6q
  have sz_xq6 : h0.size ≤ xq6 := Nat.le_trans (Keep.refl h0 []).1 f7
  have f15 := (Keep.refl h0 []).trans K6 all0
  have P24 := own_to (C := T6.setTop (mkF m 32 #[r_ a, i_ 2] [(.ref xq6)])) P6c
  exact own_out X6 hlk (v := some (.ref xq6)) (own_hv hrt) P24 (fun _ q_ => retOut X6 hx hrt rfl (Or.inr (Or.inr (Or.inr (Or.inr ⟨rfl, rfl, rfl⟩)))) (hb hby d8_32) q_) (rfl : T6.heap = _) ⟨xq6, kk6, rfl, N6, f15, sz_xq6, f8⟩ (by decide)
def Q_dol_4 (Z : State) (de : Addr) (b : Addr) (k : ClassId) (x0 : Int32) (x1 : Int32) (x2 : Int32) (x3 : Int32) (rdt : Addr) (kdt : ClassId) (h0 : Heap) (n0 : Nat) (v_ : Option Value) (h : Heap) (L_ : List Loc) : Prop := v_ = some (.int 3) ∧ Fr n0 L_ ∧ h = h0
set_option maxRecDepth 65536 in
set_option maxHeartbeats 40000000 in
theorem rm_dol_4 (l : Launch) (Z : State) (a0 : Array Value) (hw : ∀ d ∈ tables_1, d.before a0 Z = true) (ws : List Jvm.Cond) (de : Addr) (b : Addr) (k : ClassId) (x0 : Int32) (x1 : Int32) (x2 : Int32) (x3 : Int32) (rdt : Addr) (kdt : ClassId) (h0 : Heap) (n0 : Nat) (Z0 : n0 ≤ h0.size) (O : Old Z n0 h0) (Sdt : Sta Z Z.heap "java/util/Base64$Decoder" "fromBase64URL" "[I" (.ref rdt)) (Vdt : Arv Z Z.heap rdt kdt .int (256 : Int32) own_dec (.int 0)) (Fu : Fld Z h0 de "java/util/Base64$Decoder" "isURL" "Z" (.int 1)) (Fm : Fld Z h0 de "java/util/Base64$Decoder" "isMIME" "Z" (.int 0)) (Vb : Arv Z h0 b k .byte (4 : Int32) [(.int x0), (.int x1), (.int x2), (.int x3)] (.int 0)) (h61 : ¬ (x3 = (61 : Int32))) :
    own_MF l yM17 (.code yM17 cB17 9 (some .int)) ws ⟨0, 0, 0, 0⟩ #[(.ref de), (.ref b), (.int 0), (.int 4)] Z h0 own_T (Q_dol_4 Z de b k x0 x1 x2 x3 rdt kdt h0 n0) := by
  refine own_in "java/util/Base64$Decoder" rfl (plainFor_of_name pn3) hisR (fun m => ef17RRII m de b (0 : Int32) (4 : Int32)) ?_
  intro p e s m below meth c s₁ A_ hx hby hml hown hnm hrt hlk hZ _ X0 e0 pre0
  have N0 := Fr.nil n0
  have P1 := oS (s₁.setTop (mkF m 1 #[r_ de, r_ b, i_ 0, i_ 4, u_, u_, u_, u_, u_] [(.ref de)])) pre0 (by
    intro _ k_
    refine aN_ X0 hx hby d17_0 rfl rfl ?_
    exact k_)
  obtain ⟨T2, X2, e2, st2⟩ := getF X0 hx hZ hown (host := "") (Or.inl (own_w hw 97 rfl)) Via.refl e0 Fu (g := (mkF m 1 #[r_ de, r_ b, i_ 0, i_ 4, u_, u_, u_, u_, u_] [(.ref de)])) rfl rfl (hb hby d17_1)
  have P3 := oS (T2.setTop (mkF m 4 #[r_ de, r_ b, i_ 0, i_ 4, u_, u_, u_, u_, u_] [(.int 1)])) P1 (fun t_ k_ => st2 t_ k_)
  have P4 := oS (T2.setTop (mkF m 7 #[r_ de, r_ b, i_ 0, i_ 4, u_, u_, u_, u_, u_] [])) P3 (by
    intro _ k_
    refine XS.ifNo X2.here hx rfl (hb hby d17_4) rfl ((if0 _ _).trans (feq (by decide : ¬ ((1 : Int32) = (0 : Int32)))).1) ?_
    exact k_)
  obtain ⟨T5, X5, e5, st5⟩ := getS2 X2 hx hZ hown (host := "") (Or.inl (own_w hw 99 rfl)) Via.refl e2 (Sdt.ext O.2) (g := (mkF m 7 #[r_ de, r_ b, i_ 0, i_ 4, u_, u_, u_, u_, u_] [])) rfl (hb hby d17_7)
  have P6 := oS (T5.setTop (mkF m 10 #[r_ de, r_ b, i_ 0, i_ 4, u_, u_, u_, u_, u_] [(.ref rdt)])) P4 (fun t_ k_ => st5 t_ k_)
  have P7 := oS (T5.setTop (mkF m 28 #[r_ de, r_ b, i_ 0, i_ 4, r_ rdt, i_ 0, i_ 4, u_, u_] [(.int 4)])) P6 (by
    intro _ k_
    refine gt_ X5 hx hby d17_10 (pc := 10) (pc' := 16) (by decide) ?_
    refine XS.astore X5.here hx rfl (hb hby d17_16) rfl rfl (l' := #[r_ de, r_ b, i_ 0, i_ 4, r_ rdt, u_, u_, u_, u_]) rfl ?_
    refine XS.iconst X5.here hx rfl (hb hby d17_18) ?_
    refine is_ X5 hx hby d17_19 (l' := #[r_ de, r_ b, i_ 0, i_ 4, r_ rdt, i_ 0, u_, u_, u_]) rfl ?_
    refine iN_ X5 hx hby d17_21 rfl ?_
    refine iN_ X5 hx hby d17_22 rfl ?_
    refine XS.isub X5.here hx rfl (hb hby d17_23) rfl ?_
    show Steps p.tables e below (T5.setTop (mkF m 24 #[r_ de, r_ b, i_ 0, i_ 4, r_ rdt, i_ 0, u_, u_, u_] [(.int 4)])) _
    refine is_ X5 hx hby d17_24 (l' := #[r_ de, r_ b, i_ 0, i_ 4, r_ rdt, i_ 0, i_ 4, u_, u_]) rfl ?_
    refine il_ X5 hx hby d17_26 rfl ?_
    exact k_)
  have P8 := oS (T5.setTop (mkF m 36 #[r_ de, r_ b, i_ 0, i_ 4, r_ rdt, i_ 0, i_ 4, u_, u_] [(.int 2), (.int 4)])) P7 (by
    intro _ k_
    refine fY_ X5 hx hby d17_28 (pc := 28) (pc' := 33) ((if0 _ _).trans (feq (by decide : ¬ ((4 : Int32) = (0 : Int32)))).2) (by decide) ?_
    refine il_ X5 hx hby d17_33 rfl ?_
    refine XS.iconst X5.here hx rfl (hb hby d17_35) ?_
    exact k_)
  have P9 := oS (T5.setTop (mkF m 67 #[r_ de, r_ b, i_ 0, i_ 4, r_ rdt, i_ 0, i_ 4, u_, u_] [(.ref de)])) P8 (by
    intro _ k_
    refine cY_ X5 hx hby d17_36 (pc := 36) (pc' := 66) (flt (by decide : ¬ ((4 : Int32) < (2 : Int32)))).2.1 (by decide) ?_
    refine aN_ X5 hx hby d17_66 rfl rfl ?_
    exact k_)
  obtain ⟨T10, X10, e10, st10⟩ := getF X5 hx hZ hown (host := "") (Or.inl (own_w hw 100 rfl)) Via.refl e5 Fm (g := (mkF m 67 #[r_ de, r_ b, i_ 0, i_ 4, r_ rdt, i_ 0, i_ 4, u_, u_] [(.ref de)])) rfl rfl (hb hby d17_67)
  have P11 := oS (T10.setTop (mkF m 70 #[r_ de, r_ b, i_ 0, i_ 4, r_ rdt, i_ 0, i_ 4, u_, u_] [(.int 0)])) P9 (fun t_ k_ => st10 t_ k_)
  have P12 := oS (T10.setTop (mkF m 145 #[r_ de, r_ b, i_ 0, i_ 4, r_ rdt, i_ 0, i_ 4, u_, u_] [(.int 3), (.ref b)])) P11 (by
    intro _ k_
    refine fY_ X10 hx hby d17_70 (pc := 70) (pc' := 141) ((if0 _ _).trans (teq (by decide : (0 : Int32) = (0 : Int32))).1) (by decide) ?_
    refine aN_ X10 hx hby d17_141 rfl rfl ?_
    refine iN_ X10 hx hby d17_142 rfl ?_
    refine XS.iconst X10.here hx rfl (hb hby d17_143) ?_
    refine XS.isub X10.here hx rfl (hb hby d17_144) rfl ?_
    exact k_)
  obtain ⟨cl13, Ar13, q13, S13, M13, H13, G13⟩ := id Vb
  have hin13 := inb_of S13 (by decide : ¬ (3 : Int32) < 0 ∧ (3 : Int32) < (4 : Int32))
  have hat13 := Has.at H13 hin13 (v := .int x3) rfl
  have P14 := oS (T10.setTop (mkF m 146 #[r_ de, r_ b, i_ 0, i_ 4, r_ rdt, i_ 0, i_ 4, u_, u_] [(.int x3)])) P12 (by
    intro _ k_
    refine X10.baloadBytes hx (j := (3 : Int32)) (v := (.int x3)) (by rw [e10]; exact Ar13.1) (State.isArrayOf_alike hZ.alike Ar13.2.1) Ar13.2.2 hin13 hat13 (g := (mkF m 145 #[r_ de, r_ b, i_ 0, i_ 4, r_ rdt, i_ 0, i_ 4, u_, u_] [(.int 3), (.ref b)])) rfl rfl (hb hby d17_145) _ ?_
    exact k_)
  have P15 := oS (T10.setTop (mkF m 148 #[r_ de, r_ b, i_ 0, i_ 4, r_ rdt, i_ 0, i_ 4, u_, u_] [(.int 61), (.int x3)])) P14 (by
    intro _ k_
    refine XS.bipush X10.here hx rfl (hb hby d17_146) ?_
    exact k_)
  have P16 := oS (T10.setTop (mkF m 169 #[r_ de, r_ b, i_ 0, i_ 4, r_ rdt, i_ 0, i_ 4, u_, u_] [(.int 0)])) P15 (by
    intro _ k_
    refine cY_ X10 hx hby d17_148 (pc := 148) (pc' := 167) (feq h61).2 (by decide) ?_
    refine il_ X10 hx hby d17_167 rfl ?_
    exact k_)
  have P17 := oS (T10.setTop (mkF m 176 #[r_ de, r_ b, i_ 0, i_ 4, r_ rdt, i_ 0, i_ 4, u_, u_] [(.int 0)])) P16 (by
    intro _ k_
    refine XS.ifNo X10.here hx rfl (hb hby d17_169) rfl ((if0 _ _).trans (teq (by decide : (0 : Int32) = (0 : Int32))).2) ?_
    refine il_ X10 hx hby d17_172 rfl ?_
    refine XS.iconst X10.here hx rfl (hb hby d17_174) ?_
    refine XS.iand X10.here hx rfl (hb hby d17_175) rfl ?_
    exact k_)
  have P18 := oS (T10.setTop (mkF m 204 #[r_ de, r_ b, i_ 0, i_ 4, r_ rdt, i_ 0, i_ 4, u_, u_] [(.int (((3 : Int32) * (((((4 : Int32).toInt64) + (3 : Int64)) / (4 : Int64)).toInt32)) - (0 : Int32)))])) P17 (by
    intro _ k_
    refine fY_ X10 hx hby d17_176 (pc := 176) (pc' := 187) ((if0 _ _).trans (teq (by decide : (0 : Int32) = (0 : Int32))).1) (by decide) ?_
    refine XS.iconst X10.here hx rfl (hb hby d17_187) ?_
    refine il_ X10 hx hby d17_188 rfl ?_
    refine XS.i2l X10.here hx rfl (hb hby d17_190) rfl ?_
    refine X10.ldc2Long hx hown (mvT hZ (own_w hw 102 rfl)) (g := (mkF m 191 #[r_ de, r_ b, i_ 0, i_ 4, r_ rdt, i_ 0, i_ 4, u_, u_] [(.long ((4 : Int32).toInt64)), (.int 3)])) rfl (hb hby d17_191) _ ?_
    refine XS.ladd X10.here hx rfl (hb hby d17_194) rfl ?_
    refine X10.ldc2Long hx hown (mvT hZ (own_w hw 103 rfl)) (g := (mkF m 195 #[r_ de, r_ b, i_ 0, i_ 4, r_ rdt, i_ 0, i_ 4, u_, u_] [(.long (((4 : Int32).toInt64) + (3 : Int64))), (.int 3)])) rfl (hb hby d17_195) _ ?_
    refine XS.ldiv X10.here hx rfl (hb hby d17_198) rfl (by decide) ?_
    refine XS.l2i X10.here hx rfl (hb hby d17_199) rfl ?_
    refine XS.imul X10.here hx rfl (hb hby d17_200) rfl ?_
    refine il_ X10 hx hby d17_201 rfl ?_
    refine XS.isub X10.here hx rfl (hb hby d17_203) rfl ?_
    exact k_)
  exact own_out X10 hlk (v := some (.int (((3 : Int32) * (((((4 : Int32).toInt64) + (3 : Int64)) / (4 : Int64)).toInt32)) - (0 : Int32)))) (own_hv hrt) P18 (fun _ q_ => retI X10 hx hrt (hb hby d17_204) q_) e10 ⟨(congrArg (fun z : Int32 => some (Value.int z)) (by decide +kernel)), N0, rfl⟩ (by decide)
theorem d18_232 : own_d cB18 232 (.aload 4) 2 := by decide +kernel
theorem d18_234 : own_d cB18 234 (.iload 6) 2 := by decide +kernel
theorem d18_236 : own_d cB18 236 (.iinc 6 1) 3 := by decide +kernel
theorem d18_239 : own_d cB18 239 (.iload 7) 2 := by decide +kernel
theorem d18_241 : own_d cB18 241 (.bipush 16) 2 := by decide +kernel
theorem d18_243 : own_d cB18 243 (.ishr) 1 := by decide +kernel
theorem d18_244 : own_d cB18 244 (.i2b) 1 := by decide +kernel
theorem d18_245 : own_d cB18 245 (.bastore) 1 := by decide +kernel
theorem d18_246 : own_d cB18 246 (.aload 4) 2 := by decide +kernel
theorem d18_248 : own_d cB18 248 (.iload 6) 2 := by decide +kernel
theorem d18_250 : own_d cB18 250 (.iinc 6 1) 3 := by decide +kernel
theorem d18_253 : own_d cB18 253 (.iload 7) 2 := by decide +kernel
theorem d18_255 : own_d cB18 255 (.bipush 8) 2 := by decide +kernel
theorem d18_257 : own_d cB18 257 (.ishr) 1 := by decide +kernel
theorem d18_258 : own_d cB18 258 (.i2b) 1 := by decide +kernel
theorem d18_259 : own_d cB18 259 (.bastore) 1 := by decide +kernel
theorem d18_260 : own_d cB18 260 (.aload 4) 2 := by decide +kernel
theorem d18_262 : own_d cB18 262 (.iload 6) 2 := by decide +kernel
theorem d18_264 : own_d cB18 264 (.iinc 6 1) 3 := by decide +kernel
theorem d18_267 : own_d cB18 267 (.iload 7) 2 := by decide +kernel
theorem d18_269 : own_d cB18 269 (.i2b) 1 := by decide +kernel
theorem d18_270 : own_d cB18 270 (.bastore) 1 := by decide +kernel
theorem d18_271 : own_d cB18 271 (.bipush 18) 2 := by decide +kernel
theorem d18_273 : own_d cB18 273 (.istore 8) 2 := by decide +kernel
theorem d18_275 : own_d cB18 275 (.iconst 0) 1 := by decide +kernel
theorem d18_276 : own_d cB18 276 (.istore 7) 2 := by decide +kernel
def Q_dec0_4 (Z : State) (de : Addr) (b : Addr) (k : ClassId) (d : Addr) (kd : ClassId) (x0 : Int32) (x1 : Int32) (x2 : Int32) (x3 : Int32) (s0 : Int32) (s1 : Int32) (s2 : Int32) (s3 : Int32) (y0 : Int32) (y1 : Int32) (y2 : Int32) (rdt : Addr) (kdt : ClassId) (h0 : Heap) (n0 : Nat) (v_ : Option Value) (h : Heap) (L_ : List Loc) : Prop := v_ = some (.int 3) ∧ Fr n0 L_ ∧ Keep h0 h [d] ∧ Arv Z h d kd .byte (3 : Int32) [(.int y0), (.int y1), (.int y2)] (.int 0)
set_option maxRecDepth 65536 in
set_option maxHeartbeats 40000000 in
theorem rm_dec0_4 (l : Launch) (Z : State) (a0 : Array Value) (hw : ∀ d ∈ tables_1, d.before a0 Z = true) (ws : List Jvm.Cond) (de : Addr) (b : Addr) (k : ClassId) (d : Addr) (kd : ClassId) (x0 : Int32) (x1 : Int32) (x2 : Int32) (x3 : Int32) (s0 : Int32) (s1 : Int32) (s2 : Int32) (s3 : Int32) (y0 : Int32) (y1 : Int32) (y2 : Int32) (rdt : Addr) (kdt : ClassId) (h0 : Heap) (n0 : Nat) (Z0 : n0 ≤ h0.size) (O : Old Z n0 h0) (Sdt : Sta Z Z.heap "java/util/Base64$Decoder" "fromBase64URL" "[I" (.ref rdt)) (Vdt : Arv Z Z.heap rdt kdt .int (256 : Int32) own_dec (.int 0)) (Fu : Fld Z h0 de "java/util/Base64$Decoder" "isURL" "Z" (.int 1)) (Fm : Fld Z h0 de "java/util/Base64$Decoder" "isMIME" "Z" (.int 0)) (Vb : Arv Z h0 b k .byte (4 : Int32) [(.int x0), (.int x1), (.int x2), (.int x3)] (.int 0)) (Vd : Arv Z h0 d kd .byte (3 : Int32) [(.int 0), (.int 0), (.int 0)] (.int 0)) (nbd : b ≠ d) (gd : n0 ≤ d) (nde : de ≠ d) (hj0 : ¬ (x0 &&& 255) < 0 ∧ (x0 &&& 255) < (256 : Int32)) (hd0 : own_dec.getD (x0 &&& 255).toNatClampNeg (.int 0) = .int s0) (hs0 : ¬ (s0 < (0 : Int32))) (hj1 : ¬ (x1 &&& 255) < 0 ∧ (x1 &&& 255) < (256 : Int32)) (hd1 : own_dec.getD (x1 &&& 255).toNatClampNeg (.int 0) = .int s1) (hs1 : ¬ (s1 < (0 : Int32))) (hj2 : ¬ (x2 &&& 255) < 0 ∧ (x2 &&& 255) < (256 : Int32)) (hd2 : own_dec.getD (x2 &&& 255).toNatClampNeg (.int 0) = .int s2) (hs2 : ¬ (s2 < (0 : Int32))) (hj3 : ¬ (x3 &&& 255) < 0 ∧ (x3 &&& 255) < (256 : Int32)) (hd3 : own_dec.getD (x3 &&& 255).toNatClampNeg (.int 0) = .int s3) (hs3 : ¬ (s3 < (0 : Int32))) (hy0 : (((((((0 : Int32) ||| (s0 <<< ((18 : Int32) &&& 31))) ||| (s1 <<< ((12 : Int32) &&& 31))) ||| (s2 <<< ((6 : Int32) &&& 31))) ||| (s3 <<< ((0 : Int32) &&& 31))) >>> ((16 : Int32) &&& 31)).toInt8.toInt32).toInt8.toInt32 = y0) (hy1 : (((((((0 : Int32) ||| (s0 <<< ((18 : Int32) &&& 31))) ||| (s1 <<< ((12 : Int32) &&& 31))) ||| (s2 <<< ((6 : Int32) &&& 31))) ||| (s3 <<< ((0 : Int32) &&& 31))) >>> ((8 : Int32) &&& 31)).toInt8.toInt32).toInt8.toInt32 = y1) (hy2 : ((((((0 : Int32) ||| (s0 <<< ((18 : Int32) &&& 31))) ||| (s1 <<< ((12 : Int32) &&& 31))) ||| (s2 <<< ((6 : Int32) &&& 31))) ||| (s3 <<< ((0 : Int32) &&& 31))).toInt8.toInt32).toInt8.toInt32 = y2) :
    own_MF l yM18 (.code yM18 cB18 11 (some .int)) ws ⟨0, 0, 0, 0⟩ #[(.ref de), (.ref b), (.int 0), (.int 4), (.ref d)] Z h0 own_T (Q_dec0_4 Z de b k d kd x0 x1 x2 x3 s0 s1 s2 s3 y0 y1 y2 rdt kdt h0 n0) := by
  refine own_in "java/util/Base64$Decoder" rfl (plainFor_of_name pn3) hisR (fun m => ef18RRIIR m de b (0 : Int32) (4 : Int32) d) ?_
  intro p e s m below meth c s₁ A_ hx hby hml hown hnm hrt hlk hZ _ X0 e0 pre0
  have N0 := Fr.nil n0
  have P1 := oS (s₁.setTop (mkF m 1 #[r_ de, r_ b, i_ 0, i_ 4, r_ d, u_, u_, u_, u_, u_, u_] [(.ref de)])) pre0 (by
    intro _ k_
    refine aN_ X0 hx hby d18_0 rfl rfl ?_
    exact k_)
  obtain ⟨T2, X2, e2, st2⟩ := getF X0 hx hZ hown (host := "") (Or.inl (own_w hw 97 rfl)) Via.refl e0 Fu (g := (mkF m 1 #[r_ de, r_ b, i_ 0, i_ 4, r_ d, u_, u_, u_, u_, u_, u_] [(.ref de)])) rfl rfl (hb hby d18_1)
  have P3 := oS (T2.setTop (mkF m 4 #[r_ de, r_ b, i_ 0, i_ 4, r_ d, u_, u_, u_, u_, u_, u_] [(.int 1)])) P1 (fun t_ k_ => st2 t_ k_)
  have P4 := oS (T2.setTop (mkF m 7 #[r_ de, r_ b, i_ 0, i_ 4, r_ d, u_, u_, u_, u_, u_, u_] [])) P3 (by
    intro _ k_
    refine XS.ifNo X2.here hx rfl (hb hby d18_4) rfl ((if0 _ _).trans (feq (by decide : ¬ ((1 : Int32) = (0 : Int32)))).1) ?_
    exact k_)
  obtain ⟨T5, X5, e5, st5⟩ := getS2 X2 hx hZ hown (host := "") (Or.inl (own_w hw 99 rfl)) Via.refl e2 (Sdt.ext O.2) (g := (mkF m 7 #[r_ de, r_ b, i_ 0, i_ 4, r_ d, u_, u_, u_, u_, u_, u_] [])) rfl (hb hby d18_7)
  have P6 := oS (T5.setTop (mkF m 10 #[r_ de, r_ b, i_ 0, i_ 4, r_ d, u_, u_, u_, u_, u_, u_] [(.ref rdt)])) P4 (fun t_ k_ => st5 t_ k_)
  have P7 := oS (T5.setTop (mkF m 30 #[r_ de, r_ b, i_ 0, i_ 4, r_ d, r_ rdt, i_ 0, i_ 0, i_ 18, u_, u_] [(.int 4), (.int 0)])) P6 (by
    intro _ k_
    refine gt_ X5 hx hby d18_10 (pc := 10) (pc' := 16) (by decide) ?_
    refine XS.astore X5.here hx rfl (hb hby d18_16) rfl rfl (l' := #[r_ de, r_ b, i_ 0, i_ 4, r_ d, r_ rdt, u_, u_, u_, u_, u_]) rfl ?_
    refine XS.iconst X5.here hx rfl (hb hby d18_18) ?_
    refine is_ X5 hx hby d18_19 (l' := #[r_ de, r_ b, i_ 0, i_ 4, r_ d, r_ rdt, i_ 0, u_, u_, u_, u_]) rfl ?_
    refine XS.iconst X5.here hx rfl (hb hby d18_21) ?_
    refine is_ X5 hx hby d18_22 (l' := #[r_ de, r_ b, i_ 0, i_ 4, r_ d, r_ rdt, i_ 0, i_ 0, u_, u_, u_]) rfl ?_
    refine XS.bipush X5.here hx rfl (hb hby d18_24) ?_
    refine is_ X5 hx hby d18_26 (l' := #[r_ de, r_ b, i_ 0, i_ 4, r_ d, r_ rdt, i_ 0, i_ 0, i_ 18, u_, u_]) rfl ?_
    refine iN_ X5 hx hby d18_28 rfl ?_
    refine iN_ X5 hx hby d18_29 rfl ?_
    exact k_)
  have P8 := oS (T5.setTop (mkF m 37 #[r_ de, r_ b, i_ 0, i_ 4, r_ d, r_ rdt, i_ 0, i_ 0, i_ 18, u_, u_] [(.int 18), (.int 18)])) P7 (by
    intro _ k_
    refine XS.icmpNo X5.here hx rfl (hb hby d18_30) rfl (tlt (by decide : (0 : Int32) < (4 : Int32))).2.1 ?_
    refine il_ X5 hx hby d18_33 rfl ?_
    refine XS.bipush X5.here hx rfl (hb hby d18_35) ?_
    exact k_)
  have P9 := oS (T5.setTop (mkF m 44 #[r_ de, r_ b, i_ 0, i_ 4, r_ d, r_ rdt, i_ 0, i_ 0, i_ 18, u_, u_] [(.int 0), (.int 0)])) P8 (by
    intro _ k_
    refine XS.icmpNo X5.here hx rfl (hb hby d18_37) rfl (teq (by decide : (18 : Int32) = (18 : Int32))).2 ?_
    refine iN_ X5 hx hby d18_40 rfl ?_
    refine iN_ X5 hx hby d18_41 rfl ?_
    refine XS.iconst X5.here hx rfl (hb hby d18_42) ?_
    refine XS.isub X5.here hx rfl (hb hby d18_43) rfl ?_
    exact k_)
  have P10 := oS (T5.setTop (mkF m 92 #[r_ de, r_ b, i_ 0, i_ 4, r_ d, r_ rdt, i_ 0, i_ 0, i_ 18, u_, u_] [(.int 4), (.int 0)])) P9 (by
    intro _ k_
    refine cY_ X5 hx hby d18_44 (pc := 44) (pc' := 90) (flt (by decide : ¬ ((0 : Int32) < (0 : Int32)))).2.1 (by decide) ?_
    refine iN_ X5 hx hby d18_90 rfl ?_
    refine iN_ X5 hx hby d18_91 rfl ?_
    exact k_)
  have P11 := oS (T5.setTop (mkF m 103 #[r_ de, r_ b, i_ 1, i_ 4, r_ d, r_ rdt, i_ 0, i_ 0, i_ 18, u_, u_] [(.int 0), (.ref b)])) P10 (by
    intro _ k_
    refine cY_ X5 hx hby d18_92 (pc := 92) (pc' := 98) (tlt (by decide : (0 : Int32) < (4 : Int32))).1 (by decide) ?_
    refine aN_ X5 hx hby d18_98 rfl rfl ?_
    refine iN_ X5 hx hby d18_99 rfl ?_
    refine XS.iinc X5.here hx rfl (hb hby d18_100) rfl (l' := #[r_ de, r_ b, i_ 1, i_ 4, r_ d, r_ rdt, i_ 0, i_ 0, i_ 18, u_, u_]) rfl ?_
    exact k_)
  obtain ⟨cl12, Ar12, q12, S12, M12, H12, G12⟩ := id Vb
  have hin12 := inb_of S12 (by decide : ¬ (0 : Int32) < 0 ∧ (0 : Int32) < (4 : Int32))
  have hat12 := Has.at H12 hin12 (v := .int x0) rfl
  have P13 := oS (T5.setTop (mkF m 104 #[r_ de, r_ b, i_ 1, i_ 4, r_ d, r_ rdt, i_ 0, i_ 0, i_ 18, u_, u_] [(.int x0)])) P11 (by
    intro _ k_
    refine X5.baloadBytes hx (j := (0 : Int32)) (v := (.int x0)) (by rw [e5]; exact Ar12.1) (State.isArrayOf_alike hZ.alike Ar12.2.1) Ar12.2.2 hin12 hat12 (g := (mkF m 103 #[r_ de, r_ b, i_ 1, i_ 4, r_ d, r_ rdt, i_ 0, i_ 0, i_ 18, u_, u_] [(.int 0), (.ref b)])) rfl rfl (hb hby d18_103) _ ?_
    exact k_)
  have P14 := oS (T5.setTop (mkF m 114 #[r_ de, r_ b, i_ 1, i_ 4, r_ d, r_ rdt, i_ 0, i_ 0, i_ 18, i_ (x0 &&& 255), u_] [(.int (x0 &&& 255)), (.ref rdt)])) P13 (by
    intro _ k_
    refine XS.sipush X5.here hx rfl (hb hby d18_104) ?_
    refine XS.iand X5.here hx rfl (hb hby d18_107) rfl ?_
    refine is_ X5 hx hby d18_108 (l' := #[r_ de, r_ b, i_ 1, i_ 4, r_ d, r_ rdt, i_ 0, i_ 0, i_ 18, i_ (x0 &&& 255), u_]) rfl ?_
    refine a_ X5 hx hby d18_110 rfl rfl ?_
    refine il_ X5 hx hby d18_112 rfl ?_
    exact k_)
  obtain ⟨cl15, Ar15, q15, S15, M15, H15, G15⟩ := Vdt.ext O.2
  have hin15 := inb_of S15 hj0
  have hat15 := Has.at H15 hin15 hd0
  have P16 := oS (T5.setTop (mkF m 115 #[r_ de, r_ b, i_ 1, i_ 4, r_ d, r_ rdt, i_ 0, i_ 0, i_ 18, i_ (x0 &&& 255), u_] [(.int s0)])) P14 (by
    intro _ k_
    refine X5.iaload hx (j := (x0 &&& 255)) (v := (.int s0)) (by rw [e5]; exact Ar15.1) (State.isArrayOf_alike hZ.alike Ar15.2.1) Ar15.2.2 hin15 hat15 (g := (mkF m 114 #[r_ de, r_ b, i_ 1, i_ 4, r_ d, r_ rdt, i_ 0, i_ 0, i_ 18, i_ (x0 &&& 255), u_] [(.int (x0 &&& 255)), (.ref rdt)])) rfl rfl (hb hby d18_114) _ ?_
    exact k_)
  have P17 := oS (T5.setTop (mkF m 118 #[r_ de, r_ b, i_ 1, i_ 4, r_ d, r_ rdt, i_ 0, i_ 0, i_ 18, i_ s0, u_] [(.int s0)])) P16 (by
    intro _ k_
    refine XS.dup X5.here hx rfl (hb hby d18_115) rfl rfl ?_
    refine is_ X5 hx hby d18_116 (l' := #[r_ de, r_ b, i_ 1, i_ 4, r_ d, r_ rdt, i_ 0, i_ 0, i_ 18, i_ s0, u_]) rfl ?_
    exact k_)
  have P18 := oS (T5.setTop (mkF m 229 #[r_ de, r_ b, i_ 1, i_ 4, r_ d, r_ rdt, i_ 0, i_ ((0 : Int32) ||| (s0 <<< ((18 : Int32) &&& 31))), i_ 12, i_ s0, u_] [(.int 12)])) P17 (by
    intro _ k_
    refine fY_ X5 hx hby d18_118 (pc := 118) (pc' := 214) ((if0 _ _).trans (flt hs0).2.1) (by decide) ?_
    refine il_ X5 hx hby d18_214 rfl ?_
    refine il_ X5 hx hby d18_216 rfl ?_
    refine il_ X5 hx hby d18_218 rfl ?_
    refine XS.ishl X5.here hx rfl (hb hby d18_220) rfl ?_
    refine XS.ior X5.here hx rfl (hb hby d18_221) rfl ?_
    refine is_ X5 hx hby d18_222 (l' := #[r_ de, r_ b, i_ 1, i_ 4, r_ d, r_ rdt, i_ 0, i_ ((0 : Int32) ||| (s0 <<< ((18 : Int32) &&& 31))), i_ 18, i_ s0, u_]) rfl ?_
    refine XS.iinc X5.here hx rfl (hb hby d18_224) rfl (l' := #[r_ de, r_ b, i_ 1, i_ 4, r_ d, r_ rdt, i_ 0, i_ ((0 : Int32) ||| (s0 <<< ((18 : Int32) &&& 31))), i_ 12, i_ s0, u_]) rfl ?_
    show Steps p.tables e below (T5.setTop (mkF m 227 #[r_ de, r_ b, i_ 1, i_ 4, r_ d, r_ rdt, i_ 0, i_ ((0 : Int32) ||| (s0 <<< ((18 : Int32) &&& 31))), i_ 12, i_ s0, u_] [])) _
    refine il_ X5 hx hby d18_227 rfl ?_
    exact k_)
  have P19 := oS (T5.setTop (mkF m 30 #[r_ de, r_ b, i_ 1, i_ 4, r_ d, r_ rdt, i_ 0, i_ ((0 : Int32) ||| (s0 <<< ((18 : Int32) &&& 31))), i_ 12, i_ s0, u_] [(.int 4), (.int 1)])) P18 (by
    intro _ k_
    refine fY_ X5 hx hby d18_229 (pc := 229) (pc' := 278) ((if0 _ _).trans (flt (by decide : ¬ ((12 : Int32) < (0 : Int32)))).2.1) (by decide) ?_
    refine gt_ X5 hx hby d18_278 (pc := 278) (pc' := 28) (by decide) ?_
    refine iN_ X5 hx hby d18_28 rfl ?_
    refine iN_ X5 hx hby d18_29 rfl ?_
    exact k_)
  have P20 := oS (T5.setTop (mkF m 37 #[r_ de, r_ b, i_ 1, i_ 4, r_ d, r_ rdt, i_ 0, i_ ((0 : Int32) ||| (s0 <<< ((18 : Int32) &&& 31))), i_ 12, i_ s0, u_] [(.int 18), (.int 12)])) P19 (by
    intro _ k_
    refine XS.icmpNo X5.here hx rfl (hb hby d18_30) rfl (tlt (by decide : (1 : Int32) < (4 : Int32))).2.1 ?_
    refine il_ X5 hx hby d18_33 rfl ?_
    refine XS.bipush X5.here hx rfl (hb hby d18_35) ?_
    exact k_)
  have P21 := oS (T5.setTop (mkF m 92 #[r_ de, r_ b, i_ 1, i_ 4, r_ d, r_ rdt, i_ 0, i_ ((0 : Int32) ||| (s0 <<< ((18 : Int32) &&& 31))), i_ 12, i_ s0, u_] [(.int 4), (.int 1)])) P20 (by
    intro _ k_
    refine cY_ X5 hx hby d18_37 (pc := 37) (pc' := 90) (feq (by decide : ¬ ((12 : Int32) = (18 : Int32)))).2 (by decide) ?_
    refine iN_ X5 hx hby d18_90 rfl ?_
    refine iN_ X5 hx hby d18_91 rfl ?_
    exact k_)
  have P22 := oS (T5.setTop (mkF m 103 #[r_ de, r_ b, i_ 2, i_ 4, r_ d, r_ rdt, i_ 0, i_ ((0 : Int32) ||| (s0 <<< ((18 : Int32) &&& 31))), i_ 12, i_ s0, u_] [(.int 1), (.ref b)])) P21 (by
    intro _ k_
    refine cY_ X5 hx hby d18_92 (pc := 92) (pc' := 98) (tlt (by decide : (1 : Int32) < (4 : Int32))).1 (by decide) ?_
    refine aN_ X5 hx hby d18_98 rfl rfl ?_
    refine iN_ X5 hx hby d18_99 rfl ?_
    refine XS.iinc X5.here hx rfl (hb hby d18_100) rfl (l' := #[r_ de, r_ b, i_ 2, i_ 4, r_ d, r_ rdt, i_ 0, i_ ((0 : Int32) ||| (s0 <<< ((18 : Int32) &&& 31))), i_ 12, i_ s0, u_]) rfl ?_
    exact k_)
  obtain ⟨cl23, Ar23, q23, S23, M23, H23, G23⟩ := id Vb
  have hin23 := inb_of S23 (by decide : ¬ (1 : Int32) < 0 ∧ (1 : Int32) < (4 : Int32))
  have hat23 := Has.at H23 hin23 (v := .int x1) rfl
  have P24 := oS (T5.setTop (mkF m 104 #[r_ de, r_ b, i_ 2, i_ 4, r_ d, r_ rdt, i_ 0, i_ ((0 : Int32) ||| (s0 <<< ((18 : Int32) &&& 31))), i_ 12, i_ s0, u_] [(.int x1)])) P22 (by
    intro _ k_
    refine X5.baloadBytes hx (j := (1 : Int32)) (v := (.int x1)) (by rw [e5]; exact Ar23.1) (State.isArrayOf_alike hZ.alike Ar23.2.1) Ar23.2.2 hin23 hat23 (g := (mkF m 103 #[r_ de, r_ b, i_ 2, i_ 4, r_ d, r_ rdt, i_ 0, i_ ((0 : Int32) ||| (s0 <<< ((18 : Int32) &&& 31))), i_ 12, i_ s0, u_] [(.int 1), (.ref b)])) rfl rfl (hb hby d18_103) _ ?_
    exact k_)
  have P25 := oS (T5.setTop (mkF m 114 #[r_ de, r_ b, i_ 2, i_ 4, r_ d, r_ rdt, i_ 0, i_ ((0 : Int32) ||| (s0 <<< ((18 : Int32) &&& 31))), i_ 12, i_ (x1 &&& 255), u_] [(.int (x1 &&& 255)), (.ref rdt)])) P24 (by
    intro _ k_
    refine XS.sipush X5.here hx rfl (hb hby d18_104) ?_
    refine XS.iand X5.here hx rfl (hb hby d18_107) rfl ?_
    refine is_ X5 hx hby d18_108 (l' := #[r_ de, r_ b, i_ 2, i_ 4, r_ d, r_ rdt, i_ 0, i_ ((0 : Int32) ||| (s0 <<< ((18 : Int32) &&& 31))), i_ 12, i_ (x1 &&& 255), u_]) rfl ?_
    refine a_ X5 hx hby d18_110 rfl rfl ?_
    refine il_ X5 hx hby d18_112 rfl ?_
    exact k_)
  obtain ⟨cl26, Ar26, q26, S26, M26, H26, G26⟩ := Vdt.ext O.2
  have hin26 := inb_of S26 hj1
  have hat26 := Has.at H26 hin26 hd1
  have P27 := oS (T5.setTop (mkF m 115 #[r_ de, r_ b, i_ 2, i_ 4, r_ d, r_ rdt, i_ 0, i_ ((0 : Int32) ||| (s0 <<< ((18 : Int32) &&& 31))), i_ 12, i_ (x1 &&& 255), u_] [(.int s1)])) P25 (by
    intro _ k_
    refine X5.iaload hx (j := (x1 &&& 255)) (v := (.int s1)) (by rw [e5]; exact Ar26.1) (State.isArrayOf_alike hZ.alike Ar26.2.1) Ar26.2.2 hin26 hat26 (g := (mkF m 114 #[r_ de, r_ b, i_ 2, i_ 4, r_ d, r_ rdt, i_ 0, i_ ((0 : Int32) ||| (s0 <<< ((18 : Int32) &&& 31))), i_ 12, i_ (x1 &&& 255), u_] [(.int (x1 &&& 255)), (.ref rdt)])) rfl rfl (hb hby d18_114) _ ?_
    exact k_)
  have P28 := oS (T5.setTop (mkF m 118 #[r_ de, r_ b, i_ 2, i_ 4, r_ d, r_ rdt, i_ 0, i_ ((0 : Int32) ||| (s0 <<< ((18 : Int32) &&& 31))), i_ 12, i_ s1, u_] [(.int s1)])) P27 (by
    intro _ k_
    refine XS.dup X5.here hx rfl (hb hby d18_115) rfl rfl ?_
    refine is_ X5 hx hby d18_116 (l' := #[r_ de, r_ b, i_ 2, i_ 4, r_ d, r_ rdt, i_ 0, i_ ((0 : Int32) ||| (s0 <<< ((18 : Int32) &&& 31))), i_ 12, i_ s1, u_]) rfl ?_
    exact k_)
  have P29 := oS (T5.setTop (mkF m 229 #[r_ de, r_ b, i_ 2, i_ 4, r_ d, r_ rdt, i_ 0, i_ (((0 : Int32) ||| (s0 <<< ((18 : Int32) &&& 31))) ||| (s1 <<< ((12 : Int32) &&& 31))), i_ 6, i_ s1, u_] [(.int 6)])) P28 (by
    intro _ k_
    refine fY_ X5 hx hby d18_118 (pc := 118) (pc' := 214) ((if0 _ _).trans (flt hs1).2.1) (by decide) ?_
    refine il_ X5 hx hby d18_214 rfl ?_
    refine il_ X5 hx hby d18_216 rfl ?_
    refine il_ X5 hx hby d18_218 rfl ?_
    refine XS.ishl X5.here hx rfl (hb hby d18_220) rfl ?_
    refine XS.ior X5.here hx rfl (hb hby d18_221) rfl ?_
    refine is_ X5 hx hby d18_222 (l' := #[r_ de, r_ b, i_ 2, i_ 4, r_ d, r_ rdt, i_ 0, i_ (((0 : Int32) ||| (s0 <<< ((18 : Int32) &&& 31))) ||| (s1 <<< ((12 : Int32) &&& 31))), i_ 12, i_ s1, u_]) rfl ?_
    refine XS.iinc X5.here hx rfl (hb hby d18_224) rfl (l' := #[r_ de, r_ b, i_ 2, i_ 4, r_ d, r_ rdt, i_ 0, i_ (((0 : Int32) ||| (s0 <<< ((18 : Int32) &&& 31))) ||| (s1 <<< ((12 : Int32) &&& 31))), i_ 6, i_ s1, u_]) rfl ?_
    show Steps p.tables e below (T5.setTop (mkF m 227 #[r_ de, r_ b, i_ 2, i_ 4, r_ d, r_ rdt, i_ 0, i_ (((0 : Int32) ||| (s0 <<< ((18 : Int32) &&& 31))) ||| (s1 <<< ((12 : Int32) &&& 31))), i_ 6, i_ s1, u_] [])) _
    refine il_ X5 hx hby d18_227 rfl ?_
    exact k_)
  have P30 := oS (T5.setTop (mkF m 30 #[r_ de, r_ b, i_ 2, i_ 4, r_ d, r_ rdt, i_ 0, i_ (((0 : Int32) ||| (s0 <<< ((18 : Int32) &&& 31))) ||| (s1 <<< ((12 : Int32) &&& 31))), i_ 6, i_ s1, u_] [(.int 4), (.int 2)])) P29 (by
    intro _ k_
    refine fY_ X5 hx hby d18_229 (pc := 229) (pc' := 278) ((if0 _ _).trans (flt (by decide : ¬ ((6 : Int32) < (0 : Int32)))).2.1) (by decide) ?_
    refine gt_ X5 hx hby d18_278 (pc := 278) (pc' := 28) (by decide) ?_
    refine iN_ X5 hx hby d18_28 rfl ?_
    refine iN_ X5 hx hby d18_29 rfl ?_
    exact k_)
  have P31 := oS (T5.setTop (mkF m 37 #[r_ de, r_ b, i_ 2, i_ 4, r_ d, r_ rdt, i_ 0, i_ (((0 : Int32) ||| (s0 <<< ((18 : Int32) &&& 31))) ||| (s1 <<< ((12 : Int32) &&& 31))), i_ 6, i_ s1, u_] [(.int 18), (.int 6)])) P30 (by
    intro _ k_
    refine XS.icmpNo X5.here hx rfl (hb hby d18_30) rfl (tlt (by decide : (2 : Int32) < (4 : Int32))).2.1 ?_
    refine il_ X5 hx hby d18_33 rfl ?_
    refine XS.bipush X5.here hx rfl (hb hby d18_35) ?_
    exact k_)
  have P32 := oS (T5.setTop (mkF m 92 #[r_ de, r_ b, i_ 2, i_ 4, r_ d, r_ rdt, i_ 0, i_ (((0 : Int32) ||| (s0 <<< ((18 : Int32) &&& 31))) ||| (s1 <<< ((12 : Int32) &&& 31))), i_ 6, i_ s1, u_] [(.int 4), (.int 2)])) P31 (by
    intro _ k_
    refine cY_ X5 hx hby d18_37 (pc := 37) (pc' := 90) (feq (by decide : ¬ ((6 : Int32) = (18 : Int32)))).2 (by decide) ?_
    refine iN_ X5 hx hby d18_90 rfl ?_
    refine iN_ X5 hx hby d18_91 rfl ?_
    exact k_)
  have P33 := oS (T5.setTop (mkF m 103 #[r_ de, r_ b, i_ 3, i_ 4, r_ d, r_ rdt, i_ 0, i_ (((0 : Int32) ||| (s0 <<< ((18 : Int32) &&& 31))) ||| (s1 <<< ((12 : Int32) &&& 31))), i_ 6, i_ s1, u_] [(.int 2), (.ref b)])) P32 (by
    intro _ k_
    refine cY_ X5 hx hby d18_92 (pc := 92) (pc' := 98) (tlt (by decide : (2 : Int32) < (4 : Int32))).1 (by decide) ?_
    refine aN_ X5 hx hby d18_98 rfl rfl ?_
    refine iN_ X5 hx hby d18_99 rfl ?_
    refine XS.iinc X5.here hx rfl (hb hby d18_100) rfl (l' := #[r_ de, r_ b, i_ 3, i_ 4, r_ d, r_ rdt, i_ 0, i_ (((0 : Int32) ||| (s0 <<< ((18 : Int32) &&& 31))) ||| (s1 <<< ((12 : Int32) &&& 31))), i_ 6, i_ s1, u_]) rfl ?_
    exact k_)
  obtain ⟨cl34, Ar34, q34, S34, M34, H34, G34⟩ := id Vb
  have hin34 := inb_of S34 (by decide : ¬ (2 : Int32) < 0 ∧ (2 : Int32) < (4 : Int32))
  have hat34 := Has.at H34 hin34 (v := .int x2) rfl
  have P35 := oS (T5.setTop (mkF m 104 #[r_ de, r_ b, i_ 3, i_ 4, r_ d, r_ rdt, i_ 0, i_ (((0 : Int32) ||| (s0 <<< ((18 : Int32) &&& 31))) ||| (s1 <<< ((12 : Int32) &&& 31))), i_ 6, i_ s1, u_] [(.int x2)])) P33 (by
    intro _ k_
    refine X5.baloadBytes hx (j := (2 : Int32)) (v := (.int x2)) (by rw [e5]; exact Ar34.1) (State.isArrayOf_alike hZ.alike Ar34.2.1) Ar34.2.2 hin34 hat34 (g := (mkF m 103 #[r_ de, r_ b, i_ 3, i_ 4, r_ d, r_ rdt, i_ 0, i_ (((0 : Int32) ||| (s0 <<< ((18 : Int32) &&& 31))) ||| (s1 <<< ((12 : Int32) &&& 31))), i_ 6, i_ s1, u_] [(.int 2), (.ref b)])) rfl rfl (hb hby d18_103) _ ?_
    exact k_)
  have P36 := oS (T5.setTop (mkF m 114 #[r_ de, r_ b, i_ 3, i_ 4, r_ d, r_ rdt, i_ 0, i_ (((0 : Int32) ||| (s0 <<< ((18 : Int32) &&& 31))) ||| (s1 <<< ((12 : Int32) &&& 31))), i_ 6, i_ (x2 &&& 255), u_] [(.int (x2 &&& 255)), (.ref rdt)])) P35 (by
    intro _ k_
    refine XS.sipush X5.here hx rfl (hb hby d18_104) ?_
    refine XS.iand X5.here hx rfl (hb hby d18_107) rfl ?_
    refine is_ X5 hx hby d18_108 (l' := #[r_ de, r_ b, i_ 3, i_ 4, r_ d, r_ rdt, i_ 0, i_ (((0 : Int32) ||| (s0 <<< ((18 : Int32) &&& 31))) ||| (s1 <<< ((12 : Int32) &&& 31))), i_ 6, i_ (x2 &&& 255), u_]) rfl ?_
    refine a_ X5 hx hby d18_110 rfl rfl ?_
    refine il_ X5 hx hby d18_112 rfl ?_
    exact k_)
  obtain ⟨cl37, Ar37, q37, S37, M37, H37, G37⟩ := Vdt.ext O.2
  have hin37 := inb_of S37 hj2
  have hat37 := Has.at H37 hin37 hd2
  have P38 := oS (T5.setTop (mkF m 115 #[r_ de, r_ b, i_ 3, i_ 4, r_ d, r_ rdt, i_ 0, i_ (((0 : Int32) ||| (s0 <<< ((18 : Int32) &&& 31))) ||| (s1 <<< ((12 : Int32) &&& 31))), i_ 6, i_ (x2 &&& 255), u_] [(.int s2)])) P36 (by
    intro _ k_
    refine X5.iaload hx (j := (x2 &&& 255)) (v := (.int s2)) (by rw [e5]; exact Ar37.1) (State.isArrayOf_alike hZ.alike Ar37.2.1) Ar37.2.2 hin37 hat37 (g := (mkF m 114 #[r_ de, r_ b, i_ 3, i_ 4, r_ d, r_ rdt, i_ 0, i_ (((0 : Int32) ||| (s0 <<< ((18 : Int32) &&& 31))) ||| (s1 <<< ((12 : Int32) &&& 31))), i_ 6, i_ (x2 &&& 255), u_] [(.int (x2 &&& 255)), (.ref rdt)])) rfl rfl (hb hby d18_114) _ ?_
    exact k_)
  have P39 := oS (T5.setTop (mkF m 118 #[r_ de, r_ b, i_ 3, i_ 4, r_ d, r_ rdt, i_ 0, i_ (((0 : Int32) ||| (s0 <<< ((18 : Int32) &&& 31))) ||| (s1 <<< ((12 : Int32) &&& 31))), i_ 6, i_ s2, u_] [(.int s2)])) P38 (by
    intro _ k_
    refine XS.dup X5.here hx rfl (hb hby d18_115) rfl rfl ?_
    refine is_ X5 hx hby d18_116 (l' := #[r_ de, r_ b, i_ 3, i_ 4, r_ d, r_ rdt, i_ 0, i_ (((0 : Int32) ||| (s0 <<< ((18 : Int32) &&& 31))) ||| (s1 <<< ((12 : Int32) &&& 31))), i_ 6, i_ s2, u_]) rfl ?_
    exact k_)
  have P40 := oS (T5.setTop (mkF m 229 #[r_ de, r_ b, i_ 3, i_ 4, r_ d, r_ rdt, i_ 0, i_ ((((0 : Int32) ||| (s0 <<< ((18 : Int32) &&& 31))) ||| (s1 <<< ((12 : Int32) &&& 31))) ||| (s2 <<< ((6 : Int32) &&& 31))), i_ 0, i_ s2, u_] [(.int 0)])) P39 (by
    intro _ k_
    refine fY_ X5 hx hby d18_118 (pc := 118) (pc' := 214) ((if0 _ _).trans (flt hs2).2.1) (by decide) ?_
    refine il_ X5 hx hby d18_214 rfl ?_
    refine il_ X5 hx hby d18_216 rfl ?_
    refine il_ X5 hx hby d18_218 rfl ?_
    refine XS.ishl X5.here hx rfl (hb hby d18_220) rfl ?_
    refine XS.ior X5.here hx rfl (hb hby d18_221) rfl ?_
    refine is_ X5 hx hby d18_222 (l' := #[r_ de, r_ b, i_ 3, i_ 4, r_ d, r_ rdt, i_ 0, i_ ((((0 : Int32) ||| (s0 <<< ((18 : Int32) &&& 31))) ||| (s1 <<< ((12 : Int32) &&& 31))) ||| (s2 <<< ((6 : Int32) &&& 31))), i_ 6, i_ s2, u_]) rfl ?_
    refine XS.iinc X5.here hx rfl (hb hby d18_224) rfl (l' := #[r_ de, r_ b, i_ 3, i_ 4, r_ d, r_ rdt, i_ 0, i_ ((((0 : Int32) ||| (s0 <<< ((18 : Int32) &&& 31))) ||| (s1 <<< ((12 : Int32) &&& 31))) ||| (s2 <<< ((6 : Int32) &&& 31))), i_ 0, i_ s2, u_]) rfl ?_
    show Steps p.tables e below (T5.setTop (mkF m 227 #[r_ de, r_ b, i_ 3, i_ 4, r_ d, r_ rdt, i_ 0, i_ ((((0 : Int32) ||| (s0 <<< ((18 : Int32) &&& 31))) ||| (s1 <<< ((12 : Int32) &&& 31))) ||| (s2 <<< ((6 : Int32) &&& 31))), i_ 0, i_ s2, u_] [])) _
    refine il_ X5 hx hby d18_227 rfl ?_
    exact k_)
  have P41 := oS (T5.setTop (mkF m 30 #[r_ de, r_ b, i_ 3, i_ 4, r_ d, r_ rdt, i_ 0, i_ ((((0 : Int32) ||| (s0 <<< ((18 : Int32) &&& 31))) ||| (s1 <<< ((12 : Int32) &&& 31))) ||| (s2 <<< ((6 : Int32) &&& 31))), i_ 0, i_ s2, u_] [(.int 4), (.int 3)])) P40 (by
    intro _ k_
    refine fY_ X5 hx hby d18_229 (pc := 229) (pc' := 278) ((if0 _ _).trans (flt (by decide : ¬ ((0 : Int32) < (0 : Int32)))).2.1) (by decide) ?_
    refine gt_ X5 hx hby d18_278 (pc := 278) (pc' := 28) (by decide) ?_
    refine iN_ X5 hx hby d18_28 rfl ?_
    refine iN_ X5 hx hby d18_29 rfl ?_
    exact k_)
  have P42 := oS (T5.setTop (mkF m 37 #[r_ de, r_ b, i_ 3, i_ 4, r_ d, r_ rdt, i_ 0, i_ ((((0 : Int32) ||| (s0 <<< ((18 : Int32) &&& 31))) ||| (s1 <<< ((12 : Int32) &&& 31))) ||| (s2 <<< ((6 : Int32) &&& 31))), i_ 0, i_ s2, u_] [(.int 18), (.int 0)])) P41 (by
    intro _ k_
    refine XS.icmpNo X5.here hx rfl (hb hby d18_30) rfl (tlt (by decide : (3 : Int32) < (4 : Int32))).2.1 ?_
    refine il_ X5 hx hby d18_33 rfl ?_
    refine XS.bipush X5.here hx rfl (hb hby d18_35) ?_
    exact k_)
  have P43 := oS (T5.setTop (mkF m 92 #[r_ de, r_ b, i_ 3, i_ 4, r_ d, r_ rdt, i_ 0, i_ ((((0 : Int32) ||| (s0 <<< ((18 : Int32) &&& 31))) ||| (s1 <<< ((12 : Int32) &&& 31))) ||| (s2 <<< ((6 : Int32) &&& 31))), i_ 0, i_ s2, u_] [(.int 4), (.int 3)])) P42 (by
    intro _ k_
    refine cY_ X5 hx hby d18_37 (pc := 37) (pc' := 90) (feq (by decide : ¬ ((0 : Int32) = (18 : Int32)))).2 (by decide) ?_
    refine iN_ X5 hx hby d18_90 rfl ?_
    refine iN_ X5 hx hby d18_91 rfl ?_
    exact k_)
  have P44 := oS (T5.setTop (mkF m 103 #[r_ de, r_ b, i_ 4, i_ 4, r_ d, r_ rdt, i_ 0, i_ ((((0 : Int32) ||| (s0 <<< ((18 : Int32) &&& 31))) ||| (s1 <<< ((12 : Int32) &&& 31))) ||| (s2 <<< ((6 : Int32) &&& 31))), i_ 0, i_ s2, u_] [(.int 3), (.ref b)])) P43 (by
    intro _ k_
    refine cY_ X5 hx hby d18_92 (pc := 92) (pc' := 98) (tlt (by decide : (3 : Int32) < (4 : Int32))).1 (by decide) ?_
    refine aN_ X5 hx hby d18_98 rfl rfl ?_
    refine iN_ X5 hx hby d18_99 rfl ?_
    refine XS.iinc X5.here hx rfl (hb hby d18_100) rfl (l' := #[r_ de, r_ b, i_ 4, i_ 4, r_ d, r_ rdt, i_ 0, i_ ((((0 : Int32) ||| (s0 <<< ((18 : Int32) &&& 31))) ||| (s1 <<< ((12 : Int32) &&& 31))) ||| (s2 <<< ((6 : Int32) &&& 31))), i_ 0, i_ s2, u_]) rfl ?_
    exact k_)
  obtain ⟨cl45, Ar45, q45, S45, M45, H45, G45⟩ := id Vb
  have hin45 := inb_of S45 (by decide : ¬ (3 : Int32) < 0 ∧ (3 : Int32) < (4 : Int32))
  have hat45 := Has.at H45 hin45 (v := .int x3) rfl
  have P46 := oS (T5.setTop (mkF m 104 #[r_ de, r_ b, i_ 4, i_ 4, r_ d, r_ rdt, i_ 0, i_ ((((0 : Int32) ||| (s0 <<< ((18 : Int32) &&& 31))) ||| (s1 <<< ((12 : Int32) &&& 31))) ||| (s2 <<< ((6 : Int32) &&& 31))), i_ 0, i_ s2, u_] [(.int x3)])) P44 (by
    intro _ k_
    refine X5.baloadBytes hx (j := (3 : Int32)) (v := (.int x3)) (by rw [e5]; exact Ar45.1) (State.isArrayOf_alike hZ.alike Ar45.2.1) Ar45.2.2 hin45 hat45 (g := (mkF m 103 #[r_ de, r_ b, i_ 4, i_ 4, r_ d, r_ rdt, i_ 0, i_ ((((0 : Int32) ||| (s0 <<< ((18 : Int32) &&& 31))) ||| (s1 <<< ((12 : Int32) &&& 31))) ||| (s2 <<< ((6 : Int32) &&& 31))), i_ 0, i_ s2, u_] [(.int 3), (.ref b)])) rfl rfl (hb hby d18_103) _ ?_
    exact k_)
  have P47 := oS (T5.setTop (mkF m 114 #[r_ de, r_ b, i_ 4, i_ 4, r_ d, r_ rdt, i_ 0, i_ ((((0 : Int32) ||| (s0 <<< ((18 : Int32) &&& 31))) ||| (s1 <<< ((12 : Int32) &&& 31))) ||| (s2 <<< ((6 : Int32) &&& 31))), i_ 0, i_ (x3 &&& 255), u_] [(.int (x3 &&& 255)), (.ref rdt)])) P46 (by
    intro _ k_
    refine XS.sipush X5.here hx rfl (hb hby d18_104) ?_
    refine XS.iand X5.here hx rfl (hb hby d18_107) rfl ?_
    refine is_ X5 hx hby d18_108 (l' := #[r_ de, r_ b, i_ 4, i_ 4, r_ d, r_ rdt, i_ 0, i_ ((((0 : Int32) ||| (s0 <<< ((18 : Int32) &&& 31))) ||| (s1 <<< ((12 : Int32) &&& 31))) ||| (s2 <<< ((6 : Int32) &&& 31))), i_ 0, i_ (x3 &&& 255), u_]) rfl ?_
    refine a_ X5 hx hby d18_110 rfl rfl ?_
    refine il_ X5 hx hby d18_112 rfl ?_
    exact k_)
  obtain ⟨cl48, Ar48, q48, S48, M48, H48, G48⟩ := Vdt.ext O.2
  have hin48 := inb_of S48 hj3
  have hat48 := Has.at H48 hin48 hd3
  have P49 := oS (T5.setTop (mkF m 115 #[r_ de, r_ b, i_ 4, i_ 4, r_ d, r_ rdt, i_ 0, i_ ((((0 : Int32) ||| (s0 <<< ((18 : Int32) &&& 31))) ||| (s1 <<< ((12 : Int32) &&& 31))) ||| (s2 <<< ((6 : Int32) &&& 31))), i_ 0, i_ (x3 &&& 255), u_] [(.int s3)])) P47 (by
    intro _ k_
    refine X5.iaload hx (j := (x3 &&& 255)) (v := (.int s3)) (by rw [e5]; exact Ar48.1) (State.isArrayOf_alike hZ.alike Ar48.2.1) Ar48.2.2 hin48 hat48 (g := (mkF m 114 #[r_ de, r_ b, i_ 4, i_ 4, r_ d, r_ rdt, i_ 0, i_ ((((0 : Int32) ||| (s0 <<< ((18 : Int32) &&& 31))) ||| (s1 <<< ((12 : Int32) &&& 31))) ||| (s2 <<< ((6 : Int32) &&& 31))), i_ 0, i_ (x3 &&& 255), u_] [(.int (x3 &&& 255)), (.ref rdt)])) rfl rfl (hb hby d18_114) _ ?_
    exact k_)
  have P50 := oS (T5.setTop (mkF m 118 #[r_ de, r_ b, i_ 4, i_ 4, r_ d, r_ rdt, i_ 0, i_ ((((0 : Int32) ||| (s0 <<< ((18 : Int32) &&& 31))) ||| (s1 <<< ((12 : Int32) &&& 31))) ||| (s2 <<< ((6 : Int32) &&& 31))), i_ 0, i_ s3, u_] [(.int s3)])) P49 (by
    intro _ k_
    refine XS.dup X5.here hx rfl (hb hby d18_115) rfl rfl ?_
    refine is_ X5 hx hby d18_116 (l' := #[r_ de, r_ b, i_ 4, i_ 4, r_ d, r_ rdt, i_ 0, i_ ((((0 : Int32) ||| (s0 <<< ((18 : Int32) &&& 31))) ||| (s1 <<< ((12 : Int32) &&& 31))) ||| (s2 <<< ((6 : Int32) &&& 31))), i_ 0, i_ s3, u_]) rfl ?_
    exact k_)
  have P51 := oS (T5.setTop (mkF m 229 #[r_ de, r_ b, i_ 4, i_ 4, r_ d, r_ rdt, i_ 0, i_ (((((0 : Int32) ||| (s0 <<< ((18 : Int32) &&& 31))) ||| (s1 <<< ((12 : Int32) &&& 31))) ||| (s2 <<< ((6 : Int32) &&& 31))) ||| (s3 <<< ((0 : Int32) &&& 31))), i_ (-6 : Int32), i_ s3, u_] [(.int (-6 : Int32))])) P50 (by
    intro _ k_
    refine fY_ X5 hx hby d18_118 (pc := 118) (pc' := 214) ((if0 _ _).trans (flt hs3).2.1) (by decide) ?_
    refine il_ X5 hx hby d18_214 rfl ?_
    refine il_ X5 hx hby d18_216 rfl ?_
    refine il_ X5 hx hby d18_218 rfl ?_
    refine XS.ishl X5.here hx rfl (hb hby d18_220) rfl ?_
    refine XS.ior X5.here hx rfl (hb hby d18_221) rfl ?_
    refine is_ X5 hx hby d18_222 (l' := #[r_ de, r_ b, i_ 4, i_ 4, r_ d, r_ rdt, i_ 0, i_ (((((0 : Int32) ||| (s0 <<< ((18 : Int32) &&& 31))) ||| (s1 <<< ((12 : Int32) &&& 31))) ||| (s2 <<< ((6 : Int32) &&& 31))) ||| (s3 <<< ((0 : Int32) &&& 31))), i_ 0, i_ s3, u_]) rfl ?_
    refine XS.iinc X5.here hx rfl (hb hby d18_224) rfl (l' := #[r_ de, r_ b, i_ 4, i_ 4, r_ d, r_ rdt, i_ 0, i_ (((((0 : Int32) ||| (s0 <<< ((18 : Int32) &&& 31))) ||| (s1 <<< ((12 : Int32) &&& 31))) ||| (s2 <<< ((6 : Int32) &&& 31))) ||| (s3 <<< ((0 : Int32) &&& 31))), i_ (-6 : Int32), i_ s3, u_]) rfl ?_
    show Steps p.tables e below (T5.setTop (mkF m 227 #[r_ de, r_ b, i_ 4, i_ 4, r_ d, r_ rdt, i_ 0, i_ (((((0 : Int32) ||| (s0 <<< ((18 : Int32) &&& 31))) ||| (s1 <<< ((12 : Int32) &&& 31))) ||| (s2 <<< ((6 : Int32) &&& 31))) ||| (s3 <<< ((0 : Int32) &&& 31))), i_ (-6 : Int32), i_ s3, u_] [])) _
    refine il_ X5 hx hby d18_227 rfl ?_
    exact k_)
  have P52 := oS (T5.setTop (mkF m 245 #[r_ de, r_ b, i_ 4, i_ 4, r_ d, r_ rdt, i_ 1, i_ (((((0 : Int32) ||| (s0 <<< ((18 : Int32) &&& 31))) ||| (s1 <<< ((12 : Int32) &&& 31))) ||| (s2 <<< ((6 : Int32) &&& 31))) ||| (s3 <<< ((0 : Int32) &&& 31))), i_ (-6 : Int32), i_ s3, u_] [(.int (((((((0 : Int32) ||| (s0 <<< ((18 : Int32) &&& 31))) ||| (s1 <<< ((12 : Int32) &&& 31))) ||| (s2 <<< ((6 : Int32) &&& 31))) ||| (s3 <<< ((0 : Int32) &&& 31))) >>> ((16 : Int32) &&& 31)).toInt8.toInt32)), (.int 0), (.ref d)])) P51 (by
    intro _ k_
    refine XS.ifNo X5.here hx rfl (hb hby d18_229) rfl ((if0 _ _).trans (tlt (by decide : (-6 : Int32) < (0 : Int32))).2.1) ?_
    refine a_ X5 hx hby d18_232 rfl rfl ?_
    refine il_ X5 hx hby d18_234 rfl ?_
    refine XS.iinc X5.here hx rfl (hb hby d18_236) rfl (l' := #[r_ de, r_ b, i_ 4, i_ 4, r_ d, r_ rdt, i_ 1, i_ (((((0 : Int32) ||| (s0 <<< ((18 : Int32) &&& 31))) ||| (s1 <<< ((12 : Int32) &&& 31))) ||| (s2 <<< ((6 : Int32) &&& 31))) ||| (s3 <<< ((0 : Int32) &&& 31))), i_ (-6 : Int32), i_ s3, u_]) rfl ?_
    show Steps p.tables e below (T5.setTop (mkF m 239 #[r_ de, r_ b, i_ 4, i_ 4, r_ d, r_ rdt, i_ 1, i_ (((((0 : Int32) ||| (s0 <<< ((18 : Int32) &&& 31))) ||| (s1 <<< ((12 : Int32) &&& 31))) ||| (s2 <<< ((6 : Int32) &&& 31))) ||| (s3 <<< ((0 : Int32) &&& 31))), i_ (-6 : Int32), i_ s3, u_] [(.int 0), (.ref d)])) _
    refine il_ X5 hx hby d18_239 rfl ?_
    refine XS.bipush X5.here hx rfl (hb hby d18_241) ?_
    refine XS.ishr X5.here hx rfl (hb hby d18_243) rfl ?_
    refine XS.i2b X5.here hx rfl (hb hby d18_244) rfl ?_
    exact k_)
  obtain ⟨cl53, Ar53, q53, S53, M53, H53, G53⟩ := id Vd
  obtain ⟨T54, h54, X54, e54, W54, st54⟩ := stB X5 hx hZ e5 Ar53 (j := (0 : Int32)) (inb_of S53 (by decide : ¬ (0 : Int32) < 0 ∧ (0 : Int32) < (3 : Int32))) (g := (mkF m 245 #[r_ de, r_ b, i_ 4, i_ 4, r_ d, r_ rdt, i_ 1, i_ (((((0 : Int32) ||| (s0 <<< ((18 : Int32) &&& 31))) ||| (s1 <<< ((12 : Int32) &&& 31))) ||| (s2 <<< ((6 : Int32) &&& 31))) ||| (s3 <<< ((0 : Int32) &&& 31))), i_ (-6 : Int32), i_ s3, u_] [(.int (((((((0 : Int32) ||| (s0 <<< ((18 : Int32) &&& 31))) ||| (s1 <<< ((12 : Int32) &&& 31))) ||| (s2 <<< ((6 : Int32) &&& 31))) ||| (s3 <<< ((0 : Int32) &&& 31))) >>> ((16 : Int32) &&& 31)).toInt8.toInt32)), (.int 0), (.ref d)])) rfl rfl (hb hby d18_245)
  have f60 := (Keep.refl h0 [d]).wr W54 (Or.inl (List.mem_of_getElem? (i := 0) rfl))
  have V54 : Arv Z h54 d kd .byte (3 : Int32) [(.int (((((((0 : Int32) ||| (s0 <<< ((18 : Int32) &&& 31))) ||| (s1 <<< ((12 : Int32) &&& 31))) ||| (s2 <<< ((6 : Int32) &&& 31))) ||| (s3 <<< ((0 : Int32) &&& 31))) >>> ((16 : Int32) &&& 31)).toInt8.toInt32).toInt8.toInt32), (.int 0), (.int 0)] (.int 0) := Arv.set Ar53 q53 S53 M53 H53 G53 (fits_nar_byte _) W54 0 rfl (Nat.le_of_ble_eq_true rfl)
  have N54 := Fr.snoc X54 N0 gd
  have P62 := oS (T54.setTop (mkF m 246 #[r_ de, r_ b, i_ 4, i_ 4, r_ d, r_ rdt, i_ 1, i_ (((((0 : Int32) ||| (s0 <<< ((18 : Int32) &&& 31))) ||| (s1 <<< ((12 : Int32) &&& 31))) ||| (s2 <<< ((6 : Int32) &&& 31))) ||| (s3 <<< ((0 : Int32) &&& 31))), i_ (-6 : Int32), i_ s3, u_] [])) P52 (fun t_ k_ => st54 t_ k_)
  have P63 := oS (T54.setTop (mkF m 259 #[r_ de, r_ b, i_ 4, i_ 4, r_ d, r_ rdt, i_ 2, i_ (((((0 : Int32) ||| (s0 <<< ((18 : Int32) &&& 31))) ||| (s1 <<< ((12 : Int32) &&& 31))) ||| (s2 <<< ((6 : Int32) &&& 31))) ||| (s3 <<< ((0 : Int32) &&& 31))), i_ (-6 : Int32), i_ s3, u_] [(.int (((((((0 : Int32) ||| (s0 <<< ((18 : Int32) &&& 31))) ||| (s1 <<< ((12 : Int32) &&& 31))) ||| (s2 <<< ((6 : Int32) &&& 31))) ||| (s3 <<< ((0 : Int32) &&& 31))) >>> ((8 : Int32) &&& 31)).toInt8.toInt32)), (.int 1), (.ref d)])) P62 (by
    intro _ k_
    refine a_ X54 hx hby d18_246 rfl rfl ?_
    refine il_ X54 hx hby d18_248 rfl ?_
    refine XS.iinc X54.here hx rfl (hb hby d18_250) rfl (l' := #[r_ de, r_ b, i_ 4, i_ 4, r_ d, r_ rdt, i_ 2, i_ (((((0 : Int32) ||| (s0 <<< ((18 : Int32) &&& 31))) ||| (s1 <<< ((12 : Int32) &&& 31))) ||| (s2 <<< ((6 : Int32) &&& 31))) ||| (s3 <<< ((0 : Int32) &&& 31))), i_ (-6 : Int32), i_ s3, u_]) rfl ?_
    show Steps p.tables e below (T54.setTop (mkF m 253 #[r_ de, r_ b, i_ 4, i_ 4, r_ d, r_ rdt, i_ 2, i_ (((((0 : Int32) ||| (s0 <<< ((18 : Int32) &&& 31))) ||| (s1 <<< ((12 : Int32) &&& 31))) ||| (s2 <<< ((6 : Int32) &&& 31))) ||| (s3 <<< ((0 : Int32) &&& 31))), i_ (-6 : Int32), i_ s3, u_] [(.int 1), (.ref d)])) _
    refine il_ X54 hx hby d18_253 rfl ?_
    refine XS.bipush X54.here hx rfl (hb hby d18_255) ?_
    refine XS.ishr X54.here hx rfl (hb hby d18_257) rfl ?_
    refine XS.i2b X54.here hx rfl (hb hby d18_258) rfl ?_
    exact k_)
  obtain ⟨cl64, Ar64, q64, S64, M64, H64, G64⟩ := id V54
  obtain ⟨T65, h65, X65, e65, W65, st65⟩ := stB X54 hx hZ e54 Ar64 (j := (1 : Int32)) (inb_of S64 (by decide : ¬ (1 : Int32) < 0 ∧ (1 : Int32) < (3 : Int32))) (g := (mkF m 259 #[r_ de, r_ b, i_ 4, i_ 4, r_ d, r_ rdt, i_ 2, i_ (((((0 : Int32) ||| (s0 <<< ((18 : Int32) &&& 31))) ||| (s1 <<< ((12 : Int32) &&& 31))) ||| (s2 <<< ((6 : Int32) &&& 31))) ||| (s3 <<< ((0 : Int32) &&& 31))), i_ (-6 : Int32), i_ s3, u_] [(.int (((((((0 : Int32) ||| (s0 <<< ((18 : Int32) &&& 31))) ||| (s1 <<< ((12 : Int32) &&& 31))) ||| (s2 <<< ((6 : Int32) &&& 31))) ||| (s3 <<< ((0 : Int32) &&& 31))) >>> ((8 : Int32) &&& 31)).toInt8.toInt32)), (.int 1), (.ref d)])) rfl rfl (hb hby d18_259)
  have f71 := f60.wr W65 (Or.inl (List.mem_of_getElem? (i := 0) rfl))
  have V65 : Arv Z h65 d kd .byte (3 : Int32) [(.int (((((((0 : Int32) ||| (s0 <<< ((18 : Int32) &&& 31))) ||| (s1 <<< ((12 : Int32) &&& 31))) ||| (s2 <<< ((6 : Int32) &&& 31))) ||| (s3 <<< ((0 : Int32) &&& 31))) >>> ((16 : Int32) &&& 31)).toInt8.toInt32).toInt8.toInt32), (.int (((((((0 : Int32) ||| (s0 <<< ((18 : Int32) &&& 31))) ||| (s1 <<< ((12 : Int32) &&& 31))) ||| (s2 <<< ((6 : Int32) &&& 31))) ||| (s3 <<< ((0 : Int32) &&& 31))) >>> ((8 : Int32) &&& 31)).toInt8.toInt32).toInt8.toInt32), (.int 0)] (.int 0) := Arv.set Ar64 q64 S64 M64 H64 G64 (fits_nar_byte _) W65 1 rfl (Nat.le_of_ble_eq_true rfl)
  have N65 := Fr.snoc X65 N54 gd
  have P73 := oS (T65.setTop (mkF m 260 #[r_ de, r_ b, i_ 4, i_ 4, r_ d, r_ rdt, i_ 2, i_ (((((0 : Int32) ||| (s0 <<< ((18 : Int32) &&& 31))) ||| (s1 <<< ((12 : Int32) &&& 31))) ||| (s2 <<< ((6 : Int32) &&& 31))) ||| (s3 <<< ((0 : Int32) &&& 31))), i_ (-6 : Int32), i_ s3, u_] [])) P63 (fun t_ k_ => st65 t_ k_)
  have P74 := oS (T65.setTop (mkF m 270 #[r_ de, r_ b, i_ 4, i_ 4, r_ d, r_ rdt, i_ 3, i_ (((((0 : Int32) ||| (s0 <<< ((18 : Int32) &&& 31))) ||| (s1 <<< ((12 : Int32) &&& 31))) ||| (s2 <<< ((6 : Int32) &&& 31))) ||| (s3 <<< ((0 : Int32) &&& 31))), i_ (-6 : Int32), i_ s3, u_] [(.int ((((((0 : Int32) ||| (s0 <<< ((18 : Int32) &&& 31))) ||| (s1 <<< ((12 : Int32) &&& 31))) ||| (s2 <<< ((6 : Int32) &&& 31))) ||| (s3 <<< ((0 : Int32) &&& 31))).toInt8.toInt32)), (.int 2), (.ref d)])) P73 (by
    intro _ k_
    refine a_ X65 hx hby d18_260 rfl rfl ?_
    refine il_ X65 hx hby d18_262 rfl ?_
    refine XS.iinc X65.here hx rfl (hb hby d18_264) rfl (l' := #[r_ de, r_ b, i_ 4, i_ 4, r_ d, r_ rdt, i_ 3, i_ (((((0 : Int32) ||| (s0 <<< ((18 : Int32) &&& 31))) ||| (s1 <<< ((12 : Int32) &&& 31))) ||| (s2 <<< ((6 : Int32) &&& 31))) ||| (s3 <<< ((0 : Int32) &&& 31))), i_ (-6 : Int32), i_ s3, u_]) rfl ?_
    show Steps p.tables e below (T65.setTop (mkF m 267 #[r_ de, r_ b, i_ 4, i_ 4, r_ d, r_ rdt, i_ 3, i_ (((((0 : Int32) ||| (s0 <<< ((18 : Int32) &&& 31))) ||| (s1 <<< ((12 : Int32) &&& 31))) ||| (s2 <<< ((6 : Int32) &&& 31))) ||| (s3 <<< ((0 : Int32) &&& 31))), i_ (-6 : Int32), i_ s3, u_] [(.int 2), (.ref d)])) _
    refine il_ X65 hx hby d18_267 rfl ?_
    refine XS.i2b X65.here hx rfl (hb hby d18_269) rfl ?_
    exact k_)
  obtain ⟨cl75, Ar75, q75, S75, M75, H75, G75⟩ := id V65
  obtain ⟨T76, h76, X76, e76, W76, st76⟩ := stB X65 hx hZ e65 Ar75 (j := (2 : Int32)) (inb_of S75 (by decide : ¬ (2 : Int32) < 0 ∧ (2 : Int32) < (3 : Int32))) (g := (mkF m 270 #[r_ de, r_ b, i_ 4, i_ 4, r_ d, r_ rdt, i_ 3, i_ (((((0 : Int32) ||| (s0 <<< ((18 : Int32) &&& 31))) ||| (s1 <<< ((12 : Int32) &&& 31))) ||| (s2 <<< ((6 : Int32) &&& 31))) ||| (s3 <<< ((0 : Int32) &&& 31))), i_ (-6 : Int32), i_ s3, u_] [(.int ((((((0 : Int32) ||| (s0 <<< ((18 : Int32) &&& 31))) ||| (s1 <<< ((12 : Int32) &&& 31))) ||| (s2 <<< ((6 : Int32) &&& 31))) ||| (s3 <<< ((0 : Int32) &&& 31))).toInt8.toInt32)), (.int 2), (.ref d)])) rfl rfl (hb hby d18_270)
  have f82 := f71.wr W76 (Or.inl (List.mem_of_getElem? (i := 0) rfl))
  have V76 : Arv Z h76 d kd .byte (3 : Int32) [(.int (((((((0 : Int32) ||| (s0 <<< ((18 : Int32) &&& 31))) ||| (s1 <<< ((12 : Int32) &&& 31))) ||| (s2 <<< ((6 : Int32) &&& 31))) ||| (s3 <<< ((0 : Int32) &&& 31))) >>> ((16 : Int32) &&& 31)).toInt8.toInt32).toInt8.toInt32), (.int (((((((0 : Int32) ||| (s0 <<< ((18 : Int32) &&& 31))) ||| (s1 <<< ((12 : Int32) &&& 31))) ||| (s2 <<< ((6 : Int32) &&& 31))) ||| (s3 <<< ((0 : Int32) &&& 31))) >>> ((8 : Int32) &&& 31)).toInt8.toInt32).toInt8.toInt32), (.int ((((((0 : Int32) ||| (s0 <<< ((18 : Int32) &&& 31))) ||| (s1 <<< ((12 : Int32) &&& 31))) ||| (s2 <<< ((6 : Int32) &&& 31))) ||| (s3 <<< ((0 : Int32) &&& 31))).toInt8.toInt32).toInt8.toInt32)] (.int 0) := Arv.set Ar75 q75 S75 M75 H75 G75 (fits_nar_byte _) W76 2 rfl (Nat.le_of_ble_eq_true rfl)
  have N76 := Fr.snoc X76 N65 gd
  have P84 := oS (T76.setTop (mkF m 271 #[r_ de, r_ b, i_ 4, i_ 4, r_ d, r_ rdt, i_ 3, i_ (((((0 : Int32) ||| (s0 <<< ((18 : Int32) &&& 31))) ||| (s1 <<< ((12 : Int32) &&& 31))) ||| (s2 <<< ((6 : Int32) &&& 31))) ||| (s3 <<< ((0 : Int32) &&& 31))), i_ (-6 : Int32), i_ s3, u_] [])) P74 (fun t_ k_ => st76 t_ k_)
  have P85 := oS (T76.setTop (mkF m 30 #[r_ de, r_ b, i_ 4, i_ 4, r_ d, r_ rdt, i_ 3, i_ 0, i_ 18, i_ s3, u_] [(.int 4), (.int 4)])) P84 (by
    intro _ k_
    refine XS.bipush X76.here hx rfl (hb hby d18_271) ?_
    refine is_ X76 hx hby d18_273 (l' := #[r_ de, r_ b, i_ 4, i_ 4, r_ d, r_ rdt, i_ 3, i_ (((((0 : Int32) ||| (s0 <<< ((18 : Int32) &&& 31))) ||| (s1 <<< ((12 : Int32) &&& 31))) ||| (s2 <<< ((6 : Int32) &&& 31))) ||| (s3 <<< ((0 : Int32) &&& 31))), i_ 18, i_ s3, u_]) rfl ?_
    refine XS.iconst X76.here hx rfl (hb hby d18_275) ?_
    refine is_ X76 hx hby d18_276 (l' := #[r_ de, r_ b, i_ 4, i_ 4, r_ d, r_ rdt, i_ 3, i_ 0, i_ 18, i_ s3, u_]) rfl ?_
    refine gt_ X76 hx hby d18_278 (pc := 278) (pc' := 28) (by decide) ?_
    refine iN_ X76 hx hby d18_28 rfl ?_
    refine iN_ X76 hx hby d18_29 rfl ?_
    exact k_)
  have P86 := oS (T76.setTop (mkF m 285 #[r_ de, r_ b, i_ 4, i_ 4, r_ d, r_ rdt, i_ 3, i_ 0, i_ 18, i_ s3, u_] [(.int 6), (.int 18)])) P85 (by
    intro _ k_
    refine cY_ X76 hx hby d18_30 (pc := 30) (pc' := 281) (flt (by decide : ¬ ((4 : Int32) < (4 : Int32)))).2.1 (by decide) ?_
    refine il_ X76 hx hby d18_281 rfl ?_
    refine XS.bipush X76.here hx rfl (hb hby d18_283) ?_
    exact k_)
  have P87 := oS (T76.setTop (mkF m 307 #[r_ de, r_ b, i_ 4, i_ 4, r_ d, r_ rdt, i_ 3, i_ 0, i_ 18, i_ s3, u_] [(.int 18)])) P86 (by
    intro _ k_
    refine cY_ X76 hx hby d18_285 (pc := 285) (pc' := 305) (feq (by decide : ¬ ((18 : Int32) = (6 : Int32)))).2 (by decide) ?_
    refine il_ X76 hx hby d18_305 rfl ?_
    exact k_)
  have P88 := oS (T76.setTop (mkF m 345 #[r_ de, r_ b, i_ 4, i_ 4, r_ d, r_ rdt, i_ 3, i_ 0, i_ 18, i_ s3, u_] [(.int 12), (.int 18)])) P87 (by
    intro _ k_
    refine fY_ X76 hx hby d18_307 (pc := 307) (pc' := 341) ((if0 _ _).trans (feq (by decide : ¬ ((18 : Int32) = (0 : Int32)))).2) (by decide) ?_
    refine il_ X76 hx hby d18_341 rfl ?_
    refine XS.bipush X76.here hx rfl (hb hby d18_343) ?_
    exact k_)
  have P89 := oS (T76.setTop (mkF m 360 #[r_ de, r_ b, i_ 4, i_ 4, r_ d, r_ rdt, i_ 3, i_ 0, i_ 18, i_ s3, u_] [(.int 4), (.int 4)])) P88 (by
    intro _ k_
    refine cY_ X76 hx hby d18_345 (pc := 345) (pc' := 358) (feq (by decide : ¬ ((18 : Int32) = (12 : Int32)))).2 (by decide) ?_
    refine iN_ X76 hx hby d18_358 rfl ?_
    refine iN_ X76 hx hby d18_359 rfl ?_
    exact k_)
  have P90 := oS (T76.setTop (mkF m 418 #[r_ de, r_ b, i_ 4, i_ 4, r_ d, r_ rdt, i_ 3, i_ 0, i_ 18, i_ s3, u_] [(.int 3)])) P89 (by
    intro _ k_
    refine cY_ X76 hx hby d18_360 (pc := 360) (pc' := 416) (flt (by decide : ¬ ((4 : Int32) < (4 : Int32)))).2.1 (by decide) ?_
    refine il_ X76 hx hby d18_416 rfl ?_
    exact k_)
  rw [hy0, hy1, hy2] at V76
  exact own_out X76 hlk (v := some (.int 3)) (own_hv hrt) P90 (fun _ q_ => retI X76 hx hrt (hb hby d18_418) q_) e76 ⟨rfl, N76, f82, V76⟩ (by decide)
def Q_decB_4 (Z : State) (de : Addr) (b : Addr) (k : ClassId) (x0 : Int32) (x1 : Int32) (x2 : Int32) (x3 : Int32) (s0 : Int32) (s1 : Int32) (s2 : Int32) (s3 : Int32) (y0 : Int32) (y1 : Int32) (y2 : Int32) (rdt : Addr) (kdt : ClassId) (h0 : Heap) (n0 : Nat) (v_ : Option Value) (h : Heap) (L_ : List Loc) : Prop := ∃ (xq : Addr) (kk : ClassId), v_ = some (.ref xq) ∧ Fr n0 L_ ∧ Keep h0 h [] ∧ h0.size ≤ xq ∧ Arv Z h xq kk .byte (3 : Int32) [(.int y0), (.int y1), (.int y2)] (.int 0) ∧ Exa Z h xq "[B"
set_option maxRecDepth 65536 in
set_option maxHeartbeats 40000000 in
theorem rm_decB_4 (l : Launch) (Z : State) (a0 : Array Value) (hw : ∀ d ∈ tables_1, d.before a0 Z = true) (ws : List Jvm.Cond) (de : Addr) (b : Addr) (k : ClassId) (x0 : Int32) (x1 : Int32) (x2 : Int32) (x3 : Int32) (s0 : Int32) (s1 : Int32) (s2 : Int32) (s3 : Int32) (y0 : Int32) (y1 : Int32) (y2 : Int32) (rdt : Addr) (kdt : ClassId) (h0 : Heap) (n0 : Nat) (Z0 : n0 ≤ h0.size) (O : Old Z n0 h0) (Sdt : Sta Z Z.heap "java/util/Base64$Decoder" "fromBase64URL" "[I" (.ref rdt)) (Vdt : Arv Z Z.heap rdt kdt .int (256 : Int32) own_dec (.int 0)) (Ed : Exa Z h0 de "java/util/Base64$Decoder") (Fu : Fld Z h0 de "java/util/Base64$Decoder" "isURL" "Z" (.int 1)) (Fm : Fld Z h0 de "java/util/Base64$Decoder" "isMIME" "Z" (.int 0)) (Vb : Arv Z h0 b k .byte (4 : Int32) [(.int x0), (.int x1), (.int x2), (.int x3)] (.int 0)) (h61 : ¬ (x3 = (61 : Int32))) (hj0 : ¬ (x0 &&& 255) < 0 ∧ (x0 &&& 255) < (256 : Int32)) (hd0 : own_dec.getD (x0 &&& 255).toNatClampNeg (.int 0) = .int s0) (hs0 : ¬ (s0 < (0 : Int32))) (hj1 : ¬ (x1 &&& 255) < 0 ∧ (x1 &&& 255) < (256 : Int32)) (hd1 : own_dec.getD (x1 &&& 255).toNatClampNeg (.int 0) = .int s1) (hs1 : ¬ (s1 < (0 : Int32))) (hj2 : ¬ (x2 &&& 255) < 0 ∧ (x2 &&& 255) < (256 : Int32)) (hd2 : own_dec.getD (x2 &&& 255).toNatClampNeg (.int 0) = .int s2) (hs2 : ¬ (s2 < (0 : Int32))) (hj3 : ¬ (x3 &&& 255) < 0 ∧ (x3 &&& 255) < (256 : Int32)) (hd3 : own_dec.getD (x3 &&& 255).toNatClampNeg (.int 0) = .int s3) (hs3 : ¬ (s3 < (0 : Int32))) (hy0 : (((((((0 : Int32) ||| (s0 <<< ((18 : Int32) &&& 31))) ||| (s1 <<< ((12 : Int32) &&& 31))) ||| (s2 <<< ((6 : Int32) &&& 31))) ||| (s3 <<< ((0 : Int32) &&& 31))) >>> ((16 : Int32) &&& 31)).toInt8.toInt32).toInt8.toInt32 = y0) (hy1 : (((((((0 : Int32) ||| (s0 <<< ((18 : Int32) &&& 31))) ||| (s1 <<< ((12 : Int32) &&& 31))) ||| (s2 <<< ((6 : Int32) &&& 31))) ||| (s3 <<< ((0 : Int32) &&& 31))) >>> ((8 : Int32) &&& 31)).toInt8.toInt32).toInt8.toInt32 = y1) (hy2 : ((((((0 : Int32) ||| (s0 <<< ((18 : Int32) &&& 31))) ||| (s1 <<< ((12 : Int32) &&& 31))) ||| (s2 <<< ((6 : Int32) &&& 31))) ||| (s3 <<< ((0 : Int32) &&& 31))).toInt8.toInt32).toInt8.toInt32 = y2) :
    own_MF l yM16 (.code yM16 cB16 4 (some (.array .byte))) ws ⟨1, 1, 3, 22⟩ #[(.ref de), (.ref b)] Z h0 own_T (Q_decB_4 Z de b k x0 x1 x2 x3 s0 s1 s2 s3 y0 y1 y2 rdt kdt h0 n0) := by
  refine own_in "java/util/Base64$Decoder" rfl (plainFor_of_name pn3) hisR (fun m => ef16RR m de b) ?_
  intro p e s m below meth c s₁ A_ hx hby hml hown hnm hrt hlk hZ _ X0 e0 pre0
  have N0 := Fr.nil n0
  have P1 := oS (s₁.setTop (mkF m 4 #[r_ de, r_ b, u_, u_] [(.ref b), (.int 0), (.ref b), (.ref de)])) pre0 (by
    intro _ k_
    refine aN_ X0 hx hby d16_0 rfl rfl ?_
    refine aN_ X0 hx hby d16_1 rfl rfl ?_
    refine XS.iconst X0.here hx rfl (hb hby d16_2) ?_
    refine aN_ X0 hx hby d16_3 rfl rfl ?_
    exact k_)
  obtain ⟨cl2, Ar2, q2, S2, M2, H2, G2⟩ := id Vb
  have P3 := oS (s₁.setTop (mkF m 5 #[r_ de, r_ b, u_, u_] [(.int 4), (.int 0), (.ref b), (.ref de)])) P1 (by
    intro _ k_
    refine X0.arraylength hx (by rw [e0]; exact Ar2.1) (State.isArrayOf_alike hZ.alike Ar2.2.1) (g := (mkF m 4 #[r_ de, r_ b, u_, u_] [(.ref b), (.int 0), (.ref b), (.ref de)])) rfl rfl (hb hby d16_4) _ ?_
    rw [len_of S2 M2]
    exact k_)
  obtain ⟨_, T4, L4, X4, hQ4, P4c⟩ := own_cP (W := 0) (rm_dol_4 l Z a0 hw [] de b k x0 x1 x2 x3 rdt kdt h0 n0 Z0 O Sdt Vdt Fu Fm Vb h61) X0 hx hZ (fun _ _ => trivial) hown Ed (own_w hw 92 rfl) (own_w hw 94 rfl) (own_w hw 95 rfl) (own_w hw 93 rfl) (own_w hw 57 rfl) (own_w hw 96 rfl) (by decide) P3 hml rfl [(.ref b), (.int 0), (.int 4)] [] rfl rfl rfl pd8 rfl (hb hby d16_5) e0 (by decide)
  obtain ⟨rfl, N4q, e4⟩ := hQ4
  have N4 := Fr.app N0 N4q
  have P5 := own_to (C := T4.setTop (mkF m 8 #[r_ de, r_ b, u_, u_] [(.int 3)])) P4c
  obtain ⟨T6, h6, k6, X6, e6, E6, A6, EA6, st6⟩ := newPE X4 hx hZ (own_w hw 23 rfl) e4 (g := (mkF m 8 #[r_ de, r_ b, u_, u_] [(.int 3)])) rfl (hb hby d16_8) rfl (by decide) (cap := 3) (by decide) (by decide) (by decide) (by decide) (ad := "[B") (by decide +kernel)
  obtain ⟨b6, g6⟩ : ∃ z, z = h0.size := ⟨_, rfl⟩
  rw [← g6] at A6 EA6 st6
  have ne_de_b6 : de ≠ b6 := Nat.ne_of_lt (Nat.lt_of_lt_of_le Fu.lt (Nat.le_of_eq g6.symm))
  have ne_b_b6 : b ≠ b6 := Nat.ne_of_lt (Nat.lt_of_lt_of_le Vb.lt (Nat.le_of_eq g6.symm))
  have g_b6 : n0 ≤ b6 := Nat.le_trans Z0 (Nat.le_of_eq g6.symm)
  have sz_b6 : h0.size ≤ b6 := Nat.le_trans (Keep.refl h0 []).1 (Nat.le_of_eq g6.symm)
  have f7 := O.ext E6
  have f8 := Fu.ext E6
  have f9 := Fm.ext E6
  have f10 := (Keep.refl h0 []).ext E6
  have f11 := Vb.ext E6
  have f12 := Ed.ext E6
  have Z13 : n0 ≤ h6.size := Nat.le_trans Z0 E6.1
  have V6 : Arv Z h6 b6 k6 .byte (3 : Int32) [(.int 0), (.int 0), (.int 0)] (.int 0) := (Arv.new A6 (by decide)).pad (pad_rep [] _ 3)
  have P14 := oS (T6.setTop (mkF m 10 #[r_ de, r_ b, u_, u_] [(.ref b6)])) P5 (fun t_ k_ => st6 t_ k_)
  have P15 := oS (T6.setTop (mkF m 15 #[r_ de, r_ b, r_ b6, u_] [(.ref b), (.int 0), (.ref b), (.ref de)])) P14 (by
    intro _ k_
    refine XS.astoreN X6.here hx rfl (hb hby d16_10) rfl rfl (l' := #[r_ de, r_ b, r_ b6, u_]) rfl ?_
    refine aN_ X6 hx hby d16_11 rfl rfl ?_
    refine aN_ X6 hx hby d16_12 rfl rfl ?_
    refine XS.iconst X6.here hx rfl (hb hby d16_13) ?_
    refine aN_ X6 hx hby d16_14 rfl rfl ?_
    exact k_)
  obtain ⟨cl16, Ar16, q16, S16, M16, H16, G16⟩ := id f11
  have P17 := oS (T6.setTop (mkF m 16 #[r_ de, r_ b, r_ b6, u_] [(.int 4), (.int 0), (.ref b), (.ref de)])) P15 (by
    intro _ k_
    refine X6.arraylength hx (by rw [e6]; exact Ar16.1) (State.isArrayOf_alike hZ.alike Ar16.2.1) (g := (mkF m 15 #[r_ de, r_ b, r_ b6, u_] [(.ref b), (.int 0), (.ref b), (.ref de)])) rfl rfl (hb hby d16_15) _ ?_
    rw [len_of S16 M16]
    exact k_)
  have P18 := oS (T6.setTop (mkF m 17 #[r_ de, r_ b, r_ b6, u_] [(.ref b6), (.int 4), (.int 0), (.ref b), (.ref de)])) P17 (by
    intro _ k_
    refine aN_ X6 hx hby d16_16 rfl rfl ?_
    exact k_)
  obtain ⟨_, T19, L19, X19, hQ19, P19c⟩ := own_cP (W := 0) (rm_dec0_4 l Z a0 hw [] de b k b6 k6 x0 x1 x2 x3 s0 s1 s2 s3 y0 y1 y2 rdt kdt h6 n0 Z13 f7 Sdt Vdt f8 f9 f11 V6 ne_b_b6 g_b6 ne_de_b6 hj0 hd0 hs0 hj1 hd1 hs1 hj2 hd2 hs2 hj3 hd3 hs3 hy0 hy1 hy2) X6 hx hZ (fun _ _ => trivial) hown f12 (own_w hw 104 rfl) (own_w hw 106 rfl) (own_w hw 107 rfl) (own_w hw 105 rfl) (own_w hw 57 rfl) (own_w hw 108 rfl) (by decide) P18 hml rfl [(.ref b), (.int 0), (.int 4), (.ref b6)] [] rfl rfl rfl pd9 rfl (hb hby d16_17) e6 (by decide)
  obtain ⟨rfl, N19q, K19, f20⟩ := hQ19
  have N19 := Fr.app N4 N19q
  have f24 := f10.trans K19 (allS (Or.inr sz_b6) all0)
  have f28 := EA6.keep K19
  have P30 := own_to (C := T19.setTop (mkF m 20 #[r_ de, r_ b, r_ b6, u_] [(.int 3)])) P19c
  have P31 := oS (T19.setTop (mkF m 23 #[r_ de, r_ b, r_ b6, i_ 3] [(.ref b6), (.int 3)])) P30 (by
    intro _ k_
    refine XS.istoreN X19.here hx rfl (hb hby d16_20) rfl (l' := #[r_ de, r_ b, r_ b6, i_ 3]) rfl ?_
    refine iN_ X19 hx hby d16_21 rfl ?_
    refine aN_ X19 hx hby d16_22 rfl rfl ?_
    exact k_)
  obtain ⟨cl32, Ar32, q32, S32, M32, H32, G32⟩ := id f20
  have P33 := oS (T19.setTop (mkF m 24 #[r_ de, r_ b, r_ b6, i_ 3] [(.int 3), (.int 3)])) P31 (by
    intro _ k_
    refine X19.arraylength hx Ar32.1 (State.isArrayOf_alike hZ.alike Ar32.2.1) (g := (mkF m 23 #[r_ de, r_ b, r_ b6, i_ 3] [(.ref b6), (.int 3)])) rfl rfl (hb hby d16_23) _ ?_
    rw [len_of S32 M32]
    exact k_)
  have P34 := oS (T19.setTop (mkF m 34 #[r_ de, r_ b, r_ b6, i_ 3] [(.ref b6)])) P33 (by
    intro _ k_
    refine cY_ X19 hx hby d16_24 (pc := 24) (pc' := 33) (teq (by decide : (3 : Int32) = (3 : Int32))).1 (by decide) ?_
    refine aN_ X19 hx hby d16_33 rfl rfl ?_
    exact k_)
  exact own_out X19 hlk (v := some (.ref b6)) (own_hv hrt) P34 (fun _ q_ => retOut X19 hx hrt rfl (Or.inr (Or.inr (Or.inr (Or.inr ⟨rfl, rfl, rfl⟩)))) (hb hby d16_34) q_) (rfl : T19.heap = _) ⟨b6, k6, rfl, N19, f24, sz_b6, f20, f28⟩ (by decide)
def Q_decS_4 (Z : State) (de : Addr) (a : Addr) (b : Addr) (k : ClassId) (x0 : Int32) (x1 : Int32) (x2 : Int32) (x3 : Int32) (s0 : Int32) (s1 : Int32) (s2 : Int32) (s3 : Int32) (y0 : Int32) (y1 : Int32) (y2 : Int32) (rdt : Addr) (kdt : ClassId) (riso : Addr) (rutf : Addr) (cs : Int32) (h0 : Heap) (n0 : Nat) (v_ : Option Value) (h : Heap) (L_ : List Loc) : Prop := ∃ (xq : Addr) (kk : ClassId), v_ = some (.ref xq) ∧ Fr n0 L_ ∧ Keep h0 h [] ∧ h0.size ≤ xq ∧ Arv Z h xq kk .byte (3 : Int32) [(.int y0), (.int y1), (.int y2)] (.int 0) ∧ Exa Z h xq "[B"
set_option maxRecDepth 65536 in
set_option maxHeartbeats 40000000 in
theorem rm_decS_4 (l : Launch) (Z : State) (a0 : Array Value) (hw : ∀ d ∈ tables_1, d.before a0 Z = true) (ws : List Jvm.Cond) (de : Addr) (a : Addr) (b : Addr) (k : ClassId) (x0 : Int32) (x1 : Int32) (x2 : Int32) (x3 : Int32) (s0 : Int32) (s1 : Int32) (s2 : Int32) (s3 : Int32) (y0 : Int32) (y1 : Int32) (y2 : Int32) (rdt : Addr) (kdt : ClassId) (riso : Addr) (rutf : Addr) (cs : Int32) (h0 : Heap) (n0 : Nat) (Z0 : n0 ≤ h0.size) (O : Old Z n0 h0) (Scs : Sta Z Z.heap "java/lang/String" "COMPACT_STRINGS" "Z" (.int cs)) (hcs : ¬ (cs = (0 : Int32))) (Siso : Sta Z Z.heap "sun/nio/cs/ISO_8859_1" "INSTANCE" "Lsun/nio/cs/ISO_8859_1;" (.ref riso)) (Sutf : Sta Z Z.heap "sun/nio/cs/UTF_8" "INSTANCE" "Lsun/nio/cs/UTF_8;" (.ref rutf)) (nci : riso ≠ rutf) (Sdt : Sta Z Z.heap "java/util/Base64$Decoder" "fromBase64URL" "[I" (.ref rdt)) (Vdt : Arv Z Z.heap rdt kdt .int (256 : Int32) own_dec (.int 0)) (Ed : Exa Z h0 de "java/util/Base64$Decoder") (Fu : Fld Z h0 de "java/util/Base64$Decoder" "isURL" "Z" (.int 1)) (Fm : Fld Z h0 de "java/util/Base64$Decoder" "isMIME" "Z" (.int 0)) (Ea : Exa Z h0 a "java/lang/String") (Fc : Fld Z h0 a "java/lang/String" "coder" "B" (.int 0)) (Fv : Fld Z h0 a "java/lang/String" "value" "[B" (.ref b)) (Vb : Arv Z h0 b k .byte (4 : Int32) [(.int x0), (.int x1), (.int x2), (.int x3)] (.int 0)) (Eb : Exa Z h0 b "[B") (h61 : ¬ (x3 = (61 : Int32))) (hj0 : ¬ (x0 &&& 255) < 0 ∧ (x0 &&& 255) < (256 : Int32)) (hd0 : own_dec.getD (x0 &&& 255).toNatClampNeg (.int 0) = .int s0) (hs0 : ¬ (s0 < (0 : Int32))) (hj1 : ¬ (x1 &&& 255) < 0 ∧ (x1 &&& 255) < (256 : Int32)) (hd1 : own_dec.getD (x1 &&& 255).toNatClampNeg (.int 0) = .int s1) (hs1 : ¬ (s1 < (0 : Int32))) (hj2 : ¬ (x2 &&& 255) < 0 ∧ (x2 &&& 255) < (256 : Int32)) (hd2 : own_dec.getD (x2 &&& 255).toNatClampNeg (.int 0) = .int s2) (hs2 : ¬ (s2 < (0 : Int32))) (hj3 : ¬ (x3 &&& 255) < 0 ∧ (x3 &&& 255) < (256 : Int32)) (hd3 : own_dec.getD (x3 &&& 255).toNatClampNeg (.int 0) = .int s3) (hs3 : ¬ (s3 < (0 : Int32))) (hy0 : (((((((0 : Int32) ||| (s0 <<< ((18 : Int32) &&& 31))) ||| (s1 <<< ((12 : Int32) &&& 31))) ||| (s2 <<< ((6 : Int32) &&& 31))) ||| (s3 <<< ((0 : Int32) &&& 31))) >>> ((16 : Int32) &&& 31)).toInt8.toInt32).toInt8.toInt32 = y0) (hy1 : (((((((0 : Int32) ||| (s0 <<< ((18 : Int32) &&& 31))) ||| (s1 <<< ((12 : Int32) &&& 31))) ||| (s2 <<< ((6 : Int32) &&& 31))) ||| (s3 <<< ((0 : Int32) &&& 31))) >>> ((8 : Int32) &&& 31)).toInt8.toInt32).toInt8.toInt32 = y1) (hy2 : ((((((0 : Int32) ||| (s0 <<< ((18 : Int32) &&& 31))) ||| (s1 <<< ((12 : Int32) &&& 31))) ||| (s2 <<< ((6 : Int32) &&& 31))) ||| (s3 <<< ((0 : Int32) &&& 31))).toInt8.toInt32).toInt8.toInt32 = y2) :
    own_MF l yM11 (.code yM11 cB11 2 (some (.array .byte))) ws ⟨5, 2, 7, 76⟩ #[(.ref de), (.ref a)] Z h0 own_T (Q_decS_4 Z de a b k x0 x1 x2 x3 s0 s1 s2 s3 y0 y1 y2 rdt kdt riso rutf cs h0 n0) := by
  refine own_in "java/util/Base64$Decoder" rfl (plainFor_of_name pn3) hisR (fun m => ef11RR m de a) ?_
  intro p e s m below meth c s₁ A_ hx hby hml hown hnm hrt hlk hZ _ X0 e0 pre0
  have N0 := Fr.nil n0
  have P1 := oS (s₁.setTop (mkF m 2 #[r_ de, r_ a] [(.ref a), (.ref de)])) pre0 (by
    intro _ k_
    refine aN_ X0 hx hby d11_0 rfl rfl ?_
    refine aN_ X0 hx hby d11_1 rfl rfl ?_
    exact k_)
  obtain ⟨T2, X2, e2, st2⟩ := getS2 X0 hx hZ hown (host := "") (Or.inl (own_w hw 59 rfl)) Via.refl e0 (Siso.ext O.2) (g := (mkF m 2 #[r_ de, r_ a] [(.ref a), (.ref de)])) rfl (hb hby d11_2)
  have P3 := oS (T2.setTop (mkF m 5 #[r_ de, r_ a] [(.ref riso), (.ref a), (.ref de)])) P1 (fun t_ k_ => st2 t_ k_)
  obtain ⟨_, T4, L4, X4, hQ4, P4c⟩ := own_cV (W := 1) (rm_getB l Z a0 hw [] a b k (4 : Int32) [(.int x0), (.int x1), (.int x2), (.int x3)] riso rutf cs h0 n0 Z0 O Scs hcs Siso Sutf nci Ea Fc Fv Vb Eb (by decide)) X2 hx hZ (fun _ _ => trivial) hown Ea (own_w hw 61 rfl) (own_w hw 62 rfl) (own_w hw 64 rfl) (own_w hw 63 rfl) (own_w hw 7 rfl) (own_w hw 65 rfl) (by decide) P3 hml rfl [(.ref riso)] [(.ref de)] rfl rfl rfl pd10 rfl (hb hby d11_5) e2 (by decide)
  obtain ⟨xq4, rfl, N4q, K4, f5, f6, f7⟩ := hQ4
  have N4 := Fr.app N0 N4q
  have f8 := O.keep K4 all0
  have f9 := Fu.keep K4 nin0
  have f10 := Fm.keep K4 nin0
  have f11 := (Keep.refl h0 []).trans K4 all0
  have f17 := Ed.keep K4
  have Z18 : n0 ≤ T4.heap.size := Nat.le_trans Z0 K4.1
  have P19 := own_to (C := T4.setTop (mkF m 8 #[r_ de, r_ a] [(.ref xq4), (.ref de)])) P4c
  obtain ⟨_, T20, L20, X20, hQ20, P20c⟩ := own_cV (W := 0) (rm_decB_4 l Z a0 hw [] de xq4 k x0 x1 x2 x3 s0 s1 s2 s3 y0 y1 y2 rdt kdt T4.heap n0 Z18 f8 Sdt Vdt f17 f9 f10 f6 h61 hj0 hd0 hs0 hj1 hd1 hs1 hj2 hd2 hs2 hj3 hd3 hs3 hy0 hy1 hy2) X4 hx hZ (fun _ _ => trivial) hown f17 (own_w hw 87 rfl) (own_w hw 88 rfl) (own_w hw 90 rfl) (own_w hw 89 rfl) (own_w hw 57 rfl) (own_w hw 91 rfl) (by decide) P19 hml rfl [(.ref xq4)] [] rfl rfl rfl pd11 rfl (hb hby d11_8) (rfl : T4.heap = _) (by decide)
  obtain ⟨xq20, kk20, rfl, N20q, K20, f21, f22, f23⟩ := hQ20
  have N20 := Fr.app N4 N20q
  have sz_xq20 : h0.size ≤ xq20 := Nat.le_trans f11.1 f21
  have f27 := f11.trans K20 all0
  have P37 := own_to (C := T20.setTop (mkF m 11 #[r_ de, r_ a] [(.ref xq20)])) P20c
  exact own_out X20 hlk (v := some (.ref xq20)) (own_hv hrt) P37 (fun _ q_ => retOut X20 hx hrt rfl (Or.inr (Or.inr (Or.inr (Or.inr ⟨rfl, rfl, rfl⟩)))) (hb hby d11_11) q_) (rfl : T20.heap = _) ⟨xq20, kk20, rfl, N20, f27, sz_xq20, f22, f23⟩ (by decide)
def Q_multiplyExact_4_1 (Z : State)  (h0 : Heap) (n0 : Nat) (v_ : Option Value) (h : Heap) (L_ : List Loc) : Prop := v_ = some (.int 4) ∧ Fr n0 L_ ∧ h = h0
set_option maxRecDepth 65536 in
set_option maxHeartbeats 40000000 in
theorem rm_multiplyExact_4_1 (l : Launch) (Z : State) (a0 : Array Value) (hw : ∀ d ∈ tables_1, d.before a0 Z = true) (ws : List Jvm.Cond)  (h0 : Heap) (n0 : Nat) (Z0 : n0 ≤ h0.size) :
    own_MF l yM22 (.code yM22 cB22 4 (some .int)) ws ⟨0, 0, 0, 0⟩ #[(.int 4), (.int 1)] Z h0 own_T (Q_multiplyExact_4_1 Z  h0 n0) := by
  refine own_in "java/lang/Math" rfl (Jvm.Free.JP.mathPlain rfl (by decide +kernel)) hisR (fun m => ef22II m (4 : Int32) (1 : Int32)) ?_
  intro p e s m below meth c s₁ A_ hx hby hml hown hnm hrt hlk hZ _ X0 e0 pre0
  have N0 := Fr.nil n0
  have P1 := oS (s₁.setTop (mkF m 11 #[i_ 4, i_ 1, .val (.long (((4 : Int32).toInt64) * ((1 : Int32).toInt64))), .second] [(.int (lcmpW (((((4 : Int32).toInt64) * ((1 : Int32).toInt64)).toInt32).toInt64) (((4 : Int32).toInt64) * ((1 : Int32).toInt64))))])) pre0 (by
    intro _ k_
    refine iN_ X0 hx hby d22_0 rfl ?_
    refine XS.i2l X0.here hx rfl (hb hby d22_1) rfl ?_
    refine iN_ X0 hx hby d22_2 rfl ?_
    refine XS.i2l X0.here hx rfl (hb hby d22_3) rfl ?_
    refine XS.lmul X0.here hx rfl (hb hby d22_4) rfl ?_
    refine XS.lstoreN X0.here hx rfl (hb hby d22_5) rfl (l' := #[i_ 4, i_ 1, .val (.long (((4 : Int32).toInt64) * ((1 : Int32).toInt64))), .second]) rfl ?_
    refine XS.lloadN X0.here hx rfl (hb hby d22_6) rfl ?_
    refine XS.l2i X0.here hx rfl (hb hby d22_7) rfl ?_
    refine XS.i2l X0.here hx rfl (hb hby d22_8) rfl ?_
    refine XS.lloadN X0.here hx rfl (hb hby d22_9) rfl ?_
    refine XS.lcmp X0.here hx rfl (hb hby d22_10) rfl ?_
    exact k_)
  have P2 := oS (s₁.setTop (mkF m 26 #[i_ 4, i_ 1, .val (.long (((4 : Int32).toInt64) * ((1 : Int32).toInt64))), .second] [(.int ((((4 : Int32).toInt64) * ((1 : Int32).toInt64)).toInt32))])) P1 (by
    intro _ k_
    refine fY_ X0 hx hby d22_11 (pc := 11) (pc' := 24) ((if0 _ _).trans (teq ((lw_eq _ _).mpr (by decide : (((((4 : Int32).toInt64) * ((1 : Int32).toInt64)).toInt32).toInt64) = (((4 : Int32).toInt64) * ((1 : Int32).toInt64))))).1) (by decide) ?_
    refine XS.lloadN X0.here hx rfl (hb hby d22_24) rfl ?_
    refine XS.l2i X0.here hx rfl (hb hby d22_25) rfl ?_
    exact k_)
  exact own_out X0 hlk (v := some (.int ((((4 : Int32).toInt64) * ((1 : Int32).toInt64)).toInt32))) (own_hv hrt) P2 (fun _ q_ => retI X0 hx hrt (hb hby d22_26) q_) e0 ⟨(congrArg (fun z : Int32 => some (Value.int z)) (by decide +kernel)), N0, rfl⟩ (by decide)
def Q_addExact_4_0 (Z : State)  (h0 : Heap) (n0 : Nat) (v_ : Option Value) (h : Heap) (L_ : List Loc) : Prop := v_ = some (.int 4) ∧ Fr n0 L_ ∧ h = h0
set_option maxRecDepth 65536 in
set_option maxHeartbeats 40000000 in
theorem rm_addExact_4_0 (l : Launch) (Z : State) (a0 : Array Value) (hw : ∀ d ∈ tables_1, d.before a0 Z = true) (ws : List Jvm.Cond)  (h0 : Heap) (n0 : Nat) (Z0 : n0 ≤ h0.size) :
    own_MF l yM23 (.code yM23 cB23 3 (some .int)) ws ⟨0, 0, 0, 0⟩ #[(.int 4), (.int 0)] Z h0 own_T (Q_addExact_4_0 Z  h0 n0) := by
  refine own_in "java/lang/Math" rfl (Jvm.Free.JP.mathPlain rfl (by decide +kernel)) hisR (fun m => ef23II m (4 : Int32) (0 : Int32)) ?_
  intro p e s m below meth c s₁ A_ hx hby hml hown hnm hrt hlk hZ _ X0 e0 pre0
  have N0 := Fr.nil n0
  have P1 := oS (s₁.setTop (mkF m 11 #[i_ 4, i_ 0, i_ 4] [(.int 0)])) pre0 (by
    intro _ k_
    refine iN_ X0 hx hby d23_0 rfl ?_
    refine iN_ X0 hx hby d23_1 rfl ?_
    refine XS.iadd X0.here hx rfl (hb hby d23_2) rfl ?_
    show Steps p.tables e below (s₁.setTop (mkF m 3 #[i_ 4, i_ 0, u_] [(.int 4)])) _
    refine XS.istoreN X0.here hx rfl (hb hby d23_3) rfl (l' := #[i_ 4, i_ 0, i_ 4]) rfl ?_
    refine iN_ X0 hx hby d23_4 rfl ?_
    refine iN_ X0 hx hby d23_5 rfl ?_
    refine XS.ixor X0.here hx rfl (hb hby d23_6) rfl ?_
    show Steps p.tables e below (s₁.setTop (mkF m 7 #[i_ 4, i_ 0, i_ 4] [(.int 0)])) _
    refine iN_ X0 hx hby d23_7 rfl ?_
    refine iN_ X0 hx hby d23_8 rfl ?_
    refine XS.ixor X0.here hx rfl (hb hby d23_9) rfl ?_
    show Steps p.tables e below (s₁.setTop (mkF m 10 #[i_ 4, i_ 0, i_ 4] [(.int 4), (.int 0)])) _
    refine XS.iand X0.here hx rfl (hb hby d23_10) rfl ?_
    exact k_)
  have P2 := oS (s₁.setTop (mkF m 25 #[i_ 4, i_ 0, i_ 4] [(.int 4)])) P1 (by
    intro _ k_
    refine fY_ X0 hx hby d23_11 (pc := 11) (pc' := 24) ((if0 _ _).trans (flt (by decide : ¬ ((0 : Int32) < (0 : Int32)))).2.1) (by decide) ?_
    refine iN_ X0 hx hby d23_24 rfl ?_
    exact k_)
  exact own_out X0 hlk (v := some (.int 4)) (own_hv hrt) P2 (fun _ q_ => retI X0 hx hrt (hb hby d23_25) q_) e0 ⟨(congrArg (fun z : Int32 => some (Value.int z)) (by decide +kernel)), N0, rfl⟩ (by decide)
def Q_eol_3 (Z : State) (en : Addr) (h0 : Heap) (n0 : Nat) (v_ : Option Value) (h : Heap) (L_ : List Loc) : Prop := v_ = some (.int 4) ∧ Fr n0 L_ ∧ h = h0
set_option maxRecDepth 65536 in
set_option maxHeartbeats 40000000 in
theorem rm_eol_3 (l : Launch) (Z : State) (a0 : Array Value) (hw : ∀ d ∈ tables_1, d.before a0 Z = true) (ws : List Jvm.Cond) (en : Addr) (h0 : Heap) (n0 : Nat) (Z0 : n0 ≤ h0.size) (O : Old Z n0 h0) (Fp : Fld Z h0 en "java/util/Base64$Encoder" "doPadding" "Z" (.int 0)) (Fl : Fld Z h0 en "java/util/Base64$Encoder" "linemax" "I" (.int (-1 : Int32))) (Fe : Fld Z h0 en "java/util/Base64$Encoder" "isURL" "Z" (.int 1)) :
    own_MF l yM34 (.codeWith yM34 cB34 5 (some .int) [(2, 79, 82, 33)]) ws ⟨1, 0, 0, 15⟩ #[(.ref en), (.int 3), (.int 1)] Z h0 own_T (Q_eol_3 Z en h0 n0) := by
  refine own_in "java/util/Base64$Encoder" rfl (plainFor_of_name pn4) hisWith (fun m => ef34RII m en (3 : Int32) (1 : Int32)) ?_
  intro p e s m below meth c s₁ A_ hx hby hml hown hnm hrt hlk hZ _ X0 e0 pre0
  have N0 := Fr.nil n0
  have P1 := oS (s₁.setTop (mkF m 3 #[r_ en, i_ 3, i_ 1, i_ 0, u_] [(.ref en)])) pre0 (by
    intro _ k_
    refine XS.iconst X0.here hx rfl (hb hby d34_0) ?_
    refine XS.istoreN X0.here hx rfl (hb hby d34_1) rfl (l' := #[r_ en, i_ 3, i_ 1, i_ 0, u_]) rfl ?_
    refine aN_ X0 hx hby d34_2 rfl rfl ?_
    exact k_)
  obtain ⟨T2, X2, e2, st2⟩ := getF X0 hx hZ hown (host := "") (Or.inl (own_w hw 130 rfl)) Via.refl e0 Fp (g := (mkF m 3 #[r_ en, i_ 3, i_ 1, i_ 0, u_] [(.ref en)])) rfl rfl (hb hby d34_3)
  have P3 := oS (T2.setTop (mkF m 6 #[r_ en, i_ 3, i_ 1, i_ 0, u_] [(.int 0)])) P1 (fun t_ k_ => st2 t_ k_)
  have P4 := oS (T2.setTop (mkF m 33 #[r_ en, i_ 3, i_ 1, i_ 0, i_ 0] [(.int 1), (.int 4)])) P3 (by
    intro _ k_
    refine fY_ X2 hx hby d34_6 (pc := 6) (pc' := 24) ((if0 _ _).trans (teq (by decide : (0 : Int32) = (0 : Int32))).1) (by decide) ?_
    refine iN_ X2 hx hby d34_24 rfl ?_
    refine XS.iconst X2.here hx rfl (hb hby d34_25) ?_
    refine iremM X2 hx rfl (hb hby d34_26) rfl (by decide) ?_
    show Steps p.tables e below (T2.setTop (mkF m 27 #[r_ en, i_ 3, i_ 1, i_ 0, u_] [(.int 0)])) _
    refine is_ X2 hx hby d34_27 (l' := #[r_ en, i_ 3, i_ 1, i_ 0, i_ 0]) rfl ?_
    refine XS.iconst X2.here hx rfl (hb hby d34_29) ?_
    refine iN_ X2 hx hby d34_30 rfl ?_
    refine XS.iconst X2.here hx rfl (hb hby d34_31) ?_
    refine XS.idiv X2.here hx rfl (hb hby d34_32) rfl (by decide) ?_
    exact k_)
  obtain ⟨_, T5, L5, X5, hQ5, P5c⟩ := own_cS (W := 0) (rm_multiplyExact_4_1 l Z a0 hw []  h0 n0 Z0 ) X2 hx hZ (fun _ _ => trivial) hown (own_w hw 132 rfl) (own_w hw 133 rfl) (own_w hw 134 rfl) (own_w hw 135 rfl) (by decide) P4 hml rfl [(.int 4), (.int 1)] [] rfl rfl rfl pd12 rfl (hb hby d34_33) e2 (by decide)
  obtain ⟨rfl, N5q, e5⟩ := hQ5
  have N5 := Fr.app N0 N5q
  have P6 := own_to (C := T5.setTop (mkF m 36 #[r_ en, i_ 3, i_ 1, i_ 0, i_ 0] [(.int 4)])) P5c
  have P7 := oS (T5.setTop (mkF m 38 #[r_ en, i_ 3, i_ 1, i_ 0, i_ 0] [(.int 0), (.int 4)])) P6 (by
    intro _ k_
    refine il_ X5 hx hby d34_36 rfl ?_
    exact k_)
  have P8 := oS (T5.setTop (mkF m 49 #[r_ en, i_ 3, i_ 1, i_ 0, i_ 0] [(.int 0), (.int 4)])) P7 (by
    intro _ k_
    refine XS.ifNo X5.here hx rfl (hb hby d34_38) rfl ((if0 _ _).trans (teq (by decide : (0 : Int32) = (0 : Int32))).2) ?_
    refine XS.iconst X5.here hx rfl (hb hby d34_41) ?_
    refine gt_ X5 hx hby d34_42 (pc := 42) (pc' := 49) (by decide) ?_
    exact k_)
  obtain ⟨_, T9, L9, X9, hQ9, P9c⟩ := own_cS (W := 0) (rm_addExact_4_0 l Z a0 hw []  h0 n0 Z0 ) X5 hx hZ (fun _ _ => trivial) hown (own_w hw 136 rfl) (own_w hw 137 rfl) (own_w hw 134 rfl) (own_w hw 138 rfl) (by decide) P8 hml rfl [(.int 4), (.int 0)] [] rfl rfl rfl pd12 rfl (hb hby d34_49) e5 (by decide)
  obtain ⟨rfl, N9q, e9⟩ := hQ9
  have N9 := Fr.app N5 N9q
  have P10 := own_to (C := T9.setTop (mkF m 52 #[r_ en, i_ 3, i_ 1, i_ 0, i_ 0] [(.int 4)])) P9c
  have P11 := oS (T9.setTop (mkF m 54 #[r_ en, i_ 3, i_ 1, i_ 4, i_ 0] [(.ref en)])) P10 (by
    intro _ k_
    refine XS.istoreN X9.here hx rfl (hb hby d34_52) rfl (l' := #[r_ en, i_ 3, i_ 1, i_ 4, i_ 0]) rfl ?_
    refine aN_ X9 hx hby d34_53 rfl rfl ?_
    exact k_)
  obtain ⟨T12, X12, e12, st12⟩ := getF X9 hx hZ hown (host := "") (Or.inl (own_w hw 139 rfl)) Via.refl e9 Fl (g := (mkF m 54 #[r_ en, i_ 3, i_ 1, i_ 4, i_ 0] [(.ref en)])) rfl rfl (hb hby d34_54)
  have P13 := oS (T12.setTop (mkF m 57 #[r_ en, i_ 3, i_ 1, i_ 4, i_ 0] [(.int (-1 : Int32))])) P11 (fun t_ k_ => st12 t_ k_)
  have P14 := oS (T12.setTop (mkF m 101 #[r_ en, i_ 3, i_ 1, i_ 4, i_ 0] [(.int 4)])) P13 (by
    intro _ k_
    refine fY_ X12 hx hby d34_57 (pc := 57) (pc' := 79) ((if0 _ _).trans (flt (by decide : ¬ ((0 : Int32) < (-1 : Int32)))).2.2.2) (by decide) ?_
    refine gt_ X12 hx hby d34_79 (pc := 79) (pc' := 100) (by decide) ?_
    refine iN_ X12 hx hby d34_100 rfl ?_
    exact k_)
  exact own_out X12 hlk (v := some (.int 4)) (own_hv hrt) P14 (fun _ q_ => retI X12 hx hrt (hb hby d34_101) q_) e12 ⟨rfl, N9, rfl⟩ (by decide)
abbrev cB26 := jdk_2452_method_9_code
abbrev yM26 : MethodName := ⟨"java/util/Base64$Encoder", "encodeBlock", "([BII[BIZ)V"⟩
theorem d26_0 : own_d cB26 0 (.iload 6) 2 := by decide +kernel
theorem d26_2 : own_d cB26 2 (.ifCond .eq 9) 3 := by decide +kernel
theorem d26_5 : own_d cB26 5 (.getstatic 111) 3 := by decide +kernel
theorem d26_8 : own_d cB26 8 (.goto 6) 3 := by decide +kernel
theorem d26_14 : own_d cB26 14 (.astore 7) 2 := by decide +kernel
theorem d26_16 : own_d cB26 16 (.iload_n 2) 1 := by decide +kernel
theorem d26_17 : own_d cB26 17 (.istore 8) 2 := by decide +kernel
theorem d26_19 : own_d cB26 19 (.iload 5) 2 := by decide +kernel
theorem d26_21 : own_d cB26 21 (.istore 9) 2 := by decide +kernel
theorem d26_23 : own_d cB26 23 (.iload 8) 2 := by decide +kernel
theorem d26_25 : own_d cB26 25 (.iload_n 3) 1 := by decide +kernel
theorem d26_26 : own_d cB26 26 (.if_icmp .ge 126) 3 := by decide +kernel
theorem d26_29 : own_d cB26 29 (.aload_n 1) 1 := by decide +kernel
theorem d26_30 : own_d cB26 30 (.iload 8) 2 := by decide +kernel
theorem d26_32 : own_d cB26 32 (.iinc 8 1) 3 := by decide +kernel
theorem d26_35 : own_d cB26 35 (.baload) 1 := by decide +kernel
theorem d26_36 : own_d cB26 36 (.sipush 255) 3 := by decide +kernel
theorem d26_39 : own_d cB26 39 (.iand) 1 := by decide +kernel
theorem d26_40 : own_d cB26 40 (.bipush 16) 2 := by decide +kernel
theorem d26_42 : own_d cB26 42 (.ishl) 1 := by decide +kernel
theorem d26_43 : own_d cB26 43 (.aload_n 1) 1 := by decide +kernel
theorem d26_44 : own_d cB26 44 (.iload 8) 2 := by decide +kernel
theorem d26_46 : own_d cB26 46 (.iinc 8 1) 3 := by decide +kernel
theorem d26_49 : own_d cB26 49 (.baload) 1 := by decide +kernel
theorem d26_50 : own_d cB26 50 (.sipush 255) 3 := by decide +kernel
theorem d26_53 : own_d cB26 53 (.iand) 1 := by decide +kernel
theorem d26_54 : own_d cB26 54 (.bipush 8) 2 := by decide +kernel
theorem d26_56 : own_d cB26 56 (.ishl) 1 := by decide +kernel
theorem d26_57 : own_d cB26 57 (.ior) 1 := by decide +kernel
theorem d26_58 : own_d cB26 58 (.aload_n 1) 1 := by decide +kernel
theorem d26_59 : own_d cB26 59 (.iload 8) 2 := by decide +kernel
theorem d26_61 : own_d cB26 61 (.iinc 8 1) 3 := by decide +kernel
theorem d26_64 : own_d cB26 64 (.baload) 1 := by decide +kernel
theorem d26_65 : own_d cB26 65 (.sipush 255) 3 := by decide +kernel
theorem d26_68 : own_d cB26 68 (.iand) 1 := by decide +kernel
theorem d26_69 : own_d cB26 69 (.ior) 1 := by decide +kernel
theorem d26_70 : own_d cB26 70 (.istore 10) 2 := by decide +kernel
theorem d26_72 : own_d cB26 72 (.aload 4) 2 := by decide +kernel
theorem d26_74 : own_d cB26 74 (.iload 9) 2 := by decide +kernel
theorem d26_76 : own_d cB26 76 (.iinc 9 1) 3 := by decide +kernel
theorem d26_79 : own_d cB26 79 (.aload 7) 2 := by decide +kernel
theorem d26_81 : own_d cB26 81 (.iload 10) 2 := by decide +kernel
theorem d26_83 : own_d cB26 83 (.bipush 18) 2 := by decide +kernel
theorem d26_85 : own_d cB26 85 (.iushr) 1 := by decide +kernel
theorem d26_86 : own_d cB26 86 (.bipush 63) 2 := by decide +kernel
theorem d26_88 : own_d cB26 88 (.iand) 1 := by decide +kernel
theorem d26_89 : own_d cB26 89 (.caload) 1 := by decide +kernel
theorem d26_90 : own_d cB26 90 (.i2b) 1 := by decide +kernel
theorem d26_91 : own_d cB26 91 (.bastore) 1 := by decide +kernel
theorem d26_92 : own_d cB26 92 (.aload 4) 2 := by decide +kernel
theorem d26_94 : own_d cB26 94 (.iload 9) 2 := by decide +kernel
theorem d26_96 : own_d cB26 96 (.iinc 9 1) 3 := by decide +kernel
theorem d26_99 : own_d cB26 99 (.aload 7) 2 := by decide +kernel
theorem d26_101 : own_d cB26 101 (.iload 10) 2 := by decide +kernel
theorem d26_103 : own_d cB26 103 (.bipush 12) 2 := by decide +kernel
theorem d26_105 : own_d cB26 105 (.iushr) 1 := by decide +kernel
theorem d26_106 : own_d cB26 106 (.bipush 63) 2 := by decide +kernel
theorem d26_108 : own_d cB26 108 (.iand) 1 := by decide +kernel
theorem d26_109 : own_d cB26 109 (.caload) 1 := by decide +kernel
theorem d26_110 : own_d cB26 110 (.i2b) 1 := by decide +kernel
theorem d26_111 : own_d cB26 111 (.bastore) 1 := by decide +kernel
theorem d26_112 : own_d cB26 112 (.aload 4) 2 := by decide +kernel
theorem d26_114 : own_d cB26 114 (.iload 9) 2 := by decide +kernel
theorem d26_116 : own_d cB26 116 (.iinc 9 1) 3 := by decide +kernel
theorem d26_119 : own_d cB26 119 (.aload 7) 2 := by decide +kernel
theorem d26_121 : own_d cB26 121 (.iload 10) 2 := by decide +kernel
theorem d26_123 : own_d cB26 123 (.bipush 6) 2 := by decide +kernel
theorem d26_125 : own_d cB26 125 (.iushr) 1 := by decide +kernel
theorem d26_126 : own_d cB26 126 (.bipush 63) 2 := by decide +kernel
theorem d26_128 : own_d cB26 128 (.iand) 1 := by decide +kernel
theorem d26_129 : own_d cB26 129 (.caload) 1 := by decide +kernel
theorem d26_130 : own_d cB26 130 (.i2b) 1 := by decide +kernel
theorem d26_131 : own_d cB26 131 (.bastore) 1 := by decide +kernel
theorem d26_132 : own_d cB26 132 (.aload 4) 2 := by decide +kernel
theorem d26_134 : own_d cB26 134 (.iload 9) 2 := by decide +kernel
theorem d26_136 : own_d cB26 136 (.iinc 9 1) 3 := by decide +kernel
theorem d26_139 : own_d cB26 139 (.aload 7) 2 := by decide +kernel
theorem d26_141 : own_d cB26 141 (.iload 10) 2 := by decide +kernel
theorem d26_143 : own_d cB26 143 (.bipush 63) 2 := by decide +kernel
theorem d26_145 : own_d cB26 145 (.iand) 1 := by decide +kernel
theorem d26_146 : own_d cB26 146 (.caload) 1 := by decide +kernel
theorem d26_147 : own_d cB26 147 (.i2b) 1 := by decide +kernel
theorem d26_148 : own_d cB26 148 (.bastore) 1 := by decide +kernel
theorem d26_149 : own_d cB26 149 (.goto (-126)) 3 := by decide +kernel
theorem d26_152 : own_d cB26 152 (.return_) 1 := by decide +kernel
theorem ef26RRIIRII (m : MethodId) (x0 : Addr) (x1 : Addr) (x2 : Int32) (x3 : Int32) (x4 : Addr) (x5 : Int32) (x6 : Int32) : entryFrame m #[(.ref x0), (.ref x1), (.int x2), (.int x3), (.ref x4), (.int x5), (.int x6)] 11 = mkF m 0 #[r_ x0, r_ x1, i_ x2, i_ x3, r_ x4, i_ x5, i_ x6, u_, u_, u_, u_] [] := by first | (simp [entryFrame, mkF, argsToLocals, Value.category]; done) | rfl
def Q_encB_3 (Z : State) (en : Addr) (b : Addr) (k : ClassId) (d : Addr) (kd : ClassId) (y0 : Int32) (y1 : Int32) (y2 : Int32) (v0 : Int32) (v1 : Int32) (v2 : Int32) (v3 : Int32) (x0 : Int32) (x1 : Int32) (x2 : Int32) (x3 : Int32) (ret_ : Addr) (ket : ClassId) (h0 : Heap) (n0 : Nat) (v_ : Option Value) (h : Heap) (L_ : List Loc) : Prop := v_ = none ∧ Fr n0 L_ ∧ Keep h0 h [d] ∧ Arv Z h d kd .byte (4 : Int32) [(.int x0), (.int x1), (.int x2), (.int x3)] (.int 0)
set_option maxRecDepth 65536 in
set_option maxHeartbeats 40000000 in
theorem rm_encB_3 (l : Launch) (Z : State) (a0 : Array Value) (hw : ∀ d ∈ tables_1, d.before a0 Z = true) (ws : List Jvm.Cond) (en : Addr) (b : Addr) (k : ClassId) (d : Addr) (kd : ClassId) (y0 : Int32) (y1 : Int32) (y2 : Int32) (v0 : Int32) (v1 : Int32) (v2 : Int32) (v3 : Int32) (x0 : Int32) (x1 : Int32) (x2 : Int32) (x3 : Int32) (ret_ : Addr) (ket : ClassId) (h0 : Heap) (n0 : Nat) (Z0 : n0 ≤ h0.size) (O : Old Z n0 h0) (Set : Sta Z Z.heap "java/util/Base64$Encoder" "toBase64URL" "[C" (.ref ret_)) (Vet : Arv Z Z.heap ret_ ket .char (64 : Int32) own_enc (.int 0)) (Fp : Fld Z h0 en "java/util/Base64$Encoder" "doPadding" "Z" (.int 0)) (Fl : Fld Z h0 en "java/util/Base64$Encoder" "linemax" "I" (.int (-1 : Int32))) (Fe : Fld Z h0 en "java/util/Base64$Encoder" "isURL" "Z" (.int 1)) (Vb : Arv Z h0 b k .byte (3 : Int32) [(.int y0), (.int y1), (.int y2)] (.int 0)) (Vd : Arv Z h0 d kd .byte (4 : Int32) [(.int 0), (.int 0), (.int 0), (.int 0)] (.int 0)) (nbd : b ≠ d) (gd : n0 ≤ d) (nen : en ≠ d) (hk0 : ¬ (((((((y0 &&& 255) <<< ((16 : Int32) &&& 31)) ||| ((y1 &&& 255) <<< ((8 : Int32) &&& 31))) ||| (y2 &&& 255)).toUInt32 >>> ((18 : Int32) &&& 31).toUInt32).toInt32) &&& 63) < 0 ∧ (((((((y0 &&& 255) <<< ((16 : Int32) &&& 31)) ||| ((y1 &&& 255) <<< ((8 : Int32) &&& 31))) ||| (y2 &&& 255)).toUInt32 >>> ((18 : Int32) &&& 31).toUInt32).toInt32) &&& 63) < (64 : Int32)) (hv0 : own_enc.getD (((((((y0 &&& 255) <<< ((16 : Int32) &&& 31)) ||| ((y1 &&& 255) <<< ((8 : Int32) &&& 31))) ||| (y2 &&& 255)).toUInt32 >>> ((18 : Int32) &&& 31).toUInt32).toInt32) &&& 63).toNatClampNeg (.int 0) = .int v0) (hz0 : v0.toInt8.toInt32.toInt8.toInt32 = x0) (hk1 : ¬ (((((((y0 &&& 255) <<< ((16 : Int32) &&& 31)) ||| ((y1 &&& 255) <<< ((8 : Int32) &&& 31))) ||| (y2 &&& 255)).toUInt32 >>> ((12 : Int32) &&& 31).toUInt32).toInt32) &&& 63) < 0 ∧ (((((((y0 &&& 255) <<< ((16 : Int32) &&& 31)) ||| ((y1 &&& 255) <<< ((8 : Int32) &&& 31))) ||| (y2 &&& 255)).toUInt32 >>> ((12 : Int32) &&& 31).toUInt32).toInt32) &&& 63) < (64 : Int32)) (hv1 : own_enc.getD (((((((y0 &&& 255) <<< ((16 : Int32) &&& 31)) ||| ((y1 &&& 255) <<< ((8 : Int32) &&& 31))) ||| (y2 &&& 255)).toUInt32 >>> ((12 : Int32) &&& 31).toUInt32).toInt32) &&& 63).toNatClampNeg (.int 0) = .int v1) (hz1 : v1.toInt8.toInt32.toInt8.toInt32 = x1) (hk2 : ¬ (((((((y0 &&& 255) <<< ((16 : Int32) &&& 31)) ||| ((y1 &&& 255) <<< ((8 : Int32) &&& 31))) ||| (y2 &&& 255)).toUInt32 >>> ((6 : Int32) &&& 31).toUInt32).toInt32) &&& 63) < 0 ∧ (((((((y0 &&& 255) <<< ((16 : Int32) &&& 31)) ||| ((y1 &&& 255) <<< ((8 : Int32) &&& 31))) ||| (y2 &&& 255)).toUInt32 >>> ((6 : Int32) &&& 31).toUInt32).toInt32) &&& 63) < (64 : Int32)) (hv2 : own_enc.getD (((((((y0 &&& 255) <<< ((16 : Int32) &&& 31)) ||| ((y1 &&& 255) <<< ((8 : Int32) &&& 31))) ||| (y2 &&& 255)).toUInt32 >>> ((6 : Int32) &&& 31).toUInt32).toInt32) &&& 63).toNatClampNeg (.int 0) = .int v2) (hz2 : v2.toInt8.toInt32.toInt8.toInt32 = x2) (hk3 : ¬ (((((y0 &&& 255) <<< ((16 : Int32) &&& 31)) ||| ((y1 &&& 255) <<< ((8 : Int32) &&& 31))) ||| (y2 &&& 255)) &&& 63) < 0 ∧ (((((y0 &&& 255) <<< ((16 : Int32) &&& 31)) ||| ((y1 &&& 255) <<< ((8 : Int32) &&& 31))) ||| (y2 &&& 255)) &&& 63) < (64 : Int32)) (hv3 : own_enc.getD (((((y0 &&& 255) <<< ((16 : Int32) &&& 31)) ||| ((y1 &&& 255) <<< ((8 : Int32) &&& 31))) ||| (y2 &&& 255)) &&& 63).toNatClampNeg (.int 0) = .int v3) (hz3 : v3.toInt8.toInt32.toInt8.toInt32 = x3) :
    own_MF l yM26 (.code yM26 cB26 11 none) ws ⟨0, 0, 0, 0⟩ #[(.ref en), (.ref b), (.int 0), (.int 3), (.ref d), (.int 0), (.int 1)] Z h0 own_T (Q_encB_3 Z en b k d kd y0 y1 y2 v0 v1 v2 v3 x0 x1 x2 x3 ret_ ket h0 n0) := by
  refine own_in "java/util/Base64$Encoder" rfl (plainFor_of_name pn4) hisR (fun m => ef26RRIIRII m en b (0 : Int32) (3 : Int32) d (0 : Int32) (1 : Int32)) ?_
  intro p e s m below meth c s₁ A_ hx hby hml hown hnm hrt hlk hZ _ X0 e0 pre0
  have N0 := Fr.nil n0
  have P1 := oS (s₁.setTop (mkF m 2 #[r_ en, r_ b, i_ 0, i_ 3, r_ d, i_ 0, i_ 1, u_, u_, u_, u_] [(.int 1)])) pre0 (by
    intro _ k_
    refine il_ X0 hx hby d26_0 rfl ?_
    exact k_)
  have P2 := oS (s₁.setTop (mkF m 5 #[r_ en, r_ b, i_ 0, i_ 3, r_ d, i_ 0, i_ 1, u_, u_, u_, u_] [])) P1 (by
    intro _ k_
    refine XS.ifNo X0.here hx rfl (hb hby d26_2) rfl ((if0 _ _).trans (feq (by decide : ¬ ((1 : Int32) = (0 : Int32)))).1) ?_
    exact k_)
  obtain ⟨T3, X3, e3, st3⟩ := getS2 X0 hx hZ hown (host := "") (Or.inl (own_w hw 148 rfl)) Via.refl e0 (Set.ext O.2) (g := (mkF m 5 #[r_ en, r_ b, i_ 0, i_ 3, r_ d, i_ 0, i_ 1, u_, u_, u_, u_] [])) rfl (hb hby d26_5)
  have P4 := oS (T3.setTop (mkF m 8 #[r_ en, r_ b, i_ 0, i_ 3, r_ d, i_ 0, i_ 1, u_, u_, u_, u_] [(.ref ret_)])) P2 (fun t_ k_ => st3 t_ k_)
  have P5 := oS (T3.setTop (mkF m 26 #[r_ en, r_ b, i_ 0, i_ 3, r_ d, i_ 0, i_ 1, r_ ret_, i_ 0, i_ 0, u_] [(.int 3), (.int 0)])) P4 (by
    intro _ k_
    refine gt_ X3 hx hby d26_8 (pc := 8) (pc' := 14) (by decide) ?_
    refine XS.astore X3.here hx rfl (hb hby d26_14) rfl rfl (l' := #[r_ en, r_ b, i_ 0, i_ 3, r_ d, i_ 0, i_ 1, r_ ret_, u_, u_, u_]) rfl ?_
    refine iN_ X3 hx hby d26_16 rfl ?_
    refine is_ X3 hx hby d26_17 (l' := #[r_ en, r_ b, i_ 0, i_ 3, r_ d, i_ 0, i_ 1, r_ ret_, i_ 0, u_, u_]) rfl ?_
    refine il_ X3 hx hby d26_19 rfl ?_
    refine is_ X3 hx hby d26_21 (l' := #[r_ en, r_ b, i_ 0, i_ 3, r_ d, i_ 0, i_ 1, r_ ret_, i_ 0, i_ 0, u_]) rfl ?_
    refine il_ X3 hx hby d26_23 rfl ?_
    refine iN_ X3 hx hby d26_25 rfl ?_
    exact k_)
  have P6 := oS (T3.setTop (mkF m 35 #[r_ en, r_ b, i_ 0, i_ 3, r_ d, i_ 0, i_ 1, r_ ret_, i_ 1, i_ 0, u_] [(.int 0), (.ref b)])) P5 (by
    intro _ k_
    refine XS.icmpNo X3.here hx rfl (hb hby d26_26) rfl (tlt (by decide : (0 : Int32) < (3 : Int32))).2.1 ?_
    refine aN_ X3 hx hby d26_29 rfl rfl ?_
    refine il_ X3 hx hby d26_30 rfl ?_
    refine XS.iinc X3.here hx rfl (hb hby d26_32) rfl (l' := #[r_ en, r_ b, i_ 0, i_ 3, r_ d, i_ 0, i_ 1, r_ ret_, i_ 1, i_ 0, u_]) rfl ?_
    exact k_)
  obtain ⟨cl7, Ar7, q7, S7, M7, H7, G7⟩ := id Vb
  have hin7 := inb_of S7 (by decide : ¬ (0 : Int32) < 0 ∧ (0 : Int32) < (3 : Int32))
  have hat7 := Has.at H7 hin7 (v := .int y0) rfl
  have P8 := oS (T3.setTop (mkF m 36 #[r_ en, r_ b, i_ 0, i_ 3, r_ d, i_ 0, i_ 1, r_ ret_, i_ 1, i_ 0, u_] [(.int y0)])) P6 (by
    intro _ k_
    refine X3.baloadBytes hx (j := (0 : Int32)) (v := (.int y0)) (by rw [e3]; exact Ar7.1) (State.isArrayOf_alike hZ.alike Ar7.2.1) Ar7.2.2 hin7 hat7 (g := (mkF m 35 #[r_ en, r_ b, i_ 0, i_ 3, r_ d, i_ 0, i_ 1, r_ ret_, i_ 1, i_ 0, u_] [(.int 0), (.ref b)])) rfl rfl (hb hby d26_35) _ ?_
    exact k_)
  have P9 := oS (T3.setTop (mkF m 49 #[r_ en, r_ b, i_ 0, i_ 3, r_ d, i_ 0, i_ 1, r_ ret_, i_ 2, i_ 0, u_] [(.int 1), (.ref b), (.int ((y0 &&& 255) <<< ((16 : Int32) &&& 31)))])) P8 (by
    intro _ k_
    refine XS.sipush X3.here hx rfl (hb hby d26_36) ?_
    refine XS.iand X3.here hx rfl (hb hby d26_39) rfl ?_
    refine XS.bipush X3.here hx rfl (hb hby d26_40) ?_
    refine XS.ishl X3.here hx rfl (hb hby d26_42) rfl ?_
    refine aN_ X3 hx hby d26_43 rfl rfl ?_
    refine il_ X3 hx hby d26_44 rfl ?_
    refine XS.iinc X3.here hx rfl (hb hby d26_46) rfl (l' := #[r_ en, r_ b, i_ 0, i_ 3, r_ d, i_ 0, i_ 1, r_ ret_, i_ 2, i_ 0, u_]) rfl ?_
    exact k_)
  obtain ⟨cl10, Ar10, q10, S10, M10, H10, G10⟩ := id Vb
  have hin10 := inb_of S10 (by decide : ¬ (1 : Int32) < 0 ∧ (1 : Int32) < (3 : Int32))
  have hat10 := Has.at H10 hin10 (v := .int y1) rfl
  have P11 := oS (T3.setTop (mkF m 50 #[r_ en, r_ b, i_ 0, i_ 3, r_ d, i_ 0, i_ 1, r_ ret_, i_ 2, i_ 0, u_] [(.int y1), (.int ((y0 &&& 255) <<< ((16 : Int32) &&& 31)))])) P9 (by
    intro _ k_
    refine X3.baloadBytes hx (j := (1 : Int32)) (v := (.int y1)) (by rw [e3]; exact Ar10.1) (State.isArrayOf_alike hZ.alike Ar10.2.1) Ar10.2.2 hin10 hat10 (g := (mkF m 49 #[r_ en, r_ b, i_ 0, i_ 3, r_ d, i_ 0, i_ 1, r_ ret_, i_ 2, i_ 0, u_] [(.int 1), (.ref b), (.int ((y0 &&& 255) <<< ((16 : Int32) &&& 31)))])) rfl rfl (hb hby d26_49) _ ?_
    exact k_)
  have P12 := oS (T3.setTop (mkF m 64 #[r_ en, r_ b, i_ 0, i_ 3, r_ d, i_ 0, i_ 1, r_ ret_, i_ 3, i_ 0, u_] [(.int 2), (.ref b), (.int (((y0 &&& 255) <<< ((16 : Int32) &&& 31)) ||| ((y1 &&& 255) <<< ((8 : Int32) &&& 31))))])) P11 (by
    intro _ k_
    refine XS.sipush X3.here hx rfl (hb hby d26_50) ?_
    refine XS.iand X3.here hx rfl (hb hby d26_53) rfl ?_
    refine XS.bipush X3.here hx rfl (hb hby d26_54) ?_
    refine XS.ishl X3.here hx rfl (hb hby d26_56) rfl ?_
    refine XS.ior X3.here hx rfl (hb hby d26_57) rfl ?_
    refine aN_ X3 hx hby d26_58 rfl rfl ?_
    refine il_ X3 hx hby d26_59 rfl ?_
    refine XS.iinc X3.here hx rfl (hb hby d26_61) rfl (l' := #[r_ en, r_ b, i_ 0, i_ 3, r_ d, i_ 0, i_ 1, r_ ret_, i_ 3, i_ 0, u_]) rfl ?_
    exact k_)
  obtain ⟨cl13, Ar13, q13, S13, M13, H13, G13⟩ := id Vb
  have hin13 := inb_of S13 (by decide : ¬ (2 : Int32) < 0 ∧ (2 : Int32) < (3 : Int32))
  have hat13 := Has.at H13 hin13 (v := .int y2) rfl
  have P14 := oS (T3.setTop (mkF m 65 #[r_ en, r_ b, i_ 0, i_ 3, r_ d, i_ 0, i_ 1, r_ ret_, i_ 3, i_ 0, u_] [(.int y2), (.int (((y0 &&& 255) <<< ((16 : Int32) &&& 31)) ||| ((y1 &&& 255) <<< ((8 : Int32) &&& 31))))])) P12 (by
    intro _ k_
    refine X3.baloadBytes hx (j := (2 : Int32)) (v := (.int y2)) (by rw [e3]; exact Ar13.1) (State.isArrayOf_alike hZ.alike Ar13.2.1) Ar13.2.2 hin13 hat13 (g := (mkF m 64 #[r_ en, r_ b, i_ 0, i_ 3, r_ d, i_ 0, i_ 1, r_ ret_, i_ 3, i_ 0, u_] [(.int 2), (.ref b), (.int (((y0 &&& 255) <<< ((16 : Int32) &&& 31)) ||| ((y1 &&& 255) <<< ((8 : Int32) &&& 31))))])) rfl rfl (hb hby d26_64) _ ?_
    exact k_)
  have P15 := oS (T3.setTop (mkF m 89 #[r_ en, r_ b, i_ 0, i_ 3, r_ d, i_ 0, i_ 1, r_ ret_, i_ 3, i_ 1, i_ ((((y0 &&& 255) <<< ((16 : Int32) &&& 31)) ||| ((y1 &&& 255) <<< ((8 : Int32) &&& 31))) ||| (y2 &&& 255))] [(.int (((((((y0 &&& 255) <<< ((16 : Int32) &&& 31)) ||| ((y1 &&& 255) <<< ((8 : Int32) &&& 31))) ||| (y2 &&& 255)).toUInt32 >>> ((18 : Int32) &&& 31).toUInt32).toInt32) &&& 63)), (.ref ret_), (.int 0), (.ref d)])) P14 (by
    intro _ k_
    refine XS.sipush X3.here hx rfl (hb hby d26_65) ?_
    refine XS.iand X3.here hx rfl (hb hby d26_68) rfl ?_
    refine XS.ior X3.here hx rfl (hb hby d26_69) rfl ?_
    refine is_ X3 hx hby d26_70 (l' := #[r_ en, r_ b, i_ 0, i_ 3, r_ d, i_ 0, i_ 1, r_ ret_, i_ 3, i_ 0, i_ ((((y0 &&& 255) <<< ((16 : Int32) &&& 31)) ||| ((y1 &&& 255) <<< ((8 : Int32) &&& 31))) ||| (y2 &&& 255))]) rfl ?_
    refine a_ X3 hx hby d26_72 rfl rfl ?_
    refine il_ X3 hx hby d26_74 rfl ?_
    refine XS.iinc X3.here hx rfl (hb hby d26_76) rfl (l' := #[r_ en, r_ b, i_ 0, i_ 3, r_ d, i_ 0, i_ 1, r_ ret_, i_ 3, i_ 1, i_ ((((y0 &&& 255) <<< ((16 : Int32) &&& 31)) ||| ((y1 &&& 255) <<< ((8 : Int32) &&& 31))) ||| (y2 &&& 255))]) rfl ?_
    show Steps p.tables e below (T3.setTop (mkF m 79 #[r_ en, r_ b, i_ 0, i_ 3, r_ d, i_ 0, i_ 1, r_ ret_, i_ 3, i_ 1, i_ ((((y0 &&& 255) <<< ((16 : Int32) &&& 31)) ||| ((y1 &&& 255) <<< ((8 : Int32) &&& 31))) ||| (y2 &&& 255))] [(.int 0), (.ref d)])) _
    refine a_ X3 hx hby d26_79 rfl rfl ?_
    refine il_ X3 hx hby d26_81 rfl ?_
    refine XS.bipush X3.here hx rfl (hb hby d26_83) ?_
    refine XS.iushr X3.here hx rfl (hb hby d26_85) rfl ?_
    refine XS.bipush X3.here hx rfl (hb hby d26_86) ?_
    refine XS.iand X3.here hx rfl (hb hby d26_88) rfl ?_
    exact k_)
  obtain ⟨cl16, Ar16, q16, S16, M16, H16, G16⟩ := Vet.ext O.2
  have hin16 := inb_of S16 hk0
  have hat16 := Has.at H16 hin16 hv0
  have P17 := oS (T3.setTop (mkF m 90 #[r_ en, r_ b, i_ 0, i_ 3, r_ d, i_ 0, i_ 1, r_ ret_, i_ 3, i_ 1, i_ ((((y0 &&& 255) <<< ((16 : Int32) &&& 31)) ||| ((y1 &&& 255) <<< ((8 : Int32) &&& 31))) ||| (y2 &&& 255))] [(.int v0), (.int 0), (.ref d)])) P15 (by
    intro _ k_
    refine X3.caload hx (j := (((((((y0 &&& 255) <<< ((16 : Int32) &&& 31)) ||| ((y1 &&& 255) <<< ((8 : Int32) &&& 31))) ||| (y2 &&& 255)).toUInt32 >>> ((18 : Int32) &&& 31).toUInt32).toInt32) &&& 63)) (v := (.int v0)) (by rw [e3]; exact Ar16.1) (State.isArrayOf_alike hZ.alike Ar16.2.1) Ar16.2.2 hin16 hat16 (g := (mkF m 89 #[r_ en, r_ b, i_ 0, i_ 3, r_ d, i_ 0, i_ 1, r_ ret_, i_ 3, i_ 1, i_ ((((y0 &&& 255) <<< ((16 : Int32) &&& 31)) ||| ((y1 &&& 255) <<< ((8 : Int32) &&& 31))) ||| (y2 &&& 255))] [(.int (((((((y0 &&& 255) <<< ((16 : Int32) &&& 31)) ||| ((y1 &&& 255) <<< ((8 : Int32) &&& 31))) ||| (y2 &&& 255)).toUInt32 >>> ((18 : Int32) &&& 31).toUInt32).toInt32) &&& 63)), (.ref ret_), (.int 0), (.ref d)])) rfl rfl (hb hby d26_89) _ ?_
    exact k_)
  have P18 := oS (T3.setTop (mkF m 91 #[r_ en, r_ b, i_ 0, i_ 3, r_ d, i_ 0, i_ 1, r_ ret_, i_ 3, i_ 1, i_ ((((y0 &&& 255) <<< ((16 : Int32) &&& 31)) ||| ((y1 &&& 255) <<< ((8 : Int32) &&& 31))) ||| (y2 &&& 255))] [(.int (v0.toInt8.toInt32)), (.int 0), (.ref d)])) P17 (by
    intro _ k_
    refine XS.i2b X3.here hx rfl (hb hby d26_90) rfl ?_
    exact k_)
  obtain ⟨cl19, Ar19, q19, S19, M19, H19, G19⟩ := id Vd
  obtain ⟨T20, h20, X20, e20, W20, st20⟩ := stB X3 hx hZ e3 Ar19 (j := (0 : Int32)) (inb_of S19 (by decide : ¬ (0 : Int32) < 0 ∧ (0 : Int32) < (4 : Int32))) (g := (mkF m 91 #[r_ en, r_ b, i_ 0, i_ 3, r_ d, i_ 0, i_ 1, r_ ret_, i_ 3, i_ 1, i_ ((((y0 &&& 255) <<< ((16 : Int32) &&& 31)) ||| ((y1 &&& 255) <<< ((8 : Int32) &&& 31))) ||| (y2 &&& 255))] [(.int (v0.toInt8.toInt32)), (.int 0), (.ref d)])) rfl rfl (hb hby d26_91)
  have f21 := O.wr W20 gd
  have f27 := (Keep.refl h0 [d]).wr W20 (Or.inl (List.mem_of_getElem? (i := 0) rfl))
  have V20 : Arv Z h20 d kd .byte (4 : Int32) [(.int (v0.toInt8.toInt32).toInt8.toInt32), (.int 0), (.int 0), (.int 0)] (.int 0) := Arv.set Ar19 q19 S19 M19 H19 G19 (fits_nar_byte _) W20 0 rfl (Nat.le_of_ble_eq_true rfl)
  have N20 := Fr.snoc X20 N0 gd
  have P29 := oS (T20.setTop (mkF m 92 #[r_ en, r_ b, i_ 0, i_ 3, r_ d, i_ 0, i_ 1, r_ ret_, i_ 3, i_ 1, i_ ((((y0 &&& 255) <<< ((16 : Int32) &&& 31)) ||| ((y1 &&& 255) <<< ((8 : Int32) &&& 31))) ||| (y2 &&& 255))] [])) P18 (fun t_ k_ => st20 t_ k_)
  have P30 := oS (T20.setTop (mkF m 109 #[r_ en, r_ b, i_ 0, i_ 3, r_ d, i_ 0, i_ 1, r_ ret_, i_ 3, i_ 2, i_ ((((y0 &&& 255) <<< ((16 : Int32) &&& 31)) ||| ((y1 &&& 255) <<< ((8 : Int32) &&& 31))) ||| (y2 &&& 255))] [(.int (((((((y0 &&& 255) <<< ((16 : Int32) &&& 31)) ||| ((y1 &&& 255) <<< ((8 : Int32) &&& 31))) ||| (y2 &&& 255)).toUInt32 >>> ((12 : Int32) &&& 31).toUInt32).toInt32) &&& 63)), (.ref ret_), (.int 1), (.ref d)])) P29 (by
    intro _ k_
    refine a_ X20 hx hby d26_92 rfl rfl ?_
    refine il_ X20 hx hby d26_94 rfl ?_
    refine XS.iinc X20.here hx rfl (hb hby d26_96) rfl (l' := #[r_ en, r_ b, i_ 0, i_ 3, r_ d, i_ 0, i_ 1, r_ ret_, i_ 3, i_ 2, i_ ((((y0 &&& 255) <<< ((16 : Int32) &&& 31)) ||| ((y1 &&& 255) <<< ((8 : Int32) &&& 31))) ||| (y2 &&& 255))]) rfl ?_
    show Steps p.tables e below (T20.setTop (mkF m 99 #[r_ en, r_ b, i_ 0, i_ 3, r_ d, i_ 0, i_ 1, r_ ret_, i_ 3, i_ 2, i_ ((((y0 &&& 255) <<< ((16 : Int32) &&& 31)) ||| ((y1 &&& 255) <<< ((8 : Int32) &&& 31))) ||| (y2 &&& 255))] [(.int 1), (.ref d)])) _
    refine a_ X20 hx hby d26_99 rfl rfl ?_
    refine il_ X20 hx hby d26_101 rfl ?_
    refine XS.bipush X20.here hx rfl (hb hby d26_103) ?_
    refine XS.iushr X20.here hx rfl (hb hby d26_105) rfl ?_
    refine XS.bipush X20.here hx rfl (hb hby d26_106) ?_
    refine XS.iand X20.here hx rfl (hb hby d26_108) rfl ?_
    exact k_)
  obtain ⟨cl31, Ar31, q31, S31, M31, H31, G31⟩ := Vet.ext f21.2
  have hin31 := inb_of S31 hk1
  have hat31 := Has.at H31 hin31 hv1
  have P32 := oS (T20.setTop (mkF m 110 #[r_ en, r_ b, i_ 0, i_ 3, r_ d, i_ 0, i_ 1, r_ ret_, i_ 3, i_ 2, i_ ((((y0 &&& 255) <<< ((16 : Int32) &&& 31)) ||| ((y1 &&& 255) <<< ((8 : Int32) &&& 31))) ||| (y2 &&& 255))] [(.int v1), (.int 1), (.ref d)])) P30 (by
    intro _ k_
    refine X20.caload hx (j := (((((((y0 &&& 255) <<< ((16 : Int32) &&& 31)) ||| ((y1 &&& 255) <<< ((8 : Int32) &&& 31))) ||| (y2 &&& 255)).toUInt32 >>> ((12 : Int32) &&& 31).toUInt32).toInt32) &&& 63)) (v := (.int v1)) (by rw [e20]; exact Ar31.1) (State.isArrayOf_alike hZ.alike Ar31.2.1) Ar31.2.2 hin31 hat31 (g := (mkF m 109 #[r_ en, r_ b, i_ 0, i_ 3, r_ d, i_ 0, i_ 1, r_ ret_, i_ 3, i_ 2, i_ ((((y0 &&& 255) <<< ((16 : Int32) &&& 31)) ||| ((y1 &&& 255) <<< ((8 : Int32) &&& 31))) ||| (y2 &&& 255))] [(.int (((((((y0 &&& 255) <<< ((16 : Int32) &&& 31)) ||| ((y1 &&& 255) <<< ((8 : Int32) &&& 31))) ||| (y2 &&& 255)).toUInt32 >>> ((12 : Int32) &&& 31).toUInt32).toInt32) &&& 63)), (.ref ret_), (.int 1), (.ref d)])) rfl rfl (hb hby d26_109) _ ?_
    exact k_)
  have P33 := oS (T20.setTop (mkF m 111 #[r_ en, r_ b, i_ 0, i_ 3, r_ d, i_ 0, i_ 1, r_ ret_, i_ 3, i_ 2, i_ ((((y0 &&& 255) <<< ((16 : Int32) &&& 31)) ||| ((y1 &&& 255) <<< ((8 : Int32) &&& 31))) ||| (y2 &&& 255))] [(.int (v1.toInt8.toInt32)), (.int 1), (.ref d)])) P32 (by
    intro _ k_
    refine XS.i2b X20.here hx rfl (hb hby d26_110) rfl ?_
    exact k_)
  obtain ⟨cl34, Ar34, q34, S34, M34, H34, G34⟩ := id V20
  obtain ⟨T35, h35, X35, e35, W35, st35⟩ := stB X20 hx hZ e20 Ar34 (j := (1 : Int32)) (inb_of S34 (by decide : ¬ (1 : Int32) < 0 ∧ (1 : Int32) < (4 : Int32))) (g := (mkF m 111 #[r_ en, r_ b, i_ 0, i_ 3, r_ d, i_ 0, i_ 1, r_ ret_, i_ 3, i_ 2, i_ ((((y0 &&& 255) <<< ((16 : Int32) &&& 31)) ||| ((y1 &&& 255) <<< ((8 : Int32) &&& 31))) ||| (y2 &&& 255))] [(.int (v1.toInt8.toInt32)), (.int 1), (.ref d)])) rfl rfl (hb hby d26_111)
  have f36 := f21.wr W35 gd
  have f42 := f27.wr W35 (Or.inl (List.mem_of_getElem? (i := 0) rfl))
  have V35 : Arv Z h35 d kd .byte (4 : Int32) [(.int (v0.toInt8.toInt32).toInt8.toInt32), (.int (v1.toInt8.toInt32).toInt8.toInt32), (.int 0), (.int 0)] (.int 0) := Arv.set Ar34 q34 S34 M34 H34 G34 (fits_nar_byte _) W35 1 rfl (Nat.le_of_ble_eq_true rfl)
  have N35 := Fr.snoc X35 N20 gd
  have P44 := oS (T35.setTop (mkF m 112 #[r_ en, r_ b, i_ 0, i_ 3, r_ d, i_ 0, i_ 1, r_ ret_, i_ 3, i_ 2, i_ ((((y0 &&& 255) <<< ((16 : Int32) &&& 31)) ||| ((y1 &&& 255) <<< ((8 : Int32) &&& 31))) ||| (y2 &&& 255))] [])) P33 (fun t_ k_ => st35 t_ k_)
  have P45 := oS (T35.setTop (mkF m 129 #[r_ en, r_ b, i_ 0, i_ 3, r_ d, i_ 0, i_ 1, r_ ret_, i_ 3, i_ 3, i_ ((((y0 &&& 255) <<< ((16 : Int32) &&& 31)) ||| ((y1 &&& 255) <<< ((8 : Int32) &&& 31))) ||| (y2 &&& 255))] [(.int (((((((y0 &&& 255) <<< ((16 : Int32) &&& 31)) ||| ((y1 &&& 255) <<< ((8 : Int32) &&& 31))) ||| (y2 &&& 255)).toUInt32 >>> ((6 : Int32) &&& 31).toUInt32).toInt32) &&& 63)), (.ref ret_), (.int 2), (.ref d)])) P44 (by
    intro _ k_
    refine a_ X35 hx hby d26_112 rfl rfl ?_
    refine il_ X35 hx hby d26_114 rfl ?_
    refine XS.iinc X35.here hx rfl (hb hby d26_116) rfl (l' := #[r_ en, r_ b, i_ 0, i_ 3, r_ d, i_ 0, i_ 1, r_ ret_, i_ 3, i_ 3, i_ ((((y0 &&& 255) <<< ((16 : Int32) &&& 31)) ||| ((y1 &&& 255) <<< ((8 : Int32) &&& 31))) ||| (y2 &&& 255))]) rfl ?_
    show Steps p.tables e below (T35.setTop (mkF m 119 #[r_ en, r_ b, i_ 0, i_ 3, r_ d, i_ 0, i_ 1, r_ ret_, i_ 3, i_ 3, i_ ((((y0 &&& 255) <<< ((16 : Int32) &&& 31)) ||| ((y1 &&& 255) <<< ((8 : Int32) &&& 31))) ||| (y2 &&& 255))] [(.int 2), (.ref d)])) _
    refine a_ X35 hx hby d26_119 rfl rfl ?_
    refine il_ X35 hx hby d26_121 rfl ?_
    refine XS.bipush X35.here hx rfl (hb hby d26_123) ?_
    refine XS.iushr X35.here hx rfl (hb hby d26_125) rfl ?_
    refine XS.bipush X35.here hx rfl (hb hby d26_126) ?_
    refine XS.iand X35.here hx rfl (hb hby d26_128) rfl ?_
    exact k_)
  obtain ⟨cl46, Ar46, q46, S46, M46, H46, G46⟩ := Vet.ext f36.2
  have hin46 := inb_of S46 hk2
  have hat46 := Has.at H46 hin46 hv2
  have P47 := oS (T35.setTop (mkF m 130 #[r_ en, r_ b, i_ 0, i_ 3, r_ d, i_ 0, i_ 1, r_ ret_, i_ 3, i_ 3, i_ ((((y0 &&& 255) <<< ((16 : Int32) &&& 31)) ||| ((y1 &&& 255) <<< ((8 : Int32) &&& 31))) ||| (y2 &&& 255))] [(.int v2), (.int 2), (.ref d)])) P45 (by
    intro _ k_
    refine X35.caload hx (j := (((((((y0 &&& 255) <<< ((16 : Int32) &&& 31)) ||| ((y1 &&& 255) <<< ((8 : Int32) &&& 31))) ||| (y2 &&& 255)).toUInt32 >>> ((6 : Int32) &&& 31).toUInt32).toInt32) &&& 63)) (v := (.int v2)) (by rw [e35]; exact Ar46.1) (State.isArrayOf_alike hZ.alike Ar46.2.1) Ar46.2.2 hin46 hat46 (g := (mkF m 129 #[r_ en, r_ b, i_ 0, i_ 3, r_ d, i_ 0, i_ 1, r_ ret_, i_ 3, i_ 3, i_ ((((y0 &&& 255) <<< ((16 : Int32) &&& 31)) ||| ((y1 &&& 255) <<< ((8 : Int32) &&& 31))) ||| (y2 &&& 255))] [(.int (((((((y0 &&& 255) <<< ((16 : Int32) &&& 31)) ||| ((y1 &&& 255) <<< ((8 : Int32) &&& 31))) ||| (y2 &&& 255)).toUInt32 >>> ((6 : Int32) &&& 31).toUInt32).toInt32) &&& 63)), (.ref ret_), (.int 2), (.ref d)])) rfl rfl (hb hby d26_129) _ ?_
    exact k_)
  have P48 := oS (T35.setTop (mkF m 131 #[r_ en, r_ b, i_ 0, i_ 3, r_ d, i_ 0, i_ 1, r_ ret_, i_ 3, i_ 3, i_ ((((y0 &&& 255) <<< ((16 : Int32) &&& 31)) ||| ((y1 &&& 255) <<< ((8 : Int32) &&& 31))) ||| (y2 &&& 255))] [(.int (v2.toInt8.toInt32)), (.int 2), (.ref d)])) P47 (by
    intro _ k_
    refine XS.i2b X35.here hx rfl (hb hby d26_130) rfl ?_
    exact k_)
  obtain ⟨cl49, Ar49, q49, S49, M49, H49, G49⟩ := id V35
  obtain ⟨T50, h50, X50, e50, W50, st50⟩ := stB X35 hx hZ e35 Ar49 (j := (2 : Int32)) (inb_of S49 (by decide : ¬ (2 : Int32) < 0 ∧ (2 : Int32) < (4 : Int32))) (g := (mkF m 131 #[r_ en, r_ b, i_ 0, i_ 3, r_ d, i_ 0, i_ 1, r_ ret_, i_ 3, i_ 3, i_ ((((y0 &&& 255) <<< ((16 : Int32) &&& 31)) ||| ((y1 &&& 255) <<< ((8 : Int32) &&& 31))) ||| (y2 &&& 255))] [(.int (v2.toInt8.toInt32)), (.int 2), (.ref d)])) rfl rfl (hb hby d26_131)
  have f51 := f36.wr W50 gd
  have f57 := f42.wr W50 (Or.inl (List.mem_of_getElem? (i := 0) rfl))
  have V50 : Arv Z h50 d kd .byte (4 : Int32) [(.int (v0.toInt8.toInt32).toInt8.toInt32), (.int (v1.toInt8.toInt32).toInt8.toInt32), (.int (v2.toInt8.toInt32).toInt8.toInt32), (.int 0)] (.int 0) := Arv.set Ar49 q49 S49 M49 H49 G49 (fits_nar_byte _) W50 2 rfl (Nat.le_of_ble_eq_true rfl)
  have N50 := Fr.snoc X50 N35 gd
  have P59 := oS (T50.setTop (mkF m 132 #[r_ en, r_ b, i_ 0, i_ 3, r_ d, i_ 0, i_ 1, r_ ret_, i_ 3, i_ 3, i_ ((((y0 &&& 255) <<< ((16 : Int32) &&& 31)) ||| ((y1 &&& 255) <<< ((8 : Int32) &&& 31))) ||| (y2 &&& 255))] [])) P48 (fun t_ k_ => st50 t_ k_)
  have P60 := oS (T50.setTop (mkF m 146 #[r_ en, r_ b, i_ 0, i_ 3, r_ d, i_ 0, i_ 1, r_ ret_, i_ 3, i_ 4, i_ ((((y0 &&& 255) <<< ((16 : Int32) &&& 31)) ||| ((y1 &&& 255) <<< ((8 : Int32) &&& 31))) ||| (y2 &&& 255))] [(.int (((((y0 &&& 255) <<< ((16 : Int32) &&& 31)) ||| ((y1 &&& 255) <<< ((8 : Int32) &&& 31))) ||| (y2 &&& 255)) &&& 63)), (.ref ret_), (.int 3), (.ref d)])) P59 (by
    intro _ k_
    refine a_ X50 hx hby d26_132 rfl rfl ?_
    refine il_ X50 hx hby d26_134 rfl ?_
    refine XS.iinc X50.here hx rfl (hb hby d26_136) rfl (l' := #[r_ en, r_ b, i_ 0, i_ 3, r_ d, i_ 0, i_ 1, r_ ret_, i_ 3, i_ 4, i_ ((((y0 &&& 255) <<< ((16 : Int32) &&& 31)) ||| ((y1 &&& 255) <<< ((8 : Int32) &&& 31))) ||| (y2 &&& 255))]) rfl ?_
    show Steps p.tables e below (T50.setTop (mkF m 139 #[r_ en, r_ b, i_ 0, i_ 3, r_ d, i_ 0, i_ 1, r_ ret_, i_ 3, i_ 4, i_ ((((y0 &&& 255) <<< ((16 : Int32) &&& 31)) ||| ((y1 &&& 255) <<< ((8 : Int32) &&& 31))) ||| (y2 &&& 255))] [(.int 3), (.ref d)])) _
    refine a_ X50 hx hby d26_139 rfl rfl ?_
    refine il_ X50 hx hby d26_141 rfl ?_
    refine XS.bipush X50.here hx rfl (hb hby d26_143) ?_
    refine XS.iand X50.here hx rfl (hb hby d26_145) rfl ?_
    exact k_)
  obtain ⟨cl61, Ar61, q61, S61, M61, H61, G61⟩ := Vet.ext f51.2
  have hin61 := inb_of S61 hk3
  have hat61 := Has.at H61 hin61 hv3
  have P62 := oS (T50.setTop (mkF m 147 #[r_ en, r_ b, i_ 0, i_ 3, r_ d, i_ 0, i_ 1, r_ ret_, i_ 3, i_ 4, i_ ((((y0 &&& 255) <<< ((16 : Int32) &&& 31)) ||| ((y1 &&& 255) <<< ((8 : Int32) &&& 31))) ||| (y2 &&& 255))] [(.int v3), (.int 3), (.ref d)])) P60 (by
    intro _ k_
    refine X50.caload hx (j := (((((y0 &&& 255) <<< ((16 : Int32) &&& 31)) ||| ((y1 &&& 255) <<< ((8 : Int32) &&& 31))) ||| (y2 &&& 255)) &&& 63)) (v := (.int v3)) (by rw [e50]; exact Ar61.1) (State.isArrayOf_alike hZ.alike Ar61.2.1) Ar61.2.2 hin61 hat61 (g := (mkF m 146 #[r_ en, r_ b, i_ 0, i_ 3, r_ d, i_ 0, i_ 1, r_ ret_, i_ 3, i_ 4, i_ ((((y0 &&& 255) <<< ((16 : Int32) &&& 31)) ||| ((y1 &&& 255) <<< ((8 : Int32) &&& 31))) ||| (y2 &&& 255))] [(.int (((((y0 &&& 255) <<< ((16 : Int32) &&& 31)) ||| ((y1 &&& 255) <<< ((8 : Int32) &&& 31))) ||| (y2 &&& 255)) &&& 63)), (.ref ret_), (.int 3), (.ref d)])) rfl rfl (hb hby d26_146) _ ?_
    exact k_)
  have P63 := oS (T50.setTop (mkF m 148 #[r_ en, r_ b, i_ 0, i_ 3, r_ d, i_ 0, i_ 1, r_ ret_, i_ 3, i_ 4, i_ ((((y0 &&& 255) <<< ((16 : Int32) &&& 31)) ||| ((y1 &&& 255) <<< ((8 : Int32) &&& 31))) ||| (y2 &&& 255))] [(.int (v3.toInt8.toInt32)), (.int 3), (.ref d)])) P62 (by
    intro _ k_
    refine XS.i2b X50.here hx rfl (hb hby d26_147) rfl ?_
    exact k_)
  obtain ⟨cl64, Ar64, q64, S64, M64, H64, G64⟩ := id V50
  obtain ⟨T65, h65, X65, e65, W65, st65⟩ := stB X50 hx hZ e50 Ar64 (j := (3 : Int32)) (inb_of S64 (by decide : ¬ (3 : Int32) < 0 ∧ (3 : Int32) < (4 : Int32))) (g := (mkF m 148 #[r_ en, r_ b, i_ 0, i_ 3, r_ d, i_ 0, i_ 1, r_ ret_, i_ 3, i_ 4, i_ ((((y0 &&& 255) <<< ((16 : Int32) &&& 31)) ||| ((y1 &&& 255) <<< ((8 : Int32) &&& 31))) ||| (y2 &&& 255))] [(.int (v3.toInt8.toInt32)), (.int 3), (.ref d)])) rfl rfl (hb hby d26_148)
  have f72 := f57.wr W65 (Or.inl (List.mem_of_getElem? (i := 0) rfl))
  have V65 : Arv Z h65 d kd .byte (4 : Int32) [(.int (v0.toInt8.toInt32).toInt8.toInt32), (.int (v1.toInt8.toInt32).toInt8.toInt32), (.int (v2.toInt8.toInt32).toInt8.toInt32), (.int (v3.toInt8.toInt32).toInt8.toInt32)] (.int 0) := Arv.set Ar64 q64 S64 M64 H64 G64 (fits_nar_byte _) W65 3 rfl (Nat.le_of_ble_eq_true rfl)
  have N65 := Fr.snoc X65 N50 gd
  have P74 := oS (T65.setTop (mkF m 149 #[r_ en, r_ b, i_ 0, i_ 3, r_ d, i_ 0, i_ 1, r_ ret_, i_ 3, i_ 4, i_ ((((y0 &&& 255) <<< ((16 : Int32) &&& 31)) ||| ((y1 &&& 255) <<< ((8 : Int32) &&& 31))) ||| (y2 &&& 255))] [])) P63 (fun t_ k_ => st65 t_ k_)
  have P75 := oS (T65.setTop (mkF m 26 #[r_ en, r_ b, i_ 0, i_ 3, r_ d, i_ 0, i_ 1, r_ ret_, i_ 3, i_ 4, i_ ((((y0 &&& 255) <<< ((16 : Int32) &&& 31)) ||| ((y1 &&& 255) <<< ((8 : Int32) &&& 31))) ||| (y2 &&& 255))] [(.int 3), (.int 3)])) P74 (by
    intro _ k_
    refine gt_ X65 hx hby d26_149 (pc := 149) (pc' := 23) (by decide) ?_
    refine il_ X65 hx hby d26_23 rfl ?_
    refine iN_ X65 hx hby d26_25 rfl ?_
    exact k_)
  have P76 := oS (T65.setTop (mkF m 152 #[r_ en, r_ b, i_ 0, i_ 3, r_ d, i_ 0, i_ 1, r_ ret_, i_ 3, i_ 4, i_ ((((y0 &&& 255) <<< ((16 : Int32) &&& 31)) ||| ((y1 &&& 255) <<< ((8 : Int32) &&& 31))) ||| (y2 &&& 255))] [])) P75 (by
    intro _ k_
    refine cY_ X65 hx hby d26_26 (pc := 26) (pc' := 152) (flt (by decide : ¬ ((3 : Int32) < (3 : Int32)))).2.1 (by decide) ?_
    exact k_)
  rw [hz0, hz1, hz2, hz3] at V65
  exact own_out X65 hlk (v := none) (fun _ => rfl) P76 (fun _ q_ => X65.returnOut hx hrt (hb hby d26_152) q_) e65 ⟨rfl, N65, f72, V65⟩ (by decide)
abbrev cB25 := jdk_29_method_69_code
abbrev yM25 : MethodName := ⟨"java/lang/Math", "min", "(II)I"⟩
theorem d25_0 : own_d cB25 0 (.iload_n 0) 1 := by decide +kernel
theorem d25_1 : own_d cB25 1 (.iload_n 1) 1 := by decide +kernel
theorem d25_2 : own_d cB25 2 (.if_icmp .gt 7) 3 := by decide +kernel
theorem d25_5 : own_d cB25 5 (.iload_n 0) 1 := by decide +kernel
theorem d25_6 : own_d cB25 6 (.goto 4) 3 := by decide +kernel
theorem d25_10 : own_d cB25 10 (.ireturn) 1 := by decide +kernel
theorem ef25II (m : MethodId) (x0 : Int32) (x1 : Int32) : entryFrame m #[(.int x0), (.int x1)] 2 = mkF m 0 #[i_ x0, i_ x1] [] := by first | (simp [entryFrame, mkF, argsToLocals, Value.category]; done) | rfl
def Q_min33 (Z : State)  (h0 : Heap) (n0 : Nat) (v_ : Option Value) (h : Heap) (L_ : List Loc) : Prop := v_ = some (.int 3) ∧ Fr n0 L_ ∧ h = h0
set_option maxRecDepth 65536 in
set_option maxHeartbeats 40000000 in
theorem rm_min33 (l : Launch) (Z : State) (a0 : Array Value) (hw : ∀ d ∈ tables_1, d.before a0 Z = true) (ws : List Jvm.Cond)  (h0 : Heap) (n0 : Nat) (Z0 : n0 ≤ h0.size) :
    own_MF l yM25 (.code yM25 cB25 2 (some .int)) ws ⟨0, 0, 0, 0⟩ #[(.int 3), (.int 3)] Z h0 own_T (Q_min33 Z  h0 n0) := by
  refine own_in "java/lang/Math" rfl (Jvm.Free.JP.mathPlain rfl (by decide +kernel)) hisR (fun m => ef25II m (3 : Int32) (3 : Int32)) ?_
  intro p e s m below meth c s₁ A_ hx hby hml hown hnm hrt hlk hZ _ X0 e0 pre0
  have N0 := Fr.nil n0
  have P1 := oS (s₁.setTop (mkF m 2 #[i_ 3, i_ 3] [(.int 3), (.int 3)])) pre0 (by
    intro _ k_
    refine iN_ X0 hx hby d25_0 rfl ?_
    refine iN_ X0 hx hby d25_1 rfl ?_
    exact k_)
  have P2 := oS (s₁.setTop (mkF m 10 #[i_ 3, i_ 3] [(.int 3)])) P1 (by
    intro _ k_
    refine XS.icmpNo X0.here hx rfl (hb hby d25_2) rfl (flt (by decide : ¬ ((3 : Int32) < (3 : Int32)))).2.2.1 ?_
    refine iN_ X0 hx hby d25_5 rfl ?_
    refine gt_ X0 hx hby d25_6 (pc := 6) (pc' := 10) (by decide) ?_
    exact k_)
  exact own_out X0 hlk (v := some (.int 3)) (own_hv hrt) P2 (fun _ q_ => retI X0 hx hrt (hb hby d25_10) q_) e0 ⟨rfl, N0, rfl⟩ (by decide)
theorem pd23 : parseMethodDescriptor "([BII[BIZ)V" = some ⟨[(.array .byte), .int, .int, (.array .byte), .int, .boolean], none⟩ := by decide +kernel
theorem d24_76 : own_d cB24 76 (.iload 6) 2 := by decide +kernel
theorem d24_78 : own_d cB24 78 (.iload 7) 2 := by decide +kernel
theorem d24_80 : own_d cB24 80 (.iadd) 1 := by decide +kernel
theorem d24_81 : own_d cB24 81 (.iload 8) 2 := by decide +kernel
theorem d24_83 : own_d cB24 83 (.invokestatic 124) 3 := by decide +kernel
theorem d24_86 : own_d cB24 86 (.istore 10) 2 := by decide +kernel
theorem d24_88 : own_d cB24 88 (.aload_n 0) 1 := by decide +kernel
theorem d24_89 : own_d cB24 89 (.aload_n 1) 1 := by decide +kernel
theorem d24_90 : own_d cB24 90 (.iload 6) 2 := by decide +kernel
theorem d24_92 : own_d cB24 92 (.iload 10) 2 := by decide +kernel
theorem d24_94 : own_d cB24 94 (.aload 4) 2 := by decide +kernel
theorem d24_96 : own_d cB24 96 (.iload 9) 2 := by decide +kernel
theorem d24_98 : own_d cB24 98 (.aload_n 0) 1 := by decide +kernel
theorem d24_99 : own_d cB24 99 (.getfield 7) 3 := by decide +kernel
theorem d24_102 : own_d cB24 102 (.invokevirtual 127) 3 := by decide +kernel
theorem d24_105 : own_d cB24 105 (.iload 10) 2 := by decide +kernel
theorem d24_107 : own_d cB24 107 (.iload 6) 2 := by decide +kernel
theorem d24_109 : own_d cB24 109 (.isub) 1 := by decide +kernel
theorem d24_110 : own_d cB24 110 (.iconst 3) 1 := by decide +kernel
theorem d24_111 : own_d cB24 111 (.idiv) 1 := by decide +kernel
theorem d24_112 : own_d cB24 112 (.iconst 4) 1 := by decide +kernel
theorem d24_113 : own_d cB24 113 (.imul) 1 := by decide +kernel
theorem d24_114 : own_d cB24 114 (.istore 11) 2 := by decide +kernel
theorem d24_116 : own_d cB24 116 (.iload 9) 2 := by decide +kernel
theorem d24_118 : own_d cB24 118 (.iload 11) 2 := by decide +kernel
theorem d24_120 : own_d cB24 120 (.iadd) 1 := by decide +kernel
theorem d24_121 : own_d cB24 121 (.istore 9) 2 := by decide +kernel
theorem d24_123 : own_d cB24 123 (.iload 10) 2 := by decide +kernel
theorem d24_125 : own_d cB24 125 (.istore 6) 2 := by decide +kernel
theorem d24_127 : own_d cB24 127 (.iload 11) 2 := by decide +kernel
theorem d24_129 : own_d cB24 129 (.aload_n 0) 1 := by decide +kernel
theorem d24_130 : own_d cB24 130 (.getfield 17) 3 := by decide +kernel
theorem d24_133 : own_d cB24 133 (.if_icmp .ne 53) 3 := by decide +kernel
theorem d24_186 : own_d cB24 186 (.goto (-117)) 3 := by decide +kernel
def Q_enc0_3 (Z : State) (en : Addr) (b : Addr) (k : ClassId) (d : Addr) (kd : ClassId) (y0 : Int32) (y1 : Int32) (y2 : Int32) (v0 : Int32) (v1 : Int32) (v2 : Int32) (v3 : Int32) (x0 : Int32) (x1 : Int32) (x2 : Int32) (x3 : Int32) (ret_ : Addr) (ket : ClassId) (h0 : Heap) (n0 : Nat) (v_ : Option Value) (h : Heap) (L_ : List Loc) : Prop := v_ = some (.int 4) ∧ Fr n0 L_ ∧ Keep h0 h [d] ∧ Arv Z h d kd .byte (4 : Int32) [(.int x0), (.int x1), (.int x2), (.int x3)] (.int 0)
set_option maxRecDepth 65536 in
set_option maxHeartbeats 40000000 in
theorem rm_enc0_3 (l : Launch) (Z : State) (a0 : Array Value) (hw : ∀ d ∈ tables_1, d.before a0 Z = true) (ws : List Jvm.Cond) (en : Addr) (b : Addr) (k : ClassId) (d : Addr) (kd : ClassId) (y0 : Int32) (y1 : Int32) (y2 : Int32) (v0 : Int32) (v1 : Int32) (v2 : Int32) (v3 : Int32) (x0 : Int32) (x1 : Int32) (x2 : Int32) (x3 : Int32) (ret_ : Addr) (ket : ClassId) (h0 : Heap) (n0 : Nat) (Z0 : n0 ≤ h0.size) (O : Old Z n0 h0) (Set : Sta Z Z.heap "java/util/Base64$Encoder" "toBase64URL" "[C" (.ref ret_)) (Vet : Arv Z Z.heap ret_ ket .char (64 : Int32) own_enc (.int 0)) (Ee : Exa Z h0 en "java/util/Base64$Encoder") (Fp : Fld Z h0 en "java/util/Base64$Encoder" "doPadding" "Z" (.int 0)) (Fl : Fld Z h0 en "java/util/Base64$Encoder" "linemax" "I" (.int (-1 : Int32))) (Fe : Fld Z h0 en "java/util/Base64$Encoder" "isURL" "Z" (.int 1)) (Vb : Arv Z h0 b k .byte (3 : Int32) [(.int y0), (.int y1), (.int y2)] (.int 0)) (Vd : Arv Z h0 d kd .byte (4 : Int32) [(.int 0), (.int 0), (.int 0), (.int 0)] (.int 0)) (nbd : b ≠ d) (gd : n0 ≤ d) (nen : en ≠ d) (hk0 : ¬ (((((((y0 &&& 255) <<< ((16 : Int32) &&& 31)) ||| ((y1 &&& 255) <<< ((8 : Int32) &&& 31))) ||| (y2 &&& 255)).toUInt32 >>> ((18 : Int32) &&& 31).toUInt32).toInt32) &&& 63) < 0 ∧ (((((((y0 &&& 255) <<< ((16 : Int32) &&& 31)) ||| ((y1 &&& 255) <<< ((8 : Int32) &&& 31))) ||| (y2 &&& 255)).toUInt32 >>> ((18 : Int32) &&& 31).toUInt32).toInt32) &&& 63) < (64 : Int32)) (hv0 : own_enc.getD (((((((y0 &&& 255) <<< ((16 : Int32) &&& 31)) ||| ((y1 &&& 255) <<< ((8 : Int32) &&& 31))) ||| (y2 &&& 255)).toUInt32 >>> ((18 : Int32) &&& 31).toUInt32).toInt32) &&& 63).toNatClampNeg (.int 0) = .int v0) (hz0 : v0.toInt8.toInt32.toInt8.toInt32 = x0) (hk1 : ¬ (((((((y0 &&& 255) <<< ((16 : Int32) &&& 31)) ||| ((y1 &&& 255) <<< ((8 : Int32) &&& 31))) ||| (y2 &&& 255)).toUInt32 >>> ((12 : Int32) &&& 31).toUInt32).toInt32) &&& 63) < 0 ∧ (((((((y0 &&& 255) <<< ((16 : Int32) &&& 31)) ||| ((y1 &&& 255) <<< ((8 : Int32) &&& 31))) ||| (y2 &&& 255)).toUInt32 >>> ((12 : Int32) &&& 31).toUInt32).toInt32) &&& 63) < (64 : Int32)) (hv1 : own_enc.getD (((((((y0 &&& 255) <<< ((16 : Int32) &&& 31)) ||| ((y1 &&& 255) <<< ((8 : Int32) &&& 31))) ||| (y2 &&& 255)).toUInt32 >>> ((12 : Int32) &&& 31).toUInt32).toInt32) &&& 63).toNatClampNeg (.int 0) = .int v1) (hz1 : v1.toInt8.toInt32.toInt8.toInt32 = x1) (hk2 : ¬ (((((((y0 &&& 255) <<< ((16 : Int32) &&& 31)) ||| ((y1 &&& 255) <<< ((8 : Int32) &&& 31))) ||| (y2 &&& 255)).toUInt32 >>> ((6 : Int32) &&& 31).toUInt32).toInt32) &&& 63) < 0 ∧ (((((((y0 &&& 255) <<< ((16 : Int32) &&& 31)) ||| ((y1 &&& 255) <<< ((8 : Int32) &&& 31))) ||| (y2 &&& 255)).toUInt32 >>> ((6 : Int32) &&& 31).toUInt32).toInt32) &&& 63) < (64 : Int32)) (hv2 : own_enc.getD (((((((y0 &&& 255) <<< ((16 : Int32) &&& 31)) ||| ((y1 &&& 255) <<< ((8 : Int32) &&& 31))) ||| (y2 &&& 255)).toUInt32 >>> ((6 : Int32) &&& 31).toUInt32).toInt32) &&& 63).toNatClampNeg (.int 0) = .int v2) (hz2 : v2.toInt8.toInt32.toInt8.toInt32 = x2) (hk3 : ¬ (((((y0 &&& 255) <<< ((16 : Int32) &&& 31)) ||| ((y1 &&& 255) <<< ((8 : Int32) &&& 31))) ||| (y2 &&& 255)) &&& 63) < 0 ∧ (((((y0 &&& 255) <<< ((16 : Int32) &&& 31)) ||| ((y1 &&& 255) <<< ((8 : Int32) &&& 31))) ||| (y2 &&& 255)) &&& 63) < (64 : Int32)) (hv3 : own_enc.getD (((((y0 &&& 255) <<< ((16 : Int32) &&& 31)) ||| ((y1 &&& 255) <<< ((8 : Int32) &&& 31))) ||| (y2 &&& 255)) &&& 63).toNatClampNeg (.int 0) = .int v3) (hz3 : v3.toInt8.toInt32.toInt8.toInt32 = x3) :
    own_MF l yM24 (.code yM24 cB24 16 (some .int)) ws ⟨1, 0, 0, 22⟩ #[(.ref en), (.ref b), (.int 0), (.int 3), (.ref d)] Z h0 own_T (Q_enc0_3 Z en b k d kd y0 y1 y2 v0 v1 v2 v3 x0 x1 x2 x3 ret_ ket h0 n0) := by
  refine own_in "java/util/Base64$Encoder" rfl (plainFor_of_name pn4) hisR (fun m => ef24RRIIR m en b (0 : Int32) (3 : Int32) d) ?_
  intro p e s m below meth c s₁ A_ hx hby hml hown hnm hrt hlk hZ _ X0 e0 pre0
  have N0 := Fr.nil n0
  have P1 := oS (s₁.setTop (mkF m 1 #[r_ en, r_ b, i_ 0, i_ 3, r_ d, u_, u_, u_, u_, u_, u_, u_, u_, u_, u_, u_] [(.ref en)])) pre0 (by
    intro _ k_
    refine aN_ X0 hx hby d24_0 rfl rfl ?_
    exact k_)
  obtain ⟨T2, X2, e2, st2⟩ := getF X0 hx hZ hown (host := "") (Or.inl (own_w hw 146 rfl)) Via.refl e0 Fe (g := (mkF m 1 #[r_ en, r_ b, i_ 0, i_ 3, r_ d, u_, u_, u_, u_, u_, u_, u_, u_, u_, u_, u_] [(.ref en)])) rfl rfl (hb hby d24_1)
  have P3 := oS (T2.setTop (mkF m 4 #[r_ en, r_ b, i_ 0, i_ 3, r_ d, u_, u_, u_, u_, u_, u_, u_, u_, u_, u_, u_] [(.int 1)])) P1 (fun t_ k_ => st2 t_ k_)
  have P4 := oS (T2.setTop (mkF m 7 #[r_ en, r_ b, i_ 0, i_ 3, r_ d, u_, u_, u_, u_, u_, u_, u_, u_, u_, u_, u_] [])) P3 (by
    intro _ k_
    refine XS.ifNo X2.here hx rfl (hb hby d24_4) rfl ((if0 _ _).trans (feq (by decide : ¬ ((1 : Int32) = (0 : Int32)))).1) ?_
    exact k_)
  obtain ⟨T5, X5, e5, st5⟩ := getS2 X2 hx hZ hown (host := "") (Or.inl (own_w hw 148 rfl)) Via.refl e2 (Set.ext O.2) (g := (mkF m 7 #[r_ en, r_ b, i_ 0, i_ 3, r_ d, u_, u_, u_, u_, u_, u_, u_, u_, u_, u_, u_] [])) rfl (hb hby d24_7)
  have P6 := oS (T5.setTop (mkF m 10 #[r_ en, r_ b, i_ 0, i_ 3, r_ d, u_, u_, u_, u_, u_, u_, u_, u_, u_, u_, u_] [(.ref ret_)])) P4 (fun t_ k_ => st5 t_ k_)
  have P7 := oS (T5.setTop (mkF m 37 #[r_ en, r_ b, i_ 0, i_ 3, r_ d, r_ ret_, i_ 0, i_ 3, i_ 3, u_, u_, u_, u_, u_, u_, u_] [(.ref en)])) P6 (by
    intro _ k_
    refine gt_ X5 hx hby d24_10 (pc := 10) (pc' := 16) (by decide) ?_
    refine XS.astore X5.here hx rfl (hb hby d24_16) rfl rfl (l' := #[r_ en, r_ b, i_ 0, i_ 3, r_ d, r_ ret_, u_, u_, u_, u_, u_, u_, u_, u_, u_, u_]) rfl ?_
    refine iN_ X5 hx hby d24_18 rfl ?_
    refine is_ X5 hx hby d24_19 (l' := #[r_ en, r_ b, i_ 0, i_ 3, r_ d, r_ ret_, i_ 0, u_, u_, u_, u_, u_, u_, u_, u_, u_]) rfl ?_
    refine iN_ X5 hx hby d24_21 rfl ?_
    refine iN_ X5 hx hby d24_22 rfl ?_
    refine XS.isub X5.here hx rfl (hb hby d24_23) rfl ?_
    show Steps p.tables e below (T5.setTop (mkF m 24 #[r_ en, r_ b, i_ 0, i_ 3, r_ d, r_ ret_, i_ 0, u_, u_, u_, u_, u_, u_, u_, u_, u_] [(.int 3)])) _
    refine XS.iconst X5.here hx rfl (hb hby d24_24) ?_
    refine XS.idiv X5.here hx rfl (hb hby d24_25) rfl (by decide) ?_
    show Steps p.tables e below (T5.setTop (mkF m 26 #[r_ en, r_ b, i_ 0, i_ 3, r_ d, r_ ret_, i_ 0, u_, u_, u_, u_, u_, u_, u_, u_, u_] [(.int 1)])) _
    refine XS.iconst X5.here hx rfl (hb hby d24_26) ?_
    refine XS.imul X5.here hx rfl (hb hby d24_27) rfl ?_
    show Steps p.tables e below (T5.setTop (mkF m 28 #[r_ en, r_ b, i_ 0, i_ 3, r_ d, r_ ret_, i_ 0, u_, u_, u_, u_, u_, u_, u_, u_, u_] [(.int 3)])) _
    refine is_ X5 hx hby d24_28 (l' := #[r_ en, r_ b, i_ 0, i_ 3, r_ d, r_ ret_, i_ 0, i_ 3, u_, u_, u_, u_, u_, u_, u_, u_]) rfl ?_
    refine iN_ X5 hx hby d24_30 rfl ?_
    refine il_ X5 hx hby d24_31 rfl ?_
    refine XS.iadd X5.here hx rfl (hb hby d24_33) rfl ?_
    show Steps p.tables e below (T5.setTop (mkF m 34 #[r_ en, r_ b, i_ 0, i_ 3, r_ d, r_ ret_, i_ 0, i_ 3, u_, u_, u_, u_, u_, u_, u_, u_] [(.int 3)])) _
    refine is_ X5 hx hby d24_34 (l' := #[r_ en, r_ b, i_ 0, i_ 3, r_ d, r_ ret_, i_ 0, i_ 3, i_ 3, u_, u_, u_, u_, u_, u_, u_]) rfl ?_
    refine aN_ X5 hx hby d24_36 rfl rfl ?_
    exact k_)
  obtain ⟨T8, X8, e8, st8⟩ := getF X5 hx hZ hown (host := "") (Or.inl (own_w hw 139 rfl)) Via.refl e5 Fl (g := (mkF m 37 #[r_ en, r_ b, i_ 0, i_ 3, r_ d, r_ ret_, i_ 0, i_ 3, i_ 3, u_, u_, u_, u_, u_, u_, u_] [(.ref en)])) rfl rfl (hb hby d24_37)
  have P9 := oS (T8.setTop (mkF m 40 #[r_ en, r_ b, i_ 0, i_ 3, r_ d, r_ ret_, i_ 0, i_ 3, i_ 3, u_, u_, u_, u_, u_, u_, u_] [(.int (-1 : Int32))])) P7 (fun t_ k_ => st8 t_ k_)
  have P10 := oS (T8.setTop (mkF m 73 #[r_ en, r_ b, i_ 0, i_ 3, r_ d, r_ ret_, i_ 0, i_ 3, i_ 3, i_ 0, u_, u_, u_, u_, u_, u_] [(.int 3), (.int 0)])) P9 (by
    intro _ k_
    refine fY_ X8 hx hby d24_40 (pc := 40) (pc' := 66) ((if0 _ _).trans (flt (by decide : ¬ ((0 : Int32) < (-1 : Int32)))).2.2.2) (by decide) ?_
    refine XS.iconst X8.here hx rfl (hb hby d24_66) ?_
    refine is_ X8 hx hby d24_67 (l' := #[r_ en, r_ b, i_ 0, i_ 3, r_ d, r_ ret_, i_ 0, i_ 3, i_ 3, i_ 0, u_, u_, u_, u_, u_, u_]) rfl ?_
    refine il_ X8 hx hby d24_69 rfl ?_
    refine il_ X8 hx hby d24_71 rfl ?_
    exact k_)
  have P11 := oS (T8.setTop (mkF m 83 #[r_ en, r_ b, i_ 0, i_ 3, r_ d, r_ ret_, i_ 0, i_ 3, i_ 3, i_ 0, u_, u_, u_, u_, u_, u_] [(.int 3), (.int 3)])) P10 (by
    intro _ k_
    refine XS.icmpNo X8.here hx rfl (hb hby d24_73) rfl (tlt (by decide : (0 : Int32) < (3 : Int32))).2.1 ?_
    refine il_ X8 hx hby d24_76 rfl ?_
    refine il_ X8 hx hby d24_78 rfl ?_
    refine XS.iadd X8.here hx rfl (hb hby d24_80) rfl ?_
    show Steps p.tables e below (T8.setTop (mkF m 81 #[r_ en, r_ b, i_ 0, i_ 3, r_ d, r_ ret_, i_ 0, i_ 3, i_ 3, i_ 0, u_, u_, u_, u_, u_, u_] [(.int 3)])) _
    refine il_ X8 hx hby d24_81 rfl ?_
    exact k_)
  obtain ⟨_, T12, L12, X12, hQ12, P12c⟩ := own_cS (W := 0) (rm_min33 l Z a0 hw []  h0 n0 Z0 ) X8 hx hZ (fun _ _ => trivial) hown (own_w hw 149 rfl) (own_w hw 150 rfl) (own_w hw 134 rfl) (own_w hw 151 rfl) (by decide) P11 hml rfl [(.int 3), (.int 3)] [] rfl rfl rfl pd12 rfl (hb hby d24_83) e8 (by decide)
  obtain ⟨rfl, N12q, e12⟩ := hQ12
  have N12 := Fr.app N0 N12q
  have P13 := own_to (C := T12.setTop (mkF m 86 #[r_ en, r_ b, i_ 0, i_ 3, r_ d, r_ ret_, i_ 0, i_ 3, i_ 3, i_ 0, u_, u_, u_, u_, u_, u_] [(.int 3)])) P12c
  have P14 := oS (T12.setTop (mkF m 99 #[r_ en, r_ b, i_ 0, i_ 3, r_ d, r_ ret_, i_ 0, i_ 3, i_ 3, i_ 0, i_ 3, u_, u_, u_, u_, u_] [(.ref en), (.int 0), (.ref d), (.int 3), (.int 0), (.ref b), (.ref en)])) P13 (by
    intro _ k_
    refine is_ X12 hx hby d24_86 (l' := #[r_ en, r_ b, i_ 0, i_ 3, r_ d, r_ ret_, i_ 0, i_ 3, i_ 3, i_ 0, i_ 3, u_, u_, u_, u_, u_]) rfl ?_
    refine aN_ X12 hx hby d24_88 rfl rfl ?_
    refine aN_ X12 hx hby d24_89 rfl rfl ?_
    refine il_ X12 hx hby d24_90 rfl ?_
    refine il_ X12 hx hby d24_92 rfl ?_
    refine a_ X12 hx hby d24_94 rfl rfl ?_
    refine il_ X12 hx hby d24_96 rfl ?_
    refine aN_ X12 hx hby d24_98 rfl rfl ?_
    exact k_)
  obtain ⟨T15, X15, e15, st15⟩ := getF X12 hx hZ hown (host := "") (Or.inl (own_w hw 146 rfl)) Via.refl e12 Fe (g := (mkF m 99 #[r_ en, r_ b, i_ 0, i_ 3, r_ d, r_ ret_, i_ 0, i_ 3, i_ 3, i_ 0, i_ 3, u_, u_, u_, u_, u_] [(.ref en), (.int 0), (.ref d), (.int 3), (.int 0), (.ref b), (.ref en)])) rfl rfl (hb hby d24_99)
  have P16 := oS (T15.setTop (mkF m 102 #[r_ en, r_ b, i_ 0, i_ 3, r_ d, r_ ret_, i_ 0, i_ 3, i_ 3, i_ 0, i_ 3, u_, u_, u_, u_, u_] [(.int 1), (.int 0), (.ref d), (.int 3), (.int 0), (.ref b), (.ref en)])) P14 (fun t_ k_ => st15 t_ k_)
  obtain ⟨_, T17, L17, X17, hQ17, P17c⟩ := own_cP (W := 0) (rm_encB_3 l Z a0 hw [] en b k d kd y0 y1 y2 v0 v1 v2 v3 x0 x1 x2 x3 ret_ ket h0 n0 Z0 O Set Vet Fp Fl Fe Vb Vd nbd gd nen hk0 hv0 hz0 hk1 hv1 hz1 hk2 hv2 hz2 hk3 hv3 hz3) X15 hx hZ (fun _ _ => trivial) hown Ee (own_w hw 152 rfl) (own_w hw 154 rfl) (own_w hw 155 rfl) (own_w hw 153 rfl) (own_w hw 118 rfl) (own_w hw 156 rfl) (by decide) P16 hml rfl [(.ref b), (.int 0), (.int 3), (.ref d), (.int 0), (.int 1)] [] rfl rfl rfl pd23 rfl (hb hby d24_102) e15 (by decide)
  obtain ⟨rfl, N17q, K17, f18⟩ := hQ17
  have N17 := Fr.app N12 N17q
  have f21 := Fl.keep K17 (ninS nen nin0)
  have f25 := (Keep.refl h0 [d]).trans K17 (allS (Or.inl (List.mem_of_getElem? (i := 0) rfl)) all0)
  have P28 := own_to (C := T17.setTop (mkF m 105 #[r_ en, r_ b, i_ 0, i_ 3, r_ d, r_ ret_, i_ 0, i_ 3, i_ 3, i_ 0, i_ 3, u_, u_, u_, u_, u_] [])) P17c
  have P29 := oS (T17.setTop (mkF m 130 #[r_ en, r_ b, i_ 0, i_ 3, r_ d, r_ ret_, i_ 3, i_ 3, i_ 3, i_ 4, i_ 3, i_ 4, u_, u_, u_, u_] [(.ref en), (.int 4)])) P28 (by
    intro _ k_
    refine il_ X17 hx hby d24_105 rfl ?_
    refine il_ X17 hx hby d24_107 rfl ?_
    refine XS.isub X17.here hx rfl (hb hby d24_109) rfl ?_
    show Steps p.tables e below (T17.setTop (mkF m 110 #[r_ en, r_ b, i_ 0, i_ 3, r_ d, r_ ret_, i_ 0, i_ 3, i_ 3, i_ 0, i_ 3, u_, u_, u_, u_, u_] [(.int 3)])) _
    refine XS.iconst X17.here hx rfl (hb hby d24_110) ?_
    refine XS.idiv X17.here hx rfl (hb hby d24_111) rfl (by decide) ?_
    show Steps p.tables e below (T17.setTop (mkF m 112 #[r_ en, r_ b, i_ 0, i_ 3, r_ d, r_ ret_, i_ 0, i_ 3, i_ 3, i_ 0, i_ 3, u_, u_, u_, u_, u_] [(.int 1)])) _
    refine XS.iconst X17.here hx rfl (hb hby d24_112) ?_
    refine XS.imul X17.here hx rfl (hb hby d24_113) rfl ?_
    show Steps p.tables e below (T17.setTop (mkF m 114 #[r_ en, r_ b, i_ 0, i_ 3, r_ d, r_ ret_, i_ 0, i_ 3, i_ 3, i_ 0, i_ 3, u_, u_, u_, u_, u_] [(.int 4)])) _
    refine is_ X17 hx hby d24_114 (l' := #[r_ en, r_ b, i_ 0, i_ 3, r_ d, r_ ret_, i_ 0, i_ 3, i_ 3, i_ 0, i_ 3, i_ 4, u_, u_, u_, u_]) rfl ?_
    refine il_ X17 hx hby d24_116 rfl ?_
    refine il_ X17 hx hby d24_118 rfl ?_
    refine XS.iadd X17.here hx rfl (hb hby d24_120) rfl ?_
    show Steps p.tables e below (T17.setTop (mkF m 121 #[r_ en, r_ b, i_ 0, i_ 3, r_ d, r_ ret_, i_ 0, i_ 3, i_ 3, i_ 0, i_ 3, i_ 4, u_, u_, u_, u_] [(.int 4)])) _
    refine is_ X17 hx hby d24_121 (l' := #[r_ en, r_ b, i_ 0, i_ 3, r_ d, r_ ret_, i_ 0, i_ 3, i_ 3, i_ 4, i_ 3, i_ 4, u_, u_, u_, u_]) rfl ?_
    refine il_ X17 hx hby d24_123 rfl ?_
    refine is_ X17 hx hby d24_125 (l' := #[r_ en, r_ b, i_ 0, i_ 3, r_ d, r_ ret_, i_ 3, i_ 3, i_ 3, i_ 4, i_ 3, i_ 4, u_, u_, u_, u_]) rfl ?_
    refine il_ X17 hx hby d24_127 rfl ?_
    refine aN_ X17 hx hby d24_129 rfl rfl ?_
    exact k_)
  obtain ⟨T30, X30, e30, st30⟩ := getF X17 hx hZ hown (host := "") (Or.inl (own_w hw 139 rfl)) Via.refl rfl f21 (g := (mkF m 130 #[r_ en, r_ b, i_ 0, i_ 3, r_ d, r_ ret_, i_ 3, i_ 3, i_ 3, i_ 4, i_ 3, i_ 4, u_, u_, u_, u_] [(.ref en), (.int 4)])) rfl rfl (hb hby d24_130)
  have P31 := oS (T30.setTop (mkF m 133 #[r_ en, r_ b, i_ 0, i_ 3, r_ d, r_ ret_, i_ 3, i_ 3, i_ 3, i_ 4, i_ 3, i_ 4, u_, u_, u_, u_] [(.int (-1 : Int32)), (.int 4)])) P29 (fun t_ k_ => st30 t_ k_)
  have P32 := oS (T30.setTop (mkF m 73 #[r_ en, r_ b, i_ 0, i_ 3, r_ d, r_ ret_, i_ 3, i_ 3, i_ 3, i_ 4, i_ 3, i_ 4, u_, u_, u_, u_] [(.int 3), (.int 3)])) P31 (by
    intro _ k_
    refine cY_ X30 hx hby d24_133 (pc := 133) (pc' := 186) (feq (by decide : ¬ ((4 : Int32) = (-1 : Int32)))).2 (by decide) ?_
    refine gt_ X30 hx hby d24_186 (pc := 186) (pc' := 69) (by decide) ?_
    refine il_ X30 hx hby d24_69 rfl ?_
    refine il_ X30 hx hby d24_71 rfl ?_
    exact k_)
  have P33 := oS (T30.setTop (mkF m 192 #[r_ en, r_ b, i_ 0, i_ 3, r_ d, r_ ret_, i_ 3, i_ 3, i_ 3, i_ 4, i_ 3, i_ 4, u_, u_, u_, u_] [(.int 3), (.int 3)])) P32 (by
    intro _ k_
    refine cY_ X30 hx hby d24_73 (pc := 73) (pc' := 189) (flt (by decide : ¬ ((3 : Int32) < (3 : Int32)))).2.1 (by decide) ?_
    refine il_ X30 hx hby d24_189 rfl ?_
    refine iN_ X30 hx hby d24_191 rfl ?_
    exact k_)
  have P34 := oS (T30.setTop (mkF m 354 #[r_ en, r_ b, i_ 0, i_ 3, r_ d, r_ ret_, i_ 3, i_ 3, i_ 3, i_ 4, i_ 3, i_ 4, u_, u_, u_, u_] [(.int 4)])) P33 (by
    intro _ k_
    refine cY_ X30 hx hby d24_192 (pc := 192) (pc' := 352) (flt (by decide : ¬ ((3 : Int32) < (3 : Int32)))).2.1 (by decide) ?_
    refine il_ X30 hx hby d24_352 rfl ?_
    exact k_)
  exact own_out X30 hlk (v := some (.int 4)) (own_hv hrt) P34 (fun _ q_ => retI X30 hx hrt (hb hby d24_354) q_) e30 ⟨rfl, N17, f25, f18⟩ (by decide)
def Q_enc_3 (Z : State) (en : Addr) (b : Addr) (k : ClassId) (y0 : Int32) (y1 : Int32) (y2 : Int32) (v0 : Int32) (v1 : Int32) (v2 : Int32) (v3 : Int32) (x0 : Int32) (x1 : Int32) (x2 : Int32) (x3 : Int32) (ret_ : Addr) (ket : ClassId) (h0 : Heap) (n0 : Nat) (v_ : Option Value) (h : Heap) (L_ : List Loc) : Prop := ∃ (xq : Addr) (kk : ClassId), v_ = some (.ref xq) ∧ Fr n0 L_ ∧ Keep h0 h [] ∧ h0.size ≤ xq ∧ Arv Z h xq kk .byte (4 : Int32) [(.int x0), (.int x1), (.int x2), (.int x3)] (.int 0) ∧ Exa Z h xq "[B"
set_option maxRecDepth 65536 in
set_option maxHeartbeats 40000000 in
theorem rm_enc_3 (l : Launch) (Z : State) (a0 : Array Value) (hw : ∀ d ∈ tables_1, d.before a0 Z = true) (ws : List Jvm.Cond) (en : Addr) (b : Addr) (k : ClassId) (y0 : Int32) (y1 : Int32) (y2 : Int32) (v0 : Int32) (v1 : Int32) (v2 : Int32) (v3 : Int32) (x0 : Int32) (x1 : Int32) (x2 : Int32) (x3 : Int32) (ret_ : Addr) (ket : ClassId) (h0 : Heap) (n0 : Nat) (Z0 : n0 ≤ h0.size) (O : Old Z n0 h0) (Set : Sta Z Z.heap "java/util/Base64$Encoder" "toBase64URL" "[C" (.ref ret_)) (Vet : Arv Z Z.heap ret_ ket .char (64 : Int32) own_enc (.int 0)) (Ee : Exa Z h0 en "java/util/Base64$Encoder") (Fp : Fld Z h0 en "java/util/Base64$Encoder" "doPadding" "Z" (.int 0)) (Fl : Fld Z h0 en "java/util/Base64$Encoder" "linemax" "I" (.int (-1 : Int32))) (Fe : Fld Z h0 en "java/util/Base64$Encoder" "isURL" "Z" (.int 1)) (Vb : Arv Z h0 b k .byte (3 : Int32) [(.int y0), (.int y1), (.int y2)] (.int 0)) (hk0 : ¬ (((((((y0 &&& 255) <<< ((16 : Int32) &&& 31)) ||| ((y1 &&& 255) <<< ((8 : Int32) &&& 31))) ||| (y2 &&& 255)).toUInt32 >>> ((18 : Int32) &&& 31).toUInt32).toInt32) &&& 63) < 0 ∧ (((((((y0 &&& 255) <<< ((16 : Int32) &&& 31)) ||| ((y1 &&& 255) <<< ((8 : Int32) &&& 31))) ||| (y2 &&& 255)).toUInt32 >>> ((18 : Int32) &&& 31).toUInt32).toInt32) &&& 63) < (64 : Int32)) (hv0 : own_enc.getD (((((((y0 &&& 255) <<< ((16 : Int32) &&& 31)) ||| ((y1 &&& 255) <<< ((8 : Int32) &&& 31))) ||| (y2 &&& 255)).toUInt32 >>> ((18 : Int32) &&& 31).toUInt32).toInt32) &&& 63).toNatClampNeg (.int 0) = .int v0) (hz0 : v0.toInt8.toInt32.toInt8.toInt32 = x0) (hk1 : ¬ (((((((y0 &&& 255) <<< ((16 : Int32) &&& 31)) ||| ((y1 &&& 255) <<< ((8 : Int32) &&& 31))) ||| (y2 &&& 255)).toUInt32 >>> ((12 : Int32) &&& 31).toUInt32).toInt32) &&& 63) < 0 ∧ (((((((y0 &&& 255) <<< ((16 : Int32) &&& 31)) ||| ((y1 &&& 255) <<< ((8 : Int32) &&& 31))) ||| (y2 &&& 255)).toUInt32 >>> ((12 : Int32) &&& 31).toUInt32).toInt32) &&& 63) < (64 : Int32)) (hv1 : own_enc.getD (((((((y0 &&& 255) <<< ((16 : Int32) &&& 31)) ||| ((y1 &&& 255) <<< ((8 : Int32) &&& 31))) ||| (y2 &&& 255)).toUInt32 >>> ((12 : Int32) &&& 31).toUInt32).toInt32) &&& 63).toNatClampNeg (.int 0) = .int v1) (hz1 : v1.toInt8.toInt32.toInt8.toInt32 = x1) (hk2 : ¬ (((((((y0 &&& 255) <<< ((16 : Int32) &&& 31)) ||| ((y1 &&& 255) <<< ((8 : Int32) &&& 31))) ||| (y2 &&& 255)).toUInt32 >>> ((6 : Int32) &&& 31).toUInt32).toInt32) &&& 63) < 0 ∧ (((((((y0 &&& 255) <<< ((16 : Int32) &&& 31)) ||| ((y1 &&& 255) <<< ((8 : Int32) &&& 31))) ||| (y2 &&& 255)).toUInt32 >>> ((6 : Int32) &&& 31).toUInt32).toInt32) &&& 63) < (64 : Int32)) (hv2 : own_enc.getD (((((((y0 &&& 255) <<< ((16 : Int32) &&& 31)) ||| ((y1 &&& 255) <<< ((8 : Int32) &&& 31))) ||| (y2 &&& 255)).toUInt32 >>> ((6 : Int32) &&& 31).toUInt32).toInt32) &&& 63).toNatClampNeg (.int 0) = .int v2) (hz2 : v2.toInt8.toInt32.toInt8.toInt32 = x2) (hk3 : ¬ (((((y0 &&& 255) <<< ((16 : Int32) &&& 31)) ||| ((y1 &&& 255) <<< ((8 : Int32) &&& 31))) ||| (y2 &&& 255)) &&& 63) < 0 ∧ (((((y0 &&& 255) <<< ((16 : Int32) &&& 31)) ||| ((y1 &&& 255) <<< ((8 : Int32) &&& 31))) ||| (y2 &&& 255)) &&& 63) < (64 : Int32)) (hv3 : own_enc.getD (((((y0 &&& 255) <<< ((16 : Int32) &&& 31)) ||| ((y1 &&& 255) <<< ((8 : Int32) &&& 31))) ||| (y2 &&& 255)) &&& 63).toNatClampNeg (.int 0) = .int v3) (hz3 : v3.toInt8.toInt32.toInt8.toInt32 = x3) :
    own_MF l yM21 (.code yM21 cB21 5 (some (.array .byte))) ws ⟨2, 1, 4, 49⟩ #[(.ref en), (.ref b)] Z h0 own_T (Q_enc_3 Z en b k y0 y1 y2 v0 v1 v2 v3 x0 x1 x2 x3 ret_ ket h0 n0) := by
  refine own_in "java/util/Base64$Encoder" rfl (plainFor_of_name pn4) hisR (fun m => ef21RR m en b) ?_
  intro p e s m below meth c s₁ A_ hx hby hml hown hnm hrt hlk hZ _ X0 e0 pre0
  have N0 := Fr.nil n0
  have P1 := oS (s₁.setTop (mkF m 2 #[r_ en, r_ b, u_, u_, u_] [(.ref b), (.ref en)])) pre0 (by
    intro _ k_
    refine aN_ X0 hx hby d21_0 rfl rfl ?_
    refine aN_ X0 hx hby d21_1 rfl rfl ?_
    exact k_)
  obtain ⟨cl2, Ar2, q2, S2, M2, H2, G2⟩ := id Vb
  have P3 := oS (s₁.setTop (mkF m 3 #[r_ en, r_ b, u_, u_, u_] [(.int 3), (.ref en)])) P1 (by
    intro _ k_
    refine X0.arraylength hx (by rw [e0]; exact Ar2.1) (State.isArrayOf_alike hZ.alike Ar2.2.1) (g := (mkF m 2 #[r_ en, r_ b, u_, u_, u_] [(.ref b), (.ref en)])) rfl rfl (hb hby d21_2) _ ?_
    rw [len_of S2 M2]
    exact k_)
  have P4 := oS (s₁.setTop (mkF m 4 #[r_ en, r_ b, u_, u_, u_] [(.int 1), (.int 3), (.ref en)])) P3 (by
    intro _ k_
    refine XS.iconst X0.here hx rfl (hb hby d21_3) ?_
    exact k_)
  obtain ⟨_, T5, L5, X5, hQ5, P5c⟩ := own_cPH (W := 0) (rm_eol_3 l Z a0 hw [] en h0 n0 Z0 O Fp Fl Fe) X0 hx hZ (fun _ _ => trivial) hown Ee (own_w hw 125 rfl) (own_w hw 127 rfl) (own_w hw 128 rfl) (own_w hw 126 rfl) (own_w hw 118 rfl) (own_w hw 129 rfl) (by decide) P4 hml rfl [(.int 3), (.int 1)] [] rfl rfl rfl pd13 rfl (hb hby d21_4) e0 (by decide)
  obtain ⟨rfl, N5q, e5⟩ := hQ5
  have N5 := Fr.app N0 N5q
  have P6 := own_to (C := T5.setTop (mkF m 7 #[r_ en, r_ b, u_, u_, u_] [(.int 4)])) P5c
  have P7 := oS (T5.setTop (mkF m 9 #[r_ en, r_ b, i_ 4, u_, u_] [(.int 4)])) P6 (by
    intro _ k_
    refine XS.istoreN X5.here hx rfl (hb hby d21_7) rfl (l' := #[r_ en, r_ b, i_ 4, u_, u_]) rfl ?_
    refine iN_ X5 hx hby d21_8 rfl ?_
    exact k_)
  obtain ⟨T8, h8, k8, X8, e8, E8, A8, EA8, st8⟩ := newPE X5 hx hZ (own_w hw 23 rfl) e5 (g := (mkF m 9 #[r_ en, r_ b, i_ 4, u_, u_] [(.int 4)])) rfl (hb hby d21_9) rfl (by decide) (cap := 4) (by decide) (by decide) (by decide) (by decide) (ad := "[B") (by decide +kernel)
  obtain ⟨b8, g8⟩ : ∃ z, z = h0.size := ⟨_, rfl⟩
  rw [← g8] at A8 EA8 st8
  have ne_en_b8 : en ≠ b8 := Nat.ne_of_lt (Nat.lt_of_lt_of_le Fp.lt (Nat.le_of_eq g8.symm))
  have ne_b_b8 : b ≠ b8 := Nat.ne_of_lt (Nat.lt_of_lt_of_le Vb.lt (Nat.le_of_eq g8.symm))
  have g_b8 : n0 ≤ b8 := Nat.le_trans Z0 (Nat.le_of_eq g8.symm)
  have sz_b8 : h0.size ≤ b8 := Nat.le_trans (Keep.refl h0 []).1 (Nat.le_of_eq g8.symm)
  have f9 := O.ext E8
  have f10 := Fp.ext E8
  have f11 := Fl.ext E8
  have f12 := Fe.ext E8
  have f13 := (Keep.refl h0 []).ext E8
  have f14 := Vb.ext E8
  have f15 := Ee.ext E8
  have Z16 : n0 ≤ h8.size := Nat.le_trans Z0 E8.1
  have V8 : Arv Z h8 b8 k8 .byte (4 : Int32) [(.int 0), (.int 0), (.int 0), (.int 0)] (.int 0) := (Arv.new A8 (by decide)).pad (pad_rep [] _ 4)
  have P17 := oS (T8.setTop (mkF m 11 #[r_ en, r_ b, i_ 4, u_, u_] [(.ref b8)])) P7 (fun t_ k_ => st8 t_ k_)
  have P18 := oS (T8.setTop (mkF m 16 #[r_ en, r_ b, i_ 4, r_ b8, u_] [(.ref b), (.int 0), (.ref b), (.ref en)])) P17 (by
    intro _ k_
    refine XS.astoreN X8.here hx rfl (hb hby d21_11) rfl rfl (l' := #[r_ en, r_ b, i_ 4, r_ b8, u_]) rfl ?_
    refine aN_ X8 hx hby d21_12 rfl rfl ?_
    refine aN_ X8 hx hby d21_13 rfl rfl ?_
    refine XS.iconst X8.here hx rfl (hb hby d21_14) ?_
    refine aN_ X8 hx hby d21_15 rfl rfl ?_
    exact k_)
  obtain ⟨cl19, Ar19, q19, S19, M19, H19, G19⟩ := id f14
  have P20 := oS (T8.setTop (mkF m 17 #[r_ en, r_ b, i_ 4, r_ b8, u_] [(.int 3), (.int 0), (.ref b), (.ref en)])) P18 (by
    intro _ k_
    refine X8.arraylength hx (by rw [e8]; exact Ar19.1) (State.isArrayOf_alike hZ.alike Ar19.2.1) (g := (mkF m 16 #[r_ en, r_ b, i_ 4, r_ b8, u_] [(.ref b), (.int 0), (.ref b), (.ref en)])) rfl rfl (hb hby d21_16) _ ?_
    rw [len_of S19 M19]
    exact k_)
  have P21 := oS (T8.setTop (mkF m 18 #[r_ en, r_ b, i_ 4, r_ b8, u_] [(.ref b8), (.int 3), (.int 0), (.ref b), (.ref en)])) P20 (by
    intro _ k_
    refine aN_ X8 hx hby d21_17 rfl rfl ?_
    exact k_)
  obtain ⟨_, T22, L22, X22, hQ22, P22c⟩ := own_cP (W := 0) (rm_enc0_3 l Z a0 hw [] en b k b8 k8 y0 y1 y2 v0 v1 v2 v3 x0 x1 x2 x3 ret_ ket h8 n0 Z16 f9 Set Vet f15 f10 f11 f12 f14 V8 ne_b_b8 g_b8 ne_en_b8 hk0 hv0 hz0 hk1 hv1 hz1 hk2 hv2 hz2 hk3 hv3 hz3) X8 hx hZ (fun _ _ => trivial) hown f15 (own_w hw 141 rfl) (own_w hw 143 rfl) (own_w hw 144 rfl) (own_w hw 142 rfl) (own_w hw 118 rfl) (own_w hw 145 rfl) (by decide) P21 hml rfl [(.ref b), (.int 0), (.int 3), (.ref b8)] [] rfl rfl rfl pd9 rfl (hb hby d21_18) e8 (by decide)
  obtain ⟨rfl, N22q, K22, f23⟩ := hQ22
  have N22 := Fr.app N5 N22q
  have f28 := f13.trans K22 (allS (Or.inr sz_b8) all0)
  have f32 := EA8.keep K22
  have P34 := own_to (C := T22.setTop (mkF m 21 #[r_ en, r_ b, i_ 4, r_ b8, u_] [(.int 4)])) P22c
  have P35 := oS (T22.setTop (mkF m 26 #[r_ en, r_ b, i_ 4, r_ b8, i_ 4] [(.ref b8), (.int 4)])) P34 (by
    intro _ k_
    refine is_ X22 hx hby d21_21 (l' := #[r_ en, r_ b, i_ 4, r_ b8, i_ 4]) rfl ?_
    refine il_ X22 hx hby d21_23 rfl ?_
    refine aN_ X22 hx hby d21_25 rfl rfl ?_
    exact k_)
  obtain ⟨cl36, Ar36, q36, S36, M36, H36, G36⟩ := id f23
  have P37 := oS (T22.setTop (mkF m 27 #[r_ en, r_ b, i_ 4, r_ b8, i_ 4] [(.int 4), (.int 4)])) P35 (by
    intro _ k_
    refine X22.arraylength hx Ar36.1 (State.isArrayOf_alike hZ.alike Ar36.2.1) (g := (mkF m 26 #[r_ en, r_ b, i_ 4, r_ b8, i_ 4] [(.ref b8), (.int 4)])) rfl rfl (hb hby d21_26) _ ?_
    rw [len_of S36 M36]
    exact k_)
  have P38 := oS (T22.setTop (mkF m 38 #[r_ en, r_ b, i_ 4, r_ b8, i_ 4] [(.ref b8)])) P37 (by
    intro _ k_
    refine cY_ X22 hx hby d21_27 (pc := 27) (pc' := 37) (teq (by decide : (4 : Int32) = (4 : Int32))).1 (by decide) ?_
    refine aN_ X22 hx hby d21_37 rfl rfl ?_
    exact k_)
  exact own_out X22 hlk (v := some (.ref b8)) (own_hv hrt) P38 (fun _ q_ => retOut X22 hx hrt rfl (Or.inr (Or.inr (Or.inr (Or.inr ⟨rfl, rfl, rfl⟩)))) (hb hby d21_38) q_) (rfl : T22.heap = _) ⟨b8, k8, rfl, N22, f28, sz_b8, f23, f32⟩ (by decide)
def Q_eStr_3 (Z : State) (en : Addr) (b : Addr) (k : ClassId) (y0 : Int32) (y1 : Int32) (y2 : Int32) (v0 : Int32) (v1 : Int32) (v2 : Int32) (v3 : Int32) (x0 : Int32) (x1 : Int32) (x2 : Int32) (x3 : Int32) (ret_ : Addr) (ket : ClassId) (fm : Value) (cs : Int32) (h0 : Heap) (n0 : Nat) (v_ : Option Value) (h : Heap) (L_ : List Loc) : Prop := ∃ (rs : Addr) (rv : Addr) (kr : ClassId), v_ = some (.ref rs) ∧ Fr n0 L_ ∧ Keep h0 h [] ∧ h0.size ≤ rs ∧ Exa Z h rs "java/lang/String" ∧ Fld Z h rs "java/lang/String" "coder" "B" (.int 0) ∧ Fld Z h rs "java/lang/String" "value" "[B" (.ref rv) ∧ Arv Z h rv kr .byte (4 : Int32) [(.int x0), (.int x1), (.int x2), (.int x3)] (.int 0) ∧ h0.size ≤ rv
set_option maxRecDepth 65536 in
set_option maxHeartbeats 40000000 in
theorem rm_eStr_3 (l : Launch) (Z : State) (a0 : Array Value) (hw : ∀ d ∈ tables_1, d.before a0 Z = true) (ws : List Jvm.Cond) (en : Addr) (b : Addr) (k : ClassId) (y0 : Int32) (y1 : Int32) (y2 : Int32) (v0 : Int32) (v1 : Int32) (v2 : Int32) (v3 : Int32) (x0 : Int32) (x1 : Int32) (x2 : Int32) (x3 : Int32) (ret_ : Addr) (ket : ClassId) (fm : Value) (cs : Int32) (h0 : Heap) (n0 : Nat) (Z0 : n0 ≤ h0.size) (O : Old Z n0 h0) (Scs : Sta Z Z.heap "java/lang/String" "COMPACT_STRINGS" "Z" (.int cs)) (hcs : ¬ (cs = (0 : Int32))) (Sfm : Sta Z Z.heap "jdk/internal/util/Preconditions" "SIOOBE_FORMATTER" "Ljava/util/function/BiFunction;" fm) (hfm : fm.category = 1) (Set : Sta Z Z.heap "java/util/Base64$Encoder" "toBase64URL" "[C" (.ref ret_)) (Vet : Arv Z Z.heap ret_ ket .char (64 : Int32) own_enc (.int 0)) (Ee : Exa Z h0 en "java/util/Base64$Encoder") (Fp : Fld Z h0 en "java/util/Base64$Encoder" "doPadding" "Z" (.int 0)) (Fl : Fld Z h0 en "java/util/Base64$Encoder" "linemax" "I" (.int (-1 : Int32))) (Fe : Fld Z h0 en "java/util/Base64$Encoder" "isURL" "Z" (.int 1)) (Vb : Arv Z h0 b k .byte (3 : Int32) [(.int y0), (.int y1), (.int y2)] (.int 0)) (hk0 : ¬ (((((((y0 &&& 255) <<< ((16 : Int32) &&& 31)) ||| ((y1 &&& 255) <<< ((8 : Int32) &&& 31))) ||| (y2 &&& 255)).toUInt32 >>> ((18 : Int32) &&& 31).toUInt32).toInt32) &&& 63) < 0 ∧ (((((((y0 &&& 255) <<< ((16 : Int32) &&& 31)) ||| ((y1 &&& 255) <<< ((8 : Int32) &&& 31))) ||| (y2 &&& 255)).toUInt32 >>> ((18 : Int32) &&& 31).toUInt32).toInt32) &&& 63) < (64 : Int32)) (hv0 : own_enc.getD (((((((y0 &&& 255) <<< ((16 : Int32) &&& 31)) ||| ((y1 &&& 255) <<< ((8 : Int32) &&& 31))) ||| (y2 &&& 255)).toUInt32 >>> ((18 : Int32) &&& 31).toUInt32).toInt32) &&& 63).toNatClampNeg (.int 0) = .int v0) (hz0 : v0.toInt8.toInt32.toInt8.toInt32 = x0) (hk1 : ¬ (((((((y0 &&& 255) <<< ((16 : Int32) &&& 31)) ||| ((y1 &&& 255) <<< ((8 : Int32) &&& 31))) ||| (y2 &&& 255)).toUInt32 >>> ((12 : Int32) &&& 31).toUInt32).toInt32) &&& 63) < 0 ∧ (((((((y0 &&& 255) <<< ((16 : Int32) &&& 31)) ||| ((y1 &&& 255) <<< ((8 : Int32) &&& 31))) ||| (y2 &&& 255)).toUInt32 >>> ((12 : Int32) &&& 31).toUInt32).toInt32) &&& 63) < (64 : Int32)) (hv1 : own_enc.getD (((((((y0 &&& 255) <<< ((16 : Int32) &&& 31)) ||| ((y1 &&& 255) <<< ((8 : Int32) &&& 31))) ||| (y2 &&& 255)).toUInt32 >>> ((12 : Int32) &&& 31).toUInt32).toInt32) &&& 63).toNatClampNeg (.int 0) = .int v1) (hz1 : v1.toInt8.toInt32.toInt8.toInt32 = x1) (hk2 : ¬ (((((((y0 &&& 255) <<< ((16 : Int32) &&& 31)) ||| ((y1 &&& 255) <<< ((8 : Int32) &&& 31))) ||| (y2 &&& 255)).toUInt32 >>> ((6 : Int32) &&& 31).toUInt32).toInt32) &&& 63) < 0 ∧ (((((((y0 &&& 255) <<< ((16 : Int32) &&& 31)) ||| ((y1 &&& 255) <<< ((8 : Int32) &&& 31))) ||| (y2 &&& 255)).toUInt32 >>> ((6 : Int32) &&& 31).toUInt32).toInt32) &&& 63) < (64 : Int32)) (hv2 : own_enc.getD (((((((y0 &&& 255) <<< ((16 : Int32) &&& 31)) ||| ((y1 &&& 255) <<< ((8 : Int32) &&& 31))) ||| (y2 &&& 255)).toUInt32 >>> ((6 : Int32) &&& 31).toUInt32).toInt32) &&& 63).toNatClampNeg (.int 0) = .int v2) (hz2 : v2.toInt8.toInt32.toInt8.toInt32 = x2) (hk3 : ¬ (((((y0 &&& 255) <<< ((16 : Int32) &&& 31)) ||| ((y1 &&& 255) <<< ((8 : Int32) &&& 31))) ||| (y2 &&& 255)) &&& 63) < 0 ∧ (((((y0 &&& 255) <<< ((16 : Int32) &&& 31)) ||| ((y1 &&& 255) <<< ((8 : Int32) &&& 31))) ||| (y2 &&& 255)) &&& 63) < (64 : Int32)) (hv3 : own_enc.getD (((((y0 &&& 255) <<< ((16 : Int32) &&& 31)) ||| ((y1 &&& 255) <<< ((8 : Int32) &&& 31))) ||| (y2 &&& 255)) &&& 63).toNatClampNeg (.int 0) = .int v3) (hz3 : v3.toInt8.toInt32.toInt8.toInt32 = x3) :
    own_MF l yM20 (.code yM20 cB20 3 (some (.object "java/lang/String"))) ws ⟨3, 3, 12, 65⟩ #[(.ref en), (.ref b)] Z h0 own_T (Q_eStr_3 Z en b k y0 y1 y2 v0 v1 v2 v3 x0 x1 x2 x3 ret_ ket fm cs h0 n0) := by
  refine own_in "java/util/Base64$Encoder" rfl (plainFor_of_name pn4) hisR (fun m => ef20RR m en b) ?_
  intro p e s m below meth c s₁ A_ hx hby hml hown hnm hrt hlk hZ _ X0 e0 pre0
  have N0 := Fr.nil n0
  have P1 := oS (s₁.setTop (mkF m 2 #[r_ en, r_ b, u_] [(.ref b), (.ref en)])) pre0 (by
    intro _ k_
    refine aN_ X0 hx hby d20_0 rfl rfl ?_
    refine aN_ X0 hx hby d20_1 rfl rfl ?_
    exact k_)
  obtain ⟨_, T2, L2, X2, hQ2, P2c⟩ := own_cV (W := 0) (rm_enc_3 l Z a0 hw [] en b k y0 y1 y2 v0 v1 v2 v3 x0 x1 x2 x3 ret_ ket h0 n0 Z0 O Set Vet Ee Fp Fl Fe Vb hk0 hv0 hz0 hk1 hv1 hz1 hk2 hv2 hz2 hk3 hv3 hz3) X0 hx hZ (fun _ _ => trivial) hown Ee (own_w hw 120 rfl) (own_w hw 121 rfl) (own_w hw 123 rfl) (own_w hw 122 rfl) (own_w hw 118 rfl) (own_w hw 124 rfl) (by decide) P1 hml rfl [(.ref b)] [] rfl rfl rfl pd11 rfl (hb hby d20_2) e0 (by decide)
  obtain ⟨xq2, kk2, rfl, N2q, K2, f3, f4, f5⟩ := hQ2
  have N2 := Fr.app N0 N2q
  have f6 := O.keep K2 all0
  have f10 := (Keep.refl h0 []).trans K2 all0
  have Z13 : n0 ≤ T2.heap.size := Nat.le_trans Z0 K2.1
  have P14 := own_to (C := T2.setTop (mkF m 5 #[r_ en, r_ b, u_] [(.ref xq2)])) P2c
  have P15 := oS (T2.setTop (mkF m 6 #[r_ en, r_ b, r_ xq2] [])) P14 (by
    intro _ k_
    refine XS.astoreN X2.here hx rfl (hb hby d20_5) rfl rfl (l' := #[r_ en, r_ b, r_ xq2]) rfl ?_
    exact k_)
  obtain ⟨T16, h16, X16, e16, E16, A16, D16, -, st16⟩ := newO X2 hx hZ hown (own_w hw 157 rfl) (own_w hw 6 rfl) (own_w hw 7 rfl) rfl (g := (mkF m 6 #[r_ en, r_ b, r_ xq2] [])) rfl (hb hby d20_6) (by decide) (by decide)
  obtain ⟨b16, g16⟩ : ∃ z, z = T2.heap.size := ⟨_, rfl⟩
  rw [← g16] at A16 D16 st16
  have g_b16 : n0 ≤ b16 := Nat.le_trans Z13 (Nat.le_of_eq g16.symm)
  have sz_b16 : h0.size ≤ b16 := Nat.le_trans f10.1 (Nat.le_of_eq g16.symm)
  have f17 := f6.ext E16
  have f21 := f10.ext E16
  have f24 := f4.ext E16
  have f25 := f5.ext E16
  have Z26 : n0 ≤ h16.size := Nat.le_trans Z13 E16.1
  have f27 : Fld Z h16 b16 "java/lang/String" "coder" "B" (.int 0) := D16 (Or.inr (own_w hw 31 rfl)) (ty := .byte) (by decide)
  have f28 : Fld Z h16 b16 "java/lang/String" "value" "[B" .null := D16 (Or.inr (own_w hw 33 rfl)) (ty := (.array .byte)) (by decide)
  have P29 := oS (T16.setTop (mkF m 9 #[r_ en, r_ b, r_ xq2] [(.ref b16)])) P15 (fun t_ k_ => st16 t_ k_)
  have P30 := oS (T16.setTop (mkF m 14 #[r_ en, r_ b, r_ xq2] [(.ref xq2), (.int 0), (.int 0), (.ref xq2), (.ref b16), (.ref b16)])) P29 (by
    intro _ k_
    refine XS.dup X16.here hx rfl (hb hby d20_9) rfl rfl ?_
    refine aN_ X16 hx hby d20_10 rfl rfl ?_
    refine XS.iconst X16.here hx rfl (hb hby d20_11) ?_
    refine XS.iconst X16.here hx rfl (hb hby d20_12) ?_
    refine aN_ X16 hx hby d20_13 rfl rfl ?_
    exact k_)
  obtain ⟨cl31, Ar31, q31, S31, M31, H31, G31⟩ := id f24
  have P32 := oS (T16.setTop (mkF m 15 #[r_ en, r_ b, r_ xq2] [(.int 4), (.int 0), (.int 0), (.ref xq2), (.ref b16), (.ref b16)])) P30 (by
    intro _ k_
    refine X16.arraylength hx (by rw [e16]; exact Ar31.1) (State.isArrayOf_alike hZ.alike Ar31.2.1) (g := (mkF m 14 #[r_ en, r_ b, r_ xq2] [(.ref xq2), (.int 0), (.int 0), (.ref xq2), (.ref b16), (.ref b16)])) rfl rfl (hb hby d20_14) _ ?_
    rw [len_of S31 M31]
    exact k_)
  obtain ⟨_, T33, L33, X33, hQ33, P33c⟩ := own_cI (W := 1) (rm_initB_0 l Z a0 hw [] b16 xq2 kk2 [(.int x0), (.int x1), (.int x2), (.int x3)] fm cs (4 : Int32) h16 n0 Z26 f17 Scs hcs Sfm hfm A16 f28 f27 g_b16 f24 f25 (by decide) (by decide) (by decide) (by decide) (by decide)) X16 hx hZ (fun _ _ => trivial) hown rfl (own_w hw 158 rfl) (own_w hw 159 rfl) (own_w hw 7 rfl) (own_w hw 160 rfl) (by decide) P32 hml rfl [(.ref xq2), (.int 0), (.int 0), (.int 4)] [(.ref b16)] rfl rfl rfl pd16 rfl (hb hby d20_15) e16 (by decide)
  obtain ⟨xq33, rfl, N33q, K33, f34, f35, f36, f37, f38⟩ := hQ33
  have N33 := Fr.app N2 N33q
  have sz_xq33 : h0.size ≤ xq33 := Nat.le_trans f21.1 f38
  have f43 := f21.trans K33 (allS (Or.inr sz_b16) all0)
  have P52 := own_to (C := T33.setTop (mkF m 18 #[r_ en, r_ b, r_ xq2] [(.ref b16)])) P33c
  exact own_out X33 hlk (v := some (.ref b16)) (own_hv hrt) P52 (fun _ q_ => retOut X33 hx hrt rfl (Or.inr (Or.inr (Or.inr (Or.inr ⟨rfl, rfl, rfl⟩)))) (hb hby d20_18) q_) (rfl : T33.heap = _) ⟨b16, xq33, kk2, rfl, N33, f43, sz_b16, f34, f35, f36, f37, sz_xq33⟩ (by decide)
def Q_buE_3 (Z : State) (en : Addr) (b : Addr) (k : ClassId) (y0 : Int32) (y1 : Int32) (y2 : Int32) (v0 : Int32) (v1 : Int32) (v2 : Int32) (v3 : Int32) (x0 : Int32) (x1 : Int32) (x2 : Int32) (x3 : Int32) (ret_ : Addr) (ket : ClassId) (fm : Value) (cs : Int32) (h0 : Heap) (n0 : Nat) (v_ : Option Value) (h : Heap) (L_ : List Loc) : Prop := ∃ (rs : Addr) (rv : Addr) (kr : ClassId), v_ = some (.ref rs) ∧ Fr n0 L_ ∧ Keep h0 h [] ∧ h0.size ≤ rs ∧ Exa Z h rs "java/lang/String" ∧ Fld Z h rs "java/lang/String" "coder" "B" (.int 0) ∧ Fld Z h rs "java/lang/String" "value" "[B" (.ref rv) ∧ Arv Z h rv kr .byte (4 : Int32) [(.int x0), (.int x1), (.int x2), (.int x3)] (.int 0) ∧ h0.size ≤ rv
set_option maxRecDepth 65536 in
set_option maxHeartbeats 40000000 in
theorem rm_buE_3 (l : Launch) (Z : State) (a0 : Array Value) (hw : ∀ d ∈ tables_1, d.before a0 Z = true) (ws : List Jvm.Cond) (en : Addr) (b : Addr) (k : ClassId) (y0 : Int32) (y1 : Int32) (y2 : Int32) (v0 : Int32) (v1 : Int32) (v2 : Int32) (v3 : Int32) (x0 : Int32) (x1 : Int32) (x2 : Int32) (x3 : Int32) (ret_ : Addr) (ket : ClassId) (fm : Value) (cs : Int32) (h0 : Heap) (n0 : Nat) (Z0 : n0 ≤ h0.size) (O : Old Z n0 h0) (Scs : Sta Z Z.heap "java/lang/String" "COMPACT_STRINGS" "Z" (.int cs)) (hcs : ¬ (cs = (0 : Int32))) (Sfm : Sta Z Z.heap "jdk/internal/util/Preconditions" "SIOOBE_FORMATTER" "Ljava/util/function/BiFunction;" fm) (hfm : fm.category = 1) (Set : Sta Z Z.heap "java/util/Base64$Encoder" "toBase64URL" "[C" (.ref ret_)) (Vet : Arv Z Z.heap ret_ ket .char (64 : Int32) own_enc (.int 0)) (Ee : Exa Z h0 en "java/util/Base64$Encoder") (Fp : Fld Z h0 en "java/util/Base64$Encoder" "doPadding" "Z" (.int 0)) (Fl : Fld Z h0 en "java/util/Base64$Encoder" "linemax" "I" (.int (-1 : Int32))) (Fe : Fld Z h0 en "java/util/Base64$Encoder" "isURL" "Z" (.int 1)) (Vb : Arv Z h0 b k .byte (3 : Int32) [(.int y0), (.int y1), (.int y2)] (.int 0)) (hk0 : ¬ (((((((y0 &&& 255) <<< ((16 : Int32) &&& 31)) ||| ((y1 &&& 255) <<< ((8 : Int32) &&& 31))) ||| (y2 &&& 255)).toUInt32 >>> ((18 : Int32) &&& 31).toUInt32).toInt32) &&& 63) < 0 ∧ (((((((y0 &&& 255) <<< ((16 : Int32) &&& 31)) ||| ((y1 &&& 255) <<< ((8 : Int32) &&& 31))) ||| (y2 &&& 255)).toUInt32 >>> ((18 : Int32) &&& 31).toUInt32).toInt32) &&& 63) < (64 : Int32)) (hv0 : own_enc.getD (((((((y0 &&& 255) <<< ((16 : Int32) &&& 31)) ||| ((y1 &&& 255) <<< ((8 : Int32) &&& 31))) ||| (y2 &&& 255)).toUInt32 >>> ((18 : Int32) &&& 31).toUInt32).toInt32) &&& 63).toNatClampNeg (.int 0) = .int v0) (hz0 : v0.toInt8.toInt32.toInt8.toInt32 = x0) (hk1 : ¬ (((((((y0 &&& 255) <<< ((16 : Int32) &&& 31)) ||| ((y1 &&& 255) <<< ((8 : Int32) &&& 31))) ||| (y2 &&& 255)).toUInt32 >>> ((12 : Int32) &&& 31).toUInt32).toInt32) &&& 63) < 0 ∧ (((((((y0 &&& 255) <<< ((16 : Int32) &&& 31)) ||| ((y1 &&& 255) <<< ((8 : Int32) &&& 31))) ||| (y2 &&& 255)).toUInt32 >>> ((12 : Int32) &&& 31).toUInt32).toInt32) &&& 63) < (64 : Int32)) (hv1 : own_enc.getD (((((((y0 &&& 255) <<< ((16 : Int32) &&& 31)) ||| ((y1 &&& 255) <<< ((8 : Int32) &&& 31))) ||| (y2 &&& 255)).toUInt32 >>> ((12 : Int32) &&& 31).toUInt32).toInt32) &&& 63).toNatClampNeg (.int 0) = .int v1) (hz1 : v1.toInt8.toInt32.toInt8.toInt32 = x1) (hk2 : ¬ (((((((y0 &&& 255) <<< ((16 : Int32) &&& 31)) ||| ((y1 &&& 255) <<< ((8 : Int32) &&& 31))) ||| (y2 &&& 255)).toUInt32 >>> ((6 : Int32) &&& 31).toUInt32).toInt32) &&& 63) < 0 ∧ (((((((y0 &&& 255) <<< ((16 : Int32) &&& 31)) ||| ((y1 &&& 255) <<< ((8 : Int32) &&& 31))) ||| (y2 &&& 255)).toUInt32 >>> ((6 : Int32) &&& 31).toUInt32).toInt32) &&& 63) < (64 : Int32)) (hv2 : own_enc.getD (((((((y0 &&& 255) <<< ((16 : Int32) &&& 31)) ||| ((y1 &&& 255) <<< ((8 : Int32) &&& 31))) ||| (y2 &&& 255)).toUInt32 >>> ((6 : Int32) &&& 31).toUInt32).toInt32) &&& 63).toNatClampNeg (.int 0) = .int v2) (hz2 : v2.toInt8.toInt32.toInt8.toInt32 = x2) (hk3 : ¬ (((((y0 &&& 255) <<< ((16 : Int32) &&& 31)) ||| ((y1 &&& 255) <<< ((8 : Int32) &&& 31))) ||| (y2 &&& 255)) &&& 63) < 0 ∧ (((((y0 &&& 255) <<< ((16 : Int32) &&& 31)) ||| ((y1 &&& 255) <<< ((8 : Int32) &&& 31))) ||| (y2 &&& 255)) &&& 63) < (64 : Int32)) (hv3 : own_enc.getD (((((y0 &&& 255) <<< ((16 : Int32) &&& 31)) ||| ((y1 &&& 255) <<< ((8 : Int32) &&& 31))) ||| (y2 &&& 255)) &&& 63).toNatClampNeg (.int 0) = .int v3) (hz3 : v3.toInt8.toInt32.toInt8.toInt32 = x3) (Senc : Sta Z Z.heap "com/example/verified_health_identity/verifiedhealthidentity/jose/Base64url" "ENCODER" "Ljava/util/Base64$Encoder;" (.ref en)) :
    own_MF l yM19 (.code yM19 cB19 1 (some (.object "java/lang/String"))) ws ⟨4, 3, 12, 79⟩ #[(.ref b)] Z h0 own_T (Q_buE_3 Z en b k y0 y1 y2 v0 v1 v2 v3 x0 x1 x2 x3 ret_ ket fm cs h0 n0) := by
  refine own_in "com/example/verified_health_identity/verifiedhealthidentity/jose/Base64url" rfl (plainFor_of_name pn6) hisR (fun m => ef19R m b) ?_
  intro p e s m below meth c s₁ A_ hx hby hml hown hnm hrt hlk hZ _ X0 e0 pre0
  have N0 := Fr.nil n0
  obtain ⟨T1, X1, e1, st1⟩ := getS2 X0 hx hZ hown (host := "") (Or.inl (own_w hw 112 rfl)) Via.refl e0 (Senc.ext O.2) (g := (mkF m 0 #[r_ b] [])) rfl (hb hby d19_0)
  have P2 := oS (T1.setTop (mkF m 3 #[r_ b] [(.ref en)])) pre0 (fun t_ k_ => st1 t_ k_)
  have P3 := oS (T1.setTop (mkF m 4 #[r_ b] [(.ref b), (.ref en)])) P2 (by
    intro _ k_
    refine aN_ X1 hx hby d19_3 rfl rfl ?_
    exact k_)
  obtain ⟨_, T4, L4, X4, hQ4, P4c⟩ := own_cV (W := 0) (rm_eStr_3 l Z a0 hw [] en b k y0 y1 y2 v0 v1 v2 v3 x0 x1 x2 x3 ret_ ket fm cs h0 n0 Z0 O Scs hcs Sfm hfm Set Vet Ee Fp Fl Fe Vb hk0 hv0 hz0 hk1 hv1 hz1 hk2 hv2 hz2 hk3 hv3 hz3) X1 hx hZ (fun _ _ => trivial) hown Ee (own_w hw 114 rfl) (own_w hw 115 rfl) (own_w hw 117 rfl) (own_w hw 116 rfl) (own_w hw 118 rfl) (own_w hw 119 rfl) (by decide) P3 hml rfl [(.ref b)] [] rfl rfl rfl pd17 rfl (hb hby d19_4) e1 (by decide)
  obtain ⟨rs4, rv4, kr4, rfl, N4q, K4, f5, f6, f7, f8, f9, f10⟩ := hQ4
  have N4 := Fr.app N0 N4q
  have sz_rs4 : h0.size ≤ rs4 := Nat.le_trans (Keep.refl h0 []).1 f5
  have sz_rv4 : h0.size ≤ rv4 := Nat.le_trans (Keep.refl h0 []).1 f10
  have f15 := (Keep.refl h0 []).trans K4 all0
  have P19 := own_to (C := T4.setTop (mkF m 7 #[r_ b] [(.ref rs4)])) P4c
  exact own_out X4 hlk (v := some (.ref rs4)) (own_hv hrt) P19 (fun _ q_ => retOut X4 hx hrt rfl (Or.inr (Or.inr (Or.inr (Or.inr ⟨rfl, rfl, rfl⟩)))) (hb hby d19_7) q_) (rfl : T4.heap = _) ⟨rs4, rv4, kr4, rfl, N4, f15, sz_rs4, f6, f7, f8, f9, sz_rv4⟩ (by decide)
def Q_eqL_4 (Z : State) (b : Addr) (k : ClassId) (d : Addr) (kd : ClassId) (x0 : Int32) (x1 : Int32) (x2 : Int32) (x3 : Int32) (h0 : Heap) (n0 : Nat) (v_ : Option Value) (h : Heap) (L_ : List Loc) : Prop := v_ = some (.int 1) ∧ Fr n0 L_ ∧ h = h0
set_option maxRecDepth 65536 in
set_option maxHeartbeats 40000000 in
theorem rm_eqL_4 (l : Launch) (Z : State) (a0 : Array Value) (hw : ∀ d ∈ tables_1, d.before a0 Z = true) (ws : List Jvm.Cond) (b : Addr) (k : ClassId) (d : Addr) (kd : ClassId) (x0 : Int32) (x1 : Int32) (x2 : Int32) (x3 : Int32) (h0 : Heap) (n0 : Nat) (Z0 : n0 ≤ h0.size) (Vb : Arv Z h0 b k .byte (4 : Int32) [(.int x0), (.int x1), (.int x2), (.int x3)] (.int 0)) (Vd : Arv Z h0 d kd .byte (4 : Int32) [(.int x0), (.int x1), (.int x2), (.int x3)] (.int 0)) :
    own_MF l yM32 (.code yM32 cB32 3 (some .boolean)) ws ⟨0, 0, 0, 0⟩ #[(.ref b), (.ref d)] Z h0 own_T (Q_eqL_4 Z b k d kd x0 x1 x2 x3 h0 n0) := by
  refine own_in "java/lang/StringLatin1" rfl (plainFor_of_name pn7) hisR (fun m => ef32RR m b d) ?_
  intro p e s m below meth c s₁ A_ hx hby hml hown hnm hrt hlk hZ _ X0 e0 pre0
  have N0 := Fr.nil n0
  have P1 := oS (s₁.setTop (mkF m 1 #[r_ b, r_ d, u_] [(.ref b)])) pre0 (by
    intro _ k_
    refine aN_ X0 hx hby d32_0 rfl rfl ?_
    exact k_)
  obtain ⟨cl2, Ar2, q2, S2, M2, H2, G2⟩ := id Vb
  have P3 := oS (s₁.setTop (mkF m 2 #[r_ b, r_ d, u_] [(.int 4)])) P1 (by
    intro _ k_
    refine X0.arraylength hx (by rw [e0]; exact Ar2.1) (State.isArrayOf_alike hZ.alike Ar2.2.1) (g := (mkF m 1 #[r_ b, r_ d, u_] [(.ref b)])) rfl rfl (hb hby d32_1) _ ?_
    rw [len_of S2 M2]
    exact k_)
  have P4 := oS (s₁.setTop (mkF m 3 #[r_ b, r_ d, u_] [(.ref d), (.int 4)])) P3 (by
    intro _ k_
    refine aN_ X0 hx hby d32_2 rfl rfl ?_
    exact k_)
  obtain ⟨cl5, Ar5, q5, S5, M5, H5, G5⟩ := id Vd
  have P6 := oS (s₁.setTop (mkF m 4 #[r_ b, r_ d, u_] [(.int 4), (.int 4)])) P4 (by
    intro _ k_
    refine X0.arraylength hx (by rw [e0]; exact Ar5.1) (State.isArrayOf_alike hZ.alike Ar5.2.1) (g := (mkF m 3 #[r_ b, r_ d, u_] [(.ref d), (.int 4)])) rfl rfl (hb hby d32_3) _ ?_
    rw [len_of S5 M5]
    exact k_)
  have P7 := oS (s₁.setTop (mkF m 11 #[r_ b, r_ d, i_ 0] [(.ref b), (.int 0)])) P6 (by
    intro _ k_
    refine XS.icmpNo X0.here hx rfl (hb hby d32_4) rfl (teq (by decide : (4 : Int32) = (4 : Int32))).2 ?_
    refine XS.iconst X0.here hx rfl (hb hby d32_7) ?_
    refine XS.istoreN X0.here hx rfl (hb hby d32_8) rfl (l' := #[r_ b, r_ d, i_ 0]) rfl ?_
    refine iN_ X0 hx hby d32_9 rfl ?_
    refine aN_ X0 hx hby d32_10 rfl rfl ?_
    exact k_)
  obtain ⟨cl8, Ar8, q8, S8, M8, H8, G8⟩ := id Vb
  have P9 := oS (s₁.setTop (mkF m 12 #[r_ b, r_ d, i_ 0] [(.int 4), (.int 0)])) P7 (by
    intro _ k_
    refine X0.arraylength hx (by rw [e0]; exact Ar8.1) (State.isArrayOf_alike hZ.alike Ar8.2.1) (g := (mkF m 11 #[r_ b, r_ d, i_ 0] [(.ref b), (.int 0)])) rfl rfl (hb hby d32_11) _ ?_
    rw [len_of S8 M8]
    exact k_)
  have P10 := oS (s₁.setTop (mkF m 17 #[r_ b, r_ d, i_ 0] [(.int 0), (.ref b)])) P9 (by
    intro _ k_
    refine XS.icmpNo X0.here hx rfl (hb hby d32_12) rfl (tlt (by decide : (0 : Int32) < (4 : Int32))).2.1 ?_
    refine aN_ X0 hx hby d32_15 rfl rfl ?_
    refine iN_ X0 hx hby d32_16 rfl ?_
    exact k_)
  obtain ⟨cl11, Ar11, q11, S11, M11, H11, G11⟩ := id Vb
  have hin11 := inb_of S11 (by decide : ¬ (0 : Int32) < 0 ∧ (0 : Int32) < (4 : Int32))
  have hat11 := Has.at H11 hin11 (v := .int x0) rfl
  have P12 := oS (s₁.setTop (mkF m 18 #[r_ b, r_ d, i_ 0] [(.int x0)])) P10 (by
    intro _ k_
    refine X0.baloadBytes hx (j := (0 : Int32)) (v := (.int x0)) (by rw [e0]; exact Ar11.1) (State.isArrayOf_alike hZ.alike Ar11.2.1) Ar11.2.2 hin11 hat11 (g := (mkF m 17 #[r_ b, r_ d, i_ 0] [(.int 0), (.ref b)])) rfl rfl (hb hby d32_17) _ ?_
    exact k_)
  have P13 := oS (s₁.setTop (mkF m 20 #[r_ b, r_ d, i_ 0] [(.int 0), (.ref d), (.int x0)])) P12 (by
    intro _ k_
    refine aN_ X0 hx hby d32_18 rfl rfl ?_
    refine iN_ X0 hx hby d32_19 rfl ?_
    exact k_)
  obtain ⟨cl14, Ar14, q14, S14, M14, H14, G14⟩ := id Vd
  have hin14 := inb_of S14 (by decide : ¬ (0 : Int32) < 0 ∧ (0 : Int32) < (4 : Int32))
  have hat14 := Has.at H14 hin14 (v := .int x0) rfl
  have P15 := oS (s₁.setTop (mkF m 21 #[r_ b, r_ d, i_ 0] [(.int x0), (.int x0)])) P13 (by
    intro _ k_
    refine X0.baloadBytes hx (j := (0 : Int32)) (v := (.int x0)) (by rw [e0]; exact Ar14.1) (State.isArrayOf_alike hZ.alike Ar14.2.1) Ar14.2.2 hin14 hat14 (g := (mkF m 20 #[r_ b, r_ d, i_ 0] [(.int 0), (.ref d), (.int x0)])) rfl rfl (hb hby d32_20) _ ?_
    exact k_)
  have P16 := oS (s₁.setTop (mkF m 11 #[r_ b, r_ d, i_ 1] [(.ref b), (.int 1)])) P15 (by
    intro _ k_
    refine cY_ X0 hx hby d32_21 (pc := 21) (pc' := 26) (teq (rfl : x0 = x0)).1 (by decide) ?_
    refine XS.iinc X0.here hx rfl (hb hby d32_26) rfl (l' := #[r_ b, r_ d, i_ 1]) rfl ?_
    show Steps p.tables e below (s₁.setTop (mkF m 29 #[r_ b, r_ d, i_ 1] [])) _
    refine gt_ X0 hx hby d32_29 (pc := 29) (pc' := 9) (by decide) ?_
    refine iN_ X0 hx hby d32_9 rfl ?_
    refine aN_ X0 hx hby d32_10 rfl rfl ?_
    exact k_)
  obtain ⟨cl17, Ar17, q17, S17, M17, H17, G17⟩ := id Vb
  have P18 := oS (s₁.setTop (mkF m 12 #[r_ b, r_ d, i_ 1] [(.int 4), (.int 1)])) P16 (by
    intro _ k_
    refine X0.arraylength hx (by rw [e0]; exact Ar17.1) (State.isArrayOf_alike hZ.alike Ar17.2.1) (g := (mkF m 11 #[r_ b, r_ d, i_ 1] [(.ref b), (.int 1)])) rfl rfl (hb hby d32_11) _ ?_
    rw [len_of S17 M17]
    exact k_)
  have P19 := oS (s₁.setTop (mkF m 17 #[r_ b, r_ d, i_ 1] [(.int 1), (.ref b)])) P18 (by
    intro _ k_
    refine XS.icmpNo X0.here hx rfl (hb hby d32_12) rfl (tlt (by decide : (1 : Int32) < (4 : Int32))).2.1 ?_
    refine aN_ X0 hx hby d32_15 rfl rfl ?_
    refine iN_ X0 hx hby d32_16 rfl ?_
    exact k_)
  obtain ⟨cl20, Ar20, q20, S20, M20, H20, G20⟩ := id Vb
  have hin20 := inb_of S20 (by decide : ¬ (1 : Int32) < 0 ∧ (1 : Int32) < (4 : Int32))
  have hat20 := Has.at H20 hin20 (v := .int x1) rfl
  have P21 := oS (s₁.setTop (mkF m 18 #[r_ b, r_ d, i_ 1] [(.int x1)])) P19 (by
    intro _ k_
    refine X0.baloadBytes hx (j := (1 : Int32)) (v := (.int x1)) (by rw [e0]; exact Ar20.1) (State.isArrayOf_alike hZ.alike Ar20.2.1) Ar20.2.2 hin20 hat20 (g := (mkF m 17 #[r_ b, r_ d, i_ 1] [(.int 1), (.ref b)])) rfl rfl (hb hby d32_17) _ ?_
    exact k_)
  have P22 := oS (s₁.setTop (mkF m 20 #[r_ b, r_ d, i_ 1] [(.int 1), (.ref d), (.int x1)])) P21 (by
    intro _ k_
    refine aN_ X0 hx hby d32_18 rfl rfl ?_
    refine iN_ X0 hx hby d32_19 rfl ?_
    exact k_)
  obtain ⟨cl23, Ar23, q23, S23, M23, H23, G23⟩ := id Vd
  have hin23 := inb_of S23 (by decide : ¬ (1 : Int32) < 0 ∧ (1 : Int32) < (4 : Int32))
  have hat23 := Has.at H23 hin23 (v := .int x1) rfl
  have P24 := oS (s₁.setTop (mkF m 21 #[r_ b, r_ d, i_ 1] [(.int x1), (.int x1)])) P22 (by
    intro _ k_
    refine X0.baloadBytes hx (j := (1 : Int32)) (v := (.int x1)) (by rw [e0]; exact Ar23.1) (State.isArrayOf_alike hZ.alike Ar23.2.1) Ar23.2.2 hin23 hat23 (g := (mkF m 20 #[r_ b, r_ d, i_ 1] [(.int 1), (.ref d), (.int x1)])) rfl rfl (hb hby d32_20) _ ?_
    exact k_)
  have P25 := oS (s₁.setTop (mkF m 11 #[r_ b, r_ d, i_ 2] [(.ref b), (.int 2)])) P24 (by
    intro _ k_
    refine cY_ X0 hx hby d32_21 (pc := 21) (pc' := 26) (teq (rfl : x1 = x1)).1 (by decide) ?_
    refine XS.iinc X0.here hx rfl (hb hby d32_26) rfl (l' := #[r_ b, r_ d, i_ 2]) rfl ?_
    show Steps p.tables e below (s₁.setTop (mkF m 29 #[r_ b, r_ d, i_ 2] [])) _
    refine gt_ X0 hx hby d32_29 (pc := 29) (pc' := 9) (by decide) ?_
    refine iN_ X0 hx hby d32_9 rfl ?_
    refine aN_ X0 hx hby d32_10 rfl rfl ?_
    exact k_)
  obtain ⟨cl26, Ar26, q26, S26, M26, H26, G26⟩ := id Vb
  have P27 := oS (s₁.setTop (mkF m 12 #[r_ b, r_ d, i_ 2] [(.int 4), (.int 2)])) P25 (by
    intro _ k_
    refine X0.arraylength hx (by rw [e0]; exact Ar26.1) (State.isArrayOf_alike hZ.alike Ar26.2.1) (g := (mkF m 11 #[r_ b, r_ d, i_ 2] [(.ref b), (.int 2)])) rfl rfl (hb hby d32_11) _ ?_
    rw [len_of S26 M26]
    exact k_)
  have P28 := oS (s₁.setTop (mkF m 17 #[r_ b, r_ d, i_ 2] [(.int 2), (.ref b)])) P27 (by
    intro _ k_
    refine XS.icmpNo X0.here hx rfl (hb hby d32_12) rfl (tlt (by decide : (2 : Int32) < (4 : Int32))).2.1 ?_
    refine aN_ X0 hx hby d32_15 rfl rfl ?_
    refine iN_ X0 hx hby d32_16 rfl ?_
    exact k_)
  obtain ⟨cl29, Ar29, q29, S29, M29, H29, G29⟩ := id Vb
  have hin29 := inb_of S29 (by decide : ¬ (2 : Int32) < 0 ∧ (2 : Int32) < (4 : Int32))
  have hat29 := Has.at H29 hin29 (v := .int x2) rfl
  have P30 := oS (s₁.setTop (mkF m 18 #[r_ b, r_ d, i_ 2] [(.int x2)])) P28 (by
    intro _ k_
    refine X0.baloadBytes hx (j := (2 : Int32)) (v := (.int x2)) (by rw [e0]; exact Ar29.1) (State.isArrayOf_alike hZ.alike Ar29.2.1) Ar29.2.2 hin29 hat29 (g := (mkF m 17 #[r_ b, r_ d, i_ 2] [(.int 2), (.ref b)])) rfl rfl (hb hby d32_17) _ ?_
    exact k_)
  have P31 := oS (s₁.setTop (mkF m 20 #[r_ b, r_ d, i_ 2] [(.int 2), (.ref d), (.int x2)])) P30 (by
    intro _ k_
    refine aN_ X0 hx hby d32_18 rfl rfl ?_
    refine iN_ X0 hx hby d32_19 rfl ?_
    exact k_)
  obtain ⟨cl32, Ar32, q32, S32, M32, H32, G32⟩ := id Vd
  have hin32 := inb_of S32 (by decide : ¬ (2 : Int32) < 0 ∧ (2 : Int32) < (4 : Int32))
  have hat32 := Has.at H32 hin32 (v := .int x2) rfl
  have P33 := oS (s₁.setTop (mkF m 21 #[r_ b, r_ d, i_ 2] [(.int x2), (.int x2)])) P31 (by
    intro _ k_
    refine X0.baloadBytes hx (j := (2 : Int32)) (v := (.int x2)) (by rw [e0]; exact Ar32.1) (State.isArrayOf_alike hZ.alike Ar32.2.1) Ar32.2.2 hin32 hat32 (g := (mkF m 20 #[r_ b, r_ d, i_ 2] [(.int 2), (.ref d), (.int x2)])) rfl rfl (hb hby d32_20) _ ?_
    exact k_)
  have P34 := oS (s₁.setTop (mkF m 11 #[r_ b, r_ d, i_ 3] [(.ref b), (.int 3)])) P33 (by
    intro _ k_
    refine cY_ X0 hx hby d32_21 (pc := 21) (pc' := 26) (teq (rfl : x2 = x2)).1 (by decide) ?_
    refine XS.iinc X0.here hx rfl (hb hby d32_26) rfl (l' := #[r_ b, r_ d, i_ 3]) rfl ?_
    show Steps p.tables e below (s₁.setTop (mkF m 29 #[r_ b, r_ d, i_ 3] [])) _
    refine gt_ X0 hx hby d32_29 (pc := 29) (pc' := 9) (by decide) ?_
    refine iN_ X0 hx hby d32_9 rfl ?_
    refine aN_ X0 hx hby d32_10 rfl rfl ?_
    exact k_)
  obtain ⟨cl35, Ar35, q35, S35, M35, H35, G35⟩ := id Vb
  have P36 := oS (s₁.setTop (mkF m 12 #[r_ b, r_ d, i_ 3] [(.int 4), (.int 3)])) P34 (by
    intro _ k_
    refine X0.arraylength hx (by rw [e0]; exact Ar35.1) (State.isArrayOf_alike hZ.alike Ar35.2.1) (g := (mkF m 11 #[r_ b, r_ d, i_ 3] [(.ref b), (.int 3)])) rfl rfl (hb hby d32_11) _ ?_
    rw [len_of S35 M35]
    exact k_)
  have P37 := oS (s₁.setTop (mkF m 17 #[r_ b, r_ d, i_ 3] [(.int 3), (.ref b)])) P36 (by
    intro _ k_
    refine XS.icmpNo X0.here hx rfl (hb hby d32_12) rfl (tlt (by decide : (3 : Int32) < (4 : Int32))).2.1 ?_
    refine aN_ X0 hx hby d32_15 rfl rfl ?_
    refine iN_ X0 hx hby d32_16 rfl ?_
    exact k_)
  obtain ⟨cl38, Ar38, q38, S38, M38, H38, G38⟩ := id Vb
  have hin38 := inb_of S38 (by decide : ¬ (3 : Int32) < 0 ∧ (3 : Int32) < (4 : Int32))
  have hat38 := Has.at H38 hin38 (v := .int x3) rfl
  have P39 := oS (s₁.setTop (mkF m 18 #[r_ b, r_ d, i_ 3] [(.int x3)])) P37 (by
    intro _ k_
    refine X0.baloadBytes hx (j := (3 : Int32)) (v := (.int x3)) (by rw [e0]; exact Ar38.1) (State.isArrayOf_alike hZ.alike Ar38.2.1) Ar38.2.2 hin38 hat38 (g := (mkF m 17 #[r_ b, r_ d, i_ 3] [(.int 3), (.ref b)])) rfl rfl (hb hby d32_17) _ ?_
    exact k_)
  have P40 := oS (s₁.setTop (mkF m 20 #[r_ b, r_ d, i_ 3] [(.int 3), (.ref d), (.int x3)])) P39 (by
    intro _ k_
    refine aN_ X0 hx hby d32_18 rfl rfl ?_
    refine iN_ X0 hx hby d32_19 rfl ?_
    exact k_)
  obtain ⟨cl41, Ar41, q41, S41, M41, H41, G41⟩ := id Vd
  have hin41 := inb_of S41 (by decide : ¬ (3 : Int32) < 0 ∧ (3 : Int32) < (4 : Int32))
  have hat41 := Has.at H41 hin41 (v := .int x3) rfl
  have P42 := oS (s₁.setTop (mkF m 21 #[r_ b, r_ d, i_ 3] [(.int x3), (.int x3)])) P40 (by
    intro _ k_
    refine X0.baloadBytes hx (j := (3 : Int32)) (v := (.int x3)) (by rw [e0]; exact Ar41.1) (State.isArrayOf_alike hZ.alike Ar41.2.1) Ar41.2.2 hin41 hat41 (g := (mkF m 20 #[r_ b, r_ d, i_ 3] [(.int 3), (.ref d), (.int x3)])) rfl rfl (hb hby d32_20) _ ?_
    exact k_)
  have P43 := oS (s₁.setTop (mkF m 11 #[r_ b, r_ d, i_ 4] [(.ref b), (.int 4)])) P42 (by
    intro _ k_
    refine cY_ X0 hx hby d32_21 (pc := 21) (pc' := 26) (teq (rfl : x3 = x3)).1 (by decide) ?_
    refine XS.iinc X0.here hx rfl (hb hby d32_26) rfl (l' := #[r_ b, r_ d, i_ 4]) rfl ?_
    show Steps p.tables e below (s₁.setTop (mkF m 29 #[r_ b, r_ d, i_ 4] [])) _
    refine gt_ X0 hx hby d32_29 (pc := 29) (pc' := 9) (by decide) ?_
    refine iN_ X0 hx hby d32_9 rfl ?_
    refine aN_ X0 hx hby d32_10 rfl rfl ?_
    exact k_)
  obtain ⟨cl44, Ar44, q44, S44, M44, H44, G44⟩ := id Vb
  have P45 := oS (s₁.setTop (mkF m 12 #[r_ b, r_ d, i_ 4] [(.int 4), (.int 4)])) P43 (by
    intro _ k_
    refine X0.arraylength hx (by rw [e0]; exact Ar44.1) (State.isArrayOf_alike hZ.alike Ar44.2.1) (g := (mkF m 11 #[r_ b, r_ d, i_ 4] [(.ref b), (.int 4)])) rfl rfl (hb hby d32_11) _ ?_
    rw [len_of S44 M44]
    exact k_)
  have P46 := oS (s₁.setTop (mkF m 33 #[r_ b, r_ d, i_ 4] [(.int 1)])) P45 (by
    intro _ k_
    refine cY_ X0 hx hby d32_12 (pc := 12) (pc' := 32) (flt (by decide : ¬ ((4 : Int32) < (4 : Int32)))).2.1 (by decide) ?_
    refine XS.iconst X0.here hx rfl (hb hby d32_32) ?_
    exact k_)
  exact own_out X0 hlk (v := some (.int 1)) (own_hv hrt) P46 (fun _ q_ => retN X0 hx (t := .boolean) hrt (by simp) (hb hby d32_33) q_) e0 ⟨rfl, N0, rfl⟩ (by decide)
def Q_eqS_4 (Z : State) (a : Addr) (a2 : Addr) (b : Addr) (k : ClassId) (d : Addr) (kd : ClassId) (x0 : Int32) (x1 : Int32) (x2 : Int32) (x3 : Int32) (cs : Int32) (h0 : Heap) (n0 : Nat) (v_ : Option Value) (h : Heap) (L_ : List Loc) : Prop := v_ = some (.int 1) ∧ Fr n0 L_ ∧ h = h0
set_option maxRecDepth 65536 in
set_option maxHeartbeats 40000000 in
theorem rm_eqS_4 (l : Launch) (Z : State) (a0 : Array Value) (hw : ∀ d ∈ tables_1, d.before a0 Z = true) (ws : List Jvm.Cond) (a : Addr) (a2 : Addr) (b : Addr) (k : ClassId) (d : Addr) (kd : ClassId) (x0 : Int32) (x1 : Int32) (x2 : Int32) (x3 : Int32) (cs : Int32) (h0 : Heap) (n0 : Nat) (Z0 : n0 ≤ h0.size) (O : Old Z n0 h0) (Scs : Sta Z Z.heap "java/lang/String" "COMPACT_STRINGS" "Z" (.int cs)) (hcs : ¬ (cs = (0 : Int32))) (naa : a ≠ a2) (Ea : Exa Z h0 a "java/lang/String") (Fc : Fld Z h0 a "java/lang/String" "coder" "B" (.int 0)) (Fv : Fld Z h0 a "java/lang/String" "value" "[B" (.ref b)) (Ea2 : Exa Z h0 a2 "java/lang/String") (Fc2 : Fld Z h0 a2 "java/lang/String" "coder" "B" (.int 0)) (Fv2 : Fld Z h0 a2 "java/lang/String" "value" "[B" (.ref d)) (Vb : Arv Z h0 b k .byte (4 : Int32) [(.int x0), (.int x1), (.int x2), (.int x3)] (.int 0)) (Vd : Arv Z h0 d kd .byte (4 : Int32) [(.int x0), (.int x1), (.int x2), (.int x3)] (.int 0)) :
    own_MF l yM31 (.code yM31 cB31 3 (some .boolean)) ws ⟨1, 0, 0, 14⟩ #[(.ref a), (.ref a2)] Z h0 own_T (Q_eqS_4 Z a a2 b k d kd x0 x1 x2 x3 cs h0 n0) := by
  refine own_in "java/lang/String" rfl (plainFor_of_name pn2) hisR (fun m => ef31RR m a a2) ?_
  intro p e s m below meth c s₁ A_ hx hby hml hown hnm hrt hlk hZ _ X0 e0 pre0
  have N0 := Fr.nil n0
  have P1 := oS (s₁.setTop (mkF m 2 #[r_ a, r_ a2, u_] [(.ref a2), (.ref a)])) pre0 (by
    intro _ k_
    refine aN_ X0 hx hby d31_0 rfl rfl ?_
    refine aN_ X0 hx hby d31_1 rfl rfl ?_
    exact k_)
  have P2 := oS (s₁.setTop (mkF m 7 #[r_ a, r_ a2, u_] [])) P1 (by
    intro _ k_
    refine Jvm.RoadKit.acmp (g := (mkF m 2 #[r_ a, r_ a2, u_] [(.ref a2), (.ref a)])) X0 hx rfl rfl rfl (pc0 := 2) (pc' := 7) (same := false) rfl (hb hby d31_2) rfl (decide_eq_false fun q => naa (Value.ref.inj q)) (by decide) (by decide) ?_
    exact k_)
  have P3 := oS (s₁.setTop (mkF m 8 #[r_ a, r_ a2, u_] [(.ref a2)])) P2 (by
    intro _ k_
    refine aN_ X0 hx hby d31_7 rfl rfl ?_
    exact k_)
  obtain ⟨T4, X4, e4, st4⟩ := instY X0 hx hZ hown (own_w hw 180 rfl) e0 (Ins.self Ea2) (g := (mkF m 8 #[r_ a, r_ a2, u_] [(.ref a2)])) rfl rfl (hb hby d31_8)
  have P5 := oS (T4.setTop (mkF m 11 #[r_ a, r_ a2, u_] [(.int 1)])) P3 (fun t_ k_ => st4 t_ k_)
  have P6 := oS (T4.setTop (mkF m 15 #[r_ a, r_ a2, u_] [(.ref a2)])) P5 (by
    intro _ k_
    refine XS.ifNo X4.here hx rfl (hb hby d31_11) rfl ((if0 _ _).trans (feq (by decide : ¬ ((1 : Int32) = (0 : Int32)))).1) ?_
    refine aN_ X4 hx hby d31_14 rfl rfl ?_
    exact k_)
  obtain ⟨T7, X7, e7, st7⟩ := castY X4 hx hZ hown (own_w hw 180 rfl) e4 (Ins.self Ea2) (g := (mkF m 15 #[r_ a, r_ a2, u_] [(.ref a2)])) rfl rfl (hb hby d31_15)
  have P8 := oS (T7.setTop (mkF m 18 #[r_ a, r_ a2, u_] [(.ref a2)])) P6 (fun t_ k_ => st7 t_ k_)
  have P9 := oS (T7.setTop (mkF m 19 #[r_ a, r_ a2, r_ a2] [])) P8 (by
    intro _ k_
    refine XS.astoreN X7.here hx rfl (hb hby d31_18) rfl rfl (l' := #[r_ a, r_ a2, r_ a2]) rfl ?_
    exact k_)
  obtain ⟨T10, X10, e10, st10⟩ := getS2 X7 hx hZ hown (host := "") (Or.inl (own_w hw 18 rfl)) Via.refl e7 (Scs.ext O.2) (g := (mkF m 19 #[r_ a, r_ a2, r_ a2] [])) rfl (hb hby d31_19)
  have P11 := oS (T10.setTop (mkF m 22 #[r_ a, r_ a2, r_ a2] [(.int cs)])) P9 (fun t_ k_ => st10 t_ k_)
  have P12 := oS (T10.setTop (mkF m 26 #[r_ a, r_ a2, r_ a2] [(.ref a)])) P11 (by
    intro _ k_
    refine XS.ifNo X10.here hx rfl (hb hby d31_22) rfl ((if0 _ _).trans (feq hcs).1) ?_
    refine aN_ X10 hx hby d31_25 rfl rfl ?_
    exact k_)
  obtain ⟨T13, X13, e13, st13⟩ := getF X10 hx hZ hown (host := "") (Or.inl (own_w hw 30 rfl)) Via.refl e10 Fc (g := (mkF m 26 #[r_ a, r_ a2, r_ a2] [(.ref a)])) rfl rfl (hb hby d31_26)
  have P14 := oS (T13.setTop (mkF m 29 #[r_ a, r_ a2, r_ a2] [(.int 0)])) P12 (fun t_ k_ => st13 t_ k_)
  have P15 := oS (T13.setTop (mkF m 30 #[r_ a, r_ a2, r_ a2] [(.ref a2), (.int 0)])) P14 (by
    intro _ k_
    refine aN_ X13 hx hby d31_29 rfl rfl ?_
    exact k_)
  obtain ⟨T16, X16, e16, st16⟩ := getF X13 hx hZ hown (host := "") (Or.inl (own_w hw 30 rfl)) Via.refl e13 Fc2 (g := (mkF m 30 #[r_ a, r_ a2, r_ a2] [(.ref a2), (.int 0)])) rfl rfl (hb hby d31_30)
  have P17 := oS (T16.setTop (mkF m 33 #[r_ a, r_ a2, r_ a2] [(.int 0), (.int 0)])) P15 (fun t_ k_ => st16 t_ k_)
  have P18 := oS (T16.setTop (mkF m 37 #[r_ a, r_ a2, r_ a2] [(.ref a)])) P17 (by
    intro _ k_
    refine XS.icmpNo X16.here hx rfl (hb hby d31_33) rfl (teq (by decide : (0 : Int32) = (0 : Int32))).2 ?_
    refine aN_ X16 hx hby d31_36 rfl rfl ?_
    exact k_)
  obtain ⟨T19, X19, e19, st19⟩ := getF X16 hx hZ hown (host := "") (Or.inl (own_w hw 32 rfl)) Via.refl e16 Fv (g := (mkF m 37 #[r_ a, r_ a2, r_ a2] [(.ref a)])) rfl rfl (hb hby d31_37)
  have P20 := oS (T19.setTop (mkF m 40 #[r_ a, r_ a2, r_ a2] [(.ref b)])) P18 (fun t_ k_ => st19 t_ k_)
  have P21 := oS (T19.setTop (mkF m 41 #[r_ a, r_ a2, r_ a2] [(.ref a2), (.ref b)])) P20 (by
    intro _ k_
    refine aN_ X19 hx hby d31_40 rfl rfl ?_
    exact k_)
  obtain ⟨T22, X22, e22, st22⟩ := getF X19 hx hZ hown (host := "") (Or.inl (own_w hw 32 rfl)) Via.refl e19 Fv2 (g := (mkF m 41 #[r_ a, r_ a2, r_ a2] [(.ref a2), (.ref b)])) rfl rfl (hb hby d31_41)
  have P23 := oS (T22.setTop (mkF m 44 #[r_ a, r_ a2, r_ a2] [(.ref d), (.ref b)])) P21 (fun t_ k_ => st22 t_ k_)
  obtain ⟨_, T24, L24, X24, hQ24, P24c⟩ := own_cS (W := 0) (rm_eqL_4 l Z a0 hw [] b k d kd x0 x1 x2 x3 h0 n0 Z0 Vb Vd) X22 hx hZ (fun _ _ => trivial) hown (own_w hw 181 rfl) (own_w hw 182 rfl) (own_w hw 183 rfl) (own_w hw 184 rfl) (by decide) P23 hml rfl [(.ref b), (.ref d)] [] rfl rfl rfl pd18 rfl (hb hby d31_44) e22 (by decide)
  obtain ⟨rfl, N24q, e24⟩ := hQ24
  have N24 := Fr.app N0 N24q
  have P25 := own_to (C := T24.setTop (mkF m 47 #[r_ a, r_ a2, r_ a2] [(.int 1)])) P24c
  have P26 := oS (T24.setTop (mkF m 55 #[r_ a, r_ a2, r_ a2] [(.int 1)])) P25 (by
    intro _ k_
    refine XS.ifNo X24.here hx rfl (hb hby d31_47) rfl ((if0 _ _).trans (feq (by decide : ¬ ((1 : Int32) = (0 : Int32)))).1) ?_
    refine XS.iconst X24.here hx rfl (hb hby d31_50) ?_
    refine gt_ X24 hx hby d31_51 (pc := 51) (pc' := 55) (by decide) ?_
    exact k_)
  exact own_out X24 hlk (v := some (.int 1)) (own_hv hrt) P26 (fun _ q_ => retN X24 hx (t := .boolean) hrt (by simp) (hb hby d31_55) q_) e24 ⟨rfl, N24, rfl⟩ (by decide)
def Q_buD_4 (Z : State) (de : Addr) (a : Addr) (b : Addr) (k : ClassId) (x0 : Int32) (x1 : Int32) (x2 : Int32) (x3 : Int32) (s0 : Int32) (s1 : Int32) (s2 : Int32) (s3 : Int32) (y0 : Int32) (y1 : Int32) (y2 : Int32) (rdt : Addr) (kdt : ClassId) (riso : Addr) (rutf : Addr) (cs : Int32) (en : Addr) (v0 : Int32) (v1 : Int32) (v2 : Int32) (v3 : Int32) (ret_ : Addr) (ket : ClassId) (fm : Value) (h0 : Heap) (n0 : Nat) (v_ : Option Value) (h : Heap) (L_ : List Loc) : Prop := ∃ (xq : Addr) (kk : ClassId), v_ = some (.ref xq) ∧ Fr n0 L_ ∧ Keep h0 h [] ∧ h0.size ≤ xq ∧ Arv Z h xq kk .byte (3 : Int32) [(.int y0), (.int y1), (.int y2)] (.int 0)
set_option maxRecDepth 65536 in
set_option maxHeartbeats 40000000 in
theorem rm_buD_4 (l : Launch) (Z : State) (a0 : Array Value) (hw : ∀ d ∈ tables_1, d.before a0 Z = true) (ws : List Jvm.Cond) (de : Addr) (a : Addr) (b : Addr) (k : ClassId) (x0 : Int32) (x1 : Int32) (x2 : Int32) (x3 : Int32) (s0 : Int32) (s1 : Int32) (s2 : Int32) (s3 : Int32) (y0 : Int32) (y1 : Int32) (y2 : Int32) (rdt : Addr) (kdt : ClassId) (riso : Addr) (rutf : Addr) (cs : Int32) (en : Addr) (v0 : Int32) (v1 : Int32) (v2 : Int32) (v3 : Int32) (ret_ : Addr) (ket : ClassId) (fm : Value) (h0 : Heap) (n0 : Nat) (Z0 : n0 ≤ h0.size) (O : Old Z n0 h0) (Scs : Sta Z Z.heap "java/lang/String" "COMPACT_STRINGS" "Z" (.int cs)) (hcs : ¬ (cs = (0 : Int32))) (Siso : Sta Z Z.heap "sun/nio/cs/ISO_8859_1" "INSTANCE" "Lsun/nio/cs/ISO_8859_1;" (.ref riso)) (Sutf : Sta Z Z.heap "sun/nio/cs/UTF_8" "INSTANCE" "Lsun/nio/cs/UTF_8;" (.ref rutf)) (nci : riso ≠ rutf) (Sdt : Sta Z Z.heap "java/util/Base64$Decoder" "fromBase64URL" "[I" (.ref rdt)) (Vdt : Arv Z Z.heap rdt kdt .int (256 : Int32) own_dec (.int 0)) (Ed : Exa Z h0 de "java/util/Base64$Decoder") (Fu : Fld Z h0 de "java/util/Base64$Decoder" "isURL" "Z" (.int 1)) (Fm : Fld Z h0 de "java/util/Base64$Decoder" "isMIME" "Z" (.int 0)) (Ea : Exa Z h0 a "java/lang/String") (Fc : Fld Z h0 a "java/lang/String" "coder" "B" (.int 0)) (Fv : Fld Z h0 a "java/lang/String" "value" "[B" (.ref b)) (Vb : Arv Z h0 b k .byte (4 : Int32) [(.int x0), (.int x1), (.int x2), (.int x3)] (.int 0)) (Eb : Exa Z h0 b "[B") (h61 : ¬ (x3 = (61 : Int32))) (hj0 : ¬ (x0 &&& 255) < 0 ∧ (x0 &&& 255) < (256 : Int32)) (hd0 : own_dec.getD (x0 &&& 255).toNatClampNeg (.int 0) = .int s0) (hs0 : ¬ (s0 < (0 : Int32))) (hj1 : ¬ (x1 &&& 255) < 0 ∧ (x1 &&& 255) < (256 : Int32)) (hd1 : own_dec.getD (x1 &&& 255).toNatClampNeg (.int 0) = .int s1) (hs1 : ¬ (s1 < (0 : Int32))) (hj2 : ¬ (x2 &&& 255) < 0 ∧ (x2 &&& 255) < (256 : Int32)) (hd2 : own_dec.getD (x2 &&& 255).toNatClampNeg (.int 0) = .int s2) (hs2 : ¬ (s2 < (0 : Int32))) (hj3 : ¬ (x3 &&& 255) < 0 ∧ (x3 &&& 255) < (256 : Int32)) (hd3 : own_dec.getD (x3 &&& 255).toNatClampNeg (.int 0) = .int s3) (hs3 : ¬ (s3 < (0 : Int32))) (hy0 : (((((((0 : Int32) ||| (s0 <<< ((18 : Int32) &&& 31))) ||| (s1 <<< ((12 : Int32) &&& 31))) ||| (s2 <<< ((6 : Int32) &&& 31))) ||| (s3 <<< ((0 : Int32) &&& 31))) >>> ((16 : Int32) &&& 31)).toInt8.toInt32).toInt8.toInt32 = y0) (hy1 : (((((((0 : Int32) ||| (s0 <<< ((18 : Int32) &&& 31))) ||| (s1 <<< ((12 : Int32) &&& 31))) ||| (s2 <<< ((6 : Int32) &&& 31))) ||| (s3 <<< ((0 : Int32) &&& 31))) >>> ((8 : Int32) &&& 31)).toInt8.toInt32).toInt8.toInt32 = y1) (hy2 : ((((((0 : Int32) ||| (s0 <<< ((18 : Int32) &&& 31))) ||| (s1 <<< ((12 : Int32) &&& 31))) ||| (s2 <<< ((6 : Int32) &&& 31))) ||| (s3 <<< ((0 : Int32) &&& 31))).toInt8.toInt32).toInt8.toInt32 = y2) (Sfm : Sta Z Z.heap "jdk/internal/util/Preconditions" "SIOOBE_FORMATTER" "Ljava/util/function/BiFunction;" fm) (hfm : fm.category = 1) (Set : Sta Z Z.heap "java/util/Base64$Encoder" "toBase64URL" "[C" (.ref ret_)) (Vet : Arv Z Z.heap ret_ ket .char (64 : Int32) own_enc (.int 0)) (Ee : Exa Z h0 en "java/util/Base64$Encoder") (Fp : Fld Z h0 en "java/util/Base64$Encoder" "doPadding" "Z" (.int 0)) (Fl : Fld Z h0 en "java/util/Base64$Encoder" "linemax" "I" (.int (-1 : Int32))) (Fe : Fld Z h0 en "java/util/Base64$Encoder" "isURL" "Z" (.int 1)) (hk0 : ¬ (((((((y0 &&& 255) <<< ((16 : Int32) &&& 31)) ||| ((y1 &&& 255) <<< ((8 : Int32) &&& 31))) ||| (y2 &&& 255)).toUInt32 >>> ((18 : Int32) &&& 31).toUInt32).toInt32) &&& 63) < 0 ∧ (((((((y0 &&& 255) <<< ((16 : Int32) &&& 31)) ||| ((y1 &&& 255) <<< ((8 : Int32) &&& 31))) ||| (y2 &&& 255)).toUInt32 >>> ((18 : Int32) &&& 31).toUInt32).toInt32) &&& 63) < (64 : Int32)) (hv0 : own_enc.getD (((((((y0 &&& 255) <<< ((16 : Int32) &&& 31)) ||| ((y1 &&& 255) <<< ((8 : Int32) &&& 31))) ||| (y2 &&& 255)).toUInt32 >>> ((18 : Int32) &&& 31).toUInt32).toInt32) &&& 63).toNatClampNeg (.int 0) = .int v0) (hz0 : v0.toInt8.toInt32.toInt8.toInt32 = x0) (hk1 : ¬ (((((((y0 &&& 255) <<< ((16 : Int32) &&& 31)) ||| ((y1 &&& 255) <<< ((8 : Int32) &&& 31))) ||| (y2 &&& 255)).toUInt32 >>> ((12 : Int32) &&& 31).toUInt32).toInt32) &&& 63) < 0 ∧ (((((((y0 &&& 255) <<< ((16 : Int32) &&& 31)) ||| ((y1 &&& 255) <<< ((8 : Int32) &&& 31))) ||| (y2 &&& 255)).toUInt32 >>> ((12 : Int32) &&& 31).toUInt32).toInt32) &&& 63) < (64 : Int32)) (hv1 : own_enc.getD (((((((y0 &&& 255) <<< ((16 : Int32) &&& 31)) ||| ((y1 &&& 255) <<< ((8 : Int32) &&& 31))) ||| (y2 &&& 255)).toUInt32 >>> ((12 : Int32) &&& 31).toUInt32).toInt32) &&& 63).toNatClampNeg (.int 0) = .int v1) (hz1 : v1.toInt8.toInt32.toInt8.toInt32 = x1) (hk2 : ¬ (((((((y0 &&& 255) <<< ((16 : Int32) &&& 31)) ||| ((y1 &&& 255) <<< ((8 : Int32) &&& 31))) ||| (y2 &&& 255)).toUInt32 >>> ((6 : Int32) &&& 31).toUInt32).toInt32) &&& 63) < 0 ∧ (((((((y0 &&& 255) <<< ((16 : Int32) &&& 31)) ||| ((y1 &&& 255) <<< ((8 : Int32) &&& 31))) ||| (y2 &&& 255)).toUInt32 >>> ((6 : Int32) &&& 31).toUInt32).toInt32) &&& 63) < (64 : Int32)) (hv2 : own_enc.getD (((((((y0 &&& 255) <<< ((16 : Int32) &&& 31)) ||| ((y1 &&& 255) <<< ((8 : Int32) &&& 31))) ||| (y2 &&& 255)).toUInt32 >>> ((6 : Int32) &&& 31).toUInt32).toInt32) &&& 63).toNatClampNeg (.int 0) = .int v2) (hz2 : v2.toInt8.toInt32.toInt8.toInt32 = x2) (hk3 : ¬ (((((y0 &&& 255) <<< ((16 : Int32) &&& 31)) ||| ((y1 &&& 255) <<< ((8 : Int32) &&& 31))) ||| (y2 &&& 255)) &&& 63) < 0 ∧ (((((y0 &&& 255) <<< ((16 : Int32) &&& 31)) ||| ((y1 &&& 255) <<< ((8 : Int32) &&& 31))) ||| (y2 &&& 255)) &&& 63) < (64 : Int32)) (hv3 : own_enc.getD (((((y0 &&& 255) <<< ((16 : Int32) &&& 31)) ||| ((y1 &&& 255) <<< ((8 : Int32) &&& 31))) ||| (y2 &&& 255)) &&& 63).toNatClampNeg (.int 0) = .int v3) (hz3 : v3.toInt8.toInt32.toInt8.toInt32 = x3) (Senc : Sta Z Z.heap "com/example/verified_health_identity/verifiedhealthidentity/jose/Base64url" "ENCODER" "Ljava/util/Base64$Encoder;" (.ref en)) (Sdec : Sta Z Z.heap "com/example/verified_health_identity/verifiedhealthidentity/jose/Base64url" "DECODER" "Ljava/util/Base64$Decoder;" (.ref de)) :
    own_MF l yM33 (.codeWith yM33 cB33 3 (some (.array .byte)) [(0, 8, 11, 29)]) ws ⟨6, 5, 19, 91⟩ #[(.ref a)] Z h0 own_T (Q_buD_4 Z de a b k x0 x1 x2 x3 s0 s1 s2 s3 y0 y1 y2 rdt kdt riso rutf cs en v0 v1 v2 v3 ret_ ket fm h0 n0) := by
  refine own_in "com/example/verified_health_identity/verifiedhealthidentity/jose/Base64url" rfl (plainFor_of_name pn6) hisWith (fun m => ef33R m a) ?_
  intro p e s m below meth c s₁ A_ hx hby hml hown hnm hrt hlk hZ _ X0 e0 pre0
  have N0 := Fr.nil n0
  obtain ⟨T1, X1, e1, st1⟩ := getS2 X0 hx hZ hown (host := "") (Or.inl (own_w hw 51 rfl)) Via.refl e0 (Sdec.ext O.2) (g := (mkF m 0 #[r_ a, u_, u_] [])) rfl (hb hby d33_0)
  have P2 := oS (T1.setTop (mkF m 3 #[r_ a, u_, u_] [(.ref de)])) pre0 (fun t_ k_ => st1 t_ k_)
  have P3 := oS (T1.setTop (mkF m 4 #[r_ a, u_, u_] [(.ref a), (.ref de)])) P2 (by
    intro _ k_
    refine aN_ X1 hx hby d33_3 rfl rfl ?_
    exact k_)
  obtain ⟨_, T4, L4, X4, hQ4, P4c⟩ := own_cV (W := 0) (rm_decS_4 l Z a0 hw [] de a b k x0 x1 x2 x3 s0 s1 s2 s3 y0 y1 y2 rdt kdt riso rutf cs h0 n0 Z0 O Scs hcs Siso Sutf nci Sdt Vdt Ed Fu Fm Ea Fc Fv Vb Eb h61 hj0 hd0 hs0 hj1 hd1 hs1 hj2 hd2 hs2 hj3 hd3 hs3 hy0 hy1 hy2) X1 hx hZ (fun _ _ => trivial) hown Ed (own_w hw 53 rfl) (own_w hw 54 rfl) (own_w hw 56 rfl) (own_w hw 55 rfl) (own_w hw 57 rfl) (own_w hw 58 rfl) (by decide) P3 hml rfl [(.ref a)] [] rfl rfl rfl pd19 rfl (hb hby d33_4) e1 (by decide)
  obtain ⟨xq4, kk4, rfl, N4q, K4, f5, f6, f7⟩ := hQ4
  have N4 := Fr.app N0 N4q
  have sz_xq4 : h0.size ≤ xq4 := Nat.le_trans (Keep.refl h0 []).1 f5
  have f8 := O.keep K4 all0
  have f11 := Fp.keep K4 nin0
  have f12 := Fl.keep K4 nin0
  have f13 := Fe.keep K4 nin0
  have f14 := (Keep.refl h0 []).trans K4 all0
  have f15 := Ee.keep K4
  have f16 := Ea.keep K4
  have f17 := Fc.keep K4 nin0
  have f18 := Fv.keep K4 nin0
  have f19 := Vb.keep K4 nin0
  have Z22 : n0 ≤ T4.heap.size := Nat.le_trans Z0 K4.1
  have P23 := own_to (C := T4.setTop (mkF m 7 #[r_ a, u_, u_] [(.ref xq4)])) P4c
  have P24 := oS (T4.setTop (mkF m 24 #[r_ a, r_ xq4, u_] [(.ref xq4)])) P23 (by
    intro _ k_
    refine XS.astoreN X4.here hx rfl (hb hby d33_7) rfl rfl (l' := #[r_ a, r_ xq4, u_]) rfl ?_
    refine gt_ X4 hx hby d33_8 (pc := 8) (pc' := 23) (by decide) ?_
    refine aN_ X4 hx hby d33_23 rfl rfl ?_
    exact k_)
  obtain ⟨_, T25, L25, X25, hQ25, P25c⟩ := own_cS (W := 0) (rm_buE_3 l Z a0 hw [] en xq4 kk4 y0 y1 y2 v0 v1 v2 v3 x0 x1 x2 x3 ret_ ket fm cs T4.heap n0 Z22 f8 Scs hcs Sfm hfm Set Vet f15 f11 f12 f13 f6 hk0 hv0 hz0 hk1 hv1 hz1 hk2 hv2 hz2 hk3 hv3 hz3 Senc) X4 hx hZ (fun _ _ => trivial) hown (own_w hw 109 rfl) (own_w hw 110 rfl) (own_w hw 36 rfl) (own_w hw 111 rfl) (by decide) P24 hml rfl [(.ref xq4)] [] rfl rfl rfl pd17 rfl (hb hby d33_24) (rfl : T4.heap = _) (by decide)
  obtain ⟨rs25, rv25, kr25, rfl, N25q, K25, f26, f27, f28, f29, f30, f31⟩ := hQ25
  have N25 := Fr.app N4 N25q
  have ne_a_rs25 : a ≠ rs25 := Nat.ne_of_lt (Nat.lt_of_lt_of_le f16.lt f26)
  have f32 := f8.keep K25 all0
  have f38 := f14.trans K25 all0
  have f40 := f16.keep K25
  have f41 := f17.keep K25 nin0
  have f42 := f18.keep K25 nin0
  have f43 := f19.keep K25 nin0
  have f46 := f6.keep K25 nin0
  have Z48 : n0 ≤ T25.heap.size := Nat.le_trans Z22 K25.1
  have P49 := own_to (C := T25.setTop (mkF m 27 #[r_ a, r_ xq4, u_] [(.ref rs25)])) P25c
  have P50 := oS (T25.setTop (mkF m 28 #[r_ a, r_ xq4, u_] [(.ref a), (.ref rs25)])) P49 (by
    intro _ k_
    refine aN_ X25 hx hby d33_27 rfl rfl ?_
    exact k_)
  obtain ⟨_, T51, L51, X51, hQ51, P51c⟩ := own_cV (W := 0) (rm_eqS_4 l Z a0 hw [] rs25 a rv25 kr25 b k x0 x1 x2 x3 cs T25.heap n0 Z48 f32 Scs hcs (Ne.symm ne_a_rs25) f27 f28 f29 f40 f41 f42 f30 f43) X25 hx hZ (fun _ _ => trivial) hown f27 (own_w hw 175 rfl) (own_w hw 176 rfl) (own_w hw 178 rfl) (own_w hw 177 rfl) (own_w hw 7 rfl) (own_w hw 179 rfl) (by decide) P50 hml rfl [(.ref a)] [] rfl rfl rfl pd20 rfl (hb hby d33_28) (rfl : T25.heap = _) (by decide)
  obtain ⟨rfl, N51q, e51⟩ := hQ51
  have N51 := Fr.app N25 N51q
  have P52 := own_to (C := T51.setTop (mkF m 31 #[r_ a, r_ xq4, u_] [(.int 1)])) P51c
  have P53 := oS (T51.setTop (mkF m 45 #[r_ a, r_ xq4, u_] [(.ref xq4)])) P52 (by
    intro _ k_
    refine fY_ X51 hx hby d33_31 (pc := 31) (pc' := 44) ((if0 _ _).trans (feq (by decide : ¬ ((1 : Int32) = (0 : Int32)))).2) (by decide) ?_
    refine aN_ X51 hx hby d33_44 rfl rfl ?_
    exact k_)
  exact own_out X51 hlk (v := some (.ref xq4)) (own_hv hrt) P53 (fun _ q_ => retOut X51 hx hrt rfl (Or.inr (Or.inr (Or.inr (Or.inr ⟨rfl, rfl, rfl⟩)))) (hb hby d33_45) q_) e51 ⟨xq4, kk4, rfl, N51, f38, sz_xq4, f46⟩ (by decide)
def Q_buD2_4 (Z : State) (de : Addr) (a : Addr) (b : Addr) (k : ClassId) (x0 : Int32) (x1 : Int32) (x2 : Int32) (x3 : Int32) (s0 : Int32) (s1 : Int32) (s2 : Int32) (s3 : Int32) (y0 : Int32) (y1 : Int32) (y2 : Int32) (rdt : Addr) (kdt : ClassId) (riso : Addr) (rutf : Addr) (cs : Int32) (en : Addr) (v0 : Int32) (v1 : Int32) (v2 : Int32) (v3 : Int32) (ret_ : Addr) (ket : ClassId) (fm : Value) (h0 : Heap) (n0 : Nat) (v_ : Option Value) (h : Heap) (L_ : List Loc) : Prop := ∃ (xq : Addr) (kk : ClassId), v_ = some (.ref xq) ∧ Fr n0 L_ ∧ Keep h0 h [] ∧ h0.size ≤ xq ∧ Arv Z h xq kk .byte (3 : Int32) [(.int y0), (.int y1), (.int y2)] (.int 0)
set_option maxRecDepth 65536 in
set_option maxHeartbeats 40000000 in
theorem rm_buD2_4 (l : Launch) (Z : State) (a0 : Array Value) (hw : ∀ d ∈ tables_1, d.before a0 Z = true) (ws : List Jvm.Cond) (de : Addr) (a : Addr) (b : Addr) (k : ClassId) (x0 : Int32) (x1 : Int32) (x2 : Int32) (x3 : Int32) (s0 : Int32) (s1 : Int32) (s2 : Int32) (s3 : Int32) (y0 : Int32) (y1 : Int32) (y2 : Int32) (rdt : Addr) (kdt : ClassId) (riso : Addr) (rutf : Addr) (cs : Int32) (en : Addr) (v0 : Int32) (v1 : Int32) (v2 : Int32) (v3 : Int32) (ret_ : Addr) (ket : ClassId) (fm : Value) (h0 : Heap) (n0 : Nat) (Z0 : n0 ≤ h0.size) (O : Old Z n0 h0) (Scs : Sta Z Z.heap "java/lang/String" "COMPACT_STRINGS" "Z" (.int cs)) (hcs : ¬ (cs = (0 : Int32))) (Siso : Sta Z Z.heap "sun/nio/cs/ISO_8859_1" "INSTANCE" "Lsun/nio/cs/ISO_8859_1;" (.ref riso)) (Sutf : Sta Z Z.heap "sun/nio/cs/UTF_8" "INSTANCE" "Lsun/nio/cs/UTF_8;" (.ref rutf)) (nci : riso ≠ rutf) (Sdt : Sta Z Z.heap "java/util/Base64$Decoder" "fromBase64URL" "[I" (.ref rdt)) (Vdt : Arv Z Z.heap rdt kdt .int (256 : Int32) own_dec (.int 0)) (Ed : Exa Z h0 de "java/util/Base64$Decoder") (Fu : Fld Z h0 de "java/util/Base64$Decoder" "isURL" "Z" (.int 1)) (Fm : Fld Z h0 de "java/util/Base64$Decoder" "isMIME" "Z" (.int 0)) (Ea : Exa Z h0 a "java/lang/String") (Fc : Fld Z h0 a "java/lang/String" "coder" "B" (.int 0)) (Fv : Fld Z h0 a "java/lang/String" "value" "[B" (.ref b)) (Vb : Arv Z h0 b k .byte (4 : Int32) [(.int x0), (.int x1), (.int x2), (.int x3)] (.int 0)) (Eb : Exa Z h0 b "[B") (h61 : ¬ (x3 = (61 : Int32))) (hj0 : ¬ (x0 &&& 255) < 0 ∧ (x0 &&& 255) < (256 : Int32)) (hd0 : own_dec.getD (x0 &&& 255).toNatClampNeg (.int 0) = .int s0) (hs0 : ¬ (s0 < (0 : Int32))) (hj1 : ¬ (x1 &&& 255) < 0 ∧ (x1 &&& 255) < (256 : Int32)) (hd1 : own_dec.getD (x1 &&& 255).toNatClampNeg (.int 0) = .int s1) (hs1 : ¬ (s1 < (0 : Int32))) (hj2 : ¬ (x2 &&& 255) < 0 ∧ (x2 &&& 255) < (256 : Int32)) (hd2 : own_dec.getD (x2 &&& 255).toNatClampNeg (.int 0) = .int s2) (hs2 : ¬ (s2 < (0 : Int32))) (hj3 : ¬ (x3 &&& 255) < 0 ∧ (x3 &&& 255) < (256 : Int32)) (hd3 : own_dec.getD (x3 &&& 255).toNatClampNeg (.int 0) = .int s3) (hs3 : ¬ (s3 < (0 : Int32))) (hy0 : (((((((0 : Int32) ||| (s0 <<< ((18 : Int32) &&& 31))) ||| (s1 <<< ((12 : Int32) &&& 31))) ||| (s2 <<< ((6 : Int32) &&& 31))) ||| (s3 <<< ((0 : Int32) &&& 31))) >>> ((16 : Int32) &&& 31)).toInt8.toInt32).toInt8.toInt32 = y0) (hy1 : (((((((0 : Int32) ||| (s0 <<< ((18 : Int32) &&& 31))) ||| (s1 <<< ((12 : Int32) &&& 31))) ||| (s2 <<< ((6 : Int32) &&& 31))) ||| (s3 <<< ((0 : Int32) &&& 31))) >>> ((8 : Int32) &&& 31)).toInt8.toInt32).toInt8.toInt32 = y1) (hy2 : ((((((0 : Int32) ||| (s0 <<< ((18 : Int32) &&& 31))) ||| (s1 <<< ((12 : Int32) &&& 31))) ||| (s2 <<< ((6 : Int32) &&& 31))) ||| (s3 <<< ((0 : Int32) &&& 31))).toInt8.toInt32).toInt8.toInt32 = y2) (Sfm : Sta Z Z.heap "jdk/internal/util/Preconditions" "SIOOBE_FORMATTER" "Ljava/util/function/BiFunction;" fm) (hfm : fm.category = 1) (Set : Sta Z Z.heap "java/util/Base64$Encoder" "toBase64URL" "[C" (.ref ret_)) (Vet : Arv Z Z.heap ret_ ket .char (64 : Int32) own_enc (.int 0)) (Ee : Exa Z h0 en "java/util/Base64$Encoder") (Fp : Fld Z h0 en "java/util/Base64$Encoder" "doPadding" "Z" (.int 0)) (Fl : Fld Z h0 en "java/util/Base64$Encoder" "linemax" "I" (.int (-1 : Int32))) (Fe : Fld Z h0 en "java/util/Base64$Encoder" "isURL" "Z" (.int 1)) (hk0 : ¬ (((((((y0 &&& 255) <<< ((16 : Int32) &&& 31)) ||| ((y1 &&& 255) <<< ((8 : Int32) &&& 31))) ||| (y2 &&& 255)).toUInt32 >>> ((18 : Int32) &&& 31).toUInt32).toInt32) &&& 63) < 0 ∧ (((((((y0 &&& 255) <<< ((16 : Int32) &&& 31)) ||| ((y1 &&& 255) <<< ((8 : Int32) &&& 31))) ||| (y2 &&& 255)).toUInt32 >>> ((18 : Int32) &&& 31).toUInt32).toInt32) &&& 63) < (64 : Int32)) (hv0 : own_enc.getD (((((((y0 &&& 255) <<< ((16 : Int32) &&& 31)) ||| ((y1 &&& 255) <<< ((8 : Int32) &&& 31))) ||| (y2 &&& 255)).toUInt32 >>> ((18 : Int32) &&& 31).toUInt32).toInt32) &&& 63).toNatClampNeg (.int 0) = .int v0) (hz0 : v0.toInt8.toInt32.toInt8.toInt32 = x0) (hk1 : ¬ (((((((y0 &&& 255) <<< ((16 : Int32) &&& 31)) ||| ((y1 &&& 255) <<< ((8 : Int32) &&& 31))) ||| (y2 &&& 255)).toUInt32 >>> ((12 : Int32) &&& 31).toUInt32).toInt32) &&& 63) < 0 ∧ (((((((y0 &&& 255) <<< ((16 : Int32) &&& 31)) ||| ((y1 &&& 255) <<< ((8 : Int32) &&& 31))) ||| (y2 &&& 255)).toUInt32 >>> ((12 : Int32) &&& 31).toUInt32).toInt32) &&& 63) < (64 : Int32)) (hv1 : own_enc.getD (((((((y0 &&& 255) <<< ((16 : Int32) &&& 31)) ||| ((y1 &&& 255) <<< ((8 : Int32) &&& 31))) ||| (y2 &&& 255)).toUInt32 >>> ((12 : Int32) &&& 31).toUInt32).toInt32) &&& 63).toNatClampNeg (.int 0) = .int v1) (hz1 : v1.toInt8.toInt32.toInt8.toInt32 = x1) (hk2 : ¬ (((((((y0 &&& 255) <<< ((16 : Int32) &&& 31)) ||| ((y1 &&& 255) <<< ((8 : Int32) &&& 31))) ||| (y2 &&& 255)).toUInt32 >>> ((6 : Int32) &&& 31).toUInt32).toInt32) &&& 63) < 0 ∧ (((((((y0 &&& 255) <<< ((16 : Int32) &&& 31)) ||| ((y1 &&& 255) <<< ((8 : Int32) &&& 31))) ||| (y2 &&& 255)).toUInt32 >>> ((6 : Int32) &&& 31).toUInt32).toInt32) &&& 63) < (64 : Int32)) (hv2 : own_enc.getD (((((((y0 &&& 255) <<< ((16 : Int32) &&& 31)) ||| ((y1 &&& 255) <<< ((8 : Int32) &&& 31))) ||| (y2 &&& 255)).toUInt32 >>> ((6 : Int32) &&& 31).toUInt32).toInt32) &&& 63).toNatClampNeg (.int 0) = .int v2) (hz2 : v2.toInt8.toInt32.toInt8.toInt32 = x2) (hk3 : ¬ (((((y0 &&& 255) <<< ((16 : Int32) &&& 31)) ||| ((y1 &&& 255) <<< ((8 : Int32) &&& 31))) ||| (y2 &&& 255)) &&& 63) < 0 ∧ (((((y0 &&& 255) <<< ((16 : Int32) &&& 31)) ||| ((y1 &&& 255) <<< ((8 : Int32) &&& 31))) ||| (y2 &&& 255)) &&& 63) < (64 : Int32)) (hv3 : own_enc.getD (((((y0 &&& 255) <<< ((16 : Int32) &&& 31)) ||| ((y1 &&& 255) <<< ((8 : Int32) &&& 31))) ||| (y2 &&& 255)) &&& 63).toNatClampNeg (.int 0) = .int v3) (hz3 : v3.toInt8.toInt32.toInt8.toInt32 = x3) (Senc : Sta Z Z.heap "com/example/verified_health_identity/verifiedhealthidentity/jose/Base64url" "ENCODER" "Ljava/util/Base64$Encoder;" (.ref en)) (Sdec : Sta Z Z.heap "com/example/verified_health_identity/verifiedhealthidentity/jose/Base64url" "DECODER" "Ljava/util/Base64$Decoder;" (.ref de)) :
    own_MF l yM8 (.code yM8 cB8 2 (some (.array .byte))) ws ⟨7, 5, 19, 105⟩ #[(.ref a), (.int 3)] Z h0 own_T (Q_buD2_4 Z de a b k x0 x1 x2 x3 s0 s1 s2 s3 y0 y1 y2 rdt kdt riso rutf cs en v0 v1 v2 v3 ret_ ket fm h0 n0) := by
  refine own_in "com/example/verified_health_identity/verifiedhealthidentity/jose/Base64url" rfl (plainFor_of_name pn6) hisR (fun m => ef8RI m a (3 : Int32)) ?_
  intro p e s m below meth c s₁ A_ hx hby hml hown hnm hrt hlk hZ _ X0 e0 pre0
  have N0 := Fr.nil n0
  have P1 := oS (s₁.setTop (mkF m 1 #[r_ a, i_ 3] [(.ref a)])) pre0 (by
    intro _ k_
    refine aN_ X0 hx hby d8_0 rfl rfl ?_
    exact k_)
  obtain ⟨_, T2, L2, X2, hQ2, P2c⟩ := own_cV (W := 0) (rm_length l Z a0 hw [] a b k (4 : Int32) [(.int x0), (.int x1), (.int x2), (.int x3)] cs h0 n0 Z0 O Scs hcs Ea Fc Fv Vb) X0 hx hZ (fun _ _ => trivial) hown Ea (own_w hw 38 rfl) (own_w hw 39 rfl) (own_w hw 41 rfl) (own_w hw 40 rfl) (own_w hw 7 rfl) (own_w hw 42 rfl) (by decide) P1 hml rfl [] [] rfl rfl rfl pd21 rfl (hb hby d8_1) e0 (by decide)
  obtain ⟨rfl, N2q, e2⟩ := hQ2
  have N2 := Fr.app N0 N2q
  have P3 := own_to (C := T2.setTop (mkF m 4 #[r_ a, i_ 3] [(.int 4)])) P2c
  have P4 := oS (T2.setTop (mkF m 11 #[r_ a, i_ 3] [(.int 4), (.int 4)])) P3 (by
    intro _ k_
    refine iN_ X2 hx hby d8_4 rfl ?_
    refine XS.iconst X2.here hx rfl (hb hby d8_5) ?_
    refine XS.imul X2.here hx rfl (hb hby d8_6) rfl ?_
    show Steps p.tables e below (T2.setTop (mkF m 7 #[r_ a, i_ 3] [(.int 12), (.int 4)])) _
    refine XS.iconst X2.here hx rfl (hb hby d8_7) ?_
    refine XS.iadd X2.here hx rfl (hb hby d8_8) rfl ?_
    show Steps p.tables e below (T2.setTop (mkF m 9 #[r_ a, i_ 3] [(.int 14), (.int 4)])) _
    refine XS.iconst X2.here hx rfl (hb hby d8_9) ?_
    refine XS.idiv X2.here hx rfl (hb hby d8_10) rfl (by decide) ?_
    exact k_)
  have P5 := oS (T2.setTop (mkF m 29 #[r_ a, i_ 3] [(.ref a)])) P4 (by
    intro _ k_
    refine cY_ X2 hx hby d8_11 (pc := 11) (pc' := 28) (teq (by decide : (4 : Int32) = (4 : Int32))).1 (by decide) ?_
    refine aN_ X2 hx hby d8_28 rfl rfl ?_
    exact k_)
  obtain ⟨_, T6, L6, X6, hQ6, P6c⟩ := own_cSH (W := 0) (rm_buD_4 l Z a0 hw [] de a b k x0 x1 x2 x3 s0 s1 s2 s3 y0 y1 y2 rdt kdt riso rutf cs en v0 v1 v2 v3 ret_ ket fm h0 n0 Z0 O Scs hcs Siso Sutf nci Sdt Vdt Ed Fu Fm Ea Fc Fv Vb Eb h61 hj0 hd0 hs0 hj1 hd1 hs1 hj2 hd2 hs2 hj3 hd3 hs3 hy0 hy1 hy2 Sfm hfm Set Vet Ee Fp Fl Fe hk0 hv0 hz0 hk1 hv1 hz1 hk2 hv2 hz2 hk3 hv3 hz3 Senc Sdec) X2 hx hZ (fun _ _ => trivial) hown (own_w hw 48 rfl) (own_w hw 49 rfl) (own_w hw 36 rfl) (own_w hw 50 rfl) (by decide) P5 hml rfl [(.ref a)] [] rfl rfl rfl pd19 rfl (hb hby d8_29) e2 (by decide)
  obtain ⟨xq6, kk6, rfl, N6q, K6, f7, f8⟩ := hQ6
  have N6 := Fr.app N2 N6q
  have sz_xq6 : h0.size ≤ xq6 := Nat.le_trans (Keep.refl h0 []).1 f7
  have f15 := (Keep.refl h0 []).trans K6 all0
  have P24 := own_to (C := T6.setTop (mkF m 32 #[r_ a, i_ 3] [(.ref xq6)])) P6c
  exact own_out X6 hlk (v := some (.ref xq6)) (own_hv hrt) P24 (fun _ q_ => retOut X6 hx hrt rfl (Or.inr (Or.inr (Or.inr (Or.inr ⟨rfl, rfl, rfl⟩)))) (hb hby d8_32) q_) (rfl : T6.heap = _) ⟨xq6, kk6, rfl, N6, f15, sz_xq6, f8⟩ (by decide)
theorem pd24 : parseMethodDescriptor "(I)C" = some ⟨[.int], some .char⟩ := by decide +kernel
theorem pd25 : parseMethodDescriptor "([C)V" = some ⟨[(.array .char)], none⟩ := by decide +kernel
theorem pd26 : parseMethodDescriptor "(Ljava/lang/String;I)[B" = some ⟨[(.object "java/lang/String"), .int], some (.array .byte)⟩ := by decide +kernel
theorem ef0II (m : MethodId) (x0 : Int32) (x1 : Int32) : entryFrame m #[(.int x0), (.int x1)] maxLocals = mkF m 0 #[i_ x0, i_ x1, u_, u_, u_, u_, u_, u_, u_, u_, u_, u_, u_, u_, u_, u_, u_] [] := by first | (simp [entryFrame, mkF, argsToLocals, Value.category, maxLocals]; done) | rfl
def Q0 (Z : State) (pa : Int32) (pb : Int32) (fm : Value) (cs : Int32) (riso : Addr) (rutf : Addr) (rdt : Addr) (kdt : ClassId) (ret_ : Addr) (ket : ClassId) (de : Addr) (en : Addr) (h0 : Heap) (n0 : Nat) (v_ : Option Value) (h : Heap) (L_ : List Loc) : Prop := v_ = some (.int 1) ∧ Fr n0 L_
set_option maxRecDepth 65536 in
set_option maxHeartbeats 40000000 in
theorem rm0 (l : Launch) (Z : State) (a0 : Array Value) (hw : ∀ d ∈ tables_1, d.before a0 Z = true) (ws : List Jvm.Cond) (pa : Int32) (pb : Int32) (fm : Value) (cs : Int32) (riso : Addr) (rutf : Addr) (rdt : Addr) (kdt : ClassId) (ret_ : Addr) (ket : ClassId) (de : Addr) (en : Addr) (h0 : Heap) (n0 : Nat) (Z0 : n0 ≤ h0.size) (O : Old Z n0 h0) (Scs : Sta Z Z.heap "java/lang/String" "COMPACT_STRINGS" "Z" (.int cs)) (hcs : ¬ (cs = (0 : Int32))) (Sfm : Sta Z Z.heap "jdk/internal/util/Preconditions" "SIOOBE_FORMATTER" "Ljava/util/function/BiFunction;" fm) (hfm : fm.category = 1) (Siso : Sta Z Z.heap "sun/nio/cs/ISO_8859_1" "INSTANCE" "Lsun/nio/cs/ISO_8859_1;" (.ref riso)) (Sutf : Sta Z Z.heap "sun/nio/cs/UTF_8" "INSTANCE" "Lsun/nio/cs/UTF_8;" (.ref rutf)) (nci : riso ≠ rutf) (Sdt : Sta Z Z.heap "java/util/Base64$Decoder" "fromBase64URL" "[I" (.ref rdt)) (Vdt : Arv Z Z.heap rdt kdt .int (256 : Int32) own_dec (.int 0)) (Set : Sta Z Z.heap "java/util/Base64$Encoder" "toBase64URL" "[C" (.ref ret_)) (Vet : Arv Z Z.heap ret_ ket .char (64 : Int32) own_enc (.int 0)) (Ed : Exa Z h0 de "java/util/Base64$Decoder") (Fu : Fld Z h0 de "java/util/Base64$Decoder" "isURL" "Z" (.int 1)) (Fm : Fld Z h0 de "java/util/Base64$Decoder" "isMIME" "Z" (.int 0)) (Ee : Exa Z h0 en "java/util/Base64$Encoder") (Fp : Fld Z h0 en "java/util/Base64$Encoder" "doPadding" "Z" (.int 0)) (Fl : Fld Z h0 en "java/util/Base64$Encoder" "linemax" "I" (.int (-1 : Int32))) (Fe : Fld Z h0 en "java/util/Base64$Encoder" "isURL" "Z" (.int 1)) (Sdec : Sta Z Z.heap "com/example/verified_health_identity/verifiedhealthidentity/jose/Base64url" "DECODER" "Ljava/util/Base64$Decoder;" (.ref de)) (Senc : Sta Z Z.heap "com/example/verified_health_identity/verifiedhealthidentity/jose/Base64url" "ENCODER" "Ljava/util/Base64$Encoder;" (.ref en)) (hheld : Jvm.Lit.constHeld Z "java/lang/String" 7) (hcw : Jvm.Lit.compactW.before a0 Z = true) :
    MetFree l x (head1 (Jvm.Cond.code x code maxLocals ret :: ws) room_1) (fun a_ U_ => a_ = #[(.int pa), (.int pb)] ∧ Z.Warmed39 U_.vm ∧ U_.heap = h0 ∧ IB Z U_.vm []) (fun _ _ _ _ _ => True) (fun _ U_ o_ V_ => ∃ v_ L_, o_ = .returned v_ ∧ Q0 Z pa pb fm cs riso rutf rdt kdt ret_ ket de en h0 n0 v_ V_.heap L_ ∧ ReturnedEndW U_ o_ V_ L_ room_1.cells room_1.slots) := by
  refine MetFree.of_bodySF (plainFor_of_name pn0) hisR ?_
  intro p e s m args below meth c s₁ Bd hml0 hP hK
  obtain ⟨rfl, hZ, hh, hIB⟩ := hP
  have hx := Bd.exec
  have hby := Bd.bytes
  have hml : c.maxLocals = 17 := hml0
  have hown : s.vm.findClass "com/example/verified_health_identity/verifiedhealthidentity/jose/Base64urlDecode214PinLaw" = some m.cls := findClass_of_methodNamed Bd.named
  have hnm := (name_of_methodNamed Bd.named Bd.method).1
  have X0 : Stand p l e room_1 s m #[(.int pa), (.int pb)] below meth c s₁ [] 0 0 := Stand.of_body Bd
  have e0 : s₁.heap = h0 := by rw [← hh, Bd.state]; rfl
  have N0 := Fr.nil n0
  have pre0 : own_Go p e below (s₁.setTop (entryFrame m #[(.int pa), (.int pb)] maxLocals)) (s₁.setTop (mkF m 0 #[i_ pa, i_ pb, u_, u_, u_, u_, u_, u_, u_, u_, u_, u_, u_, u_, u_, u_, u_] [])) := fun t_ k_ => castTop (ef0II m pa pb) k_
  have P1 := oS (s₁.setTop (mkF m 4 #[i_ pa, i_ pb, i_ (pb &&& 3), u_, u_, u_, u_, u_, u_, u_, u_, u_, u_, u_, u_, u_, u_] [])) pre0 (by
    intro _ k_
    refine iN_ X0 hx hby at_0 rfl ?_
    refine XS.iconst X0.here hx rfl (hb hby at_1) ?_
    refine XS.iand X0.here hx rfl (hb hby at_2) rfl ?_
    refine XS.istoreN X0.here hx rfl (hb hby at_3) rfl (l' := #[i_ pa, i_ pb, i_ (pb &&& 3), u_, u_, u_, u_, u_, u_, u_, u_, u_, u_, u_, u_, u_, u_]) rfl ?_
    exact k_)
  obtain ⟨nn, hnn, P2⟩ := own_name (F := fun z => s₁.setTop (mkF m 4 #[i_ pa, i_ pb, i_ z, u_, u_, u_, u_, u_, u_, u_, u_, u_, u_, u_, u_, u_, u_] [])) (pb &&& 3) P1
  have P3 := oS (s₁.setTop (mkF m 10 #[i_ pa, i_ pb, i_ nn, i_ (pa &&& 255), u_, u_, u_, u_, u_, u_, u_, u_, u_, u_, u_, u_, u_] [])) P2 (by
    intro _ k_
    refine iN_ X0 hx hby at_4 rfl ?_
    refine XS.sipush X0.here hx rfl (hb hby at_5) ?_
    refine XS.iand X0.here hx rfl (hb hby at_8) rfl ?_
    refine XS.istoreN X0.here hx rfl (hb hby at_9) rfl (l' := #[i_ pa, i_ pb, i_ nn, i_ (pa &&& 255), u_, u_, u_, u_, u_, u_, u_, u_, u_, u_, u_, u_, u_]) rfl ?_
    exact k_)
  obtain ⟨q0, hq0, P4⟩ := own_name (F := fun z => s₁.setTop (mkF m 10 #[i_ pa, i_ pb, i_ nn, i_ z, u_, u_, u_, u_, u_, u_, u_, u_, u_, u_, u_, u_, u_] [])) (pa &&& 255) P3
  obtain ⟨q1, hv5, J5⟩ : ∃ (q1 : Int32), ((nn < (2 : Int32) ∧ q1 = (0 : Int32)) ∨ (¬ (nn < (2 : Int32)) ∧ q1 = (((pa.toUInt32 >>> ((8 : Int32) &&& 31).toUInt32).toInt32) &&& 255))) ∧ own_Go p e below (s₁.setTop (mkF m 10 #[i_ pa, i_ pb, i_ nn, i_ q0, u_, u_, u_, u_, u_, u_, u_, u_, u_, u_, u_, u_, u_] [])) (s₁.setTop (mkF m 27 #[i_ pa, i_ pb, i_ nn, i_ q0, u_, u_, u_, u_, u_, u_, u_, u_, u_, u_, u_, u_, u_] [(.int q1)])) := by
    have P6 : own_Go p e below (s₁.setTop (mkF m 10 #[i_ pa, i_ pb, i_ nn, i_ q0, u_, u_, u_, u_, u_, u_, u_, u_, u_, u_, u_, u_, u_] [])) (s₁.setTop (mkF m 10 #[i_ pa, i_ pb, i_ nn, i_ q0, u_, u_, u_, u_, u_, u_, u_, u_, u_, u_, u_, u_, u_] [])) := fun t_ k_ => k_
    have P7 := oS (s₁.setTop (mkF m 12 #[i_ pa, i_ pb, i_ nn, i_ q0, u_, u_, u_, u_, u_, u_, u_, u_, u_, u_, u_, u_, u_] [(.int 2), (.int nn)])) P6 (by
      intro _ k_
      refine iN_ X0 hx hby at_10 rfl ?_
      refine XS.iconst X0.here hx rfl (hb hby at_11) ?_
      exact k_)
    by_cases c8 : nn < (2 : Int32)
    · have P9 := oS (s₁.setTop (mkF m 27 #[i_ pa, i_ pb, i_ nn, i_ q0, u_, u_, u_, u_, u_, u_, u_, u_, u_, u_, u_, u_, u_] [(.int 0)])) P7 (by
        intro _ k_
        refine cY_ X0 hx hby at_12 (pc := 12) (pc' := 26) (tlt c8).1 (by decide) ?_
        refine XS.iconst X0.here hx rfl (hb hby at_26) ?_
        exact k_)
      exact ⟨(0 : Int32), Or.inl ⟨c8, rfl⟩, P9⟩
    · have P10 := oS (s₁.setTop (mkF m 27 #[i_ pa, i_ pb, i_ nn, i_ q0, u_, u_, u_, u_, u_, u_, u_, u_, u_, u_, u_, u_, u_] [(.int (((pa.toUInt32 >>> ((8 : Int32) &&& 31).toUInt32).toInt32) &&& 255))])) P7 (by
        intro _ k_
        refine XS.icmpNo X0.here hx rfl (hb hby at_12) rfl (flt c8).1 ?_
        refine iN_ X0 hx hby at_15 rfl ?_
        refine XS.bipush X0.here hx rfl (hb hby at_16) ?_
        refine XS.iushr X0.here hx rfl (hb hby at_18) rfl ?_
        refine XS.sipush X0.here hx rfl (hb hby at_19) ?_
        refine XS.iand X0.here hx rfl (hb hby at_22) rfl ?_
        refine gt_ X0 hx hby at_23 (pc := 23) (pc' := 27) (by decide) ?_
        exact k_)
      exact ⟨(((pa.toUInt32 >>> ((8 : Int32) &&& 31).toUInt32).toInt32) &&& 255), Or.inr (⟨c8, rfl⟩), P10⟩
  have P11 := own_step P4 J5
  have P12 := oS (s₁.setTop (mkF m 29 #[i_ pa, i_ pb, i_ nn, i_ q0, i_ q1, u_, u_, u_, u_, u_, u_, u_, u_, u_, u_, u_, u_] [])) P11 (by
    intro _ k_
    refine is_ X0 hx hby at_27 (l' := #[i_ pa, i_ pb, i_ nn, i_ q0, i_ q1, u_, u_, u_, u_, u_, u_, u_, u_, u_, u_, u_, u_]) rfl ?_
    exact k_)
  obtain ⟨q2, hv13, J13⟩ : ∃ (q2 : Int32), ((nn < (3 : Int32) ∧ q2 = (0 : Int32)) ∨ (¬ (nn < (3 : Int32)) ∧ q2 = (((pa.toUInt32 >>> ((16 : Int32) &&& 31).toUInt32).toInt32) &&& 255))) ∧ own_Go p e below (s₁.setTop (mkF m 29 #[i_ pa, i_ pb, i_ nn, i_ q0, i_ q1, u_, u_, u_, u_, u_, u_, u_, u_, u_, u_, u_, u_] [])) (s₁.setTop (mkF m 46 #[i_ pa, i_ pb, i_ nn, i_ q0, i_ q1, u_, u_, u_, u_, u_, u_, u_, u_, u_, u_, u_, u_] [(.int q2)])) := by
    have P14 : own_Go p e below (s₁.setTop (mkF m 29 #[i_ pa, i_ pb, i_ nn, i_ q0, i_ q1, u_, u_, u_, u_, u_, u_, u_, u_, u_, u_, u_, u_] [])) (s₁.setTop (mkF m 29 #[i_ pa, i_ pb, i_ nn, i_ q0, i_ q1, u_, u_, u_, u_, u_, u_, u_, u_, u_, u_, u_, u_] [])) := fun t_ k_ => k_
    have P15 := oS (s₁.setTop (mkF m 31 #[i_ pa, i_ pb, i_ nn, i_ q0, i_ q1, u_, u_, u_, u_, u_, u_, u_, u_, u_, u_, u_, u_] [(.int 3), (.int nn)])) P14 (by
      intro _ k_
      refine iN_ X0 hx hby at_29 rfl ?_
      refine XS.iconst X0.here hx rfl (hb hby at_30) ?_
      exact k_)
    by_cases c16 : nn < (3 : Int32)
    · have P17 := oS (s₁.setTop (mkF m 46 #[i_ pa, i_ pb, i_ nn, i_ q0, i_ q1, u_, u_, u_, u_, u_, u_, u_, u_, u_, u_, u_, u_] [(.int 0)])) P15 (by
        intro _ k_
        refine cY_ X0 hx hby at_31 (pc := 31) (pc' := 45) (tlt c16).1 (by decide) ?_
        refine XS.iconst X0.here hx rfl (hb hby at_45) ?_
        exact k_)
      exact ⟨(0 : Int32), Or.inl ⟨c16, rfl⟩, P17⟩
    · have P18 := oS (s₁.setTop (mkF m 46 #[i_ pa, i_ pb, i_ nn, i_ q0, i_ q1, u_, u_, u_, u_, u_, u_, u_, u_, u_, u_, u_, u_] [(.int (((pa.toUInt32 >>> ((16 : Int32) &&& 31).toUInt32).toInt32) &&& 255))])) P15 (by
        intro _ k_
        refine XS.icmpNo X0.here hx rfl (hb hby at_31) rfl (flt c16).1 ?_
        refine iN_ X0 hx hby at_34 rfl ?_
        refine XS.bipush X0.here hx rfl (hb hby at_35) ?_
        refine XS.iushr X0.here hx rfl (hb hby at_37) rfl ?_
        refine XS.sipush X0.here hx rfl (hb hby at_38) ?_
        refine XS.iand X0.here hx rfl (hb hby at_41) rfl ?_
        refine gt_ X0 hx hby at_42 (pc := 42) (pc' := 46) (by decide) ?_
        exact k_)
      exact ⟨(((pa.toUInt32 >>> ((16 : Int32) &&& 31).toUInt32).toInt32) &&& 255), Or.inr (⟨c16, rfl⟩), P18⟩
  have P19 := own_step P12 J13
  have P20 := oS (s₁.setTop (mkF m 63 #[i_ pa, i_ pb, i_ nn, i_ q0, i_ q1, i_ q2, i_ (((q0 <<< ((16 : Int32) &&& 31)) ||| (q1 <<< ((8 : Int32) &&& 31))) ||| q2), u_, u_, u_, u_, u_, u_, u_, u_, u_, u_] [])) P19 (by
    intro _ k_
    refine is_ X0 hx hby at_46 (l' := #[i_ pa, i_ pb, i_ nn, i_ q0, i_ q1, i_ q2, u_, u_, u_, u_, u_, u_, u_, u_, u_, u_, u_]) rfl ?_
    refine iN_ X0 hx hby at_48 rfl ?_
    refine XS.bipush X0.here hx rfl (hb hby at_49) ?_
    refine XS.ishl X0.here hx rfl (hb hby at_51) rfl ?_
    refine il_ X0 hx hby at_52 rfl ?_
    refine XS.bipush X0.here hx rfl (hb hby at_54) ?_
    refine XS.ishl X0.here hx rfl (hb hby at_56) rfl ?_
    refine XS.ior X0.here hx rfl (hb hby at_57) rfl ?_
    refine il_ X0 hx hby at_58 rfl ?_
    refine XS.ior X0.here hx rfl (hb hby at_60) rfl ?_
    refine is_ X0 hx hby at_61 (l' := #[i_ pa, i_ pb, i_ nn, i_ q0, i_ q1, i_ q2, i_ (((q0 <<< ((16 : Int32) &&& 31)) ||| (q1 <<< ((8 : Int32) &&& 31))) ||| q2), u_, u_, u_, u_, u_, u_, u_, u_, u_, u_]) rfl ?_
    exact k_)
  obtain ⟨vv, hvv, P21⟩ := own_name (F := fun z => s₁.setTop (mkF m 63 #[i_ pa, i_ pb, i_ nn, i_ q0, i_ q1, i_ q2, i_ z, u_, u_, u_, u_, u_, u_, u_, u_, u_, u_] [])) (((q0 <<< ((16 : Int32) &&& 31)) ||| (q1 <<< ((8 : Int32) &&& 31))) ||| q2) P20
  have P22 := oS (s₁.setTop (mkF m 71 #[i_ pa, i_ pb, i_ nn, i_ q0, i_ q1, i_ q2, i_ vv, u_, u_, u_, u_, u_, u_, u_, u_, u_, u_] [(.int (((vv.toUInt32 >>> ((18 : Int32) &&& 31).toUInt32).toInt32) &&& 63))])) P21 (by
    intro _ k_
    refine il_ X0 hx hby at_63 rfl ?_
    refine XS.bipush X0.here hx rfl (hb hby at_65) ?_
    refine XS.iushr X0.here hx rfl (hb hby at_67) rfl ?_
    refine XS.bipush X0.here hx rfl (hb hby at_68) ?_
    refine XS.iand X0.here hx rfl (hb hby at_70) rfl ?_
    exact k_)
  obtain ⟨s0, hs0, P23⟩ := own_name (F := fun z => s₁.setTop (mkF m 71 #[i_ pa, i_ pb, i_ nn, i_ q0, i_ q1, i_ q2, i_ vv, u_, u_, u_, u_, u_, u_, u_, u_, u_, u_] [(.int z)])) (((vv.toUInt32 >>> ((18 : Int32) &&& 31).toUInt32).toInt32) &&& 63) P22
  obtain ⟨_, T24, L24, X24, hQ24, P24c⟩ := own_cS (W := 0) (rm_own_al l Z a0 hw [] s0 h0 n0 Z0 ) X0 hx hZ (fun _ _ => trivial) hown (own_w hw 0 rfl) (own_w hw 1 rfl) (own_w hw 2 rfl) (own_w hw 3 rfl) (by decide) P23 hml rfl [(.int s0)] [] rfl rfl rfl pd24 rfl (hb hby at_71) e0 (by decide)
  obtain ⟨rfl, N24q, e24⟩ := hQ24
  have N24 := Fr.app N0 N24q
  have P25 := own_to (C := T24.setTop (mkF m 74 #[i_ pa, i_ pb, i_ nn, i_ q0, i_ q1, i_ q2, i_ vv, u_, u_, u_, u_, u_, u_, u_, u_, u_, u_] [(.int (own_al s0))])) P24c
  have P26 := oS (T24.setTop (mkF m 84 #[i_ pa, i_ pb, i_ nn, i_ q0, i_ q1, i_ q2, i_ vv, i_ (own_al s0), u_, u_, u_, u_, u_, u_, u_, u_, u_] [(.int (((vv.toUInt32 >>> ((12 : Int32) &&& 31).toUInt32).toInt32) &&& 63))])) P25 (by
    intro _ k_
    refine is_ X24 hx hby at_74 (l' := #[i_ pa, i_ pb, i_ nn, i_ q0, i_ q1, i_ q2, i_ vv, i_ (own_al s0), u_, u_, u_, u_, u_, u_, u_, u_, u_]) rfl ?_
    refine il_ X24 hx hby at_76 rfl ?_
    refine XS.bipush X24.here hx rfl (hb hby at_78) ?_
    refine XS.iushr X24.here hx rfl (hb hby at_80) rfl ?_
    refine XS.bipush X24.here hx rfl (hb hby at_81) ?_
    refine XS.iand X24.here hx rfl (hb hby at_83) rfl ?_
    exact k_)
  obtain ⟨s1, hs1, P27⟩ := own_name (F := fun z => T24.setTop (mkF m 84 #[i_ pa, i_ pb, i_ nn, i_ q0, i_ q1, i_ q2, i_ vv, i_ (own_al s0), u_, u_, u_, u_, u_, u_, u_, u_, u_] [(.int z)])) (((vv.toUInt32 >>> ((12 : Int32) &&& 31).toUInt32).toInt32) &&& 63) P26
  obtain ⟨_, T28, L28, X28, hQ28, P28c⟩ := own_cS (W := 0) (rm_own_al l Z a0 hw [] s1 h0 n0 Z0 ) X24 hx hZ (fun _ _ => trivial) hown (own_w hw 0 rfl) (own_w hw 1 rfl) (own_w hw 2 rfl) (own_w hw 3 rfl) (by decide) P27 hml rfl [(.int s1)] [] rfl rfl rfl pd24 rfl (hb hby at_84) e24 (by decide)
  obtain ⟨rfl, N28q, e28⟩ := hQ28
  have N28 := Fr.app N24 N28q
  have P29 := own_to (C := T28.setTop (mkF m 87 #[i_ pa, i_ pb, i_ nn, i_ q0, i_ q1, i_ q2, i_ vv, i_ (own_al s0), u_, u_, u_, u_, u_, u_, u_, u_, u_] [(.int (own_al s1))])) P28c
  have P30 := oS (T28.setTop (mkF m 97 #[i_ pa, i_ pb, i_ nn, i_ q0, i_ q1, i_ q2, i_ vv, i_ (own_al s0), i_ (own_al s1), u_, u_, u_, u_, u_, u_, u_, u_] [(.int (((vv.toUInt32 >>> ((6 : Int32) &&& 31).toUInt32).toInt32) &&& 63))])) P29 (by
    intro _ k_
    refine is_ X28 hx hby at_87 (l' := #[i_ pa, i_ pb, i_ nn, i_ q0, i_ q1, i_ q2, i_ vv, i_ (own_al s0), i_ (own_al s1), u_, u_, u_, u_, u_, u_, u_, u_]) rfl ?_
    refine il_ X28 hx hby at_89 rfl ?_
    refine XS.bipush X28.here hx rfl (hb hby at_91) ?_
    refine XS.iushr X28.here hx rfl (hb hby at_93) rfl ?_
    refine XS.bipush X28.here hx rfl (hb hby at_94) ?_
    refine XS.iand X28.here hx rfl (hb hby at_96) rfl ?_
    exact k_)
  obtain ⟨s2, hs2, P31⟩ := own_name (F := fun z => T28.setTop (mkF m 97 #[i_ pa, i_ pb, i_ nn, i_ q0, i_ q1, i_ q2, i_ vv, i_ (own_al s0), i_ (own_al s1), u_, u_, u_, u_, u_, u_, u_, u_] [(.int z)])) (((vv.toUInt32 >>> ((6 : Int32) &&& 31).toUInt32).toInt32) &&& 63) P30
  obtain ⟨_, T32, L32, X32, hQ32, P32c⟩ := own_cS (W := 0) (rm_own_al l Z a0 hw [] s2 h0 n0 Z0 ) X28 hx hZ (fun _ _ => trivial) hown (own_w hw 0 rfl) (own_w hw 1 rfl) (own_w hw 2 rfl) (own_w hw 3 rfl) (by decide) P31 hml rfl [(.int s2)] [] rfl rfl rfl pd24 rfl (hb hby at_97) e28 (by decide)
  obtain ⟨rfl, N32q, e32⟩ := hQ32
  have N32 := Fr.app N28 N32q
  have P33 := own_to (C := T32.setTop (mkF m 100 #[i_ pa, i_ pb, i_ nn, i_ q0, i_ q1, i_ q2, i_ vv, i_ (own_al s0), i_ (own_al s1), u_, u_, u_, u_, u_, u_, u_, u_] [(.int (own_al s2))])) P32c
  have P34 := oS (T32.setTop (mkF m 107 #[i_ pa, i_ pb, i_ nn, i_ q0, i_ q1, i_ q2, i_ vv, i_ (own_al s0), i_ (own_al s1), i_ (own_al s2), u_, u_, u_, u_, u_, u_, u_] [(.int (vv &&& 63))])) P33 (by
    intro _ k_
    refine is_ X32 hx hby at_100 (l' := #[i_ pa, i_ pb, i_ nn, i_ q0, i_ q1, i_ q2, i_ vv, i_ (own_al s0), i_ (own_al s1), i_ (own_al s2), u_, u_, u_, u_, u_, u_, u_]) rfl ?_
    refine il_ X32 hx hby at_102 rfl ?_
    refine XS.bipush X32.here hx rfl (hb hby at_104) ?_
    refine XS.iand X32.here hx rfl (hb hby at_106) rfl ?_
    exact k_)
  obtain ⟨s3, hs3, P35⟩ := own_name (F := fun z => T32.setTop (mkF m 107 #[i_ pa, i_ pb, i_ nn, i_ q0, i_ q1, i_ q2, i_ vv, i_ (own_al s0), i_ (own_al s1), i_ (own_al s2), u_, u_, u_, u_, u_, u_, u_] [(.int z)])) (vv &&& 63) P34
  obtain ⟨_, T36, L36, X36, hQ36, P36c⟩ := own_cS (W := 0) (rm_own_al l Z a0 hw [] s3 h0 n0 Z0 ) X32 hx hZ (fun _ _ => trivial) hown (own_w hw 0 rfl) (own_w hw 1 rfl) (own_w hw 2 rfl) (own_w hw 3 rfl) (by decide) P35 hml rfl [(.int s3)] [] rfl rfl rfl pd24 rfl (hb hby at_107) e32 (by decide)
  obtain ⟨rfl, N36q, e36⟩ := hQ36
  have N36 := Fr.app N32 N36q
  have P37 := own_to (C := T36.setTop (mkF m 110 #[i_ pa, i_ pb, i_ nn, i_ q0, i_ q1, i_ q2, i_ vv, i_ (own_al s0), i_ (own_al s1), i_ (own_al s2), u_, u_, u_, u_, u_, u_, u_] [(.int (own_al s3))])) P36c
  have HH : own_H q0 q1 q2 s0 s1 s2 s3 := own_HI (by rw [hq0]; exact own_B255 _) (own_pB hv5) (own_pB hv13) hvv hs0 hs1 hs2 hs3
  have P38 := oS (T36.setTop (mkF m 113 #[i_ pa, i_ pb, i_ nn, i_ q0, i_ q1, i_ q2, i_ vv, i_ (own_al s0), i_ (own_al s1), i_ (own_al s2), i_ (own_al s3), u_, u_, u_, u_, u_, u_] [(.int 0)])) P37 (by
    intro _ k_
    refine is_ X36 hx hby at_110 (l' := #[i_ pa, i_ pb, i_ nn, i_ q0, i_ q1, i_ q2, i_ vv, i_ (own_al s0), i_ (own_al s1), i_ (own_al s2), i_ (own_al s3), u_, u_, u_, u_, u_, u_]) rfl ?_
    refine XS.iconst X36.here hx rfl (hb hby at_112) ?_
    exact k_)
  obtain ⟨T39, h39, k39, X39, e39, E39, A39, st39⟩ := newP X36 hx hZ (own_w hw 4 rfl) e36 (g := (mkF m 113 #[i_ pa, i_ pb, i_ nn, i_ q0, i_ q1, i_ q2, i_ vv, i_ (own_al s0), i_ (own_al s1), i_ (own_al s2), i_ (own_al s3), u_, u_, u_, u_, u_, u_] [(.int 0)])) rfl (hb hby at_113) rfl (by decide) (cap := 0) (by decide) (by decide) (by decide) (by decide)
  obtain ⟨b39, g39⟩ : ∃ z, z = h0.size := ⟨_, rfl⟩
  rw [← g39] at A39 st39
  have f40 := O.ext E39
  have f41 := Fu.ext E39
  have f42 := Fm.ext E39
  have f43 := Fp.ext E39
  have f44 := Fl.ext E39
  have f45 := Fe.ext E39
  have f47 := Ee.ext E39
  have f48 := Ed.ext E39
  have Z49 : n0 ≤ h39.size := Nat.le_trans Z0 E39.1
  have V39 : Arv Z h39 b39 k39 .char (0 : Int32) [] (.int 0) := (Arv.new A39 (by decide)).pad (pad_rep [] _ 0)
  have P50 := oS (T39.setTop (mkF m 115 #[i_ pa, i_ pb, i_ nn, i_ q0, i_ q1, i_ q2, i_ vv, i_ (own_al s0), i_ (own_al s1), i_ (own_al s2), i_ (own_al s3), u_, u_, u_, u_, u_, u_] [(.ref b39)])) P38 (fun t_ k_ => st39 t_ k_)
  have P51 := oS (T39.setTop (mkF m 118 #[i_ pa, i_ pb, i_ nn, i_ q0, i_ q1, i_ q2, i_ vv, i_ (own_al s0), i_ (own_al s1), i_ (own_al s2), i_ (own_al s3), r_ b39, u_, u_, u_, u_, u_] [(.int 2)])) P50 (by
    intro _ k_
    refine XS.astore X39.here hx rfl (hb hby at_115) rfl rfl (l' := #[i_ pa, i_ pb, i_ nn, i_ q0, i_ q1, i_ q2, i_ vv, i_ (own_al s0), i_ (own_al s1), i_ (own_al s2), i_ (own_al s3), r_ b39, u_, u_, u_, u_, u_]) rfl ?_
    refine XS.iconst X39.here hx rfl (hb hby at_117) ?_
    exact k_)
  obtain ⟨T52, h52, k52, X52, e52, E52, A52, st52⟩ := newP X39 hx hZ (own_w hw 4 rfl) e39 (g := (mkF m 118 #[i_ pa, i_ pb, i_ nn, i_ q0, i_ q1, i_ q2, i_ vv, i_ (own_al s0), i_ (own_al s1), i_ (own_al s2), i_ (own_al s3), r_ b39, u_, u_, u_, u_, u_] [(.int 2)])) rfl (hb hby at_118) rfl (by decide) (cap := 2) (by decide) (by decide) (by decide) (by decide)
  obtain ⟨b52, g52⟩ : ∃ z, z = h39.size := ⟨_, rfl⟩
  rw [← g52] at A52 st52
  have ne_de_b52 : de ≠ b52 := Nat.ne_of_lt (Nat.lt_of_lt_of_le f41.lt (Nat.le_of_eq g52.symm))
  have ne_en_b52 : en ≠ b52 := Nat.ne_of_lt (Nat.lt_of_lt_of_le f43.lt (Nat.le_of_eq g52.symm))
  have ne_b39_b52 : b39 ≠ b52 := Nat.ne_of_lt (Nat.lt_of_lt_of_le V39.lt (Nat.le_of_eq g52.symm))
  have g_b52 : n0 ≤ b52 := Nat.le_trans Z49 (Nat.le_of_eq g52.symm)
  have f53 := f40.ext E52
  have f54 := f41.ext E52
  have f55 := f42.ext E52
  have f56 := f43.ext E52
  have f57 := f44.ext E52
  have f58 := f45.ext E52
  have f60 := f47.ext E52
  have f61 := f48.ext E52
  have f62 := V39.ext E52
  have Z63 : n0 ≤ h52.size := Nat.le_trans Z49 E52.1
  have V52 : Arv Z h52 b52 k52 .char (2 : Int32) [(.int 0), (.int 0)] (.int 0) := (Arv.new A52 (by decide)).pad (pad_rep [] _ 2)
  have P64 := oS (T52.setTop (mkF m 120 #[i_ pa, i_ pb, i_ nn, i_ q0, i_ q1, i_ q2, i_ vv, i_ (own_al s0), i_ (own_al s1), i_ (own_al s2), i_ (own_al s3), r_ b39, u_, u_, u_, u_, u_] [(.ref b52)])) P51 (fun t_ k_ => st52 t_ k_)
  have P65 := oS (T52.setTop (mkF m 124 #[i_ pa, i_ pb, i_ nn, i_ q0, i_ q1, i_ q2, i_ vv, i_ (own_al s0), i_ (own_al s1), i_ (own_al s2), i_ (own_al s3), r_ b39, u_, u_, u_, u_, u_] [(.int (own_al s0)), (.int 0), (.ref b52), (.ref b52)])) P64 (by
    intro _ k_
    refine XS.dup X52.here hx rfl (hb hby at_120) rfl rfl ?_
    refine XS.iconst X52.here hx rfl (hb hby at_121) ?_
    refine il_ X52 hx hby at_122 rfl ?_
    exact k_)
  obtain ⟨cl66, Ar66, q66, S66, M66, H66, G66⟩ := id V52
  obtain ⟨T67, h67, X67, e67, W67, st67⟩ := stC X52 hx hZ e52 Ar66 (j := (0 : Int32)) (inb_of S66 (by decide : ¬ (0 : Int32) < 0 ∧ (0 : Int32) < (2 : Int32))) (g := (mkF m 124 #[i_ pa, i_ pb, i_ nn, i_ q0, i_ q1, i_ q2, i_ vv, i_ (own_al s0), i_ (own_al s1), i_ (own_al s2), i_ (own_al s3), r_ b39, u_, u_, u_, u_, u_] [(.int (own_al s0)), (.int 0), (.ref b52), (.ref b52)])) rfl rfl (hb hby at_124)
  have f68 := f53.wr W67 g_b52
  have f69 := f54.other W67 (Or.inl ne_de_b52)
  have f70 := f55.other W67 (Or.inl ne_de_b52)
  have f71 := f56.other W67 (Or.inl ne_en_b52)
  have f72 := f57.other W67 (Or.inl ne_en_b52)
  have f73 := f58.other W67 (Or.inl ne_en_b52)
  have f75 := f60.wr W67
  have f76 := f61.wr W67
  have f77 := f62.other W67 ne_b39_b52
  have Z79 : n0 ≤ h67.size := Nat.le_trans Z63 (Keep.of_wr W67).1
  have V67 : Arv Z h67 b52 k52 .char (2 : Int32) [(.int (nar .char (own_al s0))), (.int 0)] (.int 0) := Arv.set Ar66 q66 S66 M66 H66 G66 (fits_nar_char _) W67 0 rfl (Nat.le_of_ble_eq_true rfl)
  have N67 := Fr.snoc X67 N36 g_b52
  have P80 := oS (T67.setTop (mkF m 125 #[i_ pa, i_ pb, i_ nn, i_ q0, i_ q1, i_ q2, i_ vv, i_ (own_al s0), i_ (own_al s1), i_ (own_al s2), i_ (own_al s3), r_ b39, u_, u_, u_, u_, u_] [(.ref b52)])) P65 (fun t_ k_ => st67 t_ k_)
  have P81 := oS (T67.setTop (mkF m 129 #[i_ pa, i_ pb, i_ nn, i_ q0, i_ q1, i_ q2, i_ vv, i_ (own_al s0), i_ (own_al s1), i_ (own_al s2), i_ (own_al s3), r_ b39, u_, u_, u_, u_, u_] [(.int (own_al s1)), (.int 1), (.ref b52), (.ref b52)])) P80 (by
    intro _ k_
    refine XS.dup X67.here hx rfl (hb hby at_125) rfl rfl ?_
    refine XS.iconst X67.here hx rfl (hb hby at_126) ?_
    refine il_ X67 hx hby at_127 rfl ?_
    exact k_)
  obtain ⟨cl82, Ar82, q82, S82, M82, H82, G82⟩ := id V67
  obtain ⟨T83, h83, X83, e83, W83, st83⟩ := stC X67 hx hZ e67 Ar82 (j := (1 : Int32)) (inb_of S82 (by decide : ¬ (1 : Int32) < 0 ∧ (1 : Int32) < (2 : Int32))) (g := (mkF m 129 #[i_ pa, i_ pb, i_ nn, i_ q0, i_ q1, i_ q2, i_ vv, i_ (own_al s0), i_ (own_al s1), i_ (own_al s2), i_ (own_al s3), r_ b39, u_, u_, u_, u_, u_] [(.int (own_al s1)), (.int 1), (.ref b52), (.ref b52)])) rfl rfl (hb hby at_129)
  have f84 := f68.wr W83 g_b52
  have f85 := f69.other W83 (Or.inl ne_de_b52)
  have f86 := f70.other W83 (Or.inl ne_de_b52)
  have f87 := f71.other W83 (Or.inl ne_en_b52)
  have f88 := f72.other W83 (Or.inl ne_en_b52)
  have f89 := f73.other W83 (Or.inl ne_en_b52)
  have f91 := f75.wr W83
  have f92 := f76.wr W83
  have f93 := f77.other W83 ne_b39_b52
  have Z95 : n0 ≤ h83.size := Nat.le_trans Z79 (Keep.of_wr W83).1
  have V83 : Arv Z h83 b52 k52 .char (2 : Int32) [(.int (nar .char (own_al s0))), (.int (nar .char (own_al s1)))] (.int 0) := Arv.set Ar82 q82 S82 M82 H82 G82 (fits_nar_char _) W83 1 rfl (Nat.le_of_ble_eq_true rfl)
  have N83 := Fr.snoc X83 N67 g_b52
  have P96 := oS (T83.setTop (mkF m 130 #[i_ pa, i_ pb, i_ nn, i_ q0, i_ q1, i_ q2, i_ vv, i_ (own_al s0), i_ (own_al s1), i_ (own_al s2), i_ (own_al s3), r_ b39, u_, u_, u_, u_, u_] [(.ref b52)])) P81 (fun t_ k_ => st83 t_ k_)
  have P97 := oS (T83.setTop (mkF m 133 #[i_ pa, i_ pb, i_ nn, i_ q0, i_ q1, i_ q2, i_ vv, i_ (own_al s0), i_ (own_al s1), i_ (own_al s2), i_ (own_al s3), r_ b39, r_ b52, u_, u_, u_, u_] [(.int 3)])) P96 (by
    intro _ k_
    refine XS.astore X83.here hx rfl (hb hby at_130) rfl rfl (l' := #[i_ pa, i_ pb, i_ nn, i_ q0, i_ q1, i_ q2, i_ vv, i_ (own_al s0), i_ (own_al s1), i_ (own_al s2), i_ (own_al s3), r_ b39, r_ b52, u_, u_, u_, u_]) rfl ?_
    refine XS.iconst X83.here hx rfl (hb hby at_132) ?_
    exact k_)
  obtain ⟨T98, h98, k98, X98, e98, E98, A98, st98⟩ := newP X83 hx hZ (own_w hw 4 rfl) e83 (g := (mkF m 133 #[i_ pa, i_ pb, i_ nn, i_ q0, i_ q1, i_ q2, i_ vv, i_ (own_al s0), i_ (own_al s1), i_ (own_al s2), i_ (own_al s3), r_ b39, r_ b52, u_, u_, u_, u_] [(.int 3)])) rfl (hb hby at_133) rfl (by decide) (cap := 3) (by decide) (by decide) (by decide) (by decide)
  obtain ⟨b98, g98⟩ : ∃ z, z = h83.size := ⟨_, rfl⟩
  rw [← g98] at A98 st98
  have ne_de_b98 : de ≠ b98 := Nat.ne_of_lt (Nat.lt_of_lt_of_le f85.lt (Nat.le_of_eq g98.symm))
  have ne_en_b98 : en ≠ b98 := Nat.ne_of_lt (Nat.lt_of_lt_of_le f87.lt (Nat.le_of_eq g98.symm))
  have ne_b39_b98 : b39 ≠ b98 := Nat.ne_of_lt (Nat.lt_of_lt_of_le f93.lt (Nat.le_of_eq g98.symm))
  have ne_b52_b98 : b52 ≠ b98 := Nat.ne_of_lt (Nat.lt_of_lt_of_le V83.lt (Nat.le_of_eq g98.symm))
  have g_b98 : n0 ≤ b98 := Nat.le_trans Z95 (Nat.le_of_eq g98.symm)
  have f99 := f84.ext E98
  have f100 := f85.ext E98
  have f101 := f86.ext E98
  have f102 := f87.ext E98
  have f103 := f88.ext E98
  have f104 := f89.ext E98
  have f106 := f91.ext E98
  have f107 := f92.ext E98
  have f108 := f93.ext E98
  have f109 := V83.ext E98
  have Z110 : n0 ≤ h98.size := Nat.le_trans Z95 E98.1
  have V98 : Arv Z h98 b98 k98 .char (3 : Int32) [(.int 0), (.int 0), (.int 0)] (.int 0) := (Arv.new A98 (by decide)).pad (pad_rep [] _ 3)
  have P111 := oS (T98.setTop (mkF m 135 #[i_ pa, i_ pb, i_ nn, i_ q0, i_ q1, i_ q2, i_ vv, i_ (own_al s0), i_ (own_al s1), i_ (own_al s2), i_ (own_al s3), r_ b39, r_ b52, u_, u_, u_, u_] [(.ref b98)])) P97 (fun t_ k_ => st98 t_ k_)
  have P112 := oS (T98.setTop (mkF m 139 #[i_ pa, i_ pb, i_ nn, i_ q0, i_ q1, i_ q2, i_ vv, i_ (own_al s0), i_ (own_al s1), i_ (own_al s2), i_ (own_al s3), r_ b39, r_ b52, u_, u_, u_, u_] [(.int (own_al s0)), (.int 0), (.ref b98), (.ref b98)])) P111 (by
    intro _ k_
    refine XS.dup X98.here hx rfl (hb hby at_135) rfl rfl ?_
    refine XS.iconst X98.here hx rfl (hb hby at_136) ?_
    refine il_ X98 hx hby at_137 rfl ?_
    exact k_)
  obtain ⟨cl113, Ar113, q113, S113, M113, H113, G113⟩ := id V98
  obtain ⟨T114, h114, X114, e114, W114, st114⟩ := stC X98 hx hZ e98 Ar113 (j := (0 : Int32)) (inb_of S113 (by decide : ¬ (0 : Int32) < 0 ∧ (0 : Int32) < (3 : Int32))) (g := (mkF m 139 #[i_ pa, i_ pb, i_ nn, i_ q0, i_ q1, i_ q2, i_ vv, i_ (own_al s0), i_ (own_al s1), i_ (own_al s2), i_ (own_al s3), r_ b39, r_ b52, u_, u_, u_, u_] [(.int (own_al s0)), (.int 0), (.ref b98), (.ref b98)])) rfl rfl (hb hby at_139)
  have f115 := f99.wr W114 g_b98
  have f116 := f100.other W114 (Or.inl ne_de_b98)
  have f117 := f101.other W114 (Or.inl ne_de_b98)
  have f118 := f102.other W114 (Or.inl ne_en_b98)
  have f119 := f103.other W114 (Or.inl ne_en_b98)
  have f120 := f104.other W114 (Or.inl ne_en_b98)
  have f122 := f106.wr W114
  have f123 := f107.wr W114
  have f124 := f108.other W114 ne_b39_b98
  have f125 := f109.other W114 ne_b52_b98
  have Z127 : n0 ≤ h114.size := Nat.le_trans Z110 (Keep.of_wr W114).1
  have V114 : Arv Z h114 b98 k98 .char (3 : Int32) [(.int (nar .char (own_al s0))), (.int 0), (.int 0)] (.int 0) := Arv.set Ar113 q113 S113 M113 H113 G113 (fits_nar_char _) W114 0 rfl (Nat.le_of_ble_eq_true rfl)
  have N114 := Fr.snoc X114 N83 g_b98
  have P128 := oS (T114.setTop (mkF m 140 #[i_ pa, i_ pb, i_ nn, i_ q0, i_ q1, i_ q2, i_ vv, i_ (own_al s0), i_ (own_al s1), i_ (own_al s2), i_ (own_al s3), r_ b39, r_ b52, u_, u_, u_, u_] [(.ref b98)])) P112 (fun t_ k_ => st114 t_ k_)
  have P129 := oS (T114.setTop (mkF m 144 #[i_ pa, i_ pb, i_ nn, i_ q0, i_ q1, i_ q2, i_ vv, i_ (own_al s0), i_ (own_al s1), i_ (own_al s2), i_ (own_al s3), r_ b39, r_ b52, u_, u_, u_, u_] [(.int (own_al s1)), (.int 1), (.ref b98), (.ref b98)])) P128 (by
    intro _ k_
    refine XS.dup X114.here hx rfl (hb hby at_140) rfl rfl ?_
    refine XS.iconst X114.here hx rfl (hb hby at_141) ?_
    refine il_ X114 hx hby at_142 rfl ?_
    exact k_)
  obtain ⟨cl130, Ar130, q130, S130, M130, H130, G130⟩ := id V114
  obtain ⟨T131, h131, X131, e131, W131, st131⟩ := stC X114 hx hZ e114 Ar130 (j := (1 : Int32)) (inb_of S130 (by decide : ¬ (1 : Int32) < 0 ∧ (1 : Int32) < (3 : Int32))) (g := (mkF m 144 #[i_ pa, i_ pb, i_ nn, i_ q0, i_ q1, i_ q2, i_ vv, i_ (own_al s0), i_ (own_al s1), i_ (own_al s2), i_ (own_al s3), r_ b39, r_ b52, u_, u_, u_, u_] [(.int (own_al s1)), (.int 1), (.ref b98), (.ref b98)])) rfl rfl (hb hby at_144)
  have f132 := f115.wr W131 g_b98
  have f133 := f116.other W131 (Or.inl ne_de_b98)
  have f134 := f117.other W131 (Or.inl ne_de_b98)
  have f135 := f118.other W131 (Or.inl ne_en_b98)
  have f136 := f119.other W131 (Or.inl ne_en_b98)
  have f137 := f120.other W131 (Or.inl ne_en_b98)
  have f139 := f122.wr W131
  have f140 := f123.wr W131
  have f141 := f124.other W131 ne_b39_b98
  have f142 := f125.other W131 ne_b52_b98
  have Z144 : n0 ≤ h131.size := Nat.le_trans Z127 (Keep.of_wr W131).1
  have V131 : Arv Z h131 b98 k98 .char (3 : Int32) [(.int (nar .char (own_al s0))), (.int (nar .char (own_al s1))), (.int 0)] (.int 0) := Arv.set Ar130 q130 S130 M130 H130 G130 (fits_nar_char _) W131 1 rfl (Nat.le_of_ble_eq_true rfl)
  have N131 := Fr.snoc X131 N114 g_b98
  have P145 := oS (T131.setTop (mkF m 145 #[i_ pa, i_ pb, i_ nn, i_ q0, i_ q1, i_ q2, i_ vv, i_ (own_al s0), i_ (own_al s1), i_ (own_al s2), i_ (own_al s3), r_ b39, r_ b52, u_, u_, u_, u_] [(.ref b98)])) P129 (fun t_ k_ => st131 t_ k_)
  have P146 := oS (T131.setTop (mkF m 149 #[i_ pa, i_ pb, i_ nn, i_ q0, i_ q1, i_ q2, i_ vv, i_ (own_al s0), i_ (own_al s1), i_ (own_al s2), i_ (own_al s3), r_ b39, r_ b52, u_, u_, u_, u_] [(.int (own_al s2)), (.int 2), (.ref b98), (.ref b98)])) P145 (by
    intro _ k_
    refine XS.dup X131.here hx rfl (hb hby at_145) rfl rfl ?_
    refine XS.iconst X131.here hx rfl (hb hby at_146) ?_
    refine il_ X131 hx hby at_147 rfl ?_
    exact k_)
  obtain ⟨cl147, Ar147, q147, S147, M147, H147, G147⟩ := id V131
  obtain ⟨T148, h148, X148, e148, W148, st148⟩ := stC X131 hx hZ e131 Ar147 (j := (2 : Int32)) (inb_of S147 (by decide : ¬ (2 : Int32) < 0 ∧ (2 : Int32) < (3 : Int32))) (g := (mkF m 149 #[i_ pa, i_ pb, i_ nn, i_ q0, i_ q1, i_ q2, i_ vv, i_ (own_al s0), i_ (own_al s1), i_ (own_al s2), i_ (own_al s3), r_ b39, r_ b52, u_, u_, u_, u_] [(.int (own_al s2)), (.int 2), (.ref b98), (.ref b98)])) rfl rfl (hb hby at_149)
  have f149 := f132.wr W148 g_b98
  have f150 := f133.other W148 (Or.inl ne_de_b98)
  have f151 := f134.other W148 (Or.inl ne_de_b98)
  have f152 := f135.other W148 (Or.inl ne_en_b98)
  have f153 := f136.other W148 (Or.inl ne_en_b98)
  have f154 := f137.other W148 (Or.inl ne_en_b98)
  have f156 := f139.wr W148
  have f157 := f140.wr W148
  have f158 := f141.other W148 ne_b39_b98
  have f159 := f142.other W148 ne_b52_b98
  have Z161 : n0 ≤ h148.size := Nat.le_trans Z144 (Keep.of_wr W148).1
  have V148 : Arv Z h148 b98 k98 .char (3 : Int32) [(.int (nar .char (own_al s0))), (.int (nar .char (own_al s1))), (.int (nar .char (own_al s2)))] (.int 0) := Arv.set Ar147 q147 S147 M147 H147 G147 (fits_nar_char _) W148 2 rfl (Nat.le_of_ble_eq_true rfl)
  have N148 := Fr.snoc X148 N131 g_b98
  have P162 := oS (T148.setTop (mkF m 150 #[i_ pa, i_ pb, i_ nn, i_ q0, i_ q1, i_ q2, i_ vv, i_ (own_al s0), i_ (own_al s1), i_ (own_al s2), i_ (own_al s3), r_ b39, r_ b52, u_, u_, u_, u_] [(.ref b98)])) P146 (fun t_ k_ => st148 t_ k_)
  have P163 := oS (T148.setTop (mkF m 153 #[i_ pa, i_ pb, i_ nn, i_ q0, i_ q1, i_ q2, i_ vv, i_ (own_al s0), i_ (own_al s1), i_ (own_al s2), i_ (own_al s3), r_ b39, r_ b52, r_ b98, u_, u_, u_] [(.int 4)])) P162 (by
    intro _ k_
    refine XS.astore X148.here hx rfl (hb hby at_150) rfl rfl (l' := #[i_ pa, i_ pb, i_ nn, i_ q0, i_ q1, i_ q2, i_ vv, i_ (own_al s0), i_ (own_al s1), i_ (own_al s2), i_ (own_al s3), r_ b39, r_ b52, r_ b98, u_, u_, u_]) rfl ?_
    refine XS.iconst X148.here hx rfl (hb hby at_152) ?_
    exact k_)
  obtain ⟨T164, h164, k164, X164, e164, E164, A164, st164⟩ := newP X148 hx hZ (own_w hw 4 rfl) e148 (g := (mkF m 153 #[i_ pa, i_ pb, i_ nn, i_ q0, i_ q1, i_ q2, i_ vv, i_ (own_al s0), i_ (own_al s1), i_ (own_al s2), i_ (own_al s3), r_ b39, r_ b52, r_ b98, u_, u_, u_] [(.int 4)])) rfl (hb hby at_153) rfl (by decide) (cap := 4) (by decide) (by decide) (by decide) (by decide)
  obtain ⟨b164, g164⟩ : ∃ z, z = h148.size := ⟨_, rfl⟩
  rw [← g164] at A164 st164
  have ne_de_b164 : de ≠ b164 := Nat.ne_of_lt (Nat.lt_of_lt_of_le f150.lt (Nat.le_of_eq g164.symm))
  have ne_en_b164 : en ≠ b164 := Nat.ne_of_lt (Nat.lt_of_lt_of_le f152.lt (Nat.le_of_eq g164.symm))
  have ne_b39_b164 : b39 ≠ b164 := Nat.ne_of_lt (Nat.lt_of_lt_of_le f158.lt (Nat.le_of_eq g164.symm))
  have ne_b52_b164 : b52 ≠ b164 := Nat.ne_of_lt (Nat.lt_of_lt_of_le f159.lt (Nat.le_of_eq g164.symm))
  have ne_b98_b164 : b98 ≠ b164 := Nat.ne_of_lt (Nat.lt_of_lt_of_le V148.lt (Nat.le_of_eq g164.symm))
  have g_b164 : n0 ≤ b164 := Nat.le_trans Z161 (Nat.le_of_eq g164.symm)
  have f165 := f149.ext E164
  have f166 := f150.ext E164
  have f167 := f151.ext E164
  have f168 := f152.ext E164
  have f169 := f153.ext E164
  have f170 := f154.ext E164
  have f172 := f156.ext E164
  have f173 := f157.ext E164
  have f174 := f158.ext E164
  have f175 := f159.ext E164
  have f176 := V148.ext E164
  have Z177 : n0 ≤ h164.size := Nat.le_trans Z161 E164.1
  have V164 : Arv Z h164 b164 k164 .char (4 : Int32) [(.int 0), (.int 0), (.int 0), (.int 0)] (.int 0) := (Arv.new A164 (by decide)).pad (pad_rep [] _ 4)
  have P178 := oS (T164.setTop (mkF m 155 #[i_ pa, i_ pb, i_ nn, i_ q0, i_ q1, i_ q2, i_ vv, i_ (own_al s0), i_ (own_al s1), i_ (own_al s2), i_ (own_al s3), r_ b39, r_ b52, r_ b98, u_, u_, u_] [(.ref b164)])) P163 (fun t_ k_ => st164 t_ k_)
  have P179 := oS (T164.setTop (mkF m 159 #[i_ pa, i_ pb, i_ nn, i_ q0, i_ q1, i_ q2, i_ vv, i_ (own_al s0), i_ (own_al s1), i_ (own_al s2), i_ (own_al s3), r_ b39, r_ b52, r_ b98, u_, u_, u_] [(.int (own_al s0)), (.int 0), (.ref b164), (.ref b164)])) P178 (by
    intro _ k_
    refine XS.dup X164.here hx rfl (hb hby at_155) rfl rfl ?_
    refine XS.iconst X164.here hx rfl (hb hby at_156) ?_
    refine il_ X164 hx hby at_157 rfl ?_
    exact k_)
  obtain ⟨cl180, Ar180, q180, S180, M180, H180, G180⟩ := id V164
  obtain ⟨T181, h181, X181, e181, W181, st181⟩ := stC X164 hx hZ e164 Ar180 (j := (0 : Int32)) (inb_of S180 (by decide : ¬ (0 : Int32) < 0 ∧ (0 : Int32) < (4 : Int32))) (g := (mkF m 159 #[i_ pa, i_ pb, i_ nn, i_ q0, i_ q1, i_ q2, i_ vv, i_ (own_al s0), i_ (own_al s1), i_ (own_al s2), i_ (own_al s3), r_ b39, r_ b52, r_ b98, u_, u_, u_] [(.int (own_al s0)), (.int 0), (.ref b164), (.ref b164)])) rfl rfl (hb hby at_159)
  have f182 := f165.wr W181 g_b164
  have f183 := f166.other W181 (Or.inl ne_de_b164)
  have f184 := f167.other W181 (Or.inl ne_de_b164)
  have f185 := f168.other W181 (Or.inl ne_en_b164)
  have f186 := f169.other W181 (Or.inl ne_en_b164)
  have f187 := f170.other W181 (Or.inl ne_en_b164)
  have f189 := f172.wr W181
  have f190 := f173.wr W181
  have f191 := f174.other W181 ne_b39_b164
  have f192 := f175.other W181 ne_b52_b164
  have f193 := f176.other W181 ne_b98_b164
  have Z195 : n0 ≤ h181.size := Nat.le_trans Z177 (Keep.of_wr W181).1
  have V181 : Arv Z h181 b164 k164 .char (4 : Int32) [(.int (nar .char (own_al s0))), (.int 0), (.int 0), (.int 0)] (.int 0) := Arv.set Ar180 q180 S180 M180 H180 G180 (fits_nar_char _) W181 0 rfl (Nat.le_of_ble_eq_true rfl)
  have N181 := Fr.snoc X181 N148 g_b164
  have P196 := oS (T181.setTop (mkF m 160 #[i_ pa, i_ pb, i_ nn, i_ q0, i_ q1, i_ q2, i_ vv, i_ (own_al s0), i_ (own_al s1), i_ (own_al s2), i_ (own_al s3), r_ b39, r_ b52, r_ b98, u_, u_, u_] [(.ref b164)])) P179 (fun t_ k_ => st181 t_ k_)
  have P197 := oS (T181.setTop (mkF m 164 #[i_ pa, i_ pb, i_ nn, i_ q0, i_ q1, i_ q2, i_ vv, i_ (own_al s0), i_ (own_al s1), i_ (own_al s2), i_ (own_al s3), r_ b39, r_ b52, r_ b98, u_, u_, u_] [(.int (own_al s1)), (.int 1), (.ref b164), (.ref b164)])) P196 (by
    intro _ k_
    refine XS.dup X181.here hx rfl (hb hby at_160) rfl rfl ?_
    refine XS.iconst X181.here hx rfl (hb hby at_161) ?_
    refine il_ X181 hx hby at_162 rfl ?_
    exact k_)
  obtain ⟨cl198, Ar198, q198, S198, M198, H198, G198⟩ := id V181
  obtain ⟨T199, h199, X199, e199, W199, st199⟩ := stC X181 hx hZ e181 Ar198 (j := (1 : Int32)) (inb_of S198 (by decide : ¬ (1 : Int32) < 0 ∧ (1 : Int32) < (4 : Int32))) (g := (mkF m 164 #[i_ pa, i_ pb, i_ nn, i_ q0, i_ q1, i_ q2, i_ vv, i_ (own_al s0), i_ (own_al s1), i_ (own_al s2), i_ (own_al s3), r_ b39, r_ b52, r_ b98, u_, u_, u_] [(.int (own_al s1)), (.int 1), (.ref b164), (.ref b164)])) rfl rfl (hb hby at_164)
  have f200 := f182.wr W199 g_b164
  have f201 := f183.other W199 (Or.inl ne_de_b164)
  have f202 := f184.other W199 (Or.inl ne_de_b164)
  have f203 := f185.other W199 (Or.inl ne_en_b164)
  have f204 := f186.other W199 (Or.inl ne_en_b164)
  have f205 := f187.other W199 (Or.inl ne_en_b164)
  have f207 := f189.wr W199
  have f208 := f190.wr W199
  have f209 := f191.other W199 ne_b39_b164
  have f210 := f192.other W199 ne_b52_b164
  have f211 := f193.other W199 ne_b98_b164
  have Z213 : n0 ≤ h199.size := Nat.le_trans Z195 (Keep.of_wr W199).1
  have V199 : Arv Z h199 b164 k164 .char (4 : Int32) [(.int (nar .char (own_al s0))), (.int (nar .char (own_al s1))), (.int 0), (.int 0)] (.int 0) := Arv.set Ar198 q198 S198 M198 H198 G198 (fits_nar_char _) W199 1 rfl (Nat.le_of_ble_eq_true rfl)
  have N199 := Fr.snoc X199 N181 g_b164
  have P214 := oS (T199.setTop (mkF m 165 #[i_ pa, i_ pb, i_ nn, i_ q0, i_ q1, i_ q2, i_ vv, i_ (own_al s0), i_ (own_al s1), i_ (own_al s2), i_ (own_al s3), r_ b39, r_ b52, r_ b98, u_, u_, u_] [(.ref b164)])) P197 (fun t_ k_ => st199 t_ k_)
  have P215 := oS (T199.setTop (mkF m 169 #[i_ pa, i_ pb, i_ nn, i_ q0, i_ q1, i_ q2, i_ vv, i_ (own_al s0), i_ (own_al s1), i_ (own_al s2), i_ (own_al s3), r_ b39, r_ b52, r_ b98, u_, u_, u_] [(.int (own_al s2)), (.int 2), (.ref b164), (.ref b164)])) P214 (by
    intro _ k_
    refine XS.dup X199.here hx rfl (hb hby at_165) rfl rfl ?_
    refine XS.iconst X199.here hx rfl (hb hby at_166) ?_
    refine il_ X199 hx hby at_167 rfl ?_
    exact k_)
  obtain ⟨cl216, Ar216, q216, S216, M216, H216, G216⟩ := id V199
  obtain ⟨T217, h217, X217, e217, W217, st217⟩ := stC X199 hx hZ e199 Ar216 (j := (2 : Int32)) (inb_of S216 (by decide : ¬ (2 : Int32) < 0 ∧ (2 : Int32) < (4 : Int32))) (g := (mkF m 169 #[i_ pa, i_ pb, i_ nn, i_ q0, i_ q1, i_ q2, i_ vv, i_ (own_al s0), i_ (own_al s1), i_ (own_al s2), i_ (own_al s3), r_ b39, r_ b52, r_ b98, u_, u_, u_] [(.int (own_al s2)), (.int 2), (.ref b164), (.ref b164)])) rfl rfl (hb hby at_169)
  have f218 := f200.wr W217 g_b164
  have f219 := f201.other W217 (Or.inl ne_de_b164)
  have f220 := f202.other W217 (Or.inl ne_de_b164)
  have f221 := f203.other W217 (Or.inl ne_en_b164)
  have f222 := f204.other W217 (Or.inl ne_en_b164)
  have f223 := f205.other W217 (Or.inl ne_en_b164)
  have f225 := f207.wr W217
  have f226 := f208.wr W217
  have f227 := f209.other W217 ne_b39_b164
  have f228 := f210.other W217 ne_b52_b164
  have f229 := f211.other W217 ne_b98_b164
  have Z231 : n0 ≤ h217.size := Nat.le_trans Z213 (Keep.of_wr W217).1
  have V217 : Arv Z h217 b164 k164 .char (4 : Int32) [(.int (nar .char (own_al s0))), (.int (nar .char (own_al s1))), (.int (nar .char (own_al s2))), (.int 0)] (.int 0) := Arv.set Ar216 q216 S216 M216 H216 G216 (fits_nar_char _) W217 2 rfl (Nat.le_of_ble_eq_true rfl)
  have N217 := Fr.snoc X217 N199 g_b164
  have P232 := oS (T217.setTop (mkF m 170 #[i_ pa, i_ pb, i_ nn, i_ q0, i_ q1, i_ q2, i_ vv, i_ (own_al s0), i_ (own_al s1), i_ (own_al s2), i_ (own_al s3), r_ b39, r_ b52, r_ b98, u_, u_, u_] [(.ref b164)])) P215 (fun t_ k_ => st217 t_ k_)
  have P233 := oS (T217.setTop (mkF m 174 #[i_ pa, i_ pb, i_ nn, i_ q0, i_ q1, i_ q2, i_ vv, i_ (own_al s0), i_ (own_al s1), i_ (own_al s2), i_ (own_al s3), r_ b39, r_ b52, r_ b98, u_, u_, u_] [(.int (own_al s3)), (.int 3), (.ref b164), (.ref b164)])) P232 (by
    intro _ k_
    refine XS.dup X217.here hx rfl (hb hby at_170) rfl rfl ?_
    refine XS.iconst X217.here hx rfl (hb hby at_171) ?_
    refine il_ X217 hx hby at_172 rfl ?_
    exact k_)
  obtain ⟨cl234, Ar234, q234, S234, M234, H234, G234⟩ := id V217
  obtain ⟨T235, h235, X235, e235, W235, st235⟩ := stC X217 hx hZ e217 Ar234 (j := (3 : Int32)) (inb_of S234 (by decide : ¬ (3 : Int32) < 0 ∧ (3 : Int32) < (4 : Int32))) (g := (mkF m 174 #[i_ pa, i_ pb, i_ nn, i_ q0, i_ q1, i_ q2, i_ vv, i_ (own_al s0), i_ (own_al s1), i_ (own_al s2), i_ (own_al s3), r_ b39, r_ b52, r_ b98, u_, u_, u_] [(.int (own_al s3)), (.int 3), (.ref b164), (.ref b164)])) rfl rfl (hb hby at_174)
  have f236 := f218.wr W235 g_b164
  have f237 := f219.other W235 (Or.inl ne_de_b164)
  have f238 := f220.other W235 (Or.inl ne_de_b164)
  have f239 := f221.other W235 (Or.inl ne_en_b164)
  have f240 := f222.other W235 (Or.inl ne_en_b164)
  have f241 := f223.other W235 (Or.inl ne_en_b164)
  have f243 := f225.wr W235
  have f244 := f226.wr W235
  have f245 := f227.other W235 ne_b39_b164
  have f246 := f228.other W235 ne_b52_b164
  have f247 := f229.other W235 ne_b98_b164
  have Z249 : n0 ≤ h235.size := Nat.le_trans Z231 (Keep.of_wr W235).1
  have V235 : Arv Z h235 b164 k164 .char (4 : Int32) [(.int (nar .char (own_al s0))), (.int (nar .char (own_al s1))), (.int (nar .char (own_al s2))), (.int (nar .char (own_al s3)))] (.int 0) := Arv.set Ar234 q234 S234 M234 H234 G234 (fits_nar_char _) W235 3 rfl (Nat.le_of_ble_eq_true rfl)
  have N235 := Fr.snoc X235 N217 g_b164
  have P250 := oS (T235.setTop (mkF m 175 #[i_ pa, i_ pb, i_ nn, i_ q0, i_ q1, i_ q2, i_ vv, i_ (own_al s0), i_ (own_al s1), i_ (own_al s2), i_ (own_al s3), r_ b39, r_ b52, r_ b98, u_, u_, u_] [(.ref b164)])) P233 (fun t_ k_ => st235 t_ k_)
  have P251 := oS (T235.setTop (mkF m 177 #[i_ pa, i_ pb, i_ nn, i_ q0, i_ q1, i_ q2, i_ vv, i_ (own_al s0), i_ (own_al s1), i_ (own_al s2), i_ (own_al s3), r_ b39, r_ b52, r_ b98, r_ b164, u_, u_] [])) P250 (by
    intro _ k_
    refine XS.astore X235.here hx rfl (hb hby at_175) rfl rfl (l' := #[i_ pa, i_ pb, i_ nn, i_ q0, i_ q1, i_ q2, i_ vv, i_ (own_al s0), i_ (own_al s1), i_ (own_al s2), i_ (own_al s3), r_ b39, r_ b52, r_ b98, r_ b164, u_, u_]) rfl ?_
    exact k_)
  have hcase : nn = (0 : Int32) ∨ nn = (1 : Int32) ∨ nn = (2 : Int32) ∨ nn = (3 : Int32) := by rw [hnn]; exact own_and3 pb
  rcases hcase with rfl | rfl | rfl | rfl
  · have PP0 := own_to (C := T235.setTop (mkF m 177 #[i_ pa, i_ pb, i_ 0, i_ q0, i_ q1, i_ q2, i_ vv, i_ (own_al s0), i_ (own_al s1), i_ (own_al s2), i_ (own_al s3), r_ b39, r_ b52, r_ b98, r_ b164, u_, u_] [])) P251
    have P252 := oS (T235.setTop (mkF m 178 #[i_ pa, i_ pb, i_ 0, i_ q0, i_ q1, i_ q2, i_ vv, i_ (own_al s0), i_ (own_al s1), i_ (own_al s2), i_ (own_al s3), r_ b39, r_ b52, r_ b98, r_ b164, u_, u_] [(.int 0)])) PP0 (by
      intro _ k_
      refine iN_ X235 hx hby at_177 rfl ?_
      exact k_)
    have P253 := oS (T235.setTop (mkF m 210 #[i_ pa, i_ pb, i_ 0, i_ q0, i_ q1, i_ q2, i_ vv, i_ (own_al s0), i_ (own_al s1), i_ (own_al s2), i_ (own_al s3), r_ b39, r_ b52, r_ b98, r_ b164, r_ b39, u_] [])) P252 (by
      intro _ k_
      refine XS.ifNo X235.here hx rfl (hb hby at_178) rfl ((if0 _ _).trans (teq (by decide : (0 : Int32) = (0 : Int32))).2) ?_
      refine a_ X235 hx hby at_181 rfl rfl ?_
      refine gt_ X235 hx hby at_183 (pc := 183) (pc' := 208) (by decide) ?_
      refine XS.astore X235.here hx rfl (hb hby at_208) rfl rfl (l' := #[i_ pa, i_ pb, i_ 0, i_ q0, i_ q1, i_ q2, i_ vv, i_ (own_al s0), i_ (own_al s1), i_ (own_al s2), i_ (own_al s3), r_ b39, r_ b52, r_ b98, r_ b164, r_ b39, u_]) rfl ?_
      exact k_)
    obtain ⟨T254, h254, X254, e254, E254, A254, D254, -, st254⟩ := newO X235 hx hZ hown (own_w hw 5 rfl) (own_w hw 6 rfl) (own_w hw 7 rfl) e235 (g := (mkF m 210 #[i_ pa, i_ pb, i_ 0, i_ q0, i_ q1, i_ q2, i_ vv, i_ (own_al s0), i_ (own_al s1), i_ (own_al s2), i_ (own_al s3), r_ b39, r_ b52, r_ b98, r_ b164, r_ b39, u_] [])) rfl (hb hby at_210) (by decide) (by decide)
    obtain ⟨b254, g254⟩ : ∃ z, z = h235.size := ⟨_, rfl⟩
    rw [← g254] at A254 D254 st254
    have ne_de_b254 : de ≠ b254 := Nat.ne_of_lt (Nat.lt_of_lt_of_le f237.lt (Nat.le_of_eq g254.symm))
    have ne_en_b254 : en ≠ b254 := Nat.ne_of_lt (Nat.lt_of_lt_of_le f239.lt (Nat.le_of_eq g254.symm))
    have g_b254 : n0 ≤ b254 := Nat.le_trans Z249 (Nat.le_of_eq g254.symm)
    have f255 := f236.ext E254
    have f256 := f237.ext E254
    have f257 := f238.ext E254
    have f258 := f239.ext E254
    have f259 := f240.ext E254
    have f260 := f241.ext E254
    have f262 := f243.ext E254
    have f263 := f244.ext E254
    have f264 := f245.ext E254
    have Z268 : n0 ≤ h254.size := Nat.le_trans Z249 E254.1
    have f269 : Fld Z h254 b254 "java/lang/String" "coder" "B" (.int 0) := D254 (Or.inr (own_w hw 31 rfl)) (ty := .byte) (by decide)
    have f270 : Fld Z h254 b254 "java/lang/String" "value" "[B" .null := D254 (Or.inr (own_w hw 33 rfl)) (ty := (.array .byte)) (by decide)
    have P271 := oS (T254.setTop (mkF m 213 #[i_ pa, i_ pb, i_ 0, i_ q0, i_ q1, i_ q2, i_ vv, i_ (own_al s0), i_ (own_al s1), i_ (own_al s2), i_ (own_al s3), r_ b39, r_ b52, r_ b98, r_ b164, r_ b39, u_] [(.ref b254)])) P253 (fun t_ k_ => st254 t_ k_)
    have P272 := oS (T254.setTop (mkF m 216 #[i_ pa, i_ pb, i_ 0, i_ q0, i_ q1, i_ q2, i_ vv, i_ (own_al s0), i_ (own_al s1), i_ (own_al s2), i_ (own_al s3), r_ b39, r_ b52, r_ b98, r_ b164, r_ b39, u_] [(.ref b39), (.ref b254), (.ref b254)])) P271 (by
      intro _ k_
      refine XS.dup X254.here hx rfl (hb hby at_213) rfl rfl ?_
      refine a_ X254 hx hby at_214 rfl rfl ?_
      exact k_)
    obtain ⟨_, _, ⟨T273, L273, k273, n273⟩, -, X273, hS273, hgr273, ⟨Lc273, la273, hQ273, hLt273, l273, y273, z273⟩, st273⟩ := X254.specialBackS hx (y := (⟨"java/lang/String", "<init>", "([C)V"⟩ : MethodName)) rfl hown (mvT hZ (own_w hw 8 rfl)) (mvT hZ (own_w hw 9 rfl)) (mvT hZ (own_w hw 10 rfl)) (by decide) (own_backI2 (W := 1) (rm_zC0 l Z a0 hw [] b254 b39 k39 cs h254 n0 Z268 f255 Scs hcs hheld hcw A254 f270 f269 g_b254 f264) hZ hIB (own_w hw 10 rfl) (own_w hw 7 rfl) (by decide) (by decide)) (g := (mkF m 216 #[i_ pa, i_ pb, i_ 0, i_ q0, i_ q1, i_ q2, i_ vv, i_ (own_al s0), i_ (own_al s1), i_ (own_al s2), i_ (own_al s3), r_ b39, r_ b52, r_ b98, r_ b164, r_ b39, u_] [(.ref b39), (.ref b254), (.ref b254)])) rfl (by rw [hml]; rfl) (Steps.refl _) (a := b254) (argsL := [(.ref b39)]) (rest := [(.ref b254)]) (lenOf pd25 rfl) rfl (by show 2 * 0 + _ ≤ _; exact Nat.le_of_eq rfl) (hb hby at_216) (fun _ _ => ⟨rfl, e254, (by decide : 5 + 2 ≤ _), (by decide : 13 + 4 ≤ _)⟩)
    dsimp only [Pt.U, Pt.locs, Pt.cells, Pt.slots] at X273 l273 y273 z273 st273 hQ273 hS273 hgr273
    subst l273 y273 z273
    have hZw273 : Z.Warmed39 T273.vm := State.Warmed39.trans (t := s) hZ hS273.1
    have hownw273 : T273.vm.findClass "com/example/verified_health_identity/verifiedhealthidentity/jose/Base64urlDecode214PinLaw" = some m.cls := by rw [hS273.1.alike.findClass]; exact hown
    obtain ⟨lb273, kl273, rfl, N273q, K273, f274, f275, f276, f277, f278, f279, f280⟩ := hQ273
    have N273 := Fr.app N235 N273q
    have f281 := f255.keep K273 (allS g_b254 all0)
    have f282 := f256.keep K273 (ninS ne_de_b254 nin0)
    have f283 := f257.keep K273 (ninS ne_de_b254 nin0)
    have f284 := f258.keep K273 (ninS ne_en_b254 nin0)
    have f285 := f259.keep K273 (ninS ne_en_b254 nin0)
    have f286 := f260.keep K273 (ninS ne_en_b254 nin0)
    have f288 := f262.keep K273
    have f289 := f263.keep K273
    have Z297 : n0 ≤ T273.heap.size := Nat.le_trans Z268 K273.1
    have P298 := oS (T273.setTop (mkF m 219 #[i_ pa, i_ pb, i_ 0, i_ q0, i_ q1, i_ q2, i_ vv, i_ (own_al s0), i_ (own_al s1), i_ (own_al s2), i_ (own_al s3), r_ b39, r_ b52, r_ b98, r_ b164, r_ b39, u_] [(.ref b254)])) P272 (fun t_ k_ => st273.trans k_)
    have hLs : Lit (s.setVm T273.vm) "java/lang/String" 7 la273 := hLt273
    have P299 := oS (T273.setTop (mkF m 220 #[i_ pa, i_ pb, i_ 0, i_ q0, i_ q1, i_ q2, i_ vv, i_ (own_al s0), i_ (own_al s1), i_ (own_al s2), i_ (own_al s3), r_ b39, r_ b52, r_ b98, r_ b164, r_ b39, u_] [(.int 0), (.ref b254)])) P298 (by
      intro _ k_
      refine iN_ X273 hx hby at_219 rfl ?_
      exact k_)
    obtain ⟨_, T300, L300, X300, hQ300, P300c⟩ := own_cS (W := 0) (rm_buD2_0 l Z a0 hw [] de b254 lb273 kl273 rdt kdt riso rutf cs en ret_ ket fm la273 lb273 kl273 T273.heap n0 Z297 f281 Scs hcs Siso Sutf nci Sdt Vdt f289 f282 f283 f274 f275 f276 f277 f278 Sfm hfm Set Vet f288 f284 f285 f286 f279 f280 f277 f278 Senc Sdec) X273 hx hZw273 (fun _ q_ => own_litU hLs q_) hownw273 (own_w hw 34 rfl) (own_w hw 35 rfl) (own_w hw 36 rfl) (own_w hw 37 rfl) (by decide) P299 hml rfl [(.ref b254), (.int 0)] [] rfl rfl rfl pd26 rfl (hb hby at_220) (rfl : T273.heap = _) (by decide)
    obtain ⟨xq300, kk300, rfl, N300q, K300, f301, f302⟩ := hQ300
    have N300 := Fr.app N273 N300q
    have kz324 := Nat.le_trans (Nat.le_refl T273.heap.size) K300.1
    have P325 := own_to (C := T300.setTop (mkF m 223 #[i_ pa, i_ pb, i_ 0, i_ q0, i_ q1, i_ q2, i_ vv, i_ (own_al s0), i_ (own_al s1), i_ (own_al s2), i_ (own_al s3), r_ b39, r_ b52, r_ b98, r_ b164, r_ b39, u_] [(.ref xq300)])) P300c
    have P326 := oS (T300.setTop (mkF m 227 #[i_ pa, i_ pb, i_ 0, i_ q0, i_ q1, i_ q2, i_ vv, i_ (own_al s0), i_ (own_al s1), i_ (own_al s2), i_ (own_al s3), r_ b39, r_ b52, r_ b98, r_ b164, r_ b39, r_ xq300] [(.ref xq300)])) P325 (by
      intro _ k_
      refine XS.astore X300.here hx rfl (hb hby at_223) rfl rfl (l' := #[i_ pa, i_ pb, i_ 0, i_ q0, i_ q1, i_ q2, i_ vv, i_ (own_al s0), i_ (own_al s1), i_ (own_al s2), i_ (own_al s3), r_ b39, r_ b52, r_ b98, r_ b164, r_ b39, r_ xq300]) rfl ?_
      refine a_ X300 hx hby at_225 rfl rfl ?_
      exact k_)
    obtain ⟨cl327, Ar327, q327, S327, M327, H327, G327⟩ := id f302
    have P328 := oS (T300.setTop (mkF m 228 #[i_ pa, i_ pb, i_ 0, i_ q0, i_ q1, i_ q2, i_ vv, i_ (own_al s0), i_ (own_al s1), i_ (own_al s2), i_ (own_al s3), r_ b39, r_ b52, r_ b98, r_ b164, r_ b39, r_ xq300] [(.int 0)])) P326 (by
      intro _ k_
      refine X300.arraylength hx Ar327.1 (State.isArrayOf_alike hZw273.alike Ar327.2.1) (g := (mkF m 227 #[i_ pa, i_ pb, i_ 0, i_ q0, i_ q1, i_ q2, i_ vv, i_ (own_al s0), i_ (own_al s1), i_ (own_al s2), i_ (own_al s3), r_ b39, r_ b52, r_ b98, r_ b164, r_ b39, r_ xq300] [(.ref xq300)])) rfl rfl (hb hby at_227) _ ?_
      rw [len_of S327 M327]
      exact k_)
    have P329 := oS (T300.setTop (mkF m 229 #[i_ pa, i_ pb, i_ 0, i_ q0, i_ q1, i_ q2, i_ vv, i_ (own_al s0), i_ (own_al s1), i_ (own_al s2), i_ (own_al s3), r_ b39, r_ b52, r_ b98, r_ b164, r_ b39, r_ xq300] [(.int 0), (.int 0)])) P328 (by
      intro _ k_
      refine iN_ X300 hx hby at_228 rfl ?_
      exact k_)
    have P330 := oS (T300.setTop (mkF m 236 #[i_ pa, i_ pb, i_ 0, i_ q0, i_ q1, i_ q2, i_ vv, i_ (own_al s0), i_ (own_al s1), i_ (own_al s2), i_ (own_al s3), r_ b39, r_ b52, r_ b98, r_ b164, r_ b39, r_ xq300] [(.int 1), (.int 0)])) P329 (by
      intro _ k_
      refine cY_ X300 hx hby at_229 (pc := 229) (pc' := 234) (teq (by decide : (0 : Int32) = (0 : Int32))).1 (by decide) ?_
      refine iN_ X300 hx hby at_234 rfl ?_
      refine XS.iconst X300.here hx rfl (hb hby at_235) ?_
      exact k_)
    have P331 := oS (T300.setTop (mkF m 252 #[i_ pa, i_ pb, i_ 0, i_ q0, i_ q1, i_ q2, i_ vv, i_ (own_al s0), i_ (own_al s1), i_ (own_al s2), i_ (own_al s3), r_ b39, r_ b52, r_ b98, r_ b164, r_ b39, r_ xq300] [(.int 2), (.int 0)])) P330 (by
      intro _ k_
      refine cY_ X300 hx hby at_236 (pc := 236) (pc' := 250) (tlt (by decide : (0 : Int32) < (1 : Int32))).1 (by decide) ?_
      refine iN_ X300 hx hby at_250 rfl ?_
      refine XS.iconst X300.here hx rfl (hb hby at_251) ?_
      exact k_)
    have P332 := oS (T300.setTop (mkF m 269 #[i_ pa, i_ pb, i_ 0, i_ q0, i_ q1, i_ q2, i_ vv, i_ (own_al s0), i_ (own_al s1), i_ (own_al s2), i_ (own_al s3), r_ b39, r_ b52, r_ b98, r_ b164, r_ b39, r_ xq300] [(.int 3), (.int 0)])) P331 (by
      intro _ k_
      refine cY_ X300 hx hby at_252 (pc := 252) (pc' := 267) (tlt (by decide : (0 : Int32) < (2 : Int32))).1 (by decide) ?_
      refine iN_ X300 hx hby at_267 rfl ?_
      refine XS.iconst X300.here hx rfl (hb hby at_268) ?_
      exact k_)
    have P333 := oS (T300.setTop (mkF m 285 #[i_ pa, i_ pb, i_ 0, i_ q0, i_ q1, i_ q2, i_ vv, i_ (own_al s0), i_ (own_al s1), i_ (own_al s2), i_ (own_al s3), r_ b39, r_ b52, r_ b98, r_ b164, r_ b39, r_ xq300] [(.int 1)])) P332 (by
      intro _ k_
      refine cY_ X300 hx hby at_269 (pc := 269) (pc' := 284) (tlt (by decide : (0 : Int32) < (3 : Int32))).1 (by decide) ?_
      refine XS.iconst X300.here hx rfl (hb hby at_284) ?_
      exact k_)
    obtain ⟨fs, hr, hrun, hended, hW⟩ := X300.leaveW hS273 kz324 (v := some (.int 1)) (fun h => by rw [Bd.returns] at h; cases h)
    refine ⟨_, _, P333 _ ?_, hrun, hended, _, _, rfl, ?_, ⟨hW.1, hW.2.1, hW.2.2.1, hW.2.2.2.mono (by decide) (by decide)⟩⟩
    · exact retN X300 hx (t := .boolean) Bd.returns (by simp) (hb hby at_285) hr
    · show Q0 Z _ _ _ _ _ _ _ _ _ _ _ _ h0 n0 _ T300.heap _
      exact ⟨rfl, N300⟩
  · have PP1 := own_to (C := T235.setTop (mkF m 177 #[i_ pa, i_ pb, i_ 1, i_ q0, i_ q1, i_ q2, i_ vv, i_ (own_al s0), i_ (own_al s1), i_ (own_al s2), i_ (own_al s3), r_ b39, r_ b52, r_ b98, r_ b164, u_, u_] [])) P251
    have P334 := oS (T235.setTop (mkF m 178 #[i_ pa, i_ pb, i_ 1, i_ q0, i_ q1, i_ q2, i_ vv, i_ (own_al s0), i_ (own_al s1), i_ (own_al s2), i_ (own_al s3), r_ b39, r_ b52, r_ b98, r_ b164, u_, u_] [(.int 1)])) PP1 (by
      intro _ k_
      refine iN_ X235 hx hby at_177 rfl ?_
      exact k_)
    have P335 := oS (T235.setTop (mkF m 188 #[i_ pa, i_ pb, i_ 1, i_ q0, i_ q1, i_ q2, i_ vv, i_ (own_al s0), i_ (own_al s1), i_ (own_al s2), i_ (own_al s3), r_ b39, r_ b52, r_ b98, r_ b164, u_, u_] [(.int 1), (.int 1)])) P334 (by
      intro _ k_
      refine fY_ X235 hx hby at_178 (pc := 178) (pc' := 186) ((if0 _ _).trans (feq (by decide : ¬ ((1 : Int32) = (0 : Int32)))).2) (by decide) ?_
      refine iN_ X235 hx hby at_186 rfl ?_
      refine XS.iconst X235.here hx rfl (hb hby at_187) ?_
      exact k_)
    have P336 := oS (T235.setTop (mkF m 210 #[i_ pa, i_ pb, i_ 1, i_ q0, i_ q1, i_ q2, i_ vv, i_ (own_al s0), i_ (own_al s1), i_ (own_al s2), i_ (own_al s3), r_ b39, r_ b52, r_ b98, r_ b164, r_ b52, u_] [])) P335 (by
      intro _ k_
      refine XS.icmpNo X235.here hx rfl (hb hby at_188) rfl (teq (by decide : (1 : Int32) = (1 : Int32))).2 ?_
      refine a_ X235 hx hby at_191 rfl rfl ?_
      refine gt_ X235 hx hby at_193 (pc := 193) (pc' := 208) (by decide) ?_
      refine XS.astore X235.here hx rfl (hb hby at_208) rfl rfl (l' := #[i_ pa, i_ pb, i_ 1, i_ q0, i_ q1, i_ q2, i_ vv, i_ (own_al s0), i_ (own_al s1), i_ (own_al s2), i_ (own_al s3), r_ b39, r_ b52, r_ b98, r_ b164, r_ b52, u_]) rfl ?_
      exact k_)
    obtain ⟨T337, h337, X337, e337, E337, A337, D337, -, st337⟩ := newO X235 hx hZ hown (own_w hw 5 rfl) (own_w hw 6 rfl) (own_w hw 7 rfl) e235 (g := (mkF m 210 #[i_ pa, i_ pb, i_ 1, i_ q0, i_ q1, i_ q2, i_ vv, i_ (own_al s0), i_ (own_al s1), i_ (own_al s2), i_ (own_al s3), r_ b39, r_ b52, r_ b98, r_ b164, r_ b52, u_] [])) rfl (hb hby at_210) (by decide) (by decide)
    obtain ⟨b337, g337⟩ : ∃ z, z = h235.size := ⟨_, rfl⟩
    rw [← g337] at A337 D337 st337
    have ne_de_b337 : de ≠ b337 := Nat.ne_of_lt (Nat.lt_of_lt_of_le f237.lt (Nat.le_of_eq g337.symm))
    have ne_en_b337 : en ≠ b337 := Nat.ne_of_lt (Nat.lt_of_lt_of_le f239.lt (Nat.le_of_eq g337.symm))
    have g_b337 : n0 ≤ b337 := Nat.le_trans Z249 (Nat.le_of_eq g337.symm)
    have f338 := f236.ext E337
    have f339 := f237.ext E337
    have f340 := f238.ext E337
    have f341 := f239.ext E337
    have f342 := f240.ext E337
    have f343 := f241.ext E337
    have f345 := f243.ext E337
    have f346 := f244.ext E337
    have f348 := f246.ext E337
    have Z351 : n0 ≤ h337.size := Nat.le_trans Z249 E337.1
    have f352 : Fld Z h337 b337 "java/lang/String" "coder" "B" (.int 0) := D337 (Or.inr (own_w hw 31 rfl)) (ty := .byte) (by decide)
    have f353 : Fld Z h337 b337 "java/lang/String" "value" "[B" .null := D337 (Or.inr (own_w hw 33 rfl)) (ty := (.array .byte)) (by decide)
    have P354 := oS (T337.setTop (mkF m 213 #[i_ pa, i_ pb, i_ 1, i_ q0, i_ q1, i_ q2, i_ vv, i_ (own_al s0), i_ (own_al s1), i_ (own_al s2), i_ (own_al s3), r_ b39, r_ b52, r_ b98, r_ b164, r_ b52, u_] [(.ref b337)])) P336 (fun t_ k_ => st337 t_ k_)
    have P355 := oS (T337.setTop (mkF m 216 #[i_ pa, i_ pb, i_ 1, i_ q0, i_ q1, i_ q2, i_ vv, i_ (own_al s0), i_ (own_al s1), i_ (own_al s2), i_ (own_al s3), r_ b39, r_ b52, r_ b98, r_ b164, r_ b52, u_] [(.ref b52), (.ref b337), (.ref b337)])) P354 (by
      intro _ k_
      refine XS.dup X337.here hx rfl (hb hby at_213) rfl rfl ?_
      refine a_ X337 hx hby at_214 rfl rfl ?_
      exact k_)
    obtain ⟨_, T356, L356, X356, hQ356, P356c⟩ := own_cI (W := 1) (rm_initC_2 l Z a0 hw [] b337 b52 k52 (own_ch s0) (own_ch s1) cs h337 n0 Z351 f338 Scs hcs A337 f353 f352 g_b337 f348 (own_sign (own_s63 HH).1).1 (own_sign (own_s63 HH).2.1).1) X337 hx hZ (fun _ _ => trivial) hown rfl (own_w hw 8 rfl) (own_w hw 9 rfl) (own_w hw 7 rfl) (own_w hw 10 rfl) (by decide) P355 hml rfl [(.ref b52)] [(.ref b337)] rfl rfl rfl pd25 rfl (hb hby at_216) e337 (by decide)
    obtain ⟨x356, kk356, rfl, N356q, K356, f357, f358, f359, f360, f361, f362⟩ := hQ356
    have N356 := Fr.app N235 N356q
    have f363 := f338.keep K356 (allS g_b337 all0)
    have f364 := f339.keep K356 (ninS ne_de_b337 nin0)
    have f365 := f340.keep K356 (ninS ne_de_b337 nin0)
    have f366 := f341.keep K356 (ninS ne_en_b337 nin0)
    have f367 := f342.keep K356 (ninS ne_en_b337 nin0)
    have f368 := f343.keep K356 (ninS ne_en_b337 nin0)
    have f370 := f345.keep K356
    have f371 := f346.keep K356
    have Z379 : n0 ≤ T356.heap.size := Nat.le_trans Z351 K356.1
    have P380 := own_to (C := T356.setTop (mkF m 219 #[i_ pa, i_ pb, i_ 1, i_ q0, i_ q1, i_ q2, i_ vv, i_ (own_al s0), i_ (own_al s1), i_ (own_al s2), i_ (own_al s3), r_ b39, r_ b52, r_ b98, r_ b164, r_ b52, u_] [(.ref b337)])) P356c
    have P381 := oS (T356.setTop (mkF m 220 #[i_ pa, i_ pb, i_ 1, i_ q0, i_ q1, i_ q2, i_ vv, i_ (own_al s0), i_ (own_al s1), i_ (own_al s2), i_ (own_al s3), r_ b39, r_ b52, r_ b98, r_ b164, r_ b52, u_] [(.int 1), (.ref b337)])) P380 (by
      intro _ k_
      refine iN_ X356 hx hby at_219 rfl ?_
      exact k_)
    obtain ⟨_, T382, L382, X382, hQ382, P382c⟩ := own_cS (W := 0) (rm_buD2_2 l Z a0 hw [] de b337 x356 kk356 (own_sg s0) (own_sg s1) s0 s1 (q0.toInt8.toInt32) rdt kdt riso rutf cs en (own_ch s0) (own_ch s1) ret_ ket fm T356.heap n0 Z379 f363 Scs hcs Siso Sutf nci Sdt Vdt f371 f364 f365 f357 f358 f359 f360 f362 (own_sign (own_s63 HH).2.1).2.2.2.2.1 (own_sign (own_s63 HH).1).2.1 (own_sign (own_s63 HH).1).2.2.1 (own_sign (own_s63 HH).1).2.2.2.1 (own_sign (own_s63 HH).2.1).2.1 (own_sign (own_s63 HH).2.1).2.2.1 (own_sign (own_s63 HH).2.1).2.2.2.1 (own_r2 HH) Sfm hfm Set Vet f370 f366 f367 f368 (own_rk (own_i0 HH) (own_sign (own_s63 HH).1).2.2.2.2.2.1) (own_rv (own_i0 HH) (own_sign (own_s63 HH).1).2.2.2.2.2.2) rfl (own_rk (own_i1a HH (own_p0 hv5 (by decide))) (own_sign (own_s63 HH).2.1).2.2.2.2.2.1) (own_rv (own_i1a HH (own_p0 hv5 (by decide))) (own_sign (own_s63 HH).2.1).2.2.2.2.2.2) rfl Senc Sdec) X356 hx hZ (fun _ _ => trivial) hown (own_w hw 34 rfl) (own_w hw 35 rfl) (own_w hw 36 rfl) (own_w hw 37 rfl) (by decide) P381 hml rfl [(.ref b337), (.int 1)] [] rfl rfl rfl pd26 rfl (hb hby at_220) (rfl : T356.heap = _) (by decide)
    obtain ⟨xq382, kk382, rfl, N382q, K382, f383, f384⟩ := hQ382
    have N382 := Fr.app N356 N382q
    have P404 := own_to (C := T382.setTop (mkF m 223 #[i_ pa, i_ pb, i_ 1, i_ q0, i_ q1, i_ q2, i_ vv, i_ (own_al s0), i_ (own_al s1), i_ (own_al s2), i_ (own_al s3), r_ b39, r_ b52, r_ b98, r_ b164, r_ b52, u_] [(.ref xq382)])) P382c
    have P405 := oS (T382.setTop (mkF m 227 #[i_ pa, i_ pb, i_ 1, i_ q0, i_ q1, i_ q2, i_ vv, i_ (own_al s0), i_ (own_al s1), i_ (own_al s2), i_ (own_al s3), r_ b39, r_ b52, r_ b98, r_ b164, r_ b52, r_ xq382] [(.ref xq382)])) P404 (by
      intro _ k_
      refine XS.astore X382.here hx rfl (hb hby at_223) rfl rfl (l' := #[i_ pa, i_ pb, i_ 1, i_ q0, i_ q1, i_ q2, i_ vv, i_ (own_al s0), i_ (own_al s1), i_ (own_al s2), i_ (own_al s3), r_ b39, r_ b52, r_ b98, r_ b164, r_ b52, r_ xq382]) rfl ?_
      refine a_ X382 hx hby at_225 rfl rfl ?_
      exact k_)
    obtain ⟨cl406, Ar406, q406, S406, M406, H406, G406⟩ := id f384
    have P407 := oS (T382.setTop (mkF m 228 #[i_ pa, i_ pb, i_ 1, i_ q0, i_ q1, i_ q2, i_ vv, i_ (own_al s0), i_ (own_al s1), i_ (own_al s2), i_ (own_al s3), r_ b39, r_ b52, r_ b98, r_ b164, r_ b52, r_ xq382] [(.int 1)])) P405 (by
      intro _ k_
      refine X382.arraylength hx Ar406.1 (State.isArrayOf_alike hZ.alike Ar406.2.1) (g := (mkF m 227 #[i_ pa, i_ pb, i_ 1, i_ q0, i_ q1, i_ q2, i_ vv, i_ (own_al s0), i_ (own_al s1), i_ (own_al s2), i_ (own_al s3), r_ b39, r_ b52, r_ b98, r_ b164, r_ b52, r_ xq382] [(.ref xq382)])) rfl rfl (hb hby at_227) _ ?_
      rw [len_of S406 M406]
      exact k_)
    have P408 := oS (T382.setTop (mkF m 229 #[i_ pa, i_ pb, i_ 1, i_ q0, i_ q1, i_ q2, i_ vv, i_ (own_al s0), i_ (own_al s1), i_ (own_al s2), i_ (own_al s3), r_ b39, r_ b52, r_ b98, r_ b164, r_ b52, r_ xq382] [(.int 1), (.int 1)])) P407 (by
      intro _ k_
      refine iN_ X382 hx hby at_228 rfl ?_
      exact k_)
    have P409 := oS (T382.setTop (mkF m 236 #[i_ pa, i_ pb, i_ 1, i_ q0, i_ q1, i_ q2, i_ vv, i_ (own_al s0), i_ (own_al s1), i_ (own_al s2), i_ (own_al s3), r_ b39, r_ b52, r_ b98, r_ b164, r_ b52, r_ xq382] [(.int 1), (.int 1)])) P408 (by
      intro _ k_
      refine cY_ X382 hx hby at_229 (pc := 229) (pc' := 234) (teq (by decide : (1 : Int32) = (1 : Int32))).1 (by decide) ?_
      refine iN_ X382 hx hby at_234 rfl ?_
      refine XS.iconst X382.here hx rfl (hb hby at_235) ?_
      exact k_)
    have P410 := oS (T382.setTop (mkF m 242 #[i_ pa, i_ pb, i_ 1, i_ q0, i_ q1, i_ q2, i_ vv, i_ (own_al s0), i_ (own_al s1), i_ (own_al s2), i_ (own_al s3), r_ b39, r_ b52, r_ b98, r_ b164, r_ b52, r_ xq382] [(.int 0), (.ref xq382)])) P409 (by
      intro _ k_
      refine XS.icmpNo X382.here hx rfl (hb hby at_236) rfl (flt (by decide : ¬ ((1 : Int32) < (1 : Int32)))).1 ?_
      refine a_ X382 hx hby at_239 rfl rfl ?_
      refine XS.iconst X382.here hx rfl (hb hby at_241) ?_
      exact k_)
    obtain ⟨cl411, Ar411, q411, S411, M411, H411, G411⟩ := id f384
    have hin411 := inb_of S411 (by decide : ¬ (0 : Int32) < 0 ∧ (0 : Int32) < (1 : Int32))
    have hat411 := Has.at H411 hin411 (v := .int (q0.toInt8.toInt32)) rfl
    have P412 := oS (T382.setTop (mkF m 243 #[i_ pa, i_ pb, i_ 1, i_ q0, i_ q1, i_ q2, i_ vv, i_ (own_al s0), i_ (own_al s1), i_ (own_al s2), i_ (own_al s3), r_ b39, r_ b52, r_ b98, r_ b164, r_ b52, r_ xq382] [(.int (q0.toInt8.toInt32))])) P410 (by
      intro _ k_
      refine X382.baloadBytes hx (j := (0 : Int32)) (v := (.int (q0.toInt8.toInt32))) Ar411.1 (State.isArrayOf_alike hZ.alike Ar411.2.1) Ar411.2.2 hin411 hat411 (g := (mkF m 242 #[i_ pa, i_ pb, i_ 1, i_ q0, i_ q1, i_ q2, i_ vv, i_ (own_al s0), i_ (own_al s1), i_ (own_al s2), i_ (own_al s3), r_ b39, r_ b52, r_ b98, r_ b164, r_ b52, r_ xq382] [(.int 0), (.ref xq382)])) rfl rfl (hb hby at_242) _ ?_
      exact k_)
    have P413 := oS (T382.setTop (mkF m 245 #[i_ pa, i_ pb, i_ 1, i_ q0, i_ q1, i_ q2, i_ vv, i_ (own_al s0), i_ (own_al s1), i_ (own_al s2), i_ (own_al s3), r_ b39, r_ b52, r_ b98, r_ b164, r_ b52, r_ xq382] [(.int (q0.toInt8.toInt32)), (.int (q0.toInt8.toInt32))])) P412 (by
      intro _ k_
      refine iN_ X382 hx hby at_243 rfl ?_
      refine XS.i2b X382.here hx rfl (hb hby at_244) rfl ?_
      exact k_)
    have P414 := oS (T382.setTop (mkF m 252 #[i_ pa, i_ pb, i_ 1, i_ q0, i_ q1, i_ q2, i_ vv, i_ (own_al s0), i_ (own_al s1), i_ (own_al s2), i_ (own_al s3), r_ b39, r_ b52, r_ b98, r_ b164, r_ b52, r_ xq382] [(.int 2), (.int 1)])) P413 (by
      intro _ k_
      refine cY_ X382 hx hby at_245 (pc := 245) (pc' := 250) (teq (rfl : (q0.toInt8.toInt32) = (q0.toInt8.toInt32))).1 (by decide) ?_
      refine iN_ X382 hx hby at_250 rfl ?_
      refine XS.iconst X382.here hx rfl (hb hby at_251) ?_
      exact k_)
    have P415 := oS (T382.setTop (mkF m 269 #[i_ pa, i_ pb, i_ 1, i_ q0, i_ q1, i_ q2, i_ vv, i_ (own_al s0), i_ (own_al s1), i_ (own_al s2), i_ (own_al s3), r_ b39, r_ b52, r_ b98, r_ b164, r_ b52, r_ xq382] [(.int 3), (.int 1)])) P414 (by
      intro _ k_
      refine cY_ X382 hx hby at_252 (pc := 252) (pc' := 267) (tlt (by decide : (1 : Int32) < (2 : Int32))).1 (by decide) ?_
      refine iN_ X382 hx hby at_267 rfl ?_
      refine XS.iconst X382.here hx rfl (hb hby at_268) ?_
      exact k_)
    have P416 := oS (T382.setTop (mkF m 285 #[i_ pa, i_ pb, i_ 1, i_ q0, i_ q1, i_ q2, i_ vv, i_ (own_al s0), i_ (own_al s1), i_ (own_al s2), i_ (own_al s3), r_ b39, r_ b52, r_ b98, r_ b164, r_ b52, r_ xq382] [(.int 1)])) P415 (by
      intro _ k_
      refine cY_ X382 hx hby at_269 (pc := 269) (pc' := 284) (tlt (by decide : (1 : Int32) < (3 : Int32))).1 (by decide) ?_
      refine XS.iconst X382.here hx rfl (hb hby at_284) ?_
      exact k_)
    obtain ⟨fs, hr, hrun, hended, hW, hsame⟩ := X382.leave (v := some (.int 1)) (fun h => by rw [Bd.returns] at h; cases h)
    refine ⟨_, _, P416 _ ?_, hrun, hended, _, _, rfl, ?_, wide ⟨⟨_, rfl⟩, hW, hsame.mono (by decide) (by decide)⟩⟩
    · exact retN X382 hx (t := .boolean) Bd.returns (by simp) (hb hby at_285) hr
    · show Q0 Z _ _ _ _ _ _ _ _ _ _ _ _ h0 n0 _ T382.heap _
      exact ⟨rfl, N382⟩
  · have PP2 := own_to (C := T235.setTop (mkF m 177 #[i_ pa, i_ pb, i_ 2, i_ q0, i_ q1, i_ q2, i_ vv, i_ (own_al s0), i_ (own_al s1), i_ (own_al s2), i_ (own_al s3), r_ b39, r_ b52, r_ b98, r_ b164, u_, u_] [])) P251
    have P417 := oS (T235.setTop (mkF m 178 #[i_ pa, i_ pb, i_ 2, i_ q0, i_ q1, i_ q2, i_ vv, i_ (own_al s0), i_ (own_al s1), i_ (own_al s2), i_ (own_al s3), r_ b39, r_ b52, r_ b98, r_ b164, u_, u_] [(.int 2)])) PP2 (by
      intro _ k_
      refine iN_ X235 hx hby at_177 rfl ?_
      exact k_)
    have P418 := oS (T235.setTop (mkF m 188 #[i_ pa, i_ pb, i_ 2, i_ q0, i_ q1, i_ q2, i_ vv, i_ (own_al s0), i_ (own_al s1), i_ (own_al s2), i_ (own_al s3), r_ b39, r_ b52, r_ b98, r_ b164, u_, u_] [(.int 1), (.int 2)])) P417 (by
      intro _ k_
      refine fY_ X235 hx hby at_178 (pc := 178) (pc' := 186) ((if0 _ _).trans (feq (by decide : ¬ ((2 : Int32) = (0 : Int32)))).2) (by decide) ?_
      refine iN_ X235 hx hby at_186 rfl ?_
      refine XS.iconst X235.here hx rfl (hb hby at_187) ?_
      exact k_)
    have P419 := oS (T235.setTop (mkF m 198 #[i_ pa, i_ pb, i_ 2, i_ q0, i_ q1, i_ q2, i_ vv, i_ (own_al s0), i_ (own_al s1), i_ (own_al s2), i_ (own_al s3), r_ b39, r_ b52, r_ b98, r_ b164, u_, u_] [(.int 2), (.int 2)])) P418 (by
      intro _ k_
      refine cY_ X235 hx hby at_188 (pc := 188) (pc' := 196) (feq (by decide : ¬ ((2 : Int32) = (1 : Int32)))).2 (by decide) ?_
      refine iN_ X235 hx hby at_196 rfl ?_
      refine XS.iconst X235.here hx rfl (hb hby at_197) ?_
      exact k_)
    have P420 := oS (T235.setTop (mkF m 210 #[i_ pa, i_ pb, i_ 2, i_ q0, i_ q1, i_ q2, i_ vv, i_ (own_al s0), i_ (own_al s1), i_ (own_al s2), i_ (own_al s3), r_ b39, r_ b52, r_ b98, r_ b164, r_ b98, u_] [])) P419 (by
      intro _ k_
      refine XS.icmpNo X235.here hx rfl (hb hby at_198) rfl (teq (by decide : (2 : Int32) = (2 : Int32))).2 ?_
      refine a_ X235 hx hby at_201 rfl rfl ?_
      refine gt_ X235 hx hby at_203 (pc := 203) (pc' := 208) (by decide) ?_
      refine XS.astore X235.here hx rfl (hb hby at_208) rfl rfl (l' := #[i_ pa, i_ pb, i_ 2, i_ q0, i_ q1, i_ q2, i_ vv, i_ (own_al s0), i_ (own_al s1), i_ (own_al s2), i_ (own_al s3), r_ b39, r_ b52, r_ b98, r_ b164, r_ b98, u_]) rfl ?_
      exact k_)
    obtain ⟨T421, h421, X421, e421, E421, A421, D421, -, st421⟩ := newO X235 hx hZ hown (own_w hw 5 rfl) (own_w hw 6 rfl) (own_w hw 7 rfl) e235 (g := (mkF m 210 #[i_ pa, i_ pb, i_ 2, i_ q0, i_ q1, i_ q2, i_ vv, i_ (own_al s0), i_ (own_al s1), i_ (own_al s2), i_ (own_al s3), r_ b39, r_ b52, r_ b98, r_ b164, r_ b98, u_] [])) rfl (hb hby at_210) (by decide) (by decide)
    obtain ⟨b421, g421⟩ : ∃ z, z = h235.size := ⟨_, rfl⟩
    rw [← g421] at A421 D421 st421
    have ne_de_b421 : de ≠ b421 := Nat.ne_of_lt (Nat.lt_of_lt_of_le f237.lt (Nat.le_of_eq g421.symm))
    have ne_en_b421 : en ≠ b421 := Nat.ne_of_lt (Nat.lt_of_lt_of_le f239.lt (Nat.le_of_eq g421.symm))
    have g_b421 : n0 ≤ b421 := Nat.le_trans Z249 (Nat.le_of_eq g421.symm)
    have f422 := f236.ext E421
    have f423 := f237.ext E421
    have f424 := f238.ext E421
    have f425 := f239.ext E421
    have f426 := f240.ext E421
    have f427 := f241.ext E421
    have f429 := f243.ext E421
    have f430 := f244.ext E421
    have f433 := f247.ext E421
    have Z435 : n0 ≤ h421.size := Nat.le_trans Z249 E421.1
    have f436 : Fld Z h421 b421 "java/lang/String" "coder" "B" (.int 0) := D421 (Or.inr (own_w hw 31 rfl)) (ty := .byte) (by decide)
    have f437 : Fld Z h421 b421 "java/lang/String" "value" "[B" .null := D421 (Or.inr (own_w hw 33 rfl)) (ty := (.array .byte)) (by decide)
    have P438 := oS (T421.setTop (mkF m 213 #[i_ pa, i_ pb, i_ 2, i_ q0, i_ q1, i_ q2, i_ vv, i_ (own_al s0), i_ (own_al s1), i_ (own_al s2), i_ (own_al s3), r_ b39, r_ b52, r_ b98, r_ b164, r_ b98, u_] [(.ref b421)])) P420 (fun t_ k_ => st421 t_ k_)
    have P439 := oS (T421.setTop (mkF m 216 #[i_ pa, i_ pb, i_ 2, i_ q0, i_ q1, i_ q2, i_ vv, i_ (own_al s0), i_ (own_al s1), i_ (own_al s2), i_ (own_al s3), r_ b39, r_ b52, r_ b98, r_ b164, r_ b98, u_] [(.ref b98), (.ref b421), (.ref b421)])) P438 (by
      intro _ k_
      refine XS.dup X421.here hx rfl (hb hby at_213) rfl rfl ?_
      refine a_ X421 hx hby at_214 rfl rfl ?_
      exact k_)
    obtain ⟨_, T440, L440, X440, hQ440, P440c⟩ := own_cI (W := 1) (rm_initC_3 l Z a0 hw [] b421 b98 k98 (own_ch s0) (own_ch s1) (own_ch s2) cs h421 n0 Z435 f422 Scs hcs A421 f437 f436 g_b421 f433 (own_sign (own_s63 HH).1).1 (own_sign (own_s63 HH).2.1).1 (own_sign (own_s63 HH).2.2.1).1) X421 hx hZ (fun _ _ => trivial) hown rfl (own_w hw 8 rfl) (own_w hw 9 rfl) (own_w hw 7 rfl) (own_w hw 10 rfl) (by decide) P439 hml rfl [(.ref b98)] [(.ref b421)] rfl rfl rfl pd25 rfl (hb hby at_216) e421 (by decide)
    obtain ⟨x440, kk440, rfl, N440q, K440, f441, f442, f443, f444, f445, f446⟩ := hQ440
    have N440 := Fr.app N235 N440q
    have f447 := f422.keep K440 (allS g_b421 all0)
    have f448 := f423.keep K440 (ninS ne_de_b421 nin0)
    have f449 := f424.keep K440 (ninS ne_de_b421 nin0)
    have f450 := f425.keep K440 (ninS ne_en_b421 nin0)
    have f451 := f426.keep K440 (ninS ne_en_b421 nin0)
    have f452 := f427.keep K440 (ninS ne_en_b421 nin0)
    have f454 := f429.keep K440
    have f455 := f430.keep K440
    have Z463 : n0 ≤ T440.heap.size := Nat.le_trans Z435 K440.1
    have P464 := own_to (C := T440.setTop (mkF m 219 #[i_ pa, i_ pb, i_ 2, i_ q0, i_ q1, i_ q2, i_ vv, i_ (own_al s0), i_ (own_al s1), i_ (own_al s2), i_ (own_al s3), r_ b39, r_ b52, r_ b98, r_ b164, r_ b98, u_] [(.ref b421)])) P440c
    have P465 := oS (T440.setTop (mkF m 220 #[i_ pa, i_ pb, i_ 2, i_ q0, i_ q1, i_ q2, i_ vv, i_ (own_al s0), i_ (own_al s1), i_ (own_al s2), i_ (own_al s3), r_ b39, r_ b52, r_ b98, r_ b164, r_ b98, u_] [(.int 2), (.ref b421)])) P464 (by
      intro _ k_
      refine iN_ X440 hx hby at_219 rfl ?_
      exact k_)
    obtain ⟨_, T466, L466, X466, hQ466, P466c⟩ := own_cS (W := 0) (rm_buD2_3 l Z a0 hw [] de b421 x440 kk440 (own_sg s0) (own_sg s1) (own_sg s2) s0 s1 s2 (q0.toInt8.toInt32) (q1.toInt8.toInt32) rdt kdt riso rutf cs en (own_ch s0) (own_ch s1) (own_ch s2) ret_ ket fm T440.heap n0 Z463 f447 Scs hcs Siso Sutf nci Sdt Vdt f455 f448 f449 f441 f442 f443 f444 f446 (own_sign (own_s63 HH).2.2.1).2.2.2.2.1 (own_sign (own_s63 HH).1).2.1 (own_sign (own_s63 HH).1).2.2.1 (own_sign (own_s63 HH).1).2.2.2.1 (own_sign (own_s63 HH).2.1).2.1 (own_sign (own_s63 HH).2.1).2.2.1 (own_sign (own_s63 HH).2.1).2.2.2.1 (own_sign (own_s63 HH).2.2.1).2.1 (own_sign (own_s63 HH).2.2.1).2.2.1 (own_sign (own_s63 HH).2.2.1).2.2.2.1 (own_r30 HH) (own_r31 HH) Sfm hfm Set Vet f454 f450 f451 f452 (own_rk (own_i0 HH) (own_sign (own_s63 HH).1).2.2.2.2.2.1) (own_rv (own_i0 HH) (own_sign (own_s63 HH).1).2.2.2.2.2.2) rfl (own_rk (own_i1b HH) (own_sign (own_s63 HH).2.1).2.2.2.2.2.1) (own_rv (own_i1b HH) (own_sign (own_s63 HH).2.1).2.2.2.2.2.2) rfl (own_rk (own_i2a HH (own_p0 hv13 (by decide))) (own_sign (own_s63 HH).2.2.1).2.2.2.2.2.1) (own_rv (own_i2a HH (own_p0 hv13 (by decide))) (own_sign (own_s63 HH).2.2.1).2.2.2.2.2.2) rfl Senc Sdec) X440 hx hZ (fun _ _ => trivial) hown (own_w hw 34 rfl) (own_w hw 35 rfl) (own_w hw 36 rfl) (own_w hw 37 rfl) (by decide) P465 hml rfl [(.ref b421), (.int 2)] [] rfl rfl rfl pd26 rfl (hb hby at_220) (rfl : T440.heap = _) (by decide)
    obtain ⟨xq466, kk466, rfl, N466q, K466, f467, f468⟩ := hQ466
    have N466 := Fr.app N440 N466q
    have P488 := own_to (C := T466.setTop (mkF m 223 #[i_ pa, i_ pb, i_ 2, i_ q0, i_ q1, i_ q2, i_ vv, i_ (own_al s0), i_ (own_al s1), i_ (own_al s2), i_ (own_al s3), r_ b39, r_ b52, r_ b98, r_ b164, r_ b98, u_] [(.ref xq466)])) P466c
    have P489 := oS (T466.setTop (mkF m 227 #[i_ pa, i_ pb, i_ 2, i_ q0, i_ q1, i_ q2, i_ vv, i_ (own_al s0), i_ (own_al s1), i_ (own_al s2), i_ (own_al s3), r_ b39, r_ b52, r_ b98, r_ b164, r_ b98, r_ xq466] [(.ref xq466)])) P488 (by
      intro _ k_
      refine XS.astore X466.here hx rfl (hb hby at_223) rfl rfl (l' := #[i_ pa, i_ pb, i_ 2, i_ q0, i_ q1, i_ q2, i_ vv, i_ (own_al s0), i_ (own_al s1), i_ (own_al s2), i_ (own_al s3), r_ b39, r_ b52, r_ b98, r_ b164, r_ b98, r_ xq466]) rfl ?_
      refine a_ X466 hx hby at_225 rfl rfl ?_
      exact k_)
    obtain ⟨cl490, Ar490, q490, S490, M490, H490, G490⟩ := id f468
    have P491 := oS (T466.setTop (mkF m 228 #[i_ pa, i_ pb, i_ 2, i_ q0, i_ q1, i_ q2, i_ vv, i_ (own_al s0), i_ (own_al s1), i_ (own_al s2), i_ (own_al s3), r_ b39, r_ b52, r_ b98, r_ b164, r_ b98, r_ xq466] [(.int 2)])) P489 (by
      intro _ k_
      refine X466.arraylength hx Ar490.1 (State.isArrayOf_alike hZ.alike Ar490.2.1) (g := (mkF m 227 #[i_ pa, i_ pb, i_ 2, i_ q0, i_ q1, i_ q2, i_ vv, i_ (own_al s0), i_ (own_al s1), i_ (own_al s2), i_ (own_al s3), r_ b39, r_ b52, r_ b98, r_ b164, r_ b98, r_ xq466] [(.ref xq466)])) rfl rfl (hb hby at_227) _ ?_
      rw [len_of S490 M490]
      exact k_)
    have P492 := oS (T466.setTop (mkF m 229 #[i_ pa, i_ pb, i_ 2, i_ q0, i_ q1, i_ q2, i_ vv, i_ (own_al s0), i_ (own_al s1), i_ (own_al s2), i_ (own_al s3), r_ b39, r_ b52, r_ b98, r_ b164, r_ b98, r_ xq466] [(.int 2), (.int 2)])) P491 (by
      intro _ k_
      refine iN_ X466 hx hby at_228 rfl ?_
      exact k_)
    have P493 := oS (T466.setTop (mkF m 236 #[i_ pa, i_ pb, i_ 2, i_ q0, i_ q1, i_ q2, i_ vv, i_ (own_al s0), i_ (own_al s1), i_ (own_al s2), i_ (own_al s3), r_ b39, r_ b52, r_ b98, r_ b164, r_ b98, r_ xq466] [(.int 1), (.int 2)])) P492 (by
      intro _ k_
      refine cY_ X466 hx hby at_229 (pc := 229) (pc' := 234) (teq (by decide : (2 : Int32) = (2 : Int32))).1 (by decide) ?_
      refine iN_ X466 hx hby at_234 rfl ?_
      refine XS.iconst X466.here hx rfl (hb hby at_235) ?_
      exact k_)
    have P494 := oS (T466.setTop (mkF m 242 #[i_ pa, i_ pb, i_ 2, i_ q0, i_ q1, i_ q2, i_ vv, i_ (own_al s0), i_ (own_al s1), i_ (own_al s2), i_ (own_al s3), r_ b39, r_ b52, r_ b98, r_ b164, r_ b98, r_ xq466] [(.int 0), (.ref xq466)])) P493 (by
      intro _ k_
      refine XS.icmpNo X466.here hx rfl (hb hby at_236) rfl (flt (by decide : ¬ ((2 : Int32) < (1 : Int32)))).1 ?_
      refine a_ X466 hx hby at_239 rfl rfl ?_
      refine XS.iconst X466.here hx rfl (hb hby at_241) ?_
      exact k_)
    obtain ⟨cl495, Ar495, q495, S495, M495, H495, G495⟩ := id f468
    have hin495 := inb_of S495 (by decide : ¬ (0 : Int32) < 0 ∧ (0 : Int32) < (2 : Int32))
    have hat495 := Has.at H495 hin495 (v := .int (q0.toInt8.toInt32)) rfl
    have P496 := oS (T466.setTop (mkF m 243 #[i_ pa, i_ pb, i_ 2, i_ q0, i_ q1, i_ q2, i_ vv, i_ (own_al s0), i_ (own_al s1), i_ (own_al s2), i_ (own_al s3), r_ b39, r_ b52, r_ b98, r_ b164, r_ b98, r_ xq466] [(.int (q0.toInt8.toInt32))])) P494 (by
      intro _ k_
      refine X466.baloadBytes hx (j := (0 : Int32)) (v := (.int (q0.toInt8.toInt32))) Ar495.1 (State.isArrayOf_alike hZ.alike Ar495.2.1) Ar495.2.2 hin495 hat495 (g := (mkF m 242 #[i_ pa, i_ pb, i_ 2, i_ q0, i_ q1, i_ q2, i_ vv, i_ (own_al s0), i_ (own_al s1), i_ (own_al s2), i_ (own_al s3), r_ b39, r_ b52, r_ b98, r_ b164, r_ b98, r_ xq466] [(.int 0), (.ref xq466)])) rfl rfl (hb hby at_242) _ ?_
      exact k_)
    have P497 := oS (T466.setTop (mkF m 245 #[i_ pa, i_ pb, i_ 2, i_ q0, i_ q1, i_ q2, i_ vv, i_ (own_al s0), i_ (own_al s1), i_ (own_al s2), i_ (own_al s3), r_ b39, r_ b52, r_ b98, r_ b164, r_ b98, r_ xq466] [(.int (q0.toInt8.toInt32)), (.int (q0.toInt8.toInt32))])) P496 (by
      intro _ k_
      refine iN_ X466 hx hby at_243 rfl ?_
      refine XS.i2b X466.here hx rfl (hb hby at_244) rfl ?_
      exact k_)
    have P498 := oS (T466.setTop (mkF m 252 #[i_ pa, i_ pb, i_ 2, i_ q0, i_ q1, i_ q2, i_ vv, i_ (own_al s0), i_ (own_al s1), i_ (own_al s2), i_ (own_al s3), r_ b39, r_ b52, r_ b98, r_ b164, r_ b98, r_ xq466] [(.int 2), (.int 2)])) P497 (by
      intro _ k_
      refine cY_ X466 hx hby at_245 (pc := 245) (pc' := 250) (teq (rfl : (q0.toInt8.toInt32) = (q0.toInt8.toInt32))).1 (by decide) ?_
      refine iN_ X466 hx hby at_250 rfl ?_
      refine XS.iconst X466.here hx rfl (hb hby at_251) ?_
      exact k_)
    have P499 := oS (T466.setTop (mkF m 258 #[i_ pa, i_ pb, i_ 2, i_ q0, i_ q1, i_ q2, i_ vv, i_ (own_al s0), i_ (own_al s1), i_ (own_al s2), i_ (own_al s3), r_ b39, r_ b52, r_ b98, r_ b164, r_ b98, r_ xq466] [(.int 1), (.ref xq466)])) P498 (by
      intro _ k_
      refine XS.icmpNo X466.here hx rfl (hb hby at_252) rfl (flt (by decide : ¬ ((2 : Int32) < (2 : Int32)))).1 ?_
      refine a_ X466 hx hby at_255 rfl rfl ?_
      refine XS.iconst X466.here hx rfl (hb hby at_257) ?_
      exact k_)
    obtain ⟨cl500, Ar500, q500, S500, M500, H500, G500⟩ := id f468
    have hin500 := inb_of S500 (by decide : ¬ (1 : Int32) < 0 ∧ (1 : Int32) < (2 : Int32))
    have hat500 := Has.at H500 hin500 (v := .int (q1.toInt8.toInt32)) rfl
    have P501 := oS (T466.setTop (mkF m 259 #[i_ pa, i_ pb, i_ 2, i_ q0, i_ q1, i_ q2, i_ vv, i_ (own_al s0), i_ (own_al s1), i_ (own_al s2), i_ (own_al s3), r_ b39, r_ b52, r_ b98, r_ b164, r_ b98, r_ xq466] [(.int (q1.toInt8.toInt32))])) P499 (by
      intro _ k_
      refine X466.baloadBytes hx (j := (1 : Int32)) (v := (.int (q1.toInt8.toInt32))) Ar500.1 (State.isArrayOf_alike hZ.alike Ar500.2.1) Ar500.2.2 hin500 hat500 (g := (mkF m 258 #[i_ pa, i_ pb, i_ 2, i_ q0, i_ q1, i_ q2, i_ vv, i_ (own_al s0), i_ (own_al s1), i_ (own_al s2), i_ (own_al s3), r_ b39, r_ b52, r_ b98, r_ b164, r_ b98, r_ xq466] [(.int 1), (.ref xq466)])) rfl rfl (hb hby at_258) _ ?_
      exact k_)
    have P502 := oS (T466.setTop (mkF m 262 #[i_ pa, i_ pb, i_ 2, i_ q0, i_ q1, i_ q2, i_ vv, i_ (own_al s0), i_ (own_al s1), i_ (own_al s2), i_ (own_al s3), r_ b39, r_ b52, r_ b98, r_ b164, r_ b98, r_ xq466] [(.int (q1.toInt8.toInt32)), (.int (q1.toInt8.toInt32))])) P501 (by
      intro _ k_
      refine il_ X466 hx hby at_259 rfl ?_
      refine XS.i2b X466.here hx rfl (hb hby at_261) rfl ?_
      exact k_)
    have P503 := oS (T466.setTop (mkF m 269 #[i_ pa, i_ pb, i_ 2, i_ q0, i_ q1, i_ q2, i_ vv, i_ (own_al s0), i_ (own_al s1), i_ (own_al s2), i_ (own_al s3), r_ b39, r_ b52, r_ b98, r_ b164, r_ b98, r_ xq466] [(.int 3), (.int 2)])) P502 (by
      intro _ k_
      refine cY_ X466 hx hby at_262 (pc := 262) (pc' := 267) (teq (rfl : (q1.toInt8.toInt32) = (q1.toInt8.toInt32))).1 (by decide) ?_
      refine iN_ X466 hx hby at_267 rfl ?_
      refine XS.iconst X466.here hx rfl (hb hby at_268) ?_
      exact k_)
    have P504 := oS (T466.setTop (mkF m 285 #[i_ pa, i_ pb, i_ 2, i_ q0, i_ q1, i_ q2, i_ vv, i_ (own_al s0), i_ (own_al s1), i_ (own_al s2), i_ (own_al s3), r_ b39, r_ b52, r_ b98, r_ b164, r_ b98, r_ xq466] [(.int 1)])) P503 (by
      intro _ k_
      refine cY_ X466 hx hby at_269 (pc := 269) (pc' := 284) (tlt (by decide : (2 : Int32) < (3 : Int32))).1 (by decide) ?_
      refine XS.iconst X466.here hx rfl (hb hby at_284) ?_
      exact k_)
    obtain ⟨fs, hr, hrun, hended, hW, hsame⟩ := X466.leave (v := some (.int 1)) (fun h => by rw [Bd.returns] at h; cases h)
    refine ⟨_, _, P504 _ ?_, hrun, hended, _, _, rfl, ?_, wide ⟨⟨_, rfl⟩, hW, hsame.mono (by decide) (by decide)⟩⟩
    · exact retN X466 hx (t := .boolean) Bd.returns (by simp) (hb hby at_285) hr
    · show Q0 Z _ _ _ _ _ _ _ _ _ _ _ _ h0 n0 _ T466.heap _
      exact ⟨rfl, N466⟩
  · have PP3 := own_to (C := T235.setTop (mkF m 177 #[i_ pa, i_ pb, i_ 3, i_ q0, i_ q1, i_ q2, i_ vv, i_ (own_al s0), i_ (own_al s1), i_ (own_al s2), i_ (own_al s3), r_ b39, r_ b52, r_ b98, r_ b164, u_, u_] [])) P251
    have P505 := oS (T235.setTop (mkF m 178 #[i_ pa, i_ pb, i_ 3, i_ q0, i_ q1, i_ q2, i_ vv, i_ (own_al s0), i_ (own_al s1), i_ (own_al s2), i_ (own_al s3), r_ b39, r_ b52, r_ b98, r_ b164, u_, u_] [(.int 3)])) PP3 (by
      intro _ k_
      refine iN_ X235 hx hby at_177 rfl ?_
      exact k_)
    have P506 := oS (T235.setTop (mkF m 188 #[i_ pa, i_ pb, i_ 3, i_ q0, i_ q1, i_ q2, i_ vv, i_ (own_al s0), i_ (own_al s1), i_ (own_al s2), i_ (own_al s3), r_ b39, r_ b52, r_ b98, r_ b164, u_, u_] [(.int 1), (.int 3)])) P505 (by
      intro _ k_
      refine fY_ X235 hx hby at_178 (pc := 178) (pc' := 186) ((if0 _ _).trans (feq (by decide : ¬ ((3 : Int32) = (0 : Int32)))).2) (by decide) ?_
      refine iN_ X235 hx hby at_186 rfl ?_
      refine XS.iconst X235.here hx rfl (hb hby at_187) ?_
      exact k_)
    have P507 := oS (T235.setTop (mkF m 198 #[i_ pa, i_ pb, i_ 3, i_ q0, i_ q1, i_ q2, i_ vv, i_ (own_al s0), i_ (own_al s1), i_ (own_al s2), i_ (own_al s3), r_ b39, r_ b52, r_ b98, r_ b164, u_, u_] [(.int 2), (.int 3)])) P506 (by
      intro _ k_
      refine cY_ X235 hx hby at_188 (pc := 188) (pc' := 196) (feq (by decide : ¬ ((3 : Int32) = (1 : Int32)))).2 (by decide) ?_
      refine iN_ X235 hx hby at_196 rfl ?_
      refine XS.iconst X235.here hx rfl (hb hby at_197) ?_
      exact k_)
    have P508 := oS (T235.setTop (mkF m 210 #[i_ pa, i_ pb, i_ 3, i_ q0, i_ q1, i_ q2, i_ vv, i_ (own_al s0), i_ (own_al s1), i_ (own_al s2), i_ (own_al s3), r_ b39, r_ b52, r_ b98, r_ b164, r_ b164, u_] [])) P507 (by
      intro _ k_
      refine cY_ X235 hx hby at_198 (pc := 198) (pc' := 206) (feq (by decide : ¬ ((3 : Int32) = (2 : Int32)))).2 (by decide) ?_
      refine a_ X235 hx hby at_206 rfl rfl ?_
      refine XS.astore X235.here hx rfl (hb hby at_208) rfl rfl (l' := #[i_ pa, i_ pb, i_ 3, i_ q0, i_ q1, i_ q2, i_ vv, i_ (own_al s0), i_ (own_al s1), i_ (own_al s2), i_ (own_al s3), r_ b39, r_ b52, r_ b98, r_ b164, r_ b164, u_]) rfl ?_
      exact k_)
    obtain ⟨T509, h509, X509, e509, E509, A509, D509, -, st509⟩ := newO X235 hx hZ hown (own_w hw 5 rfl) (own_w hw 6 rfl) (own_w hw 7 rfl) e235 (g := (mkF m 210 #[i_ pa, i_ pb, i_ 3, i_ q0, i_ q1, i_ q2, i_ vv, i_ (own_al s0), i_ (own_al s1), i_ (own_al s2), i_ (own_al s3), r_ b39, r_ b52, r_ b98, r_ b164, r_ b164, u_] [])) rfl (hb hby at_210) (by decide) (by decide)
    obtain ⟨b509, g509⟩ : ∃ z, z = h235.size := ⟨_, rfl⟩
    rw [← g509] at A509 D509 st509
    have ne_de_b509 : de ≠ b509 := Nat.ne_of_lt (Nat.lt_of_lt_of_le f237.lt (Nat.le_of_eq g509.symm))
    have ne_en_b509 : en ≠ b509 := Nat.ne_of_lt (Nat.lt_of_lt_of_le f239.lt (Nat.le_of_eq g509.symm))
    have g_b509 : n0 ≤ b509 := Nat.le_trans Z249 (Nat.le_of_eq g509.symm)
    have f510 := f236.ext E509
    have f511 := f237.ext E509
    have f512 := f238.ext E509
    have f513 := f239.ext E509
    have f514 := f240.ext E509
    have f515 := f241.ext E509
    have f517 := f243.ext E509
    have f518 := f244.ext E509
    have f522 := V235.ext E509
    have Z523 : n0 ≤ h509.size := Nat.le_trans Z249 E509.1
    have f524 : Fld Z h509 b509 "java/lang/String" "coder" "B" (.int 0) := D509 (Or.inr (own_w hw 31 rfl)) (ty := .byte) (by decide)
    have f525 : Fld Z h509 b509 "java/lang/String" "value" "[B" .null := D509 (Or.inr (own_w hw 33 rfl)) (ty := (.array .byte)) (by decide)
    have P526 := oS (T509.setTop (mkF m 213 #[i_ pa, i_ pb, i_ 3, i_ q0, i_ q1, i_ q2, i_ vv, i_ (own_al s0), i_ (own_al s1), i_ (own_al s2), i_ (own_al s3), r_ b39, r_ b52, r_ b98, r_ b164, r_ b164, u_] [(.ref b509)])) P508 (fun t_ k_ => st509 t_ k_)
    have P527 := oS (T509.setTop (mkF m 216 #[i_ pa, i_ pb, i_ 3, i_ q0, i_ q1, i_ q2, i_ vv, i_ (own_al s0), i_ (own_al s1), i_ (own_al s2), i_ (own_al s3), r_ b39, r_ b52, r_ b98, r_ b164, r_ b164, u_] [(.ref b164), (.ref b509), (.ref b509)])) P526 (by
      intro _ k_
      refine XS.dup X509.here hx rfl (hb hby at_213) rfl rfl ?_
      refine a_ X509 hx hby at_214 rfl rfl ?_
      exact k_)
    obtain ⟨_, T528, L528, X528, hQ528, P528c⟩ := own_cI (W := 1) (rm_initC_4 l Z a0 hw [] b509 b164 k164 (own_ch s0) (own_ch s1) (own_ch s2) (own_ch s3) cs h509 n0 Z523 f510 Scs hcs A509 f525 f524 g_b509 f522 (own_sign (own_s63 HH).1).1 (own_sign (own_s63 HH).2.1).1 (own_sign (own_s63 HH).2.2.1).1 (own_sign (own_s63 HH).2.2.2).1) X509 hx hZ (fun _ _ => trivial) hown rfl (own_w hw 8 rfl) (own_w hw 9 rfl) (own_w hw 7 rfl) (own_w hw 10 rfl) (by decide) P527 hml rfl [(.ref b164)] [(.ref b509)] rfl rfl rfl pd25 rfl (hb hby at_216) e509 (by decide)
    obtain ⟨x528, kk528, rfl, N528q, K528, f529, f530, f531, f532, f533, f534⟩ := hQ528
    have N528 := Fr.app N235 N528q
    have f535 := f510.keep K528 (allS g_b509 all0)
    have f536 := f511.keep K528 (ninS ne_de_b509 nin0)
    have f537 := f512.keep K528 (ninS ne_de_b509 nin0)
    have f538 := f513.keep K528 (ninS ne_en_b509 nin0)
    have f539 := f514.keep K528 (ninS ne_en_b509 nin0)
    have f540 := f515.keep K528 (ninS ne_en_b509 nin0)
    have f542 := f517.keep K528
    have f543 := f518.keep K528
    have Z551 : n0 ≤ T528.heap.size := Nat.le_trans Z523 K528.1
    have P552 := own_to (C := T528.setTop (mkF m 219 #[i_ pa, i_ pb, i_ 3, i_ q0, i_ q1, i_ q2, i_ vv, i_ (own_al s0), i_ (own_al s1), i_ (own_al s2), i_ (own_al s3), r_ b39, r_ b52, r_ b98, r_ b164, r_ b164, u_] [(.ref b509)])) P528c
    have P553 := oS (T528.setTop (mkF m 220 #[i_ pa, i_ pb, i_ 3, i_ q0, i_ q1, i_ q2, i_ vv, i_ (own_al s0), i_ (own_al s1), i_ (own_al s2), i_ (own_al s3), r_ b39, r_ b52, r_ b98, r_ b164, r_ b164, u_] [(.int 3), (.ref b509)])) P552 (by
      intro _ k_
      refine iN_ X528 hx hby at_219 rfl ?_
      exact k_)
    obtain ⟨_, T554, L554, X554, hQ554, P554c⟩ := own_cS (W := 0) (rm_buD2_4 l Z a0 hw [] de b509 x528 kk528 (own_sg s0) (own_sg s1) (own_sg s2) (own_sg s3) s0 s1 s2 s3 (q0.toInt8.toInt32) (q1.toInt8.toInt32) (q2.toInt8.toInt32) rdt kdt riso rutf cs en (own_ch s0) (own_ch s1) (own_ch s2) (own_ch s3) ret_ ket fm T528.heap n0 Z551 f535 Scs hcs Siso Sutf nci Sdt Vdt f543 f536 f537 f529 f530 f531 f532 f534 (own_sign (own_s63 HH).2.2.2).2.2.2.2.1 (own_sign (own_s63 HH).1).2.1 (own_sign (own_s63 HH).1).2.2.1 (own_sign (own_s63 HH).1).2.2.2.1 (own_sign (own_s63 HH).2.1).2.1 (own_sign (own_s63 HH).2.1).2.2.1 (own_sign (own_s63 HH).2.1).2.2.2.1 (own_sign (own_s63 HH).2.2.1).2.1 (own_sign (own_s63 HH).2.2.1).2.2.1 (own_sign (own_s63 HH).2.2.1).2.2.2.1 (own_sign (own_s63 HH).2.2.2).2.1 (own_sign (own_s63 HH).2.2.2).2.2.1 (own_sign (own_s63 HH).2.2.2).2.2.2.1 (own_r40 HH) (own_r41 HH) (own_r42 HH) Sfm hfm Set Vet f542 f538 f539 f540 (own_rk (own_k0 HH) (own_sign (own_s63 HH).1).2.2.2.2.2.1) (own_rv (own_k0 HH) (own_sign (own_s63 HH).1).2.2.2.2.2.2) rfl (own_rk (own_k1 HH) (own_sign (own_s63 HH).2.1).2.2.2.2.2.1) (own_rv (own_k1 HH) (own_sign (own_s63 HH).2.1).2.2.2.2.2.2) rfl (own_rk (own_k2 HH) (own_sign (own_s63 HH).2.2.1).2.2.2.2.2.1) (own_rv (own_k2 HH) (own_sign (own_s63 HH).2.2.1).2.2.2.2.2.2) rfl (own_rk (own_k3 HH) (own_sign (own_s63 HH).2.2.2).2.2.2.2.2.1) (own_rv (own_k3 HH) (own_sign (own_s63 HH).2.2.2).2.2.2.2.2.2) rfl Senc Sdec) X528 hx hZ (fun _ _ => trivial) hown (own_w hw 34 rfl) (own_w hw 35 rfl) (own_w hw 36 rfl) (own_w hw 37 rfl) (by decide) P553 hml rfl [(.ref b509), (.int 3)] [] rfl rfl rfl pd26 rfl (hb hby at_220) (rfl : T528.heap = _) (by decide)
    obtain ⟨xq554, kk554, rfl, N554q, K554, f555, f556⟩ := hQ554
    have N554 := Fr.app N528 N554q
    have P576 := own_to (C := T554.setTop (mkF m 223 #[i_ pa, i_ pb, i_ 3, i_ q0, i_ q1, i_ q2, i_ vv, i_ (own_al s0), i_ (own_al s1), i_ (own_al s2), i_ (own_al s3), r_ b39, r_ b52, r_ b98, r_ b164, r_ b164, u_] [(.ref xq554)])) P554c
    have P577 := oS (T554.setTop (mkF m 227 #[i_ pa, i_ pb, i_ 3, i_ q0, i_ q1, i_ q2, i_ vv, i_ (own_al s0), i_ (own_al s1), i_ (own_al s2), i_ (own_al s3), r_ b39, r_ b52, r_ b98, r_ b164, r_ b164, r_ xq554] [(.ref xq554)])) P576 (by
      intro _ k_
      refine XS.astore X554.here hx rfl (hb hby at_223) rfl rfl (l' := #[i_ pa, i_ pb, i_ 3, i_ q0, i_ q1, i_ q2, i_ vv, i_ (own_al s0), i_ (own_al s1), i_ (own_al s2), i_ (own_al s3), r_ b39, r_ b52, r_ b98, r_ b164, r_ b164, r_ xq554]) rfl ?_
      refine a_ X554 hx hby at_225 rfl rfl ?_
      exact k_)
    obtain ⟨cl578, Ar578, q578, S578, M578, H578, G578⟩ := id f556
    have P579 := oS (T554.setTop (mkF m 228 #[i_ pa, i_ pb, i_ 3, i_ q0, i_ q1, i_ q2, i_ vv, i_ (own_al s0), i_ (own_al s1), i_ (own_al s2), i_ (own_al s3), r_ b39, r_ b52, r_ b98, r_ b164, r_ b164, r_ xq554] [(.int 3)])) P577 (by
      intro _ k_
      refine X554.arraylength hx Ar578.1 (State.isArrayOf_alike hZ.alike Ar578.2.1) (g := (mkF m 227 #[i_ pa, i_ pb, i_ 3, i_ q0, i_ q1, i_ q2, i_ vv, i_ (own_al s0), i_ (own_al s1), i_ (own_al s2), i_ (own_al s3), r_ b39, r_ b52, r_ b98, r_ b164, r_ b164, r_ xq554] [(.ref xq554)])) rfl rfl (hb hby at_227) _ ?_
      rw [len_of S578 M578]
      exact k_)
    have P580 := oS (T554.setTop (mkF m 229 #[i_ pa, i_ pb, i_ 3, i_ q0, i_ q1, i_ q2, i_ vv, i_ (own_al s0), i_ (own_al s1), i_ (own_al s2), i_ (own_al s3), r_ b39, r_ b52, r_ b98, r_ b164, r_ b164, r_ xq554] [(.int 3), (.int 3)])) P579 (by
      intro _ k_
      refine iN_ X554 hx hby at_228 rfl ?_
      exact k_)
    have P581 := oS (T554.setTop (mkF m 236 #[i_ pa, i_ pb, i_ 3, i_ q0, i_ q1, i_ q2, i_ vv, i_ (own_al s0), i_ (own_al s1), i_ (own_al s2), i_ (own_al s3), r_ b39, r_ b52, r_ b98, r_ b164, r_ b164, r_ xq554] [(.int 1), (.int 3)])) P580 (by
      intro _ k_
      refine cY_ X554 hx hby at_229 (pc := 229) (pc' := 234) (teq (by decide : (3 : Int32) = (3 : Int32))).1 (by decide) ?_
      refine iN_ X554 hx hby at_234 rfl ?_
      refine XS.iconst X554.here hx rfl (hb hby at_235) ?_
      exact k_)
    have P582 := oS (T554.setTop (mkF m 242 #[i_ pa, i_ pb, i_ 3, i_ q0, i_ q1, i_ q2, i_ vv, i_ (own_al s0), i_ (own_al s1), i_ (own_al s2), i_ (own_al s3), r_ b39, r_ b52, r_ b98, r_ b164, r_ b164, r_ xq554] [(.int 0), (.ref xq554)])) P581 (by
      intro _ k_
      refine XS.icmpNo X554.here hx rfl (hb hby at_236) rfl (flt (by decide : ¬ ((3 : Int32) < (1 : Int32)))).1 ?_
      refine a_ X554 hx hby at_239 rfl rfl ?_
      refine XS.iconst X554.here hx rfl (hb hby at_241) ?_
      exact k_)
    obtain ⟨cl583, Ar583, q583, S583, M583, H583, G583⟩ := id f556
    have hin583 := inb_of S583 (by decide : ¬ (0 : Int32) < 0 ∧ (0 : Int32) < (3 : Int32))
    have hat583 := Has.at H583 hin583 (v := .int (q0.toInt8.toInt32)) rfl
    have P584 := oS (T554.setTop (mkF m 243 #[i_ pa, i_ pb, i_ 3, i_ q0, i_ q1, i_ q2, i_ vv, i_ (own_al s0), i_ (own_al s1), i_ (own_al s2), i_ (own_al s3), r_ b39, r_ b52, r_ b98, r_ b164, r_ b164, r_ xq554] [(.int (q0.toInt8.toInt32))])) P582 (by
      intro _ k_
      refine X554.baloadBytes hx (j := (0 : Int32)) (v := (.int (q0.toInt8.toInt32))) Ar583.1 (State.isArrayOf_alike hZ.alike Ar583.2.1) Ar583.2.2 hin583 hat583 (g := (mkF m 242 #[i_ pa, i_ pb, i_ 3, i_ q0, i_ q1, i_ q2, i_ vv, i_ (own_al s0), i_ (own_al s1), i_ (own_al s2), i_ (own_al s3), r_ b39, r_ b52, r_ b98, r_ b164, r_ b164, r_ xq554] [(.int 0), (.ref xq554)])) rfl rfl (hb hby at_242) _ ?_
      exact k_)
    have P585 := oS (T554.setTop (mkF m 245 #[i_ pa, i_ pb, i_ 3, i_ q0, i_ q1, i_ q2, i_ vv, i_ (own_al s0), i_ (own_al s1), i_ (own_al s2), i_ (own_al s3), r_ b39, r_ b52, r_ b98, r_ b164, r_ b164, r_ xq554] [(.int (q0.toInt8.toInt32)), (.int (q0.toInt8.toInt32))])) P584 (by
      intro _ k_
      refine iN_ X554 hx hby at_243 rfl ?_
      refine XS.i2b X554.here hx rfl (hb hby at_244) rfl ?_
      exact k_)
    have P586 := oS (T554.setTop (mkF m 252 #[i_ pa, i_ pb, i_ 3, i_ q0, i_ q1, i_ q2, i_ vv, i_ (own_al s0), i_ (own_al s1), i_ (own_al s2), i_ (own_al s3), r_ b39, r_ b52, r_ b98, r_ b164, r_ b164, r_ xq554] [(.int 2), (.int 3)])) P585 (by
      intro _ k_
      refine cY_ X554 hx hby at_245 (pc := 245) (pc' := 250) (teq (rfl : (q0.toInt8.toInt32) = (q0.toInt8.toInt32))).1 (by decide) ?_
      refine iN_ X554 hx hby at_250 rfl ?_
      refine XS.iconst X554.here hx rfl (hb hby at_251) ?_
      exact k_)
    have P587 := oS (T554.setTop (mkF m 258 #[i_ pa, i_ pb, i_ 3, i_ q0, i_ q1, i_ q2, i_ vv, i_ (own_al s0), i_ (own_al s1), i_ (own_al s2), i_ (own_al s3), r_ b39, r_ b52, r_ b98, r_ b164, r_ b164, r_ xq554] [(.int 1), (.ref xq554)])) P586 (by
      intro _ k_
      refine XS.icmpNo X554.here hx rfl (hb hby at_252) rfl (flt (by decide : ¬ ((3 : Int32) < (2 : Int32)))).1 ?_
      refine a_ X554 hx hby at_255 rfl rfl ?_
      refine XS.iconst X554.here hx rfl (hb hby at_257) ?_
      exact k_)
    obtain ⟨cl588, Ar588, q588, S588, M588, H588, G588⟩ := id f556
    have hin588 := inb_of S588 (by decide : ¬ (1 : Int32) < 0 ∧ (1 : Int32) < (3 : Int32))
    have hat588 := Has.at H588 hin588 (v := .int (q1.toInt8.toInt32)) rfl
    have P589 := oS (T554.setTop (mkF m 259 #[i_ pa, i_ pb, i_ 3, i_ q0, i_ q1, i_ q2, i_ vv, i_ (own_al s0), i_ (own_al s1), i_ (own_al s2), i_ (own_al s3), r_ b39, r_ b52, r_ b98, r_ b164, r_ b164, r_ xq554] [(.int (q1.toInt8.toInt32))])) P587 (by
      intro _ k_
      refine X554.baloadBytes hx (j := (1 : Int32)) (v := (.int (q1.toInt8.toInt32))) Ar588.1 (State.isArrayOf_alike hZ.alike Ar588.2.1) Ar588.2.2 hin588 hat588 (g := (mkF m 258 #[i_ pa, i_ pb, i_ 3, i_ q0, i_ q1, i_ q2, i_ vv, i_ (own_al s0), i_ (own_al s1), i_ (own_al s2), i_ (own_al s3), r_ b39, r_ b52, r_ b98, r_ b164, r_ b164, r_ xq554] [(.int 1), (.ref xq554)])) rfl rfl (hb hby at_258) _ ?_
      exact k_)
    have P590 := oS (T554.setTop (mkF m 262 #[i_ pa, i_ pb, i_ 3, i_ q0, i_ q1, i_ q2, i_ vv, i_ (own_al s0), i_ (own_al s1), i_ (own_al s2), i_ (own_al s3), r_ b39, r_ b52, r_ b98, r_ b164, r_ b164, r_ xq554] [(.int (q1.toInt8.toInt32)), (.int (q1.toInt8.toInt32))])) P589 (by
      intro _ k_
      refine il_ X554 hx hby at_259 rfl ?_
      refine XS.i2b X554.here hx rfl (hb hby at_261) rfl ?_
      exact k_)
    have P591 := oS (T554.setTop (mkF m 269 #[i_ pa, i_ pb, i_ 3, i_ q0, i_ q1, i_ q2, i_ vv, i_ (own_al s0), i_ (own_al s1), i_ (own_al s2), i_ (own_al s3), r_ b39, r_ b52, r_ b98, r_ b164, r_ b164, r_ xq554] [(.int 3), (.int 3)])) P590 (by
      intro _ k_
      refine cY_ X554 hx hby at_262 (pc := 262) (pc' := 267) (teq (rfl : (q1.toInt8.toInt32) = (q1.toInt8.toInt32))).1 (by decide) ?_
      refine iN_ X554 hx hby at_267 rfl ?_
      refine XS.iconst X554.here hx rfl (hb hby at_268) ?_
      exact k_)
    have P592 := oS (T554.setTop (mkF m 275 #[i_ pa, i_ pb, i_ 3, i_ q0, i_ q1, i_ q2, i_ vv, i_ (own_al s0), i_ (own_al s1), i_ (own_al s2), i_ (own_al s3), r_ b39, r_ b52, r_ b98, r_ b164, r_ b164, r_ xq554] [(.int 2), (.ref xq554)])) P591 (by
      intro _ k_
      refine XS.icmpNo X554.here hx rfl (hb hby at_269) rfl (flt (by decide : ¬ ((3 : Int32) < (3 : Int32)))).1 ?_
      refine a_ X554 hx hby at_272 rfl rfl ?_
      refine XS.iconst X554.here hx rfl (hb hby at_274) ?_
      exact k_)
    obtain ⟨cl593, Ar593, q593, S593, M593, H593, G593⟩ := id f556
    have hin593 := inb_of S593 (by decide : ¬ (2 : Int32) < 0 ∧ (2 : Int32) < (3 : Int32))
    have hat593 := Has.at H593 hin593 (v := .int (q2.toInt8.toInt32)) rfl
    have P594 := oS (T554.setTop (mkF m 276 #[i_ pa, i_ pb, i_ 3, i_ q0, i_ q1, i_ q2, i_ vv, i_ (own_al s0), i_ (own_al s1), i_ (own_al s2), i_ (own_al s3), r_ b39, r_ b52, r_ b98, r_ b164, r_ b164, r_ xq554] [(.int (q2.toInt8.toInt32))])) P592 (by
      intro _ k_
      refine X554.baloadBytes hx (j := (2 : Int32)) (v := (.int (q2.toInt8.toInt32))) Ar593.1 (State.isArrayOf_alike hZ.alike Ar593.2.1) Ar593.2.2 hin593 hat593 (g := (mkF m 275 #[i_ pa, i_ pb, i_ 3, i_ q0, i_ q1, i_ q2, i_ vv, i_ (own_al s0), i_ (own_al s1), i_ (own_al s2), i_ (own_al s3), r_ b39, r_ b52, r_ b98, r_ b164, r_ b164, r_ xq554] [(.int 2), (.ref xq554)])) rfl rfl (hb hby at_275) _ ?_
      exact k_)
    have P595 := oS (T554.setTop (mkF m 279 #[i_ pa, i_ pb, i_ 3, i_ q0, i_ q1, i_ q2, i_ vv, i_ (own_al s0), i_ (own_al s1), i_ (own_al s2), i_ (own_al s3), r_ b39, r_ b52, r_ b98, r_ b164, r_ b164, r_ xq554] [(.int (q2.toInt8.toInt32)), (.int (q2.toInt8.toInt32))])) P594 (by
      intro _ k_
      refine il_ X554 hx hby at_276 rfl ?_
      refine XS.i2b X554.here hx rfl (hb hby at_278) rfl ?_
      exact k_)
    have P596 := oS (T554.setTop (mkF m 285 #[i_ pa, i_ pb, i_ 3, i_ q0, i_ q1, i_ q2, i_ vv, i_ (own_al s0), i_ (own_al s1), i_ (own_al s2), i_ (own_al s3), r_ b39, r_ b52, r_ b98, r_ b164, r_ b164, r_ xq554] [(.int 1)])) P595 (by
      intro _ k_
      refine cY_ X554 hx hby at_279 (pc := 279) (pc' := 284) (teq (rfl : (q2.toInt8.toInt32) = (q2.toInt8.toInt32))).1 (by decide) ?_
      refine XS.iconst X554.here hx rfl (hb hby at_284) ?_
      exact k_)
    obtain ⟨fs, hr, hrun, hended, hW, hsame⟩ := X554.leave (v := some (.int 1)) (fun h => by rw [Bd.returns] at h; cases h)
    refine ⟨_, _, P596 _ ?_, hrun, hended, _, _, rfl, ?_, wide ⟨⟨_, rfl⟩, hW, hsame.mono (by decide) (by decide)⟩⟩
    · exact retN X554 hx (t := .boolean) Bd.returns (by simp) (hb hby at_285) hr
    · show Q0 Z _ _ _ _ _ _ _ _ _ _ _ _ h0 n0 _ T554.heap _
      exact ⟨rfl, N554⟩
theorem own_cs {args : Array Value} {s : State} {cs : Int32} (e : (Term.static "java/lang/String" "COMPACT_STRINGS" "Z").eval args s none [] s = some (.int cs)) (h : Jvm.Lit.compactW.before args s = true) : ¬ (cs = (0 : Int32)) := by
  have a1 := not_v (Cond.before_iff.mp (show (Cond.not (.eq (.static "java/lang/String" "COMPACT_STRINGS" "Z") (.int 0))).before args s = true from h))
  intro q; subst q
  have b1 := eq_i e (Term.int_eval (0)) rfl
  rw [b1] at a1; cases a1

set_option maxRecDepth 65536 in
set_option maxHeartbeats 40000000 in
theorem comes_1 {Post : Tables → Env → Array Value → State → Outcome → State → Prop} (hpost : ∀ tb e args s v u, (limb_1_1.after args s (.returned v) u = true ∧ limb_1_2.after args s (.returned v) u = true ∧ True) → ReturnedEndW s (.returned v) u (Jvm.fieldLocs frame_1_writes args s ++ Jvm.arrayLocs frame_1_arrays args s ++ Jvm.staticLocs frame_1_statics s) 32 1216 → Post tb e args s (.returned v) u) :
    ArmFor flags0 classFile x code maxLocals ret World_1 tables_1 room_1 Calls_1 rest_1 Pre_1 Post := by
  intro l hfl _ _ p e ha hc hk s m args below hf hA hF happ hP
  obtain ⟨hcalls, hrest, hpre⟩ := hP
  obtain ⟨-, -, -, hnamed, -, -, -, hat⟩ := (Spec.applies_iff hf).mp happ
  obtain ⟨hg, hn⟩ := and_e (Cond.before_iff.mp (show (Jvm.Cond.and given_1 narrow_1).before args s = true from hpre))
  obtain ⟨hgc, hg0⟩ := and_e hg
  obtain ⟨ha0, hg1⟩ := and_e hg0
  have ha1 := hg1
  obtain ⟨w0, w1, rfl⟩ : ∃ w0 w1 : Value, args = #[w0, w1] := by
    have hs : args.size = 2 := by simpa [Cond.value, given_1] using hgc
    obtain ⟨L⟩ := args
    match L, hs with
    | [w0, w1], _ => exact ⟨w0, w1, rfl⟩
  have hw := fun d (hd : d ∈ tables_1) => atoms_spec (ws := Jvm.Cond.code x code maxLocals ret :: tables_1) hat d (List.mem_cons_of_mem _ hd)
  have hfit : Fit s := fun {y c} hc i hi => by
    obtain ⟨ha, rfl⟩ := Array.getElem?_eq_some_iff.mp hc
    have q := List.all_eq_true.mp ((Array.all_eq_true_iff_forall_mem.mp hF) _ (Array.getElem_mem ha)) i (List.mem_range.mpr hi)
    simpa [Array.getElem?_eq_getElem hi] using q
  obtain ⟨hsets, hown0⟩ := atoms_of _ (rest_1_c_eq ▸ (show rest_1_c.before _ s = true from hrest))
  obtain ⟨i0, ei0⟩ := is_v ha0
  obtain rfl : w0 = (.int i0) := Option.some.inj ei0
  obtain ⟨i1, ei1⟩ := is_v ha1
  obtain rfl : w1 = (.int i1) := Option.some.inj ei1
  have hheld : Jvm.Lit.constHeld s "java/lang/String" 7 := hcalls.1 _ (List.mem_of_getElem? (i := 0) rfl)
  have hcw : Jvm.Lit.compactW.before _ s = true := hsets _ (List.mem_of_getElem? (i := 2) rfl)
  obtain ⟨cs, ecs⟩ := is_v (Cond.before_iff.mp (hsets _ (List.mem_of_getElem? (i := 1) rfl)))
  have Scs := Sta.start ecs (Or.inl (hsets _ (List.mem_of_getElem? (i := 0) rfl)))
  have hcs : ¬ (cs = (0 : Int32)) := own_cs ecs hcw
  obtain ⟨fm, efm, rfm⟩ := isR_v (Cond.before_iff.mp (hsets _ (List.mem_of_getElem? (i := 8) rfl)))
  have Sfm := Sta.start efm (Or.inl (hsets _ (List.mem_of_getElem? (i := 7) rfl)))
  have hfm : fm.category = 1 := by rcases ref_cases rfm with rfl | ⟨_, rfl⟩ <;> rfl
  obtain ⟨hn1, hn⟩ := and_e hn
  obtain ⟨hn2, hn⟩ := and_e hn
  obtain ⟨hn3, hn⟩ := and_e hn
  obtain ⟨hn4, hn⟩ := and_e hn
  obtain ⟨hn5, hn⟩ := and_e hn
  obtain ⟨hn6, hn⟩ := and_e hn
  obtain ⟨de, evd, Ed⟩ := own_exS (Cond.before_iff.mpr hn1)
  have Fu := own_fldS evd (Cond.before_iff.mpr hn2)
  have Fm := own_fldS evd (Cond.before_iff.mpr hn3)
  obtain ⟨en, eve, Ee⟩ := own_exS (Cond.before_iff.mpr hn4)
  have Fp := own_fldS eve (Cond.before_iff.mpr hn5)
  have Fl := own_fldS eve (Cond.before_iff.mpr hn6)
  have Fe := own_fldS eve (Cond.before_iff.mpr hn)
  have Sdec := Sta.start evd (Or.inr ⟨(own_w hw 36 rfl), (own_w hw 52 rfl)⟩)
  have Senc := Sta.start eve (Or.inr ⟨(own_w hw 36 rfl), (own_w hw 113 rfl)⟩)
  obtain ⟨riso, evi, Xi⟩ := own_exS (hsets _ (List.mem_of_getElem? (i := 11) rfl))
  have Siso := Sta.start evi (Or.inl (hsets _ (List.mem_of_getElem? (i := 10) rfl)))
  obtain ⟨rutf, evu, Xu⟩ := own_exS (hsets _ (List.mem_of_getElem? (i := 14) rfl))
  have Sutf := Sta.start evu (Or.inl (hsets _ (List.mem_of_getElem? (i := 13) rfl)))
  have nci : riso ≠ rutf := ne_exa Xi Xu (by decide)
  obtain ⟨rdt, evt, -⟩ := own_exS (hsets _ (List.mem_of_getElem? (i := 18) rfl))
  have Sdt := Sta.start evt (Or.inl (hsets _ (List.mem_of_getElem? (i := 16) rfl)))
  obtain ⟨kdt, Vdt⟩ := own_tabS (L := own_decI) hfit evt (hsets _ (List.mem_of_getElem? (i := 17) rfl)) (hsets _ (List.mem_of_getElem? (i := 19) rfl)) (by decide) (by decide +kernel) (fun d hd => hsets d (List.mem_of_mem_drop (List.mem_of_mem_take (own_t1 ▸ hd))))
  obtain ⟨ret_, evt2, -⟩ := own_exS (hsets _ (List.mem_of_getElem? (i := 279) rfl))
  have Set := Sta.start evt2 (Or.inl (hsets _ (List.mem_of_getElem? (i := 277) rfl)))
  obtain ⟨ket, Vet⟩ := own_tabS (L := own_encI) hfit evt2 (hsets _ (List.mem_of_getElem? (i := 278) rfl)) (hsets _ (List.mem_of_getElem? (i := 280) rfl)) (by decide) (by decide +kernel) (fun d hd => hsets d (List.mem_of_mem_drop (List.mem_of_mem_take (own_t2 ▸ hd))))
  obtain ⟨n, o, h1, h2, h3, _, L, rfl, ⟨rfl, N⟩, hq⟩ := rm0 l s _ hw tables_1 i0 i1 fm cs riso rutf rdt kdt ret_ ket de en s.heap s.heap.size (Nat.le_refl _) (Old.start s) Scs hcs Sfm hfm Siso Sutf nci Sdt Vdt Set Vet Ed Fu Fm Ee Fp Fl Fe Sdec Senc hheld hcw p e ha hc hk s m _ below hf ((Spec.applies_iff_loose hf).mp happ).1 ⟨rfl, State.Warmed39.refl s, rfl, IB.start⟩ trivial
  exact ⟨n, _, h1, h2, h3, hpost _ _ _ _ _ _ ⟨Cond.after_iff.mpr rfl, Cond.after_iff.mpr (eq_i res_at (Term.int_eval (1)) rfl), trivial⟩ ⟨hq.1, hq.2.1, hq.2.2.1, (hq.2.2.2.sift fun y hy => Or.inr (N y hy)).mono (by decide) (by decide)⟩⟩
theorem main_1_1 : Claimed_1_1 := comes_1 fun _ _ _ _ _ _ h hF => ⟨h.1, hF⟩
theorem main_1_2 : Claimed_1_2 := comes_1 fun _ _ _ _ _ _ h hF => ⟨h.2.1, hF⟩
end Jvm.Pilot.@@N@@
namespace Jvm.Pilot.@@N@@
open Jvm Jvm.ClassFile Sem Op Lib Jvm.Free Jvm.Stand Jvm.Pilot.@@N@@.Jvm.D
/-! MADE BY PROGRAM (witnessworld.py) out of the Statement's table words and the real class files: 29 classes; the members and pool entries that the words name. The judged class is class 1, her method 2. -/
namespace start1
open Jvm.ClassFile
def u (s : String) : CpInfo := .utf8 (stringToUtf16 s)
/-- a pool by its gaps: so many unusable entries, then the entry; so many at the end -/
def gap : Nat → List CpInfo → List CpInfo
  | 0, r => r
  | n + 1, r => .unusable :: gap n r
def poolList (es : List (Nat × CpInfo)) (last : Nat) : List CpInfo := es.foldr (fun e r => gap e.1 (e.2 :: r)) (gap last [])
def pool (es : List (Nat × CpInfo)) (last : Nat) : Array CpInfo := ⟨poolList es last⟩
def fileOf (pool : Array CpInfo) (this : Nat) (attrs : Array Attribute := #[]) (ms : Array MethodInfo := #[]) (fl : Nat := 33) (sup : Nat := 0) (ifs : Array Nat := #[]) (fds : Array FieldInfo := #[]) : ClassFile where
  minorVersion := 0
  majorVersion := 65
  constantPool := pool
  accessFlags := fl
  thisClass := this
  superClass := sup
  interfaces := ifs
  fields := fds
  methods := ms
  attributes := attrs
def plain (name : String) (sup : Option ClassId) : Class where
  name := name
  kind := .ordinary
  loader := none
  accessFlags := 33
  super := sup
  interfaces := #[]
  cf := none
  fields := #[]
  methods := #[]
  instanceTypes := #[]
  staticTypes := #[]
  resolved := #[]
  callSites := []
  init := .initialized
  statics := none
  mirror := none

def pool0 : Array CpInfo := pool [(5, u "<init>"), (0, u "()V"), (1, .class_ 10), (1, u "java/lang/Object"), (85, u "clone"), (0, u "()Ljava/lang/Object;")] 26

def k0c0 : Code := { maxStack := 0, maxLocals := 1, code := object_method_1_code, exceptionTable := #[], attributes := #[] }
def k0m0 : Method := { name := "<init>", desc := "()V", sig := { parameters := [], returnType := none }, accessFlags := 1, code := some k0c0 }
def k0m1 : Method := { name := "clone", desc := "()Ljava/lang/Object;", sig := { parameters := [], returnType := some (.object "java/lang/Object") }, accessFlags := 260, code := none }
/-- java/lang/Object -/
def k0 : Class := { plain "java/lang/Object" none with
  accessFlags := 33
  interfaces := #[]
  cf := some (fileOf pool0 8 #[] #[{ accessFlags := 1, nameIndex := 5, descriptorIndex := 6, attributes := #[] }, { accessFlags := 260, nameIndex := 96, descriptorIndex := 97, attributes := #[] }] 33 0 #[] #[])
  fields := #[]
  methods := #[k0m0, k0m1]
  instanceTypes := #[]
  staticTypes := #[]
  resolved := Array.replicate 124 none
  statics := none }

def pool1 : Array CpInfo := pool [(2, .class_ 4), (1, u "java/lang/Object"), (0, u "<init>"), (0, u "()V"), (0, .methodref 8 9), (0, .class_ 10), (0, .nameAndType 11 12), (0, u "com/example/verified_health_identity/verifiedhealthidentity/jose/Base64urlDecode214PinLaw"), (0, u "alpha"), (0, u "(I)C"), (0, .class_ 14), (0, u "java/lang/String"), (0, .methodref 13 16), (0, .nameAndType 5 17), (0, u "([C)V"), (0, .methodref 19 20), (0, .class_ 21), (0, .nameAndType 22 23), (0, u "com/example/verified_health_identity/verifiedhealthidentity/jose/Base64url"), (0, u "decode"), (0, u "(Ljava/lang/String;I)[B"), (3, u "law"), (0, u "(II)Z")] 9

def k1m0 : Method := { name := "<init>", desc := "()V", sig := { parameters := [], returnType := none }, accessFlags := 2, code := none }
def k1c1 : Code := { maxStack := 3, maxLocals := 1, code := method_2_code, exceptionTable := #[], attributes := #[] }
def k1m1 : Method := { name := "alpha", desc := "(I)C", sig := { parameters := [.int], returnType := some .char }, accessFlags := 10, code := some k1c1 }
def k1c2 : Code := { maxStack := 4, maxLocals := 17, code := code, exceptionTable := #[], attributes := #[] }
def k1m2 : Method := { name := "law", desc := "(II)Z", sig := { parameters := [.int, .int], returnType := some .boolean }, accessFlags := 9, code := some k1c2 }
/-- com/example/verified_health_identity/verifiedhealthidentity/jose/Base64urlDecode214PinLaw -/
def k1 : Class := { plain "com/example/verified_health_identity/verifiedhealthidentity/jose/Base64urlDecode214PinLaw" (some 0) with
  accessFlags := 49
  interfaces := #[]
  cf := some (fileOf pool1 8 #[] #[{ accessFlags := 2, nameIndex := 5, descriptorIndex := 6, attributes := #[] }, { accessFlags := 10, nameIndex := 11, descriptorIndex := 12, attributes := #[] }, { accessFlags := 9, nameIndex := 27, descriptorIndex := 28, attributes := #[] }] 49 2 #[] #[])
  fields := #[]
  methods := #[k1m0, k1m1, k1m2]
  instanceTypes := #[]
  staticTypes := #[]
  resolved := Array.replicate 38 none
  statics := none }

def pool2 : Array CpInfo := pool [(1, .class_ 2), (0, u "java/io/Serializable"), (0, .class_ 4), (0, u "java/lang/Object")] 2

/-- java/io/Serializable -/
def k2 : Class := { plain "java/io/Serializable" (some 0) with
  accessFlags := 1537
  interfaces := #[]
  cf := some (fileOf pool2 1 #[] #[] 1537 3 #[] #[])
  fields := #[]
  methods := #[]
  instanceTypes := #[]
  staticTypes := #[]
  resolved := Array.replicate 7 none
  statics := none }

def pool3 : Array CpInfo := pool [(1, .class_ 2), (0, u "java/lang/Comparable"), (0, .class_ 4), (0, u "java/lang/Object")] 7

/-- java/lang/Comparable -/
def k3 : Class := { plain "java/lang/Comparable" (some 0) with
  accessFlags := 1537
  interfaces := #[]
  cf := some (fileOf pool3 1 #[] #[] 1537 3 #[] #[])
  fields := #[]
  methods := #[]
  instanceTypes := #[]
  staticTypes := #[]
  resolved := Array.replicate 12 none
  statics := none }

def pool4 : Array CpInfo := pool [(2, .class_ 4), (1, u "java/lang/CharSequence"), (42, .class_ 48), (0, u "java/lang/CharSequence$1CodePointIterator"), (10, .class_ 60), (0, u "java/lang/CharSequence$1CharIterator"), (5, .class_ 67), (0, u "java/lang/Object")] 63

/-- java/lang/CharSequence -/
def k4 : Class := { plain "java/lang/CharSequence" (some 0) with
  accessFlags := 1537
  interfaces := #[]
  cf := some (fileOf pool4 2 #[.nestMembers #[47, 59]] #[] 1537 66 #[] #[])
  fields := #[]
  methods := #[]
  instanceTypes := #[]
  staticTypes := #[]
  resolved := Array.replicate 131 none
  statics := none }

def pool5 : Array CpInfo := pool [(1, .class_ 2), (0, u "java/lang/constant/Constable"), (0, .class_ 4), (0, u "java/lang/Object")] 6

/-- java/lang/constant/Constable -/
def k5 : Class := { plain "java/lang/constant/Constable" (some 0) with
  accessFlags := 1537
  interfaces := #[]
  cf := some (fileOf pool5 1 #[] #[] 1537 3 #[] #[])
  fields := #[]
  methods := #[]
  instanceTypes := #[]
  staticTypes := #[]
  resolved := Array.replicate 11 none
  statics := none }

def pool6 : Array CpInfo := pool [(1, .class_ 2), (0, u "java/lang/constant/ConstantDesc"), (0, .class_ 4), (0, u "java/lang/Object")] 32

/-- java/lang/constant/ConstantDesc -/
def k6 : Class := { plain "java/lang/constant/ConstantDesc" (some 0) with
  accessFlags := 1537
  interfaces := #[]
  cf := some (fileOf pool6 1 #[] #[] 1537 3 #[] #[])
  fields := #[]
  methods := #[]
  instanceTypes := #[]
  staticTypes := #[]
  resolved := Array.replicate 37 none
  statics := none }

def pool7 : Array CpInfo := pool [(1, .methodref 2 3), (0, .class_ 4), (0, .nameAndType 5 6), (0, u "java/lang/Object"), (0, u "<init>"), (0, u "()V"), (0, .string 8), (0, u ""), (0, .fieldref 10 11), (0, .class_ 12), (0, .nameAndType 13 14), (0, u "java/lang/String"), (0, u "value"), (0, u "[B"), (0, .fieldref 10 16), (0, .nameAndType 17 18), (0, u "coder"), (0, u "B"), (2, u "hash"), (0, u "I"), (2, u "hashIsZero"), (0, u "Z"), (0, .methodref 10 28), (0, .nameAndType 5 29), (0, u "([CIILjava/lang/Void;)V"), (4, .methodref 10 35), (0, .nameAndType 36 37), (0, u "checkBoundsOffCount"), (0, u "(III)I"), (0, .fieldref 10 39), (0, .nameAndType 40 26), (0, u "COMPACT_STRINGS"), (1, .class_ 44), (1, u "java/lang/StringUTF16"), (0, u "compress"), (1, .methodref 42 48), (0, .nameAndType 49 50), (0, u "coderFromArrayLen"), (0, u "([BI)B"), (3, .methodref 55 56), (0, .class_ 57), (0, .nameAndType 58 59), (0, u "java/util/Arrays"), (0, u "copyOfRange"), (0, u "([BII)[B"), (10, u "([BIII)V"), (15, .fieldref 87 88), (0, .class_ 89), (0, .nameAndType 90 91), (0, u "sun/nio/cs/UTF_8"), (0, u "INSTANCE"), (0, u "Lsun/nio/cs/UTF_8;"), (15, .class_ 109), (1, u "java/lang/StringLatin1"), (6, .fieldref 117 118), (0, .class_ 119), (0, .nameAndType 90 120), (0, u "sun/nio/cs/ISO_8859_1"), (0, u "Lsun/nio/cs/ISO_8859_1;"), (56, .methodref 42 178), (0, .nameAndType 45 179), (0, u "([CII)[B"), (75, u "(B[BZ)[B"), (0, .methodref 10 257), (0, .nameAndType 258 259), (0, u "encode8859_1"), (0, u "(B[B)[B"), (19, .methodref 280 281), (0, .class_ 14), (0, .nameAndType 282 283), (0, u "clone"), (0, u "()Ljava/lang/Object;"), (33, u "encode"), (16, u "()I"), (0, .methodref 10 336), (0, .nameAndType 17 337), (0, u "()B"), (13, .methodref 10 352), (0, .nameAndType 258 255), (154, u "length"), (24, u "getBytes"), (2, .methodref 10 536), (0, .nameAndType 317 537), (0, u "(Ljava/nio/charset/Charset;B[B)[B"), (3, .methodref 107 542), (0, .nameAndType 543 544), (0, u "equals"), (0, u "([B[B)Z"), (28, u "(Ljava/lang/Object;)Z"), (1, .class_ 576), (0, u "java/lang/CharSequence"), (22, u "CASE_INSENSITIVE_ORDER"), (0, u "Ljava/util/Comparator;"), (409, u "([C)V"), (42, .fieldref 1054 1055), (0, .class_ 1056), (0, .nameAndType 1057 1058), (0, u "jdk/internal/util/Preconditions"), (0, u "SIOOBE_FORMATTER"), (0, u "Ljava/util/function/BiFunction;"), (5, u "(IIILjava/util/function/BiFunction;)I"), (0, .methodref 1054 1066), (0, .nameAndType 1067 1064), (0, u "checkFromIndexSize"), (33, u "serialPersistentFields"), (0, u "[Ljava/io/ObjectStreamField;"), (0, .class_ 1104), (0, u "java/lang/String$CaseInsensitiveComparator"), (1, .class_ 1107), (0, u "java/io/Serializable"), (0, .class_ 1109), (0, u "java/lang/Comparable"), (0, .class_ 1111), (0, u "java/lang/constant/Constable"), (0, .class_ 1113), (0, u "java/lang/constant/ConstantDesc"), (2, u "serialVersionUID"), (0, u "J"), (3, u "REPL"), (0, u "C"), (2, u "LATIN1"), (1, u "UTF16"), (117, u "(Ljava/nio/charset/Charset;)[B")] 205

def k7m0 : Method := { name := "<init>", desc := "()V", sig := { parameters := [], returnType := none }, accessFlags := 1, code := none }
def k7c1 : Code := { maxStack := 5, maxLocals := 2, code := jdk_42_method_3_code, exceptionTable := #[], attributes := #[] }
def k7m1 : Method := { name := "<init>", desc := "([C)V", sig := { parameters := [(.array .char)], returnType := none }, accessFlags := 1, code := some k7c1 }
def k7c2 : Code := { maxStack := 5, maxLocals := 7, code := jdk_42_method_7_code, exceptionTable := #[], attributes := #[] }
def k7m2 : Method := { name := "<init>", desc := "([BIII)V", sig := { parameters := [(.array .byte), .int, .int, .int], returnType := none }, accessFlags := 1, code := some k7c2 }
def k7c3 : Code := { maxStack := 4, maxLocals := 3, code := jdk_42_method_18_code, exceptionTable := #[], attributes := #[] }
def k7m3 : Method := { name := "encode", desc := "(Ljava/nio/charset/Charset;B[B)[B", sig := { parameters := [(.object "java/nio/charset/Charset"), .byte, (.array .byte)], returnType := some (.array .byte) }, accessFlags := 10, code := some k7c3 }
def k7c4 : Code := { maxStack := 3, maxLocals := 2, code := jdk_42_method_26_code, exceptionTable := #[], attributes := #[] }
def k7m4 : Method := { name := "encode8859_1", desc := "(B[B)[B", sig := { parameters := [.byte, (.array .byte)], returnType := some (.array .byte) }, accessFlags := 10, code := some k7c4 }
def k7c5 : Code := { maxStack := 5, maxLocals := 10, code := jdk_42_method_27_code, exceptionTable := #[], attributes := #[] }
def k7m5 : Method := { name := "encode8859_1", desc := "(B[BZ)[B", sig := { parameters := [.byte, (.array .byte), .boolean], returnType := some (.array .byte) }, accessFlags := 10, code := some k7c5 }
def k7c6 : Code := { maxStack := 2, maxLocals := 1, code := jdk_42_method_54_code, exceptionTable := #[], attributes := #[] }
def k7m6 : Method := { name := "length", desc := "()I", sig := { parameters := [], returnType := some .int }, accessFlags := 1, code := some k7c6 }
def k7c7 : Code := { maxStack := 3, maxLocals := 2, code := jdk_42_method_64_code, exceptionTable := #[], attributes := #[] }
def k7m7 : Method := { name := "getBytes", desc := "(Ljava/nio/charset/Charset;)[B", sig := { parameters := [(.object "java/nio/charset/Charset")], returnType := some (.array .byte) }, accessFlags := 1, code := some k7c7 }
def k7c8 : Code := { maxStack := 2, maxLocals := 3, code := jdk_42_method_66_code, exceptionTable := #[], attributes := #[] }
def k7m8 : Method := { name := "equals", desc := "(Ljava/lang/Object;)Z", sig := { parameters := [(.object "java/lang/Object")], returnType := some .boolean }, accessFlags := 1, code := some k7c8 }
def k7c9 : Code := { maxStack := 4, maxLocals := 6, code := jdk_42_method_149_code, exceptionTable := #[], attributes := #[] }
def k7m9 : Method := { name := "<init>", desc := "([CIILjava/lang/Void;)V", sig := { parameters := [(.array .char), .int, .int, (.object "java/lang/Void")], returnType := none }, accessFlags := 2, code := some k7c9 }
def k7c10 : Code := { maxStack := 1, maxLocals := 1, code := jdk_42_method_152_code, exceptionTable := #[], attributes := #[] }
def k7m10 : Method := { name := "coder", desc := "()B", sig := { parameters := [], returnType := some .byte }, accessFlags := 0, code := some k7c10 }
def k7c11 : Code := { maxStack := 4, maxLocals := 3, code := jdk_42_method_157_code, exceptionTable := #[], attributes := #[] }
def k7m11 : Method := { name := "checkBoundsOffCount", desc := "(III)I", sig := { parameters := [.int, .int, .int], returnType := some .int }, accessFlags := 8, code := some k7c11 }
/-- java/lang/String -/
def k7 : Class := { plain "java/lang/String" (some 0) with
  accessFlags := 49
  interfaces := #[2, 3, 4, 5, 6]
  cf := some (fileOf pool7 10 #[.nestMembers #[1103]] #[{ accessFlags := 1, nameIndex := 5, descriptorIndex := 6, attributes := #[] }, { accessFlags := 1, nameIndex := 5, descriptorIndex := 1010, attributes := #[] }, { accessFlags := 1, nameIndex := 5, descriptorIndex := 70, attributes := #[] }, { accessFlags := 10, nameIndex := 317, descriptorIndex := 537, attributes := #[] }, { accessFlags := 10, nameIndex := 258, descriptorIndex := 259, attributes := #[] }, { accessFlags := 10, nameIndex := 258, descriptorIndex := 255, attributes := #[] }, { accessFlags := 1, nameIndex := 507, descriptorIndex := 334, attributes := #[] }, { accessFlags := 1, nameIndex := 532, descriptorIndex := 1245, attributes := #[] }, { accessFlags := 1, nameIndex := 543, descriptorIndex := 573, attributes := #[] }, { accessFlags := 2, nameIndex := 5, descriptorIndex := 29, attributes := #[] }, { accessFlags := 0, nameIndex := 17, descriptorIndex := 337, attributes := #[] }, { accessFlags := 8, nameIndex := 36, descriptorIndex := 37, attributes := #[] }] 49 2 #[1106, 1108, 575, 1110, 1112] #[{ accessFlags := 18, nameIndex := 13, descriptorIndex := 14, attributes := #[] }, { accessFlags := 18, nameIndex := 17, descriptorIndex := 18, attributes := #[] }, { accessFlags := 2, nameIndex := 21, descriptorIndex := 22, attributes := #[] }, { accessFlags := 2, nameIndex := 25, descriptorIndex := 26, attributes := #[] }, { accessFlags := 26, nameIndex := 1116, descriptorIndex := 1117, attributes := #[] }, { accessFlags := 24, nameIndex := 40, descriptorIndex := 26, attributes := #[] }, { accessFlags := 26, nameIndex := 1101, descriptorIndex := 1102, attributes := #[] }, { accessFlags := 26, nameIndex := 1121, descriptorIndex := 1122, attributes := #[] }, { accessFlags := 25, nameIndex := 599, descriptorIndex := 600, attributes := #[] }, { accessFlags := 24, nameIndex := 1125, descriptorIndex := 18, attributes := #[] }, { accessFlags := 24, nameIndex := 1127, descriptorIndex := 18, attributes := #[] }])
  fields := #[{ name := "value", type := (.array .byte), accessFlags := 18, slot := 0, constantValue := 0 }, { name := "coder", type := .byte, accessFlags := 18, slot := 1, constantValue := 0 }, { name := "hash", type := .int, accessFlags := 2, slot := 2, constantValue := 0 }, { name := "hashIsZero", type := .boolean, accessFlags := 2, slot := 3, constantValue := 0 }, { name := "serialVersionUID", type := .long, accessFlags := 26, slot := 0, constantValue := 0 }, { name := "COMPACT_STRINGS", type := .boolean, accessFlags := 24, slot := 1, constantValue := 0 }, { name := "serialPersistentFields", type := (.array (.object "java/io/ObjectStreamField")), accessFlags := 26, slot := 2, constantValue := 0 }, { name := "REPL", type := .char, accessFlags := 26, slot := 3, constantValue := 0 }, { name := "CASE_INSENSITIVE_ORDER", type := (.object "java/util/Comparator"), accessFlags := 25, slot := 4, constantValue := 0 }, { name := "LATIN1", type := .byte, accessFlags := 24, slot := 5, constantValue := 0 }, { name := "UTF16", type := .byte, accessFlags := 24, slot := 6, constantValue := 0 }]
  methods := #[k7m0, k7m1, k7m2, k7m3, k7m4, k7m5, k7m6, k7m7, k7m8, k7m9, k7m10, k7m11]
  instanceTypes := #[(.array .byte), .byte, .int, .boolean]
  staticTypes := #[.long, .boolean, (.array (.object "java/io/ObjectStreamField")), .char, (.object "java/util/Comparator"), .byte, .byte]
  resolved := Array.replicate 1451 none
  statics := some 0 }

def pool8 : Array CpInfo := pool [(6, .class_ 8), (1, u "java/lang/Object"), (0, u "<init>"), (0, u "()V"), (1, .class_ 14), (1, u "java/lang/StringUTF16"), (31, u "$assertionsDisabled"), (0, u "Z"), (13, u "HI_BYTE_SHIFT"), (0, u "I"), (2, u "LO_BYTE_SHIFT"), (49, .methodref 12 116), (0, .nameAndType 117 118), (0, u "compress"), (0, u "([CI[BII)I"), (3, u "([CII)[B"), (138, u "coderFromArrayLen"), (0, u "([BI)B"), (106, .class_ 371), (1, u "java/lang/StringUTF16$LinesSpliterator"), (58, u "MAX_LENGTH"), (196, .class_ 628), (0, u "java/lang/StringUTF16$CodePointsSpliterator"), (0, .class_ 630), (0, u "java/lang/StringUTF16$CharsSpliterator")] 4

def k8m0 : Method := { name := "<init>", desc := "()V", sig := { parameters := [], returnType := none }, accessFlags := 0, code := none }
def k8c1 : Code := { maxStack := 2, maxLocals := 2, code := jdk_52_method_15_code, exceptionTable := #[], attributes := #[] }
def k8m1 : Method := { name := "coderFromArrayLen", desc := "([BI)B", sig := { parameters := [(.array .byte), .int], returnType := some .byte }, accessFlags := 8, code := some k8c1 }
def k8c2 : Code := { maxStack := 5, maxLocals := 6, code := jdk_52_method_16_code, exceptionTable := #[], attributes := #[] }
def k8m2 : Method := { name := "compress", desc := "([CII)[B", sig := { parameters := [(.array .char), .int, .int], returnType := some (.array .byte) }, accessFlags := 9, code := some k8c2 }
def k8c3 : Code := { maxStack := 3, maxLocals := 7, code := jdk_52_method_21_code, exceptionTable := #[], attributes := #[] }
def k8m3 : Method := { name := "compress", desc := "([CI[BII)I", sig := { parameters := [(.array .char), .int, (.array .byte), .int, .int], returnType := some .int }, accessFlags := 9, code := some k8c3 }
/-- java/lang/StringUTF16 -/
def k8 : Class := { plain "java/lang/StringUTF16" (some 0) with
  accessFlags := 48
  interfaces := #[]
  cf := some (fileOf pool8 12 #[.nestMembers #[627, 629, 369]] #[{ accessFlags := 0, nameIndex := 9, descriptorIndex := 10, attributes := #[] }, { accessFlags := 8, nameIndex := 261, descriptorIndex := 262, attributes := #[] }, { accessFlags := 9, nameIndex := 117, descriptorIndex := 122, attributes := #[] }, { accessFlags := 9, nameIndex := 117, descriptorIndex := 118, attributes := #[] }] 48 6 #[] #[{ accessFlags := 26, nameIndex := 61, descriptorIndex := 62, attributes := #[] }, { accessFlags := 26, nameIndex := 65, descriptorIndex := 62, attributes := #[] }, { accessFlags := 24, nameIndex := 430, descriptorIndex := 62, attributes := #[] }, { accessFlags := 4120, nameIndex := 46, descriptorIndex := 47, attributes := #[] }])
  fields := #[{ name := "HI_BYTE_SHIFT", type := .int, accessFlags := 26, slot := 0, constantValue := 0 }, { name := "LO_BYTE_SHIFT", type := .int, accessFlags := 26, slot := 1, constantValue := 0 }, { name := "MAX_LENGTH", type := .int, accessFlags := 24, slot := 2, constantValue := 0 }, { name := "$assertionsDisabled", type := .boolean, accessFlags := 4120, slot := 3, constantValue := 0 }]
  methods := #[k8m0, k8m1, k8m2, k8m3]
  instanceTypes := #[]
  staticTypes := #[.int, .int, .int, .boolean]
  resolved := Array.replicate 635 none
  statics := none }

def pool9 : Array CpInfo := pool [(2, .class_ 4), (1, u "java/lang/Object"), (0, u "<init>"), (0, u "()V"), (0, .fieldref 8 9), (0, .class_ 10), (0, .nameAndType 11 12), (0, u "com/example/verified_health_identity/verifiedhealthidentity/jose/Base64url"), (0, u "ENCODER"), (0, u "Ljava/util/Base64$Encoder;"), (0, .methodref 14 15), (0, .class_ 16), (0, .nameAndType 17 18), (0, u "java/util/Base64$Encoder"), (0, u "encodeToString"), (0, u "([B)Ljava/lang/String;"), (0, .fieldref 8 20), (0, .nameAndType 21 22), (0, u "DECODER"), (0, u "Ljava/util/Base64$Decoder;"), (0, .methodref 24 25), (0, .class_ 26), (0, .nameAndType 27 28), (0, u "java/util/Base64$Decoder"), (0, u "decode"), (0, u "(Ljava/lang/String;)[B"), (9, .methodref 8 39), (0, .nameAndType 40 18), (0, u "encode"), (0, .methodref 42 43), (0, .class_ 44), (0, .nameAndType 45 46), (0, u "java/lang/String"), (0, u "equals"), (0, u "(Ljava/lang/Object;)Z"), (3, .methodref 42 51), (0, .nameAndType 52 53), (0, u "length"), (0, u "()I"), (4, .methodref 8 25), (13, u "NOT_BASE64URL"), (0, u "Ljava/lang/String;"), (7, u "(Ljava/lang/String;I)[B")] 22

def k9m0 : Method := { name := "<init>", desc := "()V", sig := { parameters := [], returnType := none }, accessFlags := 2, code := none }
def k9c1 : Code := { maxStack := 2, maxLocals := 1, code := prog_16_method_2_code, exceptionTable := #[], attributes := #[] }
def k9m1 : Method := { name := "encode", desc := "([B)Ljava/lang/String;", sig := { parameters := [(.array .byte)], returnType := some (.object "java/lang/String") }, accessFlags := 8, code := some k9c1 }
def k9c2 : Code := { maxStack := 4, maxLocals := 3, code := prog_16_method_3_code, exceptionTable := #[{ startPc := 0, endPc := 8, handlerPc := 11, catchType := 29 }], attributes := #[] }
def k9m2 : Method := { name := "decode", desc := "(Ljava/lang/String;)[B", sig := { parameters := [(.object "java/lang/String")], returnType := some (.array .byte) }, accessFlags := 9, code := some k9c2 }
def k9c3 : Code := { maxStack := 3, maxLocals := 2, code := prog_16_method_4_code, exceptionTable := #[], attributes := #[] }
def k9m3 : Method := { name := "decode", desc := "(Ljava/lang/String;I)[B", sig := { parameters := [(.object "java/lang/String"), .int], returnType := some (.array .byte) }, accessFlags := 9, code := some k9c3 }
/-- com/example/verified_health_identity/verifiedhealthidentity/jose/Base64url -/
def k9 : Class := { plain "com/example/verified_health_identity/verifiedhealthidentity/jose/Base64url" (some 0) with
  accessFlags := 49
  interfaces := #[]
  cf := some (fileOf pool9 8 #[] #[{ accessFlags := 2, nameIndex := 5, descriptorIndex := 6, attributes := #[] }, { accessFlags := 8, nameIndex := 40, descriptorIndex := 18, attributes := #[] }, { accessFlags := 9, nameIndex := 27, descriptorIndex := 28, attributes := #[] }, { accessFlags := 9, nameIndex := 27, descriptorIndex := 81, attributes := #[] }] 49 2 #[] #[{ accessFlags := 26, nameIndex := 11, descriptorIndex := 12, attributes := #[] }, { accessFlags := 26, nameIndex := 21, descriptorIndex := 22, attributes := #[] }, { accessFlags := 26, nameIndex := 72, descriptorIndex := 73, attributes := #[] }])
  fields := #[{ name := "ENCODER", type := (.object "java/util/Base64$Encoder"), accessFlags := 26, slot := 0, constantValue := 0 }, { name := "DECODER", type := (.object "java/util/Base64$Decoder"), accessFlags := 26, slot := 1, constantValue := 0 }, { name := "NOT_BASE64URL", type := (.object "java/lang/String"), accessFlags := 26, slot := 2, constantValue := 0 }]
  methods := #[k9m0, k9m1, k9m2, k9m3]
  instanceTypes := #[]
  staticTypes := #[(.object "java/util/Base64$Encoder"), (.object "java/util/Base64$Decoder"), (.object "java/lang/String")]
  resolved := Array.replicate 104 none
  statics := some 1 }

def pool10 : Array CpInfo := pool [(2, .class_ 4), (1, u "java/lang/Object"), (2, .fieldref 8 9), (0, .class_ 10), (0, .nameAndType 11 12), (0, u "java/util/Base64$Decoder"), (0, u "isURL"), (0, u "Z"), (0, .fieldref 8 14), (0, .nameAndType 15 12), (0, u "isMIME"), (0, .methodref 8 17), (0, .nameAndType 18 19), (0, u "decodedOutLength"), (0, u "([BII)I"), (0, .methodref 8 21), (0, .nameAndType 22 23), (0, u "decode0"), (0, u "([BII[B)I"), (6, .fieldref 31 32), (0, .class_ 33), (0, .nameAndType 34 35), (0, u "sun/nio/cs/ISO_8859_1"), (0, u "INSTANCE"), (0, u "Lsun/nio/cs/ISO_8859_1;"), (0, .methodref 37 38), (0, .class_ 39), (0, .nameAndType 40 41), (0, u "java/lang/String"), (0, u "getBytes"), (0, u "(Ljava/nio/charset/Charset;)[B"), (0, .methodref 8 43), (0, .nameAndType 44 45), (0, u "decode"), (0, u "([B)[B"), (49, .fieldref 8 96), (0, .nameAndType 97 98), (0, u "fromBase64URL"), (0, u "[I"), (2, u "fromBase64"), (5, .long 3), (1, .long 4), (50, u "RFC4648"), (0, u "Ljava/util/Base64$Decoder;"), (2, u "RFC4648_URLSAFE"), (2, u "RFC2045"), (11, u "(Ljava/lang/String;)[B"), (40, .class_ 221), (0, u "java/util/Base64")] 4

def k10c0 : Code := { maxStack := 5, maxLocals := 4, code := jdk_2450_method_2_code, exceptionTable := #[], attributes := #[] }
def k10m0 : Method := { name := "decode", desc := "([B)[B", sig := { parameters := [(.array .byte)], returnType := some (.array .byte) }, accessFlags := 1, code := some k10c0 }
def k10c1 : Code := { maxStack := 3, maxLocals := 2, code := jdk_2450_method_3_code, exceptionTable := #[], attributes := #[] }
def k10m1 : Method := { name := "decode", desc := "(Ljava/lang/String;)[B", sig := { parameters := [(.object "java/lang/String")], returnType := some (.array .byte) }, accessFlags := 1, code := some k10c1 }
def k10c2 : Code := { maxStack := 5, maxLocals := 9, code := jdk_2450_method_7_code, exceptionTable := #[], attributes := #[] }
def k10m2 : Method := { name := "decodedOutLength", desc := "([BII)I", sig := { parameters := [(.array .byte), .int, .int], returnType := some .int }, accessFlags := 2, code := some k10c2 }
def k10c3 : Code := { maxStack := 8, maxLocals := 11, code := jdk_2450_method_9_code, exceptionTable := #[], attributes := #[] }
def k10m3 : Method := { name := "decode0", desc := "([BII[B)I", sig := { parameters := [(.array .byte), .int, .int, (.array .byte)], returnType := some .int }, accessFlags := 2, code := some k10c3 }
/-- java/util/Base64$Decoder -/
def k10 : Class := { plain "java/util/Base64$Decoder" (some 0) with
  accessFlags := 33
  interfaces := #[]
  cf := some (fileOf pool10 8 #[.nestHost 220] #[{ accessFlags := 1, nameIndex := 44, descriptorIndex := 45, attributes := #[] }, { accessFlags := 1, nameIndex := 44, descriptorIndex := 179, attributes := #[] }, { accessFlags := 2, nameIndex := 18, descriptorIndex := 19, attributes := #[] }, { accessFlags := 2, nameIndex := 22, descriptorIndex := 23, attributes := #[] }] 33 2 #[] #[{ accessFlags := 18, nameIndex := 11, descriptorIndex := 12, attributes := #[] }, { accessFlags := 18, nameIndex := 15, descriptorIndex := 12, attributes := #[] }, { accessFlags := 26, nameIndex := 101, descriptorIndex := 98, attributes := #[] }, { accessFlags := 26, nameIndex := 97, descriptorIndex := 98, attributes := #[] }, { accessFlags := 24, nameIndex := 160, descriptorIndex := 161, attributes := #[] }, { accessFlags := 24, nameIndex := 164, descriptorIndex := 161, attributes := #[] }, { accessFlags := 24, nameIndex := 167, descriptorIndex := 161, attributes := #[] }])
  fields := #[{ name := "isURL", type := .boolean, accessFlags := 18, slot := 0, constantValue := 0 }, { name := "isMIME", type := .boolean, accessFlags := 18, slot := 1, constantValue := 0 }, { name := "fromBase64", type := (.array .int), accessFlags := 26, slot := 0, constantValue := 0 }, { name := "fromBase64URL", type := (.array .int), accessFlags := 26, slot := 1, constantValue := 0 }, { name := "RFC4648", type := (.object "java/util/Base64$Decoder"), accessFlags := 24, slot := 2, constantValue := 0 }, { name := "RFC4648_URLSAFE", type := (.object "java/util/Base64$Decoder"), accessFlags := 24, slot := 3, constantValue := 0 }, { name := "RFC2045", type := (.object "java/util/Base64$Decoder"), accessFlags := 24, slot := 4, constantValue := 0 }]
  methods := #[k10m0, k10m1, k10m2, k10m3]
  instanceTypes := #[.boolean, .boolean]
  staticTypes := #[(.array .int), (.array .int), (.object "java/util/Base64$Decoder"), (.object "java/util/Base64$Decoder"), (.object "java/util/Base64$Decoder")]
  resolved := Array.replicate 226 none
  statics := some 2 }

def pool11 : Array CpInfo := pool [(18, .class_ 20), (1, u "java/nio/charset/Charset"), (0, u "cache1"), (0, u "[Ljava/lang/Object;"), (2, u "cache2"), (0, .class_ 27), (0, u "java/lang/Object"), (0, .class_ 29), (0, u "java/nio/charset/Charset$1"), (4, .class_ 36), (1, u "java/nio/charset/Charset$ThreadTrackHolder"), (21, .class_ 59), (0, u "java/nio/charset/Charset$2"), (11, .class_ 73), (1, u "java/nio/charset/Charset$ExtendedProviderHolder"), (22, u "standardProvider"), (0, u "Ljava/nio/charset/spi/CharsetProvider;"), (29, u "name"), (7, .class_ 136), (0, u "java/nio/charset/Charset$3"), (5, u "defaultCharset"), (0, u "Ljava/nio/charset/Charset;"), (14, u "zeroAliases"), (0, u "[Ljava/lang/String;"), (29, u "Ljava/lang/String;"), (2, u "aliases"), (2, u "aliasSet"), (0, u "Ljava/util/Set;"), (82, .class_ 280), (0, u "java/lang/Comparable"), (84, .class_ 366), (0, u "java/nio/charset/Charset$ExtendedProviderHolder$1")] 3

/-- java/nio/charset/Charset -/
def k11 : Class := { plain "java/nio/charset/Charset" (some 0) with
  accessFlags := 1057
  interfaces := #[3]
  cf := some (fileOf pool11 18 #[.nestMembers #[71, 365, 34, 135, 58, 28]] #[] 1057 26 #[279] #[{ accessFlags := 26, nameIndex := 96, descriptorIndex := 97, attributes := #[] }, { accessFlags := 26, nameIndex := 158, descriptorIndex := 159, attributes := #[] }, { accessFlags := 74, nameIndex := 21, descriptorIndex := 22, attributes := #[] }, { accessFlags := 74, nameIndex := 25, descriptorIndex := 22, attributes := #[] }, { accessFlags := 10, nameIndex := 142, descriptorIndex := 143, attributes := #[] }, { accessFlags := 18, nameIndex := 127, descriptorIndex := 189, attributes := #[] }, { accessFlags := 18, nameIndex := 192, descriptorIndex := 159, attributes := #[] }, { accessFlags := 2, nameIndex := 195, descriptorIndex := 196, attributes := #[] }])
  fields := #[{ name := "standardProvider", type := (.object "java/nio/charset/spi/CharsetProvider"), accessFlags := 26, slot := 0, constantValue := 0 }, { name := "zeroAliases", type := (.array (.object "java/lang/String")), accessFlags := 26, slot := 1, constantValue := 0 }, { name := "cache1", type := (.array (.object "java/lang/Object")), accessFlags := 74, slot := 2, constantValue := 0 }, { name := "cache2", type := (.array (.object "java/lang/Object")), accessFlags := 74, slot := 3, constantValue := 0 }, { name := "defaultCharset", type := (.object "java/nio/charset/Charset"), accessFlags := 10, slot := 4, constantValue := 0 }, { name := "name", type := (.object "java/lang/String"), accessFlags := 18, slot := 0, constantValue := 0 }, { name := "aliases", type := (.array (.object "java/lang/String")), accessFlags := 18, slot := 1, constantValue := 0 }, { name := "aliasSet", type := (.object "java/util/Set"), accessFlags := 2, slot := 2, constantValue := 0 }]
  methods := #[]
  instanceTypes := #[(.object "java/lang/String"), (.array (.object "java/lang/String")), (.object "java/util/Set")]
  staticTypes := #[(.object "java/nio/charset/spi/CharsetProvider"), (.array (.object "java/lang/String")), (.array (.object "java/lang/Object")), (.array (.object "java/lang/Object")), (.object "java/nio/charset/Charset")]
  resolved := Array.replicate 370 none
  statics := none }

def pool12 : Array CpInfo := pool [(1, .class_ 2), (0, u "sun/nio/cs/HistoricallyNamedCharset"), (0, .class_ 4), (0, u "java/lang/Object")] 4

/-- sun/nio/cs/HistoricallyNamedCharset -/
def k12 : Class := { plain "sun/nio/cs/HistoricallyNamedCharset" (some 0) with
  accessFlags := 1537
  interfaces := #[]
  cf := some (fileOf pool12 1 #[] #[] 1537 3 #[] #[])
  fields := #[]
  methods := #[]
  instanceTypes := #[]
  staticTypes := #[]
  resolved := Array.replicate 9 none
  statics := none }

def pool13 : Array CpInfo := pool [(10, .class_ 12), (1, u "java/nio/charset/Charset"), (0, u "<init>"), (5, .class_ 20), (0, u "sun/nio/cs/ISO_8859_1"), (0, .class_ 22), (0, u "sun/nio/cs/ISO_8859_1$Decoder"), (3, .class_ 27), (0, u "sun/nio/cs/ISO_8859_1$Encoder"), (3, u "()V"), (2, u "INSTANCE"), (0, u "Lsun/nio/cs/ISO_8859_1;"), (0, .class_ 37), (0, u "sun/nio/cs/HistoricallyNamedCharset")] 22

def k13m0 : Method := { name := "<init>", desc := "()V", sig := { parameters := [], returnType := none }, accessFlags := 1, code := none }
/-- sun/nio/cs/ISO_8859_1 -/
def k13 : Class := { plain "sun/nio/cs/ISO_8859_1" (some 11) with
  accessFlags := 33
  interfaces := #[12]
  cf := some (fileOf pool13 19 #[.nestMembers #[26, 21]] #[{ accessFlags := 1, nameIndex := 13, descriptorIndex := 31, attributes := #[] }] 33 10 #[36] #[{ accessFlags := 25, nameIndex := 34, descriptorIndex := 35, attributes := #[] }])
  fields := #[{ name := "INSTANCE", type := (.object "sun/nio/cs/ISO_8859_1"), accessFlags := 25, slot := 0, constantValue := 0 }]
  methods := #[k13m0]
  instanceTypes := #[(.object "java/lang/String"), (.array (.object "java/lang/String")), (.object "java/util/Set")]
  staticTypes := #[(.object "sun/nio/cs/ISO_8859_1")]
  resolved := Array.replicate 60 none
  statics := some 3 }

def pool14 : Array CpInfo := pool [(2, .class_ 4), (1, u "java/nio/charset/Charset"), (130, .class_ 136), (0, u "sun/nio/cs/Unicode"), (0, .class_ 138), (0, u "sun/nio/cs/HistoricallyNamedCharset")] 15

/-- sun/nio/cs/Unicode -/
def k14 : Class := { plain "sun/nio/cs/Unicode" (some 11) with
  accessFlags := 1056
  interfaces := #[12]
  cf := some (fileOf pool14 135 #[] #[] 1056 2 #[137] #[])
  fields := #[]
  methods := #[]
  instanceTypes := #[(.object "java/lang/String"), (.array (.object "java/lang/String")), (.object "java/util/Set")]
  staticTypes := #[]
  resolved := Array.replicate 154 none
  statics := none }

def pool15 : Array CpInfo := pool [(10, .class_ 12), (1, u "sun/nio/cs/Unicode"), (0, u "<init>"), (3, .class_ 18), (0, u "sun/nio/cs/UTF_8$Decoder"), (3, .class_ 23), (0, u "sun/nio/cs/UTF_8$Encoder"), (15, .class_ 40), (0, u "sun/nio/cs/UTF_8"), (2, u "()V"), (2, u "INSTANCE"), (0, u "Lsun/nio/cs/UTF_8;"), (8, u "JLA"), (0, u "Ljdk/internal/access/JavaLangAccess;")] 26

def k15m0 : Method := { name := "<init>", desc := "()V", sig := { parameters := [], returnType := none }, accessFlags := 1, code := none }
/-- sun/nio/cs/UTF_8 -/
def k15 : Class := { plain "sun/nio/cs/UTF_8" (some 14) with
  accessFlags := 49
  interfaces := #[]
  cf := some (fileOf pool15 39 #[.nestMembers #[22, 17]] #[{ accessFlags := 1, nameIndex := 13, descriptorIndex := 43, attributes := #[] }] 49 10 #[] #[{ accessFlags := 25, nameIndex := 46, descriptorIndex := 47, attributes := #[] }, { accessFlags := 26, nameIndex := 56, descriptorIndex := 57, attributes := #[] }])
  fields := #[{ name := "INSTANCE", type := (.object "sun/nio/cs/UTF_8"), accessFlags := 25, slot := 0, constantValue := 0 }, { name := "JLA", type := (.object "jdk/internal/access/JavaLangAccess"), accessFlags := 26, slot := 1, constantValue := 0 }]
  methods := #[k15m0]
  instanceTypes := #[(.object "java/lang/String"), (.array (.object "java/lang/String")), (.object "java/util/Set")]
  staticTypes := #[(.object "sun/nio/cs/UTF_8"), (.object "jdk/internal/access/JavaLangAccess")]
  resolved := Array.replicate 84 none
  statics := some 4 }

def pool16 : Array CpInfo := pool [(1, .class_ 2), (0, u "java/lang/Cloneable"), (0, .class_ 4), (0, u "java/lang/Object")] 2

/-- java/lang/Cloneable -/
def k16 : Class := { plain "java/lang/Cloneable" (some 0) with
  accessFlags := 1537
  interfaces := #[]
  cf := some (fileOf pool16 1 #[] #[] 1537 3 #[] #[])
  fields := #[]
  methods := #[]
  instanceTypes := #[]
  staticTypes := #[]
  resolved := Array.replicate 7 none
  statics := none }

def pool17 : Array CpInfo := pool [(2, .class_ 4), (1, u "java/lang/Object"), (0, u "<init>"), (1, .fieldref 8 9), (0, .class_ 10), (0, .nameAndType 11 12), (0, u "java/util/Base64$Encoder"), (0, u "isURL"), (0, u "Z"), (2, u "newline"), (0, u "[B"), (0, .fieldref 8 18), (0, .nameAndType 19 20), (0, u "linemax"), (0, u "I"), (0, .fieldref 8 22), (0, .nameAndType 23 12), (0, u "doPadding"), (0, .methodref 25 26), (0, .class_ 27), (0, .nameAndType 28 29), (0, u "java/lang/Math"), (0, u "addExact"), (0, u "(II)I"), (0, .methodref 25 31), (0, .nameAndType 32 29), (0, u "multiplyExact"), (9, .methodref 8 43), (0, .nameAndType 44 45), (0, u "encodedOutLength"), (0, u "(IZ)I"), (0, .methodref 8 47), (0, .nameAndType 48 49), (0, u "encode0"), (0, u "([BII[B)I"), (11, .methodref 8 62), (0, .nameAndType 63 64), (0, u "encode"), (0, u "([B)[B"), (0, .class_ 66), (0, u "java/lang/String"), (0, .methodref 65 68), (0, .nameAndType 5 69), (0, u "([BIII)V"), (41, .fieldref 8 112), (0, .nameAndType 113 114), (0, u "toBase64URL"), (0, u "[C"), (2, u "toBase64"), (6, .methodref 25 125), (0, .nameAndType 126 29), (0, u "min"), (0, .methodref 8 128), (0, .nameAndType 129 130), (0, u "encodeBlock"), (0, u "([BII[BIZ)V"), (2, u "CRLF"), (2, u "RFC4648"), (0, u "Ljava/util/Base64$Encoder;"), (2, u "RFC4648_URLSAFE"), (2, u "RFC2045"), (0, u "MIMELINEMAX"), (18, u "encodeToString"), (0, u "([B)Ljava/lang/String;"), (34, .class_ 200), (0, u "java/util/Base64")] 3

def k17c0 : Code := { maxStack := 3, maxLocals := 5, code := jdk_2452_method_2_code, exceptionTable := #[{ startPc := 2, endPc := 79, handlerPc := 82, catchType := 33 }], attributes := #[] }
def k17m0 : Method := { name := "encodedOutLength", desc := "(IZ)I", sig := { parameters := [.int, .boolean], returnType := some .int }, accessFlags := 18, code := some k17c0 }
def k17c1 : Code := { maxStack := 5, maxLocals := 5, code := jdk_2452_method_3_code, exceptionTable := #[], attributes := #[] }
def k17m1 : Method := { name := "encode", desc := "([B)[B", sig := { parameters := [(.array .byte)], returnType := some (.array .byte) }, accessFlags := 1, code := some k17c1 }
def k17c2 : Code := { maxStack := 6, maxLocals := 3, code := jdk_2452_method_5_code, exceptionTable := #[], attributes := #[] }
def k17m2 : Method := { name := "encodeToString", desc := "([B)Ljava/lang/String;", sig := { parameters := [(.array .byte)], returnType := some (.object "java/lang/String") }, accessFlags := 1, code := some k17c2 }
def k17c3 : Code := { maxStack := 5, maxLocals := 11, code := jdk_2452_method_9_code, exceptionTable := #[], attributes := #[] }
def k17m3 : Method := { name := "encodeBlock", desc := "([BII[BIZ)V", sig := { parameters := [(.array .byte), .int, .int, (.array .byte), .int, .boolean], returnType := none }, accessFlags := 2, code := some k17c3 }
def k17c4 : Code := { maxStack := 7, maxLocals := 16, code := jdk_2452_method_10_code, exceptionTable := #[], attributes := #[] }
def k17m4 : Method := { name := "encode0", desc := "([BII[B)I", sig := { parameters := [(.array .byte), .int, .int, (.array .byte)], returnType := some .int }, accessFlags := 2, code := some k17c4 }
/-- java/util/Base64$Encoder -/
def k17 : Class := { plain "java/util/Base64$Encoder" (some 0) with
  accessFlags := 33
  interfaces := #[]
  cf := some (fileOf pool17 8 #[.nestHost 199] #[{ accessFlags := 18, nameIndex := 44, descriptorIndex := 45, attributes := #[] }, { accessFlags := 1, nameIndex := 63, descriptorIndex := 64, attributes := #[] }, { accessFlags := 1, nameIndex := 163, descriptorIndex := 164, attributes := #[] }, { accessFlags := 2, nameIndex := 129, descriptorIndex := 130, attributes := #[] }, { accessFlags := 2, nameIndex := 48, descriptorIndex := 49, attributes := #[] }] 33 2 #[] #[{ accessFlags := 18, nameIndex := 15, descriptorIndex := 16, attributes := #[] }, { accessFlags := 18, nameIndex := 19, descriptorIndex := 20, attributes := #[] }, { accessFlags := 18, nameIndex := 11, descriptorIndex := 12, attributes := #[] }, { accessFlags := 18, nameIndex := 23, descriptorIndex := 12, attributes := #[] }, { accessFlags := 26, nameIndex := 117, descriptorIndex := 114, attributes := #[] }, { accessFlags := 26, nameIndex := 113, descriptorIndex := 114, attributes := #[] }, { accessFlags := 26, nameIndex := 144, descriptorIndex := 20, attributes := #[] }, { accessFlags := 26, nameIndex := 133, descriptorIndex := 16, attributes := #[] }, { accessFlags := 24, nameIndex := 136, descriptorIndex := 137, attributes := #[] }, { accessFlags := 24, nameIndex := 140, descriptorIndex := 137, attributes := #[] }, { accessFlags := 24, nameIndex := 143, descriptorIndex := 137, attributes := #[] }])
  fields := #[{ name := "newline", type := (.array .byte), accessFlags := 18, slot := 0, constantValue := 0 }, { name := "linemax", type := .int, accessFlags := 18, slot := 1, constantValue := 0 }, { name := "isURL", type := .boolean, accessFlags := 18, slot := 2, constantValue := 0 }, { name := "doPadding", type := .boolean, accessFlags := 18, slot := 3, constantValue := 0 }, { name := "toBase64", type := (.array .char), accessFlags := 26, slot := 0, constantValue := 0 }, { name := "toBase64URL", type := (.array .char), accessFlags := 26, slot := 1, constantValue := 0 }, { name := "MIMELINEMAX", type := .int, accessFlags := 26, slot := 2, constantValue := 0 }, { name := "CRLF", type := (.array .byte), accessFlags := 26, slot := 3, constantValue := 0 }, { name := "RFC4648", type := (.object "java/util/Base64$Encoder"), accessFlags := 24, slot := 4, constantValue := 0 }, { name := "RFC4648_URLSAFE", type := (.object "java/util/Base64$Encoder"), accessFlags := 24, slot := 5, constantValue := 0 }, { name := "RFC2045", type := (.object "java/util/Base64$Encoder"), accessFlags := 24, slot := 6, constantValue := 0 }]
  methods := #[k17m0, k17m1, k17m2, k17m3, k17m4]
  instanceTypes := #[(.array .byte), .int, .boolean, .boolean]
  staticTypes := #[(.array .char), (.array .char), .int, (.array .byte), (.object "java/util/Base64$Encoder"), (.object "java/util/Base64$Encoder"), (.object "java/util/Base64$Encoder")]
  resolved := Array.replicate 204 none
  statics := some 5 }

def pool18 : Array CpInfo := pool [(1, .class_ 2), (0, u "java/lang/Math"), (1, .class_ 6), (1, u "java/lang/Object"), (0, u "<init>"), (0, u "()V"), (89, .class_ 100), (1, u "java/lang/Math$RandomNumberGeneratorHolder"), (19, u "multiplyExact"), (51, u "negativeZeroFloatBits"), (0, u "J"), (2, u "negativeZeroDoubleBits"), (24, u "min"), (43, u "$assertionsDisabled"), (0, u "Z"), (88, u "(II)I"), (2, u "twoToTheDoubleScaleDown"), (0, u "D"), (4, u "twoToTheDoubleScaleUp"), (9, u "E"), (3, u "PI"), (2, u "TAU"), (2, u "DEGREES_TO_RADIANS"), (0, u "RADIANS_TO_DEGREES"), (27, u "addExact")] 66

def k18m0 : Method := { name := "<init>", desc := "()V", sig := { parameters := [], returnType := none }, accessFlags := 2, code := none }
def k18c1 : Code := { maxStack := 3, maxLocals := 3, code := jdk_29_method_24_code, exceptionTable := #[], attributes := #[] }
def k18m1 : Method := { name := "addExact", desc := "(II)I", sig := { parameters := [.int, .int], returnType := some .int }, accessFlags := 9, code := some k18c1 }
def k18c2 : Code := { maxStack := 4, maxLocals := 4, code := jdk_29_method_28_code, exceptionTable := #[], attributes := #[] }
def k18m2 : Method := { name := "multiplyExact", desc := "(II)I", sig := { parameters := [.int, .int], returnType := some .int }, accessFlags := 9, code := some k18c2 }
def k18c3 : Code := { maxStack := 2, maxLocals := 2, code := jdk_29_method_69_code, exceptionTable := #[], attributes := #[] }
def k18m3 : Method := { name := "min", desc := "(II)I", sig := { parameters := [.int, .int], returnType := some .int }, accessFlags := 9, code := some k18c3 }
/-- java/lang/Math -/
def k18 : Class := { plain "java/lang/Math" (some 0) with
  accessFlags := 49
  interfaces := #[]
  cf := some (fileOf pool18 1 #[.nestMembers #[98]] #[{ accessFlags := 2, nameIndex := 7, descriptorIndex := 8, attributes := #[] }, { accessFlags := 9, nameIndex := 393, descriptorIndex := 335, attributes := #[] }, { accessFlags := 9, nameIndex := 120, descriptorIndex := 335, attributes := #[] }, { accessFlags := 9, nameIndex := 201, descriptorIndex := 335, attributes := #[] }] 49 4 #[] #[{ accessFlags := 25, nameIndex := 354, descriptorIndex := 339, attributes := #[] }, { accessFlags := 25, nameIndex := 358, descriptorIndex := 339, attributes := #[] }, { accessFlags := 25, nameIndex := 361, descriptorIndex := 339, attributes := #[] }, { accessFlags := 26, nameIndex := 364, descriptorIndex := 339, attributes := #[] }, { accessFlags := 26, nameIndex := 365, descriptorIndex := 339, attributes := #[] }, { accessFlags := 26, nameIndex := 172, descriptorIndex := 173, attributes := #[] }, { accessFlags := 26, nameIndex := 176, descriptorIndex := 173, attributes := #[] }, { accessFlags := 8, nameIndex := 344, descriptorIndex := 339, attributes := #[] }, { accessFlags := 8, nameIndex := 338, descriptorIndex := 339, attributes := #[] }, { accessFlags := 4120, nameIndex := 245, descriptorIndex := 246, attributes := #[] }])
  fields := #[{ name := "E", type := .double, accessFlags := 25, slot := 0, constantValue := 0 }, { name := "PI", type := .double, accessFlags := 25, slot := 1, constantValue := 0 }, { name := "TAU", type := .double, accessFlags := 25, slot := 2, constantValue := 0 }, { name := "DEGREES_TO_RADIANS", type := .double, accessFlags := 26, slot := 3, constantValue := 0 }, { name := "RADIANS_TO_DEGREES", type := .double, accessFlags := 26, slot := 4, constantValue := 0 }, { name := "negativeZeroFloatBits", type := .long, accessFlags := 26, slot := 5, constantValue := 0 }, { name := "negativeZeroDoubleBits", type := .long, accessFlags := 26, slot := 6, constantValue := 0 }, { name := "twoToTheDoubleScaleUp", type := .double, accessFlags := 8, slot := 7, constantValue := 0 }, { name := "twoToTheDoubleScaleDown", type := .double, accessFlags := 8, slot := 8, constantValue := 0 }, { name := "$assertionsDisabled", type := .boolean, accessFlags := 4120, slot := 9, constantValue := 0 }]
  methods := #[k18m0, k18m1, k18m2, k18m3]
  instanceTypes := #[]
  staticTypes := #[.double, .double, .double, .double, .double, .long, .long, .double, .double, .boolean]
  resolved := Array.replicate 460 none
  statics := none }

def pool19 : Array CpInfo := pool [(2, .class_ 4), (1, u "java/lang/Object"), (0, u "<init>"), (0, u "()V"), (17, .class_ 26), (1, u "jdk/internal/util/Preconditions"), (22, u "checkFromIndexSize"), (5, .class_ 56), (0, u "jdk/internal/util/Preconditions$4"), (57, .class_ 115), (0, u "jdk/internal/util/Preconditions$1"), (7, u "SIOOBE_FORMATTER"), (0, u "Ljava/util/function/BiFunction;"), (0, .class_ 126), (0, u "jdk/internal/util/Preconditions$2"), (3, u "AIOOBE_FORMATTER"), (0, .class_ 132), (0, u "jdk/internal/util/Preconditions$3"), (3, u "IOOBE_FORMATTER"), (46, u "(IIILjava/util/function/BiFunction;)I")] 10

def k19m0 : Method := { name := "<init>", desc := "()V", sig := { parameters := [], returnType := none }, accessFlags := 1, code := none }
def k19c1 : Code := { maxStack := 4, maxLocals := 4, code := jdk_41_method_13_code, exceptionTable := #[], attributes := #[] }
def k19m1 : Method := { name := "checkFromIndexSize", desc := "(IIILjava/util/function/BiFunction;)I", sig := { parameters := [.int, .int, .int, (.object "java/util/function/BiFunction")], returnType := some .int }, accessFlags := 9, code := some k19c1 }
/-- jdk/internal/util/Preconditions -/
def k19 : Class := { plain "jdk/internal/util/Preconditions" (some 0) with
  accessFlags := 33
  interfaces := #[]
  cf := some (fileOf pool19 24 #[.nestMembers #[55, 131, 125, 114]] #[{ accessFlags := 1, nameIndex := 5, descriptorIndex := 6, attributes := #[] }, { accessFlags := 9, nameIndex := 49, descriptorIndex := 183, attributes := #[] }] 33 2 #[] #[{ accessFlags := 25, nameIndex := 123, descriptorIndex := 124, attributes := #[] }, { accessFlags := 25, nameIndex := 130, descriptorIndex := 124, attributes := #[] }, { accessFlags := 25, nameIndex := 136, descriptorIndex := 124, attributes := #[] }])
  fields := #[{ name := "SIOOBE_FORMATTER", type := (.object "java/util/function/BiFunction"), accessFlags := 25, slot := 0, constantValue := 0 }, { name := "AIOOBE_FORMATTER", type := (.object "java/util/function/BiFunction"), accessFlags := 25, slot := 1, constantValue := 0 }, { name := "IOOBE_FORMATTER", type := (.object "java/util/function/BiFunction"), accessFlags := 25, slot := 2, constantValue := 0 }]
  methods := #[k19m0, k19m1]
  instanceTypes := #[]
  staticTypes := #[(.object "java/util/function/BiFunction"), (.object "java/util/function/BiFunction"), (.object "java/util/function/BiFunction")]
  resolved := Array.replicate 194 none
  statics := some 6 }

def pool20 : Array CpInfo := pool [(2, .class_ 4), (1, u "java/lang/Object"), (0, u "<init>"), (0, u "()V"), (7, .class_ 16), (1, u "java/util/Arrays"), (57, .class_ 76), (1, u "java/util/Arrays$NaturalOrder"), (32, u "()Ljava/lang/Object;"), (3, .class_ 115), (1, u "java/util/Arrays$LegacyMergeSort"), (1, u "Z"), (10, .nameAndType 129 109), (0, u "clone"), (9, u "copyOfRange"), (170, .methodref 311 128), (0, .class_ 312), (0, u "[B"), (29, u "([BII)[B"), (32, .class_ 376), (0, u "java/util/Arrays$ArrayList"), (68, u "$assertionsDisabled"), (269, u "MIN_ARRAY_SORT_GRAN"), (0, u "I"), (2, u "INSERTIONSORT_THRESHOLD"), (255, .class_ 976), (0, u "java/util/Arrays$ArrayItr")] 52

def k20m0 : Method := { name := "<init>", desc := "()V", sig := { parameters := [], returnType := none }, accessFlags := 2, code := none }
def k20c1 : Code := { maxStack := 3, maxLocals := 3, code := jdk_65_method_132_code, exceptionTable := #[], attributes := #[] }
def k20m1 : Method := { name := "copyOfRange", desc := "([BII)[B", sig := { parameters := [(.array .byte), .int, .int], returnType := some (.array .byte) }, accessFlags := 9, code := some k20c1 }
/-- java/util/Arrays -/
def k20 : Class := { plain "java/util/Arrays" (some 0) with
  accessFlags := 49
  interfaces := #[]
  cf := some (fileOf pool20 14 #[.nestMembers #[975, 375, 113, 74]] #[{ accessFlags := 2, nameIndex := 5, descriptorIndex := 6, attributes := #[] }, { accessFlags := 9, nameIndex := 139, descriptorIndex := 342, attributes := #[] }] 49 2 #[] #[{ accessFlags := 26, nameIndex := 715, descriptorIndex := 716, attributes := #[] }, { accessFlags := 26, nameIndex := 719, descriptorIndex := 716, attributes := #[] }, { accessFlags := 4120, nameIndex := 445, descriptorIndex := 117, attributes := #[] }])
  fields := #[{ name := "MIN_ARRAY_SORT_GRAN", type := .int, accessFlags := 26, slot := 0, constantValue := 0 }, { name := "INSERTIONSORT_THRESHOLD", type := .int, accessFlags := 26, slot := 1, constantValue := 0 }, { name := "$assertionsDisabled", type := .boolean, accessFlags := 4120, slot := 2, constantValue := 0 }]
  methods := #[k20m0, k20m1]
  instanceTypes := #[]
  staticTypes := #[.int, .int, .boolean]
  resolved := Array.replicate 1029 none
  statics := none }

def pool21 : Array CpInfo := pool [(4, .class_ 6), (1, u "java/lang/Object"), (0, u "<init>"), (0, u "()V"), (5, .class_ 16), (1, u "java/lang/StringLatin1"), (104, u "$assertionsDisabled"), (0, u "Z"), (98, .class_ 223), (1, u "java/lang/StringLatin1$LinesSpliterator"), (57, u "equals"), (0, u "([B[B)Z"), (107, .class_ 391), (0, u "java/lang/StringLatin1$CharsSpliterator")] 3

def k21m0 : Method := { name := "<init>", desc := "()V", sig := { parameters := [], returnType := none }, accessFlags := 0, code := none }
def k21c1 : Code := { maxStack := 3, maxLocals := 3, code := jdk_43_method_13_code, exceptionTable := #[], attributes := #[] }
def k21m1 : Method := { name := "equals", desc := "([B[B)Z", sig := { parameters := [(.array .byte), (.array .byte)], returnType := some .boolean }, accessFlags := 9, code := some k21c1 }
/-- java/lang/StringLatin1 -/
def k21 : Class := { plain "java/lang/StringLatin1" (some 0) with
  accessFlags := 48
  interfaces := #[]
  cf := some (fileOf pool21 14 #[.nestMembers #[390, 221]] #[{ accessFlags := 0, nameIndex := 7, descriptorIndex := 8, attributes := #[] }, { accessFlags := 9, nameIndex := 281, descriptorIndex := 282, attributes := #[] }] 48 4 #[] #[{ accessFlags := 4120, nameIndex := 121, descriptorIndex := 122, attributes := #[] }])
  fields := #[{ name := "$assertionsDisabled", type := .boolean, accessFlags := 4120, slot := 0, constantValue := 0 }]
  methods := #[k21m0, k21m1]
  instanceTypes := #[]
  staticTypes := #[.boolean]
  resolved := Array.replicate 395 none
  statics := none }

def pool22 : Array CpInfo := pool [(9, u "<init>"), (6, .class_ 18), (1, u "java/lang/Object"), (0, u "()V"), (1, .class_ 23), (1, u "jdk/internal/util/ArraysSupport"), (0, u "LOG2_ARRAY_LONG_INDEX_SCALE"), (0, u "I"), (2, u "U"), (0, u "Ljdk/internal/misc/Unsafe;"), (8, u "BIG_ENDIAN"), (0, u "Z"), (8, u "LOG2_BYTE_BIT_SIZE"), (4, u "LOG2_ARRAY_INT_INDEX_SCALE"), (54, u "JLA"), (0, u "Ljdk/internal/access/JavaLangAccess;"), (11, u "LOG2_ARRAY_BOOLEAN_INDEX_SCALE"), (9, u "LOG2_ARRAY_BYTE_INDEX_SCALE"), (5, u "LOG2_ARRAY_CHAR_INDEX_SCALE"), (5, u "LOG2_ARRAY_SHORT_INDEX_SCALE"), (18, u "LOG2_ARRAY_FLOAT_INDEX_SCALE"), (24, u "LOG2_ARRAY_DOUBLE_INDEX_SCALE"), (89, u "T_BOOLEAN"), (2, u "T_CHAR"), (1, u "T_FLOAT"), (1, u "T_DOUBLE"), (1, u "T_BYTE"), (1, u "T_SHORT"), (1, u "T_INT"), (1, u "T_LONG"), (1, u "SOFT_MAX_ARRAY_LENGTH")] 83

def k22m0 : Method := { name := "<init>", desc := "()V", sig := { parameters := [], returnType := none }, accessFlags := 2, code := none }
/-- jdk/internal/util/ArraysSupport -/
def k22 : Class := { plain "jdk/internal/util/ArraysSupport" (some 0) with
  accessFlags := 33
  interfaces := #[]
  cf := some (fileOf pool22 21 #[] #[{ accessFlags := 2, nameIndex := 9, descriptorIndex := 19, attributes := #[] }] 33 16 #[] #[{ accessFlags := 24, nameIndex := 28, descriptorIndex := 29, attributes := #[] }, { accessFlags := 26, nameIndex := 38, descriptorIndex := 39, attributes := #[] }, { accessFlags := 25, nameIndex := 121, descriptorIndex := 25, attributes := #[] }, { accessFlags := 25, nameIndex := 131, descriptorIndex := 25, attributes := #[] }, { accessFlags := 25, nameIndex := 137, descriptorIndex := 25, attributes := #[] }, { accessFlags := 25, nameIndex := 143, descriptorIndex := 25, attributes := #[] }, { accessFlags := 25, nameIndex := 53, descriptorIndex := 25, attributes := #[] }, { accessFlags := 25, nameIndex := 24, descriptorIndex := 25, attributes := #[] }, { accessFlags := 25, nameIndex := 162, descriptorIndex := 25, attributes := #[] }, { accessFlags := 25, nameIndex := 187, descriptorIndex := 25, attributes := #[] }, { accessFlags := 26, nameIndex := 48, descriptorIndex := 25, attributes := #[] }, { accessFlags := 25, nameIndex := 277, descriptorIndex := 25, attributes := #[] }, { accessFlags := 25, nameIndex := 280, descriptorIndex := 25, attributes := #[] }, { accessFlags := 25, nameIndex := 282, descriptorIndex := 25, attributes := #[] }, { accessFlags := 25, nameIndex := 284, descriptorIndex := 25, attributes := #[] }, { accessFlags := 25, nameIndex := 286, descriptorIndex := 25, attributes := #[] }, { accessFlags := 25, nameIndex := 288, descriptorIndex := 25, attributes := #[] }, { accessFlags := 25, nameIndex := 290, descriptorIndex := 25, attributes := #[] }, { accessFlags := 25, nameIndex := 292, descriptorIndex := 25, attributes := #[] }, { accessFlags := 26, nameIndex := 108, descriptorIndex := 109, attributes := #[] }, { accessFlags := 25, nameIndex := 294, descriptorIndex := 25, attributes := #[] }])
  fields := #[{ name := "U", type := (.object "jdk/internal/misc/Unsafe"), accessFlags := 24, slot := 0, constantValue := 0 }, { name := "BIG_ENDIAN", type := .boolean, accessFlags := 26, slot := 1, constantValue := 0 }, { name := "LOG2_ARRAY_BOOLEAN_INDEX_SCALE", type := .int, accessFlags := 25, slot := 2, constantValue := 0 }, { name := "LOG2_ARRAY_BYTE_INDEX_SCALE", type := .int, accessFlags := 25, slot := 3, constantValue := 0 }, { name := "LOG2_ARRAY_CHAR_INDEX_SCALE", type := .int, accessFlags := 25, slot := 4, constantValue := 0 }, { name := "LOG2_ARRAY_SHORT_INDEX_SCALE", type := .int, accessFlags := 25, slot := 5, constantValue := 0 }, { name := "LOG2_ARRAY_INT_INDEX_SCALE", type := .int, accessFlags := 25, slot := 6, constantValue := 0 }, { name := "LOG2_ARRAY_LONG_INDEX_SCALE", type := .int, accessFlags := 25, slot := 7, constantValue := 0 }, { name := "LOG2_ARRAY_FLOAT_INDEX_SCALE", type := .int, accessFlags := 25, slot := 8, constantValue := 0 }, { name := "LOG2_ARRAY_DOUBLE_INDEX_SCALE", type := .int, accessFlags := 25, slot := 9, constantValue := 0 }, { name := "LOG2_BYTE_BIT_SIZE", type := .int, accessFlags := 26, slot := 10, constantValue := 0 }, { name := "T_BOOLEAN", type := .int, accessFlags := 25, slot := 11, constantValue := 0 }, { name := "T_CHAR", type := .int, accessFlags := 25, slot := 12, constantValue := 0 }, { name := "T_FLOAT", type := .int, accessFlags := 25, slot := 13, constantValue := 0 }, { name := "T_DOUBLE", type := .int, accessFlags := 25, slot := 14, constantValue := 0 }, { name := "T_BYTE", type := .int, accessFlags := 25, slot := 15, constantValue := 0 }, { name := "T_SHORT", type := .int, accessFlags := 25, slot := 16, constantValue := 0 }, { name := "T_INT", type := .int, accessFlags := 25, slot := 17, constantValue := 0 }, { name := "T_LONG", type := .int, accessFlags := 25, slot := 18, constantValue := 0 }, { name := "JLA", type := (.object "jdk/internal/access/JavaLangAccess"), accessFlags := 26, slot := 19, constantValue := 0 }, { name := "SOFT_MAX_ARRAY_LENGTH", type := .int, accessFlags := 25, slot := 20, constantValue := 0 }]
  methods := #[k22m0]
  instanceTypes := #[]
  staticTypes := #[(.object "jdk/internal/misc/Unsafe"), .boolean, .int, .int, .int, .int, .int, .int, .int, .int, .int, .int, .int, .int, .int, .int, .int, .int, .int, (.object "jdk/internal/access/JavaLangAccess"), .int]
  resolved := Array.replicate 378 none
  statics := some 7 }

/-- the primitive byte -/
def k23 : Class := { plain "byte" none with kind := .primitive 'B', accessFlags := 0x411 }
/-- [B -/
def k24 : Class := { plain "[B" (some 0) with kind := .array 23 .byte, interfaces := #[16, 2], accessFlags := 1041 }

/-- the primitive char -/
def k25 : Class := { plain "char" none with kind := .primitive 'C', accessFlags := 0x411 }
/-- [C -/
def k26 : Class := { plain "[C" (some 0) with kind := .array 25 .char, interfaces := #[16, 2], accessFlags := 1041 }

/-- the primitive int -/
def k27 : Class := { plain "int" none with kind := .primitive 'I', accessFlags := 0x411 }
/-- [I -/
def k28 : Class := { plain "[I" (some 0) with kind := .array 27 .int, interfaces := #[16, 2], accessFlags := 1041 }

def heap : Heap := #[{ cls := 7, slots := #[.long 0, .int 1, .null, .int 0, .null, .int 0, .int 0], vm := .statics 7 },
  { cls := 9, slots := #[.ref 9, .ref 8, .null], vm := .statics 9 },
  { cls := 10, slots := #[.null, .ref 12, .null, .null, .null], vm := .statics 10 },
  { cls := 13, slots := #[.ref 10], vm := .statics 13 },
  { cls := 15, slots := #[.ref 11, .null], vm := .statics 15 },
  { cls := 17, slots := #[.null, .ref 13, .int 0, .null, .null, .null, .null], vm := .statics 17 },
  { cls := 19, slots := #[.null, .null, .null], vm := .statics 19 },
  { cls := 22, slots := #[.null, .int 0, .int 0, .int 0, .int 0, .int 0, .int 0, .int 3, .int 0, .int 0, .int 0, .int 0, .int 0, .int 0, .int 0, .int 0, .int 0, .int 0, .int 0, .null, .int 0], vm := .statics 22 },
  { cls := 10, slots := #[.int 1, .int 0], vm := .none },
  { cls := 17, slots := #[.null, .int (-1), .int 1, .int 0], vm := .none },
  { cls := 13, slots := #[.null, .null, .null], vm := .none },
  { cls := 15, slots := #[.null, .null, .null], vm := .none },
  { cls := 28, slots := #[.int (-1), .int (-1), .int (-1), .int (-1), .int (-1), .int (-1), .int (-1), .int (-1), .int (-1), .int (-1), .int (-1), .int (-1), .int (-1), .int (-1), .int (-1), .int (-1), .int (-1), .int (-1), .int (-1), .int (-1), .int (-1), .int (-1), .int (-1), .int (-1), .int (-1), .int (-1), .int (-1), .int (-1), .int (-1), .int (-1), .int (-1), .int (-1), .int (-1), .int (-1), .int (-1), .int (-1), .int (-1), .int (-1), .int (-1), .int (-1), .int (-1), .int (-1), .int (-1), .int (-1), .int (-1), .int 62, .int (-1), .int (-1), .int 52, .int 53, .int 54, .int 55, .int 56, .int 57, .int 58, .int 59, .int 60, .int 61, .int (-1), .int (-1), .int (-1), .int (-2), .int (-1), .int (-1), .int (-1), .int 0, .int 1, .int 2, .int 3, .int 4, .int 5, .int 6, .int 7, .int 8, .int 9, .int 10, .int 11, .int 12, .int 13, .int 14, .int 15, .int 16, .int 17, .int 18, .int 19, .int 20, .int 21, .int 22, .int 23, .int 24, .int 25, .int (-1), .int (-1), .int (-1), .int (-1), .int 63, .int (-1), .int 26, .int 27, .int 28, .int 29, .int 30, .int 31, .int 32, .int 33, .int 34, .int 35, .int 36, .int 37, .int 38, .int 39, .int 40, .int 41, .int 42, .int 43, .int 44, .int 45, .int 46, .int 47, .int 48, .int 49, .int 50, .int 51, .int (-1), .int (-1), .int (-1), .int (-1), .int (-1), .int (-1), .int (-1), .int (-1), .int (-1), .int (-1), .int (-1), .int (-1), .int (-1), .int (-1), .int (-1), .int (-1), .int (-1), .int (-1), .int (-1), .int (-1), .int (-1), .int (-1), .int (-1), .int (-1), .int (-1), .int (-1), .int (-1), .int (-1), .int (-1), .int (-1), .int (-1), .int (-1), .int (-1), .int (-1), .int (-1), .int (-1), .int (-1), .int (-1), .int (-1), .int (-1), .int (-1), .int (-1), .int (-1), .int (-1), .int (-1), .int (-1), .int (-1), .int (-1), .int (-1), .int (-1), .int (-1), .int (-1), .int (-1), .int (-1), .int (-1), .int (-1), .int (-1), .int (-1), .int (-1), .int (-1), .int (-1), .int (-1), .int (-1), .int (-1), .int (-1), .int (-1), .int (-1), .int (-1), .int (-1), .int (-1), .int (-1), .int (-1), .int (-1), .int (-1), .int (-1), .int (-1), .int (-1), .int (-1), .int (-1), .int (-1), .int (-1), .int (-1), .int (-1), .int (-1), .int (-1), .int (-1), .int (-1), .int (-1), .int (-1), .int (-1), .int (-1), .int (-1), .int (-1), .int (-1), .int (-1), .int (-1), .int (-1), .int (-1), .int (-1), .int (-1), .int (-1), .int (-1), .int (-1), .int (-1), .int (-1), .int (-1), .int (-1), .int (-1), .int (-1), .int (-1), .int (-1), .int (-1), .int (-1), .int (-1), .int (-1), .int (-1), .int (-1), .int (-1), .int (-1), .int (-1), .int (-1), .int (-1), .int (-1), .int (-1), .int (-1), .int (-1), .int (-1), .int (-1), .int (-1), .int (-1), .int (-1), .int (-1), .int (-1)], vm := .none },
  { cls := 26, slots := #[.int 65, .int 66, .int 67, .int 68, .int 69, .int 70, .int 71, .int 72, .int 73, .int 74, .int 75, .int 76, .int 77, .int 78, .int 79, .int 80, .int 81, .int 82, .int 83, .int 84, .int 85, .int 86, .int 87, .int 88, .int 89, .int 90, .int 97, .int 98, .int 99, .int 100, .int 101, .int 102, .int 103, .int 104, .int 105, .int 106, .int 107, .int 108, .int 109, .int 110, .int 111, .int 112, .int 113, .int 114, .int 115, .int 116, .int 117, .int 118, .int 119, .int 120, .int 121, .int 122, .int 48, .int 49, .int 50, .int 51, .int 52, .int 53, .int 54, .int 55, .int 56, .int 57, .int 45, .int 95], vm := .none }]
def classes : Array Class := #[k0, k1, k2, k3, k4, k5, k6, k7, k8, k9, k10, k11, k12, k13, k14, k15, k16, k17, k18, k19, k20, k21, k22, k23, k24, k25, k26, k27, k28]
def interned : List (Array UInt16 × Addr) := []
def slotsUsed : Nat := 381
def theMethod : MethodId := ⟨1, 2⟩
def args0 : Array Value := #[.int 5, .int 2]
def aboutOver (below : List Frame) : State where
  vm := { classes := classes, interned := interned.toArray }
  heap := heap
  slotsUsed := slotsUsed
  threads := #[{ frames := .invoking theMethod args0 :: below }]
def below0 : List Frame := [.native { method := ⟨0, 0⟩, args := #[] }]
def about1 : State := aboutOver below0
def p0 : Program := .bare "" "" ""
def e0 : Env := launch0.env 0 0 0
theorem w_frames : about1.frames = Frame.invoking theMethod args0 :: below0 := rfl
set_option maxRecDepth 65536 in
theorem w_args : argsFit about1.vm theMethod args0 = true := by decide +kernel
set_option maxRecDepth 65536 in
theorem w_heap : heapFits about1 = true := by decide +kernel
set_option maxRecDepth 65536 in
theorem w_runnable : about1.curStatus? = some .runnable := by decide +kernel
set_option maxRecDepth 65536 in
theorem w_alone : about1.alone = true := by decide +kernel
set_option maxRecDepth 65536 in
theorem w_named : about1.methodNamed? x = some theMethod := by decide +kernel
set_option maxRecDepth 65536 in
theorem w_hears : about1.hears theMethod below0 = true := by decide +kernel
set_option maxRecDepth 65536 in
theorem w_ripe : about1.ripe theMethod args0 below0 = true := by decide +kernel
theorem w_running : about1.status = .running := rfl
set_option maxRecDepth 65536 in
theorem w_room : about1.hasRoom e0.platform room_1 = true :=
  launch0.hasRoom_least _ room_1 (by decide +kernel) (by decide +kernel) (by decide +kernel) (by decide +kernel) (by decide +kernel) (by decide +kernel)
theorem allAtoms_all (ts : List Jvm.Cond) (a : Array Jvm.Value) (st : Jvm.State) : (allAtoms ts).before a st = ts.all (fun c => c.before a st) := by
  induction ts with
  | nil => rfl
  | cons c t ih =>
    show (Jvm.Cond.and c (allAtoms t)).before a st = _
    rw [Jvm.Cond.before_and, ih, List.all_cons]
def words1 : List Jvm.Cond := Jvm.Cond.code x code maxLocals ret :: tables_1
/-- a 'code' word, met by the world's own term for the bytes: nothing is compared byte by byte -/
theorem code_word {y : MethodName} {bytes : ByteArray} {mx : Nat} {rt : Option FieldType} {a : Array Value} {s : State} {m : MethodId} {meth : Method} {c : Code} (h1 : s.methodNamed? y = some m) (h2 : s.vm.method? m = some meth) (h3 : meth.code = some c) (h4 : c.code = bytes)
    (h5 : (c.maxLocals == mx && c.exceptionTable.isEmpty && decide (c.maxStack ≤ mostOperands) && decide (meth.sig.returnType = rt) && !meth.locks && decide (parseMethodDescriptor y.desc = some meth.sig)) = true) : (Jvm.Cond.code y bytes mx rt).before a s = true := by
  simp only [Bool.and_eq_true, beq_iff_eq, Bool.not_eq_true', decide_eq_true_eq] at h5
  obtain ⟨⟨⟨⟨⟨g1, g2⟩, g3⟩, g4⟩, g5⟩, g6⟩ := h5
  simp [Cond.before, Cond.holds, Cond.value, h1, h2, h3, h4, g1, g2, g3, g4, g5, g6]
def isCode : Jvm.Cond → Bool
  | .code _ _ _ _ => true
  | _ => false
theorem all_split {L : List Jvm.Cond} {P : Jvm.Cond → Bool} (h1 : L.all (fun c => isCode c || P c) = true) (h2 : ∀ c ∈ L.filter isCode, P c = true) : L.all P = true := by
  refine List.all_eq_true.mpr fun c hc => ?_
  have h := List.all_eq_true.mp h1 c hc
  rcases Bool.eq_false_or_eq_true (isCode c) with hi | hi
  · exact h2 c (List.mem_filter.mpr ⟨hc, hi⟩)
  · simpa [hi] using h
set_option maxRecDepth 65536 in
theorem w_c0 : (Jvm.Cond.code x code maxLocals ret).before args0 about1 = true := code_word (m := ⟨1, 2⟩) (meth := k1m2) (c := k1c2) (by decide +kernel) rfl rfl rfl (by decide +kernel)
set_option maxRecDepth 65536 in
theorem w_c1 : (Jvm.Cond.code ({ cls := "com/example/verified_health_identity/verifiedhealthidentity/jose/Base64urlDecode214PinLaw", name := "alpha", desc := "(I)C" } : Jvm.MethodName) method_2_code (1 : Nat) (Option.some Jvm.ClassFile.FieldType.char)).before args0 about1 = true := code_word (m := ⟨1, 1⟩) (meth := k1m1) (c := k1c1) (by decide +kernel) rfl rfl rfl (by decide +kernel)
set_option maxRecDepth 65536 in
theorem w_c2 : (Jvm.Cond.code ({ cls := "java/lang/String", name := "<init>", desc := "([C)V" } : Jvm.MethodName) jdk_42_method_3_code (2 : Nat) (Option.none : Option Jvm.ClassFile.FieldType)).before args0 about1 = true := code_word (m := ⟨7, 1⟩) (meth := k7m1) (c := k7c1) (by decide +kernel) rfl rfl rfl (by decide +kernel)
set_option maxRecDepth 65536 in
theorem w_c3 : (Jvm.Cond.code ({ cls := "java/lang/String", name := "<init>", desc := "([CIILjava/lang/Void;)V" } : Jvm.MethodName) jdk_42_method_149_code (6 : Nat) (Option.none : Option Jvm.ClassFile.FieldType)).before args0 about1 = true := code_word (m := ⟨7, 9⟩) (meth := k7m9) (c := k7c9) (by decide +kernel) rfl rfl rfl (by decide +kernel)
set_option maxRecDepth 65536 in
theorem w_c4 : (Jvm.Cond.code ({ cls := "java/lang/Object", name := "<init>", desc := "()V" } : Jvm.MethodName) object_method_1_code (1 : Nat) (Option.none : Option Jvm.ClassFile.FieldType)).before args0 about1 = true := code_word (m := ⟨0, 0⟩) (meth := k0m0) (c := k0c0) (by decide +kernel) rfl rfl rfl (by decide +kernel)
set_option maxRecDepth 65536 in
theorem w_c5 : (Jvm.Cond.code ({ cls := "java/lang/StringUTF16", name := "compress", desc := "([CII)[B" } : Jvm.MethodName) jdk_52_method_16_code (6 : Nat) (Option.some (Jvm.ClassFile.FieldType.array Jvm.ClassFile.FieldType.byte))).before args0 about1 = true := code_word (m := ⟨8, 2⟩) (meth := k8m2) (c := k8c2) (by decide +kernel) rfl rfl rfl (by decide +kernel)
set_option maxRecDepth 65536 in
theorem w_c6 : (Jvm.Cond.code ({ cls := "java/lang/StringUTF16", name := "compress", desc := "([CI[BII)I" } : Jvm.MethodName) jdk_52_method_21_code (7 : Nat) (Option.some Jvm.ClassFile.FieldType.int)).before args0 about1 = true := code_word (m := ⟨8, 3⟩) (meth := k8m3) (c := k8c3) (by decide +kernel) rfl rfl rfl (by decide +kernel)
set_option maxRecDepth 65536 in
theorem w_c7 : (Jvm.Cond.code ({ cls := "java/lang/StringUTF16", name := "coderFromArrayLen", desc := "([BI)B" } : Jvm.MethodName) jdk_52_method_15_code (2 : Nat) (Option.some Jvm.ClassFile.FieldType.byte)).before args0 about1 = true := code_word (m := ⟨8, 1⟩) (meth := k8m1) (c := k8c1) (by decide +kernel) rfl rfl rfl (by decide +kernel)
set_option maxRecDepth 65536 in
theorem w_c8 : (Jvm.Cond.code ({ cls := "com/example/verified_health_identity/verifiedhealthidentity/jose/Base64url", name := "decode", desc := "(Ljava/lang/String;I)[B" } : Jvm.MethodName) prog_16_method_4_code (2 : Nat) (Option.some (Jvm.ClassFile.FieldType.array Jvm.ClassFile.FieldType.byte))).before args0 about1 = true := code_word (m := ⟨9, 3⟩) (meth := k9m3) (c := k9c3) (by decide +kernel) rfl rfl rfl (by decide +kernel)
set_option maxRecDepth 65536 in
theorem w_c9 : (Jvm.Cond.code ({ cls := "java/lang/String", name := "length", desc := "()I" } : Jvm.MethodName) jdk_42_method_54_code (1 : Nat) (Option.some Jvm.ClassFile.FieldType.int)).before args0 about1 = true := code_word (m := ⟨7, 6⟩) (meth := k7m6) (c := k7c6) (by decide +kernel) rfl rfl rfl (by decide +kernel)
set_option maxRecDepth 65536 in
theorem w_c10 : (Jvm.Cond.code ({ cls := "java/lang/String", name := "coder", desc := "()B" } : Jvm.MethodName) jdk_42_method_152_code (1 : Nat) (Option.some Jvm.ClassFile.FieldType.byte)).before args0 about1 = true := code_word (m := ⟨7, 10⟩) (meth := k7m10) (c := k7c10) (by decide +kernel) rfl rfl rfl (by decide +kernel)
set_option maxRecDepth 65536 in
theorem w_c11 : (Jvm.Cond.code ({ cls := "java/util/Base64$Decoder", name := "decode", desc := "(Ljava/lang/String;)[B" } : Jvm.MethodName) jdk_2450_method_3_code (2 : Nat) (Option.some (Jvm.ClassFile.FieldType.array Jvm.ClassFile.FieldType.byte))).before args0 about1 = true := code_word (m := ⟨10, 1⟩) (meth := k10m1) (c := k10c1) (by decide +kernel) rfl rfl rfl (by decide +kernel)
set_option maxRecDepth 65536 in
theorem w_c12 : (Jvm.Cond.code ({ cls := "java/lang/String", name := "getBytes", desc := "(Ljava/nio/charset/Charset;)[B" } : Jvm.MethodName) jdk_42_method_64_code (2 : Nat) (Option.some (Jvm.ClassFile.FieldType.array Jvm.ClassFile.FieldType.byte))).before args0 about1 = true := code_word (m := ⟨7, 7⟩) (meth := k7m7) (c := k7c7) (by decide +kernel) rfl rfl rfl (by decide +kernel)
set_option maxRecDepth 65536 in
theorem w_c13 : (Jvm.Cond.code ({ cls := "java/lang/String", name := "encode", desc := "(Ljava/nio/charset/Charset;B[B)[B" } : Jvm.MethodName) jdk_42_method_18_code (3 : Nat) (Option.some (Jvm.ClassFile.FieldType.array Jvm.ClassFile.FieldType.byte))).before args0 about1 = true := code_word (m := ⟨7, 3⟩) (meth := k7m3) (c := k7c3) (by decide +kernel) rfl rfl rfl (by decide +kernel)
set_option maxRecDepth 65536 in
theorem w_c14 : (Jvm.Cond.code ({ cls := "java/lang/String", name := "encode8859_1", desc := "(B[B)[B" } : Jvm.MethodName) jdk_42_method_26_code (2 : Nat) (Option.some (Jvm.ClassFile.FieldType.array Jvm.ClassFile.FieldType.byte))).before args0 about1 = true := code_word (m := ⟨7, 4⟩) (meth := k7m4) (c := k7c4) (by decide +kernel) rfl rfl rfl (by decide +kernel)
set_option maxRecDepth 65536 in
theorem w_c15 : (Jvm.Cond.code ({ cls := "java/lang/String", name := "encode8859_1", desc := "(B[BZ)[B" } : Jvm.MethodName) jdk_42_method_27_code (10 : Nat) (Option.some (Jvm.ClassFile.FieldType.array Jvm.ClassFile.FieldType.byte))).before args0 about1 = true := code_word (m := ⟨7, 5⟩) (meth := k7m5) (c := k7c5) (by decide +kernel) rfl rfl rfl (by decide +kernel)
set_option maxRecDepth 65536 in
theorem w_c16 : (Jvm.Cond.code ({ cls := "java/util/Base64$Decoder", name := "decode", desc := "([B)[B" } : Jvm.MethodName) jdk_2450_method_2_code (4 : Nat) (Option.some (Jvm.ClassFile.FieldType.array Jvm.ClassFile.FieldType.byte))).before args0 about1 = true := code_word (m := ⟨10, 0⟩) (meth := k10m0) (c := k10c0) (by decide +kernel) rfl rfl rfl (by decide +kernel)
set_option maxRecDepth 65536 in
theorem w_c17 : (Jvm.Cond.code ({ cls := "java/util/Base64$Decoder", name := "decodedOutLength", desc := "([BII)I" } : Jvm.MethodName) jdk_2450_method_7_code (9 : Nat) (Option.some Jvm.ClassFile.FieldType.int)).before args0 about1 = true := code_word (m := ⟨10, 2⟩) (meth := k10m2) (c := k10c2) (by decide +kernel) rfl rfl rfl (by decide +kernel)
set_option maxRecDepth 65536 in
theorem w_c18 : (Jvm.Cond.code ({ cls := "java/util/Base64$Decoder", name := "decode0", desc := "([BII[B)I" } : Jvm.MethodName) jdk_2450_method_9_code (11 : Nat) (Option.some Jvm.ClassFile.FieldType.int)).before args0 about1 = true := code_word (m := ⟨10, 3⟩) (meth := k10m3) (c := k10c3) (by decide +kernel) rfl rfl rfl (by decide +kernel)
set_option maxRecDepth 65536 in
theorem w_c19 : (Jvm.Cond.code ({ cls := "com/example/verified_health_identity/verifiedhealthidentity/jose/Base64url", name := "encode", desc := "([B)Ljava/lang/String;" } : Jvm.MethodName) prog_16_method_2_code (1 : Nat) (Option.some (Jvm.ClassFile.FieldType.object "java/lang/String"))).before args0 about1 = true := code_word (m := ⟨9, 1⟩) (meth := k9m1) (c := k9c1) (by decide +kernel) rfl rfl rfl (by decide +kernel)
set_option maxRecDepth 65536 in
theorem w_c20 : (Jvm.Cond.code ({ cls := "java/util/Base64$Encoder", name := "encodeToString", desc := "([B)Ljava/lang/String;" } : Jvm.MethodName) jdk_2452_method_5_code (3 : Nat) (Option.some (Jvm.ClassFile.FieldType.object "java/lang/String"))).before args0 about1 = true := code_word (m := ⟨17, 2⟩) (meth := k17m2) (c := k17c2) (by decide +kernel) rfl rfl rfl (by decide +kernel)
set_option maxRecDepth 65536 in
theorem w_c21 : (Jvm.Cond.code ({ cls := "java/util/Base64$Encoder", name := "encode", desc := "([B)[B" } : Jvm.MethodName) jdk_2452_method_3_code (5 : Nat) (Option.some (Jvm.ClassFile.FieldType.array Jvm.ClassFile.FieldType.byte))).before args0 about1 = true := code_word (m := ⟨17, 1⟩) (meth := k17m1) (c := k17c1) (by decide +kernel) rfl rfl rfl (by decide +kernel)
set_option maxRecDepth 65536 in
theorem w_c22 : (Jvm.Cond.code ({ cls := "java/lang/Math", name := "multiplyExact", desc := "(II)I" } : Jvm.MethodName) jdk_29_method_28_code (4 : Nat) (Option.some Jvm.ClassFile.FieldType.int)).before args0 about1 = true := code_word (m := ⟨18, 2⟩) (meth := k18m2) (c := k18c2) (by decide +kernel) rfl rfl rfl (by decide +kernel)
set_option maxRecDepth 65536 in
theorem w_c23 : (Jvm.Cond.code ({ cls := "java/lang/Math", name := "addExact", desc := "(II)I" } : Jvm.MethodName) jdk_29_method_24_code (3 : Nat) (Option.some Jvm.ClassFile.FieldType.int)).before args0 about1 = true := code_word (m := ⟨18, 1⟩) (meth := k18m1) (c := k18c1) (by decide +kernel) rfl rfl rfl (by decide +kernel)
set_option maxRecDepth 65536 in
theorem w_c24 : (Jvm.Cond.code ({ cls := "java/util/Base64$Encoder", name := "encode0", desc := "([BII[B)I" } : Jvm.MethodName) jdk_2452_method_10_code (16 : Nat) (Option.some Jvm.ClassFile.FieldType.int)).before args0 about1 = true := code_word (m := ⟨17, 4⟩) (meth := k17m4) (c := k17c4) (by decide +kernel) rfl rfl rfl (by decide +kernel)
set_option maxRecDepth 65536 in
theorem w_c25 : (Jvm.Cond.code ({ cls := "java/lang/Math", name := "min", desc := "(II)I" } : Jvm.MethodName) jdk_29_method_69_code (2 : Nat) (Option.some Jvm.ClassFile.FieldType.int)).before args0 about1 = true := code_word (m := ⟨18, 3⟩) (meth := k18m3) (c := k18c3) (by decide +kernel) rfl rfl rfl (by decide +kernel)
set_option maxRecDepth 65536 in
theorem w_c26 : (Jvm.Cond.code ({ cls := "java/util/Base64$Encoder", name := "encodeBlock", desc := "([BII[BIZ)V" } : Jvm.MethodName) jdk_2452_method_9_code (11 : Nat) (Option.none : Option Jvm.ClassFile.FieldType)).before args0 about1 = true := code_word (m := ⟨17, 3⟩) (meth := k17m3) (c := k17c3) (by decide +kernel) rfl rfl rfl (by decide +kernel)
set_option maxRecDepth 65536 in
theorem w_c27 : (Jvm.Cond.code ({ cls := "java/lang/String", name := "<init>", desc := "([BIII)V" } : Jvm.MethodName) jdk_42_method_7_code (7 : Nat) (Option.none : Option Jvm.ClassFile.FieldType)).before args0 about1 = true := code_word (m := ⟨7, 2⟩) (meth := k7m2) (c := k7c2) (by decide +kernel) rfl rfl rfl (by decide +kernel)
set_option maxRecDepth 65536 in
theorem w_c28 : (Jvm.Cond.code ({ cls := "java/lang/String", name := "checkBoundsOffCount", desc := "(III)I" } : Jvm.MethodName) jdk_42_method_157_code (3 : Nat) (Option.some Jvm.ClassFile.FieldType.int)).before args0 about1 = true := code_word (m := ⟨7, 11⟩) (meth := k7m11) (c := k7c11) (by decide +kernel) rfl rfl rfl (by decide +kernel)
set_option maxRecDepth 65536 in
theorem w_c29 : (Jvm.Cond.code ({ cls := "jdk/internal/util/Preconditions", name := "checkFromIndexSize", desc := "(IIILjava/util/function/BiFunction;)I" } : Jvm.MethodName) jdk_41_method_13_code (4 : Nat) (Option.some Jvm.ClassFile.FieldType.int)).before args0 about1 = true := code_word (m := ⟨19, 1⟩) (meth := k19m1) (c := k19c1) (by decide +kernel) rfl rfl rfl (by decide +kernel)
set_option maxRecDepth 65536 in
theorem w_c30 : (Jvm.Cond.code ({ cls := "java/util/Arrays", name := "copyOfRange", desc := "([BII)[B" } : Jvm.MethodName) jdk_65_method_132_code (3 : Nat) (Option.some (Jvm.ClassFile.FieldType.array Jvm.ClassFile.FieldType.byte))).before args0 about1 = true := code_word (m := ⟨20, 1⟩) (meth := k20m1) (c := k20c1) (by decide +kernel) rfl rfl rfl (by decide +kernel)
set_option maxRecDepth 65536 in
theorem w_c31 : (Jvm.Cond.code ({ cls := "java/lang/String", name := "equals", desc := "(Ljava/lang/Object;)Z" } : Jvm.MethodName) jdk_42_method_66_code (3 : Nat) (Option.some Jvm.ClassFile.FieldType.boolean)).before args0 about1 = true := code_word (m := ⟨7, 8⟩) (meth := k7m8) (c := k7c8) (by decide +kernel) rfl rfl rfl (by decide +kernel)
set_option maxRecDepth 65536 in
theorem w_c32 : (Jvm.Cond.code ({ cls := "java/lang/StringLatin1", name := "equals", desc := "([B[B)Z" } : Jvm.MethodName) jdk_43_method_13_code (3 : Nat) (Option.some Jvm.ClassFile.FieldType.boolean)).before args0 about1 = true := code_word (m := ⟨21, 1⟩) (meth := k21m1) (c := k21c1) (by decide +kernel) rfl rfl rfl (by decide +kernel)
def codes1 : List Jvm.Cond := [Jvm.Cond.code x code maxLocals ret, Jvm.Cond.code ({ cls := "com/example/verified_health_identity/verifiedhealthidentity/jose/Base64urlDecode214PinLaw", name := "alpha", desc := "(I)C" } : Jvm.MethodName) method_2_code (1 : Nat) (Option.some Jvm.ClassFile.FieldType.char), Jvm.Cond.code ({ cls := "java/lang/String", name := "<init>", desc := "([C)V" } : Jvm.MethodName) jdk_42_method_3_code (2 : Nat) (Option.none : Option Jvm.ClassFile.FieldType), Jvm.Cond.code ({ cls := "java/lang/String", name := "<init>", desc := "([CIILjava/lang/Void;)V" } : Jvm.MethodName) jdk_42_method_149_code (6 : Nat) (Option.none : Option Jvm.ClassFile.FieldType), Jvm.Cond.code ({ cls := "java/lang/Object", name := "<init>", desc := "()V" } : Jvm.MethodName) object_method_1_code (1 : Nat) (Option.none : Option Jvm.ClassFile.FieldType), Jvm.Cond.code ({ cls := "java/lang/StringUTF16", name := "compress", desc := "([CII)[B" } : Jvm.MethodName) jdk_52_method_16_code (6 : Nat) (Option.some (Jvm.ClassFile.FieldType.array Jvm.ClassFile.FieldType.byte)), Jvm.Cond.code ({ cls := "java/lang/StringUTF16", name := "compress", desc := "([CI[BII)I" } : Jvm.MethodName) jdk_52_method_21_code (7 : Nat) (Option.some Jvm.ClassFile.FieldType.int), Jvm.Cond.code ({ cls := "java/lang/StringUTF16", name := "coderFromArrayLen", desc := "([BI)B" } : Jvm.MethodName) jdk_52_method_15_code (2 : Nat) (Option.some Jvm.ClassFile.FieldType.byte), Jvm.Cond.code ({ cls := "com/example/verified_health_identity/verifiedhealthidentity/jose/Base64url", name := "decode", desc := "(Ljava/lang/String;I)[B" } : Jvm.MethodName) prog_16_method_4_code (2 : Nat) (Option.some (Jvm.ClassFile.FieldType.array Jvm.ClassFile.FieldType.byte)), Jvm.Cond.code ({ cls := "java/lang/String", name := "length", desc := "()I" } : Jvm.MethodName) jdk_42_method_54_code (1 : Nat) (Option.some Jvm.ClassFile.FieldType.int), Jvm.Cond.code ({ cls := "java/lang/String", name := "coder", desc := "()B" } : Jvm.MethodName) jdk_42_method_152_code (1 : Nat) (Option.some Jvm.ClassFile.FieldType.byte), Jvm.Cond.code ({ cls := "java/util/Base64$Decoder", name := "decode", desc := "(Ljava/lang/String;)[B" } : Jvm.MethodName) jdk_2450_method_3_code (2 : Nat) (Option.some (Jvm.ClassFile.FieldType.array Jvm.ClassFile.FieldType.byte)), Jvm.Cond.code ({ cls := "java/lang/String", name := "getBytes", desc := "(Ljava/nio/charset/Charset;)[B" } : Jvm.MethodName) jdk_42_method_64_code (2 : Nat) (Option.some (Jvm.ClassFile.FieldType.array Jvm.ClassFile.FieldType.byte)), Jvm.Cond.code ({ cls := "java/lang/String", name := "encode", desc := "(Ljava/nio/charset/Charset;B[B)[B" } : Jvm.MethodName) jdk_42_method_18_code (3 : Nat) (Option.some (Jvm.ClassFile.FieldType.array Jvm.ClassFile.FieldType.byte)), Jvm.Cond.code ({ cls := "java/lang/String", name := "encode8859_1", desc := "(B[B)[B" } : Jvm.MethodName) jdk_42_method_26_code (2 : Nat) (Option.some (Jvm.ClassFile.FieldType.array Jvm.ClassFile.FieldType.byte)), Jvm.Cond.code ({ cls := "java/lang/String", name := "encode8859_1", desc := "(B[BZ)[B" } : Jvm.MethodName) jdk_42_method_27_code (10 : Nat) (Option.some (Jvm.ClassFile.FieldType.array Jvm.ClassFile.FieldType.byte)), Jvm.Cond.code ({ cls := "java/util/Base64$Decoder", name := "decode", desc := "([B)[B" } : Jvm.MethodName) jdk_2450_method_2_code (4 : Nat) (Option.some (Jvm.ClassFile.FieldType.array Jvm.ClassFile.FieldType.byte)), Jvm.Cond.code ({ cls := "java/util/Base64$Decoder", name := "decodedOutLength", desc := "([BII)I" } : Jvm.MethodName) jdk_2450_method_7_code (9 : Nat) (Option.some Jvm.ClassFile.FieldType.int), Jvm.Cond.code ({ cls := "java/util/Base64$Decoder", name := "decode0", desc := "([BII[B)I" } : Jvm.MethodName) jdk_2450_method_9_code (11 : Nat) (Option.some Jvm.ClassFile.FieldType.int), Jvm.Cond.code ({ cls := "com/example/verified_health_identity/verifiedhealthidentity/jose/Base64url", name := "encode", desc := "([B)Ljava/lang/String;" } : Jvm.MethodName) prog_16_method_2_code (1 : Nat) (Option.some (Jvm.ClassFile.FieldType.object "java/lang/String")), Jvm.Cond.code ({ cls := "java/util/Base64$Encoder", name := "encodeToString", desc := "([B)Ljava/lang/String;" } : Jvm.MethodName) jdk_2452_method_5_code (3 : Nat) (Option.some (Jvm.ClassFile.FieldType.object "java/lang/String")), Jvm.Cond.code ({ cls := "java/util/Base64$Encoder", name := "encode", desc := "([B)[B" } : Jvm.MethodName) jdk_2452_method_3_code (5 : Nat) (Option.some (Jvm.ClassFile.FieldType.array Jvm.ClassFile.FieldType.byte)), Jvm.Cond.code ({ cls := "java/lang/Math", name := "multiplyExact", desc := "(II)I" } : Jvm.MethodName) jdk_29_method_28_code (4 : Nat) (Option.some Jvm.ClassFile.FieldType.int), Jvm.Cond.code ({ cls := "java/lang/Math", name := "addExact", desc := "(II)I" } : Jvm.MethodName) jdk_29_method_24_code (3 : Nat) (Option.some Jvm.ClassFile.FieldType.int), Jvm.Cond.code ({ cls := "java/util/Base64$Encoder", name := "encode0", desc := "([BII[B)I" } : Jvm.MethodName) jdk_2452_method_10_code (16 : Nat) (Option.some Jvm.ClassFile.FieldType.int), Jvm.Cond.code ({ cls := "java/lang/Math", name := "min", desc := "(II)I" } : Jvm.MethodName) jdk_29_method_69_code (2 : Nat) (Option.some Jvm.ClassFile.FieldType.int), Jvm.Cond.code ({ cls := "java/util/Base64$Encoder", name := "encodeBlock", desc := "([BII[BIZ)V" } : Jvm.MethodName) jdk_2452_method_9_code (11 : Nat) (Option.none : Option Jvm.ClassFile.FieldType), Jvm.Cond.code ({ cls := "java/lang/String", name := "<init>", desc := "([BIII)V" } : Jvm.MethodName) jdk_42_method_7_code (7 : Nat) (Option.none : Option Jvm.ClassFile.FieldType), Jvm.Cond.code ({ cls := "java/lang/String", name := "checkBoundsOffCount", desc := "(III)I" } : Jvm.MethodName) jdk_42_method_157_code (3 : Nat) (Option.some Jvm.ClassFile.FieldType.int), Jvm.Cond.code ({ cls := "jdk/internal/util/Preconditions", name := "checkFromIndexSize", desc := "(IIILjava/util/function/BiFunction;)I" } : Jvm.MethodName) jdk_41_method_13_code (4 : Nat) (Option.some Jvm.ClassFile.FieldType.int), Jvm.Cond.code ({ cls := "java/util/Arrays", name := "copyOfRange", desc := "([BII)[B" } : Jvm.MethodName) jdk_65_method_132_code (3 : Nat) (Option.some (Jvm.ClassFile.FieldType.array Jvm.ClassFile.FieldType.byte)), Jvm.Cond.code ({ cls := "java/lang/String", name := "equals", desc := "(Ljava/lang/Object;)Z" } : Jvm.MethodName) jdk_42_method_66_code (3 : Nat) (Option.some Jvm.ClassFile.FieldType.boolean), Jvm.Cond.code ({ cls := "java/lang/StringLatin1", name := "equals", desc := "([B[B)Z" } : Jvm.MethodName) jdk_43_method_13_code (3 : Nat) (Option.some Jvm.ClassFile.FieldType.boolean)]
set_option maxRecDepth 65536 in
theorem codes_eq : words1.filter isCode = codes1 := rfl
theorem w_codes : ∀ c ∈ words1.filter isCode, c.before args0 about1 = true := by
  rw [codes_eq]
  intro c hc
  simp only [codes1, List.mem_cons, List.not_mem_nil, or_false] at hc
  rcases hc with rfl | rfl | rfl | rfl | rfl | rfl | rfl | rfl | rfl | rfl | rfl | rfl | rfl | rfl | rfl | rfl | rfl | rfl | rfl | rfl | rfl | rfl | rfl | rfl | rfl | rfl | rfl | rfl | rfl | rfl | rfl | rfl | rfl
  · exact w_c0
  · exact w_c1
  · exact w_c2
  · exact w_c3
  · exact w_c4
  · exact w_c5
  · exact w_c6
  · exact w_c7
  · exact w_c8
  · exact w_c9
  · exact w_c10
  · exact w_c11
  · exact w_c12
  · exact w_c13
  · exact w_c14
  · exact w_c15
  · exact w_c16
  · exact w_c17
  · exact w_c18
  · exact w_c19
  · exact w_c20
  · exact w_c21
  · exact w_c22
  · exact w_c23
  · exact w_c24
  · exact w_c25
  · exact w_c26
  · exact w_c27
  · exact w_c28
  · exact w_c29
  · exact w_c30
  · exact w_c31
  · exact w_c32
set_option maxRecDepth 65536 in
theorem w_t1 : (words1.take 24).all (fun c => isCode c || c.before args0 about1) = true := by decide +kernel
set_option maxRecDepth 65536 in
theorem w_t2 : ((words1.drop 24).take 24).all (fun c => isCode c || c.before args0 about1) = true := by decide +kernel
set_option maxRecDepth 65536 in
theorem w_t3 : (((words1.drop 24).drop 24).take 24).all (fun c => isCode c || c.before args0 about1) = true := by decide +kernel
set_option maxRecDepth 65536 in
theorem w_t4 : ((((words1.drop 24).drop 24).drop 24).take 24).all (fun c => isCode c || c.before args0 about1) = true := by decide +kernel
set_option maxRecDepth 65536 in
theorem w_t5 : (((((words1.drop 24).drop 24).drop 24).drop 24).take 24).all (fun c => isCode c || c.before args0 about1) = true := by decide +kernel
set_option maxRecDepth 65536 in
theorem w_t6 : ((((((words1.drop 24).drop 24).drop 24).drop 24).drop 24).take 24).all (fun c => isCode c || c.before args0 about1) = true := by decide +kernel
set_option maxRecDepth 65536 in
theorem w_t7 : (((((((words1.drop 24).drop 24).drop 24).drop 24).drop 24).drop 24).take 24).all (fun c => isCode c || c.before args0 about1) = true := by decide +kernel
set_option maxRecDepth 65536 in
theorem w_t8 : (((((((words1.drop 24).drop 24).drop 24).drop 24).drop 24).drop 24).drop 24).all (fun c => isCode c || c.before args0 about1) = true := by decide +kernel
theorem w_tables : (allAtoms (Jvm.Cond.code x code maxLocals ret :: tables_1)).before args0 about1 = true := by
  rw [allAtoms_all]
  show words1.all (fun c => c.before args0 about1) = true
  refine all_split ?_ w_codes
  rw [← List.take_append_drop 24 words1, List.all_append, w_t1, ← List.take_append_drop 24 (words1.drop 24), List.all_append, w_t2, ← List.take_append_drop 24 ((words1.drop 24).drop 24), List.all_append, w_t3, ← List.take_append_drop 24 (((words1.drop 24).drop 24).drop 24), List.all_append, w_t4, ← List.take_append_drop 24 ((((words1.drop 24).drop 24).drop 24).drop 24), List.all_append, w_t5, ← List.take_append_drop 24 (((((words1.drop 24).drop 24).drop 24).drop 24).drop 24), List.all_append, w_t6, ← List.take_append_drop 24 ((((((words1.drop 24).drop 24).drop 24).drop 24).drop 24).drop 24), List.all_append, w_t7, w_t8]
  rfl
set_option maxRecDepth 65536 in
theorem w_rest : rest_1_c.before args0 about1 = true := by decide +kernel
set_option maxRecDepth 65536 in
theorem w_case : (Jvm.Cond.and given_1 narrow_1).before args0 about1 = true := by decide +kernel
set_option maxRecDepth 65536 in
theorem w_consts : constsHeld consts_1 about1 := Jvm.Lit.constsHeldB_iff.mp (by decide +kernel)
theorem w_applies : (headSpec (Jvm.Cond.code x code maxLocals ret :: tables_1) room_1).applies x e0.platform about1 = true :=
  (Spec.applies_iff w_frames).mpr ⟨w_running, w_runnable, w_alone, w_named, w_hears, w_ripe, w_room, w_tables⟩
theorem atStart : AtStart classFile x code maxLocals ret World_1 tables_1 room_1 Calls_1 rest_1 Pre_1 launch0 p0 e0 about1 theMethod args0 below0 :=
  ⟨lists_1, trivial, launch0.admits_env _ _ _, launch0.least_env, fairChoices_fair.cas, fairChoices_fair.clock, w_frames, w_args, w_heap, w_applies, ⟨w_consts, trivial⟩, w_rest, w_case⟩
end start1
theorem witness_1 : WitnessClaimed_1 := ⟨start1.p0, start1.e0, start1.about1, start1.theMethod, start1.args0, start1.below0, start1.atStart⟩
end Jvm.Pilot.@@N@@
