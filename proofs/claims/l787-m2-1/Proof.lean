import JvmDerived
import JvmDerived.Pilot.@@N@@Statement
import JvmDerived.Pilot.@@N@@Code
set_option linter.unusedVariables false
set_option linter.unusedSimpArgs false
namespace Jvm.RoadKit
open Sem ClassFile Op Lib Jvm.Stand Jvm.Free Jvm.LawKit
abbrev own_Go (p : Program) (e : Env) (below : List Frame) (A B : State) : Prop := ∀ t, Steps p.tables e below B t → Steps p.tables e below A t
theorem own_name {p : Program} {e : Env} {below : List Frame} {A : State} {α : Type} {F : α → State} (x : α) (P : own_Go p e below A (F x)) : ∃ z, z = x ∧ own_Go p e below A (F z) := ⟨x, rfl, P⟩
theorem own_step {p : Program} {e : Env} {below : List Frame} {A B C : State} (P : own_Go p e below A B) (q : own_Go p e below B C) : own_Go p e below A C := fun t_ k_ => P t_ (q t_ k_)
theorem own_IB {Z s U : State} {Ts : List String} (I : IB Z s.vm Ts) (w : s.WarmedH U.vm) : IB Z U.vm Ts := by
  obtain ⟨more, e, hm⟩ := I
  exact ⟨more, w.interned_eq.trans e, hm⟩
theorem own_backI {p : Program} {l : Launch} {e : Env} {R : Room} {s Z : State} {args a0 : Array Value} {below : List Frame} {h : Heap} {y : MethodName} {bytes : ByteArray} {maxL : Nat} {ret : Option FieldType} {rm : Room} {len W : Nat} {as' : Array Value} {Ts : List String} {Q : Option Value → Heap → List Loc → Prop}
    (hM : MetFree l y (head1 [Cond.code y bytes maxL ret] rm) (fun a U => a = as' ∧ Z.Warmed39 U.vm ∧ U.heap = h ∧ IB Z U.vm Ts) (fun _ _ _ _ _ => True) (fun _ U o U' => ∃ v L, o = .returned v ∧ Q v U'.heap L ∧ ReturnedEndW U o U' L rm.cells rm.slots))
    (hZ : Z.Warmed39 s.vm) (hI : IB Z s.vm Ts) (wc : (Cond.code y bytes maxL ret).before a0 Z = true) (wz : (Cond.initialized y.cls).before a0 Z = true) (hf : rm.frames + 1 ≤ R.frames) (hl : W + (maxL + 11) + rm.locals ≤ R.locals) :
    BackS l R p e below s args y len W (fun A a => a = as' ∧ A.U.heap = h ∧ A.cells + rm.cells ≤ R.cells ∧ A.slots + rm.slots ≤ R.slots) (fun A _ v B => ∃ L, Q v B.U.heap L ∧ B.locs = A.locs ++ L ∧ B.cells = A.cells + rm.cells ∧ B.slots = A.slots + rm.slots) := by
  refine BackS.of_freeW (bytes := bytes) (maxL := maxL) (ret := ret) (E := fun _ _ o t L k n => k = rm.cells ∧ n = rm.slots ∧ ∃ v, o = .returned v ∧ Q v t.heap L) hM hf hl ?_ ?_ (fun _ _ _ _ _ _ _ _ _ => trivial) ?_ ?_
  · intro m meth c A a Y hp
    have hU : Z.Warmed39 A.U.vm := wtrans hZ Y.warmed
    refine ⟨?_, mv hU wc, mv hU wz, hp.2.2.1, hp.2.2.2⟩
    show (Cond.and _ .tt).before a A.U = true
    rw [Cond.before_and, mv hU wc]; rfl
  · intro m meth c A a g mk Y hp
    exact ⟨hp.1, wtrans hZ Y.warmed, hp.2.1, own_IB hI Y.warmed⟩
  · rintro _ _ _ _ ⟨v, L, h1, h2, h3⟩
    exact ⟨L, _, _, h3, rfl, rfl, v, h1, h2⟩
  · intro m meth c A a g mk v t L k n Y hp _ _ q
    obtain ⟨e1, e2, v', e3, e4⟩ := q
    cases e3; subst e1 e2; exact ⟨L, e4, rfl, rfl, rfl⟩
section New
variable {p : Program} {l : Launch} {e : Env} {R : Room} {s : State} {m : MethodId} {args : Array Value} {below : List Frame} {meth : Method} {c : Code} {T : State} {locs : List Loc} {cells slots : Nat}
theorem retI (X : Stand p l e R s m args below meth c T locs cells slots) (hx : p.tables.exec = Jvm.exec) {pc : Nat} {Ls : Array Slot} {z : Int32} {rest : List Value} (hret : meth.sig.returnType = some .int) (hd : decode c.code pc = .ok (.ireturn, 1)) {fs : List Frame}
    (hl : ∀ (f : JFrame) (acts : List Action), f.method = m → f.locked = none → f.entered = [] → (doReturn e (T.setTop f) acts (some (.int z))).1 = T.setFrames fs) : Steps p.tables e below (T.setTop (mkF m pc Ls (.int z :: rest))) (T.setFrames fs) := by
  have hm' : T.vm.method? m = some meth := X.method'
  have hn : narrow .int (.int z) = .int z := rfl
  show Steps p.tables e below (T.setTop { method := m, pc := pc, locals := Ls, stack := _ :: rest, locked := none }) _
  jvm_step X.here [X.here.top, hx, hd, hm', hret, hn]
  first | (intro acts; rw [hl _ acts rfl rfl rfl]) | rw [hl _ _ rfl rfl rfl]
  exact Steps.refl _
end New
end Jvm.RoadKit
namespace Jvm.Pilot.@@N@@
open Jvm Jvm.ClassFile Sem Op Lib Jvm.Free Jvm.Stand Jvm.LawKit Jvm.RoadKit Bundle Jvm.Pilot.@@N@@.Jvm.D
theorem own_wS : ∀ d ∈ Bundle.stringAtoms, d ∈ tables_1 := by
  intro d hd
  simp only [Bundle.stringAtoms, Bundle.sN, List.mem_cons, List.not_mem_nil, or_false] at hd
  rcases hd with rfl | rfl | rfl | rfl | rfl | rfl | rfl
  all_goals (simp only [tables_1, List.mem_cons, List.not_mem_nil, or_false]; simp)

theorem d2_0 : decode jdk_30_method_1_code 0 = .ok (.aload_n 0, 1) := by decide +kernel
theorem d2_1 : decode jdk_30_method_1_code 1 = .ok (.invokespecial 1, 3) := by decide +kernel
theorem d2_4 : decode jdk_30_method_1_code 4 = .ok (.return_, 1) := by decide +kernel
theorem ef__rec (m : MethodId) (x0 : Addr) : entryFrame m #[(.ref x0)] 1 = mkF m 0 #[.val (.ref x0)] [] := by first | (simp [entryFrame, mkF, argsToLocals, Value.category]; done) | rfl
def Q_rec (Z : State) (a : Addr) (h0 : Heap) (n0 : Nat) (v_ : Option Value) (h : Heap) (L_ : List Loc) : Prop := v_ = none ∧ Fr n0 L_ ∧ h = h0
theorem pn0 : plainName "java/lang/Record" = true := by first | (simp [plainName, overriddenIn]; done) | decide +kernel
set_option maxRecDepth 65536 in
set_option maxHeartbeats 40000000 in
theorem rm_rec (l : Launch) (Z : State) (a0 : Array Value) (hw : ∀ d ∈ tables_1, d.before a0 Z = true) (ws : List Jvm.Cond) (a : Addr) (h0 : Heap) (n0 : Nat) (Z0 : n0 ≤ h0.size) :
    MetFree l (⟨"java/lang/Record", "<init>", "()V"⟩ : MethodName) (head1 (Jvm.Cond.code (⟨"java/lang/Record", "<init>", "()V"⟩ : MethodName) jdk_30_method_1_code 1 none :: ws) ({ frames := 1, cells := 0, slots := 0, locals := 12 } : Room)) (fun a_ U_ => a_ = #[(.ref a)] ∧ Z.Warmed39 U_.vm ∧ U_.heap = h0) (fun _ _ _ _ _ => True) (fun _ U_ o_ V_ => ∃ v_ L_, o_ = .returned v_ ∧ Q_rec Z a h0 n0 v_ V_.heap L_ ∧ FrameEnd U_ o_ V_ L_ ({ frames := 1, cells := 0, slots := 0, locals := 12 } : Room).cells ({ frames := 1, cells := 0, slots := 0, locals := 12 } : Room).slots) := by
  refine MetFree.of_bodySF (plainFor_of_name pn0) hisR ?_
  intro p e s m args below meth c s₁ Bd hml0 hP hK
  obtain ⟨rfl, hZ, hh⟩ := hP
  have hx := Bd.exec
  have hby := Bd.bytes
  have hml : c.maxLocals = 1 := hml0
  have hown : s.vm.findClass "java/lang/Record" = some m.cls := findClass_of_methodNamed Bd.named
  have hnm := (name_of_methodNamed Bd.named Bd.method).1
  have X0 : Stand p l e ({ frames := 1, cells := 0, slots := 0, locals := 12 } : Room) s m #[(.ref a)] below meth c s₁ [] 0 0 := Stand.of_body Bd
  have e0 : s₁.heap = h0 := by rw [← hh, Bd.state]; rfl
  have N0 := Fr.nil n0
  have pre0 : own_Go p e below (s₁.setTop (entryFrame m #[(.ref a)] 1)) (s₁.setTop (mkF m 0 #[.val (.ref a)] [])) := fun t_ k_ => castTop (ef__rec m a) k_
  have P1 := own_step (C := s₁.setTop (mkF m 1 #[.val (.ref a)] [(.ref a)])) pre0 (by
    intro tt_ kk_
    refine XS.aloadN X0.here hx rfl (hb hby d2_0) rfl rfl ?_
    exact kk_)
  obtain ⟨T2, X2, e2, st2⟩ := initO X0 hx hZ hown (hw _ (List.mem_of_getElem? (i := 12) rfl)) (hw _ (List.mem_of_getElem? (i := 13) rfl)) (hw _ (List.mem_of_getElem? (i := 14) rfl)) e0 (g := (mkF m 1 #[.val (.ref a)] [(.ref a)])) rfl (by rw [hml]; rfl) rfl (hb hby d2_1) (by decide) (W := 0) (by show 2 * 0 + _ ≤ _; exact Nat.le_of_eq rfl) (by decide)
  have P3 := own_step (C := T2.setTop (mkF m 4 #[.val (.ref a)] [])) P1 (fun t_ k_ => st2 t_ k_)
  obtain ⟨fs, hr, hrun, hended, hW, hsame⟩ := X2.leave (v := none) (fun _ => rfl)
  refine ⟨_, _, P3 _ ?_, hrun, hended, _, _, rfl, ?_, ⟨_, rfl⟩, hW, hsame.mono (by decide) (by decide)⟩
  · exact X2.returnOut hx Bd.returns (hb hby d2_4) hr
  · show Q_rec Z _ h0 n0 _ T2.heap _
    rw [e2]
    exact ⟨rfl, N0, rfl⟩
theorem pd0 : parseMethodDescriptor "()V" = some ⟨[], none⟩ := by decide +kernel
theorem d1_0 : decode prog_11_method_1_code 0 = .ok (.aload_n 0, 1) := by decide +kernel
theorem d1_1 : decode prog_11_method_1_code 1 = .ok (.invokespecial 1, 3) := by decide +kernel
theorem d1_4 : decode prog_11_method_1_code 4 = .ok (.aload_n 0, 1) := by decide +kernel
theorem d1_5 : decode prog_11_method_1_code 5 = .ok (.iload_n 1, 1) := by decide +kernel
theorem d1_6 : decode prog_11_method_1_code 6 = .ok (.putfield 7, 3) := by decide +kernel
theorem d1_9 : decode prog_11_method_1_code 9 = .ok (.aload_n 0, 1) := by decide +kernel
theorem d1_10 : decode prog_11_method_1_code 10 = .ok (.iload_n 2, 1) := by decide +kernel
theorem d1_11 : decode prog_11_method_1_code 11 = .ok (.putfield 13, 3) := by decide +kernel
theorem d1_14 : decode prog_11_method_1_code 14 = .ok (.aload_n 0, 1) := by decide +kernel
theorem d1_15 : decode prog_11_method_1_code 15 = .ok (.lload_n 3, 1) := by decide +kernel
theorem d1_16 : decode prog_11_method_1_code 16 = .ok (.putfield 16, 3) := by decide +kernel
theorem d1_19 : decode prog_11_method_1_code 19 = .ok (.return_, 1) := by decide +kernel
theorem ef__prompt (m : MethodId) (x0 : Addr) (x1 : Int32) (x2 : Int32) (x3 : Int64) : entryFrame m #[(.ref x0), (.int x1), (.int x2), (.long x3)] 5 = mkF m 0 #[.val (.ref x0), .val (.int x1), .val (.int x2), .val (.long x3), .second] [] := by first | (simp [entryFrame, mkF, argsToLocals, Value.category]; done) | rfl
def Q_prompt (Z : State) (a : Addr) (p0 : Int32) (p1 : Int32) (p2 : Int64) (h0 : Heap) (n0 : Nat) (v_ : Option Value) (h : Heap) (L_ : List Loc) : Prop := v_ = none ∧ Fr n0 L_ ∧ Keep h0 h [a] ∧ Exa Z h a "com/example/issuant/issuant/endpoint/Prompt" ∧ Fld Z h a "com/example/issuant/issuant/endpoint/Prompt" "none" "Z" (.int (nar .boolean p0)) ∧ Fld Z h a "com/example/issuant/issuant/endpoint/Prompt" "login" "Z" (.int (nar .boolean p1)) ∧ Fld Z h a "com/example/issuant/issuant/endpoint/Prompt" "maxAge" "J" (.long p2)
theorem pn1 : plainName "com/example/issuant/issuant/endpoint/Prompt" = true := by first | (simp [plainName, overriddenIn]; done) | decide +kernel
set_option maxRecDepth 65536 in
set_option maxHeartbeats 40000000 in
theorem rm_prompt (l : Launch) (Z : State) (a0 : Array Value) (hw : ∀ d ∈ tables_1, d.before a0 Z = true) (ws : List Jvm.Cond) (a : Addr) (p0 : Int32) (p1 : Int32) (p2 : Int64) (h0 : Heap) (n0 : Nat) (Z0 : n0 ≤ h0.size) (Ea : Exa Z h0 a "com/example/issuant/issuant/endpoint/Prompt") (Fnone : Fld Z h0 a "com/example/issuant/issuant/endpoint/Prompt" "none" "Z" (.int (0 : Int32))) (Flogin : Fld Z h0 a "com/example/issuant/issuant/endpoint/Prompt" "login" "Z" (.int (0 : Int32))) (FmaxAge : Fld Z h0 a "com/example/issuant/issuant/endpoint/Prompt" "maxAge" "J" (.long (0 : Int64))) (ga : n0 ≤ a) :
    MetFree l (⟨"com/example/issuant/issuant/endpoint/Prompt", "<init>", "(ZZJ)V"⟩ : MethodName) (head1 (Jvm.Cond.code (⟨"com/example/issuant/issuant/endpoint/Prompt", "<init>", "(ZZJ)V"⟩ : MethodName) prog_11_method_1_code 5 none :: ws) ({ frames := 2, cells := 0, slots := 0, locals := 24 } : Room)) (fun a_ U_ => a_ = #[(.ref a), (.int p0), (.int p1), (.long p2)] ∧ Z.Warmed39 U_.vm ∧ U_.heap = h0) (fun _ _ _ _ _ => True) (fun _ U_ o_ V_ => ∃ v_ L_, o_ = .returned v_ ∧ Q_prompt Z a p0 p1 p2 h0 n0 v_ V_.heap L_ ∧ FrameEnd U_ o_ V_ L_ ({ frames := 2, cells := 0, slots := 0, locals := 24 } : Room).cells ({ frames := 2, cells := 0, slots := 0, locals := 24 } : Room).slots) := by
  refine MetFree.of_bodySF (plainFor_of_name pn1) hisR ?_
  intro p e s m args below meth c s₁ Bd hml0 hP hK
  obtain ⟨rfl, hZ, hh⟩ := hP
  have hx := Bd.exec
  have hby := Bd.bytes
  have hml : c.maxLocals = 5 := hml0
  have hown : s.vm.findClass "com/example/issuant/issuant/endpoint/Prompt" = some m.cls := findClass_of_methodNamed Bd.named
  have hnm := (name_of_methodNamed Bd.named Bd.method).1
  have X0 : Stand p l e ({ frames := 2, cells := 0, slots := 0, locals := 24 } : Room) s m #[(.ref a), (.int p0), (.int p1), (.long p2)] below meth c s₁ [] 0 0 := Stand.of_body Bd
  have e0 : s₁.heap = h0 := by rw [← hh, Bd.state]; rfl
  have N0 := Fr.nil n0
  have pre0 : own_Go p e below (s₁.setTop (entryFrame m #[(.ref a), (.int p0), (.int p1), (.long p2)] 5)) (s₁.setTop (mkF m 0 #[.val (.ref a), .val (.int p0), .val (.int p1), .val (.long p2), .second] [])) := fun t_ k_ => castTop (ef__prompt m a p0 p1 p2) k_
  have P1 := own_step (C := s₁.setTop (mkF m 1 #[.val (.ref a), .val (.int p0), .val (.int p1), .val (.long p2), .second] [(.ref a)])) pre0 (by
    intro tt_ kk_
    refine XS.aloadN X0.here hx rfl (hb hby d1_0) rfl rfl ?_
    exact kk_)
  obtain ⟨_, _, ⟨T2, L2, k2, n2⟩, -, X2, ⟨Lc2, hQ2, l2, y2, z2⟩, st2⟩ := X0.specialBack hx (y := (⟨"java/lang/Record", "<init>", "()V"⟩ : MethodName)) rfl hown (mvT hZ (hw _ (List.mem_of_getElem? (i := 7) rfl))) (mvT hZ (hw _ (List.mem_of_getElem? (i := 8) rfl))) (mvT hZ (hw _ (List.mem_of_getElem? (i := 11) rfl))) (by decide) (backOf (W := 0) (rm_rec l Z a0 hw [] a h0 n0 Z0 ) hZ (hw _ (List.mem_of_getElem? (i := 11) rfl)) (hw _ (List.mem_of_getElem? (i := 10) rfl)) (by decide) (by decide)) (g := (mkF m 1 #[.val (.ref a), .val (.int p0), .val (.int p1), .val (.long p2), .second] [(.ref a)])) rfl (by rw [hml]; rfl) (Steps.refl _) (a := a) (argsL := []) (rest := []) (lenOf pd0 rfl) rfl (by show 2 * 0 + _ ≤ _; exact Nat.le_of_eq rfl) (hb hby d1_1) (fun _ _ => ⟨rfl, e0, (by decide : 0 + 0 ≤ _), (by decide : 0 + 0 ≤ _)⟩)
  dsimp only [Pt.U, Pt.locs, Pt.cells, Pt.slots] at X2 l2 y2 z2 st2 hQ2
  subst l2 y2 z2
  obtain ⟨rfl, N2q, e2⟩ := hQ2
  have N2 := Fr.app N0 N2q
  have P3 := own_step (C := T2.setTop (mkF m 4 #[.val (.ref a), .val (.int p0), .val (.int p1), .val (.long p2), .second] [])) P1 (fun t_ k_ => st2.trans k_)
  have P4 := own_step (C := T2.setTop (mkF m 6 #[.val (.ref a), .val (.int p0), .val (.int p1), .val (.long p2), .second] [(.int p0), (.ref a)])) P3 (by
    intro tt_ kk_
    refine XS.aloadN X2.here hx rfl (hb hby d1_4) rfl rfl ?_
    show Steps p.tables e below (T2.setTop (mkF m 5 #[.val (.ref a), .val (.int p0), .val (.int p1), .val (.long p2), .second] [(.ref a)])) _
    refine XS.iloadN X2.here hx rfl (hb hby d1_5) rfl ?_
    exact kk_)
  obtain ⟨T5, h5, X5, e5, W5, st5⟩ := putFN X2 hx hZ hown (hw _ (List.mem_of_getElem? (i := 15) rfl)) Via.refl e2 Fnone Ea (Or.inr ⟨(hw _ (List.mem_of_getElem? (i := 16) rfl)), rfl, hnm⟩) (hw _ (List.mem_of_getElem? (i := 2) rfl)) (ty := .boolean) (v' := (.int (nar .boolean p0))) (by decide) rfl (fits_nar_bool _) (g := (mkF m 6 #[.val (.ref a), .val (.int p0), .val (.int p1), .val (.long p2), .second] [(.int p0), (.ref a)])) rfl rfl (hb hby d1_6)
  have f6 := Ea.wr W5
  have f7 := (Keep.refl h0 [a]).wr W5 (Or.inl (List.mem_of_getElem? (i := 0) rfl))
  have f8 := Fnone.same W5
  have f9 := Flogin.other W5 (Or.inr (slot_ne (Or.inr (hw _ (List.mem_of_getElem? (i := 18) rfl))) (Or.inr (hw _ (List.mem_of_getElem? (i := 16) rfl))) (by decide) (t := .boolean) (t' := .boolean) (by decide) (by decide)))
  have f10 := FmaxAge.other W5 (Or.inr (slot_ne (Or.inr (hw _ (List.mem_of_getElem? (i := 20) rfl))) (Or.inr (hw _ (List.mem_of_getElem? (i := 16) rfl))) (by decide) (t := .long) (t' := .boolean) (by decide) (by decide)))
  have Z11 : n0 ≤ h5.size := Nat.le_trans Z0 (Keep.of_wr W5).1
  have N5 := Fr.snoc X5 N2 ga
  have P12 := own_step (C := T5.setTop (mkF m 9 #[.val (.ref a), .val (.int p0), .val (.int p1), .val (.long p2), .second] [])) P4 (fun t_ k_ => st5 t_ k_)
  have P13 := own_step (C := T5.setTop (mkF m 11 #[.val (.ref a), .val (.int p0), .val (.int p1), .val (.long p2), .second] [(.int p1), (.ref a)])) P12 (by
    intro tt_ kk_
    refine XS.aloadN X5.here hx rfl (hb hby d1_9) rfl rfl ?_
    show Steps p.tables e below (T5.setTop (mkF m 10 #[.val (.ref a), .val (.int p0), .val (.int p1), .val (.long p2), .second] [(.ref a)])) _
    refine XS.iloadN X5.here hx rfl (hb hby d1_10) rfl ?_
    exact kk_)
  obtain ⟨T14, h14, X14, e14, W14, st14⟩ := putFN X5 hx hZ hown (hw _ (List.mem_of_getElem? (i := 17) rfl)) Via.refl e5 f9 f6 (Or.inr ⟨(hw _ (List.mem_of_getElem? (i := 18) rfl)), rfl, hnm⟩) (hw _ (List.mem_of_getElem? (i := 2) rfl)) (ty := .boolean) (v' := (.int (nar .boolean p1))) (by decide) rfl (fits_nar_bool _) (g := (mkF m 11 #[.val (.ref a), .val (.int p0), .val (.int p1), .val (.long p2), .second] [(.int p1), (.ref a)])) rfl rfl (hb hby d1_11)
  have f15 := f6.wr W14
  have f16 := f7.wr W14 (Or.inl (List.mem_of_getElem? (i := 0) rfl))
  have f17 := f8.other W14 (Or.inr (slot_ne (Or.inr (hw _ (List.mem_of_getElem? (i := 16) rfl))) (Or.inr (hw _ (List.mem_of_getElem? (i := 18) rfl))) (by decide) (t := .boolean) (t' := .boolean) (by decide) (by decide)))
  have f18 := f9.same W14
  have f19 := f10.other W14 (Or.inr (slot_ne (Or.inr (hw _ (List.mem_of_getElem? (i := 20) rfl))) (Or.inr (hw _ (List.mem_of_getElem? (i := 18) rfl))) (by decide) (t := .long) (t' := .boolean) (by decide) (by decide)))
  have Z20 : n0 ≤ h14.size := Nat.le_trans Z11 (Keep.of_wr W14).1
  have N14 := Fr.snoc X14 N5 ga
  have P21 := own_step (C := T14.setTop (mkF m 14 #[.val (.ref a), .val (.int p0), .val (.int p1), .val (.long p2), .second] [])) P13 (fun t_ k_ => st14 t_ k_)
  have P22 := own_step (C := T14.setTop (mkF m 16 #[.val (.ref a), .val (.int p0), .val (.int p1), .val (.long p2), .second] [(.long p2), (.ref a)])) P21 (by
    intro tt_ kk_
    refine XS.aloadN X14.here hx rfl (hb hby d1_14) rfl rfl ?_
    show Steps p.tables e below (T14.setTop (mkF m 15 #[.val (.ref a), .val (.int p0), .val (.int p1), .val (.long p2), .second] [(.ref a)])) _
    refine XS.lloadN X14.here hx rfl (hb hby d1_15) rfl ?_
    exact kk_)
  obtain ⟨T23, h23, X23, e23, W23, st23⟩ := putF X14 hx hZ hown (host := "") (Or.inl (hw _ (List.mem_of_getElem? (i := 19) rfl))) Via.refl e14 f19 f15 (Or.inr ⟨(hw _ (List.mem_of_getElem? (i := 20) rfl)), rfl, hnm⟩) (hw _ (List.mem_of_getElem? (i := 2) rfl)) (ty := .long) (by decide) rfl rfl (g := (mkF m 16 #[.val (.ref a), .val (.int p0), .val (.int p1), .val (.long p2), .second] [(.long p2), (.ref a)])) rfl rfl (hb hby d1_16)
  have f24 := f15.wr W23
  have f25 := f16.wr W23 (Or.inl (List.mem_of_getElem? (i := 0) rfl))
  have f26 := f17.other W23 (Or.inr (slot_ne (Or.inr (hw _ (List.mem_of_getElem? (i := 16) rfl))) (Or.inr (hw _ (List.mem_of_getElem? (i := 20) rfl))) (by decide) (t := .boolean) (t' := .long) (by decide) (by decide)))
  have f27 := f18.other W23 (Or.inr (slot_ne (Or.inr (hw _ (List.mem_of_getElem? (i := 18) rfl))) (Or.inr (hw _ (List.mem_of_getElem? (i := 20) rfl))) (by decide) (t := .boolean) (t' := .long) (by decide) (by decide)))
  have f28 := f19.same W23
  have Z29 : n0 ≤ h23.size := Nat.le_trans Z20 (Keep.of_wr W23).1
  have N23 := Fr.snoc X23 N14 ga
  have P30 := own_step (C := T23.setTop (mkF m 19 #[.val (.ref a), .val (.int p0), .val (.int p1), .val (.long p2), .second] [])) P22 (fun t_ k_ => st23 t_ k_)
  obtain ⟨fs, hr, hrun, hended, hW, hsame⟩ := X23.leave (v := none) (fun _ => rfl)
  refine ⟨_, _, P30 _ ?_, hrun, hended, _, _, rfl, ?_, ⟨_, rfl⟩, hW, hsame.mono (by decide) (by decide)⟩
  · exact X23.returnOut hx Bd.returns (hb hby d1_19) hr
  · show Q_prompt Z _ _ _ _ h0 n0 _ T23.heap _
    rw [e23]
    exact ⟨rfl, N23, f25, f24, f26, f27, f28⟩
theorem d4_0 : decode prog_31_method_1_code 0 = .ok (.aload_n 0, 1) := by decide +kernel
theorem d4_1 : decode prog_31_method_1_code 1 = .ok (.invokespecial 1, 3) := by decide +kernel
theorem d4_4 : decode prog_31_method_1_code 4 = .ok (.aload_n 0, 1) := by decide +kernel
theorem d4_5 : decode prog_31_method_1_code 5 = .ok (.aload_n 1, 1) := by decide +kernel
theorem d4_6 : decode prog_31_method_1_code 6 = .ok (.putfield 7, 3) := by decide +kernel
theorem d4_9 : decode prog_31_method_1_code 9 = .ok (.aload_n 0, 1) := by decide +kernel
theorem d4_10 : decode prog_31_method_1_code 10 = .ok (.aload_n 2, 1) := by decide +kernel
theorem d4_11 : decode prog_31_method_1_code 11 = .ok (.putfield 13, 3) := by decide +kernel
theorem d4_14 : decode prog_31_method_1_code 14 = .ok (.aload_n 0, 1) := by decide +kernel
theorem d4_15 : decode prog_31_method_1_code 15 = .ok (.lload_n 3, 1) := by decide +kernel
theorem d4_16 : decode prog_31_method_1_code 16 = .ok (.putfield 16, 3) := by decide +kernel
theorem d4_19 : decode prog_31_method_1_code 19 = .ok (.return_, 1) := by decide +kernel
theorem ef__session (m : MethodId) (x0 : Addr) (x1 : Addr) (x2 : Addr) (x3 : Int64) : entryFrame m #[(.ref x0), (.ref x1), (.ref x2), (.long x3)] 5 = mkF m 0 #[.val (.ref x0), .val (.ref x1), .val (.ref x2), .val (.long x3), .second] [] := by first | (simp [entryFrame, mkF, argsToLocals, Value.category]; done) | rfl
def Q_session (Z : State) (a : Addr) (p0 : Addr) (p1 : Addr) (p2 : Int64) (h0 : Heap) (n0 : Nat) (v_ : Option Value) (h : Heap) (L_ : List Loc) : Prop := v_ = none ∧ Fr n0 L_ ∧ Keep h0 h [a] ∧ Exa Z h a "com/example/issuant/issuant/token/Sessions$Session" ∧ Fld Z h a "com/example/issuant/issuant/token/Sessions$Session" "id" "Ljava/lang/String;" (.ref p0) ∧ Fld Z h a "com/example/issuant/issuant/token/Sessions$Session" "subject" "Ljava/lang/String;" (.ref p1) ∧ Fld Z h a "com/example/issuant/issuant/token/Sessions$Session" "authTime" "J" (.long p2)
theorem pn2 : plainName "com/example/issuant/issuant/token/Sessions$Session" = true := by first | (simp [plainName, overriddenIn]; done) | decide +kernel
set_option maxRecDepth 65536 in
set_option maxHeartbeats 40000000 in
theorem rm_session (l : Launch) (Z : State) (a0 : Array Value) (hw : ∀ d ∈ tables_1, d.before a0 Z = true) (ws : List Jvm.Cond) (a : Addr) (p0 : Addr) (p1 : Addr) (p2 : Int64) (h0 : Heap) (n0 : Nat) (Z0 : n0 ≤ h0.size) (Ea : Exa Z h0 a "com/example/issuant/issuant/token/Sessions$Session") (Fid : Fld Z h0 a "com/example/issuant/issuant/token/Sessions$Session" "id" "Ljava/lang/String;" .null) (Fsubject : Fld Z h0 a "com/example/issuant/issuant/token/Sessions$Session" "subject" "Ljava/lang/String;" .null) (FauthTime : Fld Z h0 a "com/example/issuant/issuant/token/Sessions$Session" "authTime" "J" (.long (0 : Int64))) (ga : n0 ≤ a) :
    MetFree l (⟨"com/example/issuant/issuant/token/Sessions$Session", "<init>", "(Ljava/lang/String;Ljava/lang/String;J)V"⟩ : MethodName) (head1 (Jvm.Cond.code (⟨"com/example/issuant/issuant/token/Sessions$Session", "<init>", "(Ljava/lang/String;Ljava/lang/String;J)V"⟩ : MethodName) prog_31_method_1_code 5 none :: ws) ({ frames := 2, cells := 0, slots := 0, locals := 24 } : Room)) (fun a_ U_ => a_ = #[(.ref a), (.ref p0), (.ref p1), (.long p2)] ∧ Z.Warmed39 U_.vm ∧ U_.heap = h0) (fun _ _ _ _ _ => True) (fun _ U_ o_ V_ => ∃ v_ L_, o_ = .returned v_ ∧ Q_session Z a p0 p1 p2 h0 n0 v_ V_.heap L_ ∧ FrameEnd U_ o_ V_ L_ ({ frames := 2, cells := 0, slots := 0, locals := 24 } : Room).cells ({ frames := 2, cells := 0, slots := 0, locals := 24 } : Room).slots) := by
  refine MetFree.of_bodySF (plainFor_of_name pn2) hisR ?_
  intro p e s m args below meth c s₁ Bd hml0 hP hK
  obtain ⟨rfl, hZ, hh⟩ := hP
  have hx := Bd.exec
  have hby := Bd.bytes
  have hml : c.maxLocals = 5 := hml0
  have hown : s.vm.findClass "com/example/issuant/issuant/token/Sessions$Session" = some m.cls := findClass_of_methodNamed Bd.named
  have hnm := (name_of_methodNamed Bd.named Bd.method).1
  have X0 : Stand p l e ({ frames := 2, cells := 0, slots := 0, locals := 24 } : Room) s m #[(.ref a), (.ref p0), (.ref p1), (.long p2)] below meth c s₁ [] 0 0 := Stand.of_body Bd
  have e0 : s₁.heap = h0 := by rw [← hh, Bd.state]; rfl
  have N0 := Fr.nil n0
  have pre0 : own_Go p e below (s₁.setTop (entryFrame m #[(.ref a), (.ref p0), (.ref p1), (.long p2)] 5)) (s₁.setTop (mkF m 0 #[.val (.ref a), .val (.ref p0), .val (.ref p1), .val (.long p2), .second] [])) := fun t_ k_ => castTop (ef__session m a p0 p1 p2) k_
  have P1 := own_step (C := s₁.setTop (mkF m 1 #[.val (.ref a), .val (.ref p0), .val (.ref p1), .val (.long p2), .second] [(.ref a)])) pre0 (by
    intro tt_ kk_
    refine XS.aloadN X0.here hx rfl (hb hby d4_0) rfl rfl ?_
    exact kk_)
  obtain ⟨_, _, ⟨T2, L2, k2, n2⟩, -, X2, ⟨Lc2, hQ2, l2, y2, z2⟩, st2⟩ := X0.specialBack hx (y := (⟨"java/lang/Record", "<init>", "()V"⟩ : MethodName)) rfl hown (mvT hZ (hw _ (List.mem_of_getElem? (i := 36) rfl))) (mvT hZ (hw _ (List.mem_of_getElem? (i := 8) rfl))) (mvT hZ (hw _ (List.mem_of_getElem? (i := 11) rfl))) (by decide) (backOf (W := 0) (rm_rec l Z a0 hw [] a h0 n0 Z0 ) hZ (hw _ (List.mem_of_getElem? (i := 11) rfl)) (hw _ (List.mem_of_getElem? (i := 10) rfl)) (by decide) (by decide)) (g := (mkF m 1 #[.val (.ref a), .val (.ref p0), .val (.ref p1), .val (.long p2), .second] [(.ref a)])) rfl (by rw [hml]; rfl) (Steps.refl _) (a := a) (argsL := []) (rest := []) (lenOf pd0 rfl) rfl (by show 2 * 0 + _ ≤ _; exact Nat.le_of_eq rfl) (hb hby d4_1) (fun _ _ => ⟨rfl, e0, (by decide : 0 + 0 ≤ _), (by decide : 0 + 0 ≤ _)⟩)
  dsimp only [Pt.U, Pt.locs, Pt.cells, Pt.slots] at X2 l2 y2 z2 st2 hQ2
  subst l2 y2 z2
  obtain ⟨rfl, N2q, e2⟩ := hQ2
  have N2 := Fr.app N0 N2q
  have P3 := own_step (C := T2.setTop (mkF m 4 #[.val (.ref a), .val (.ref p0), .val (.ref p1), .val (.long p2), .second] [])) P1 (fun t_ k_ => st2.trans k_)
  have P4 := own_step (C := T2.setTop (mkF m 6 #[.val (.ref a), .val (.ref p0), .val (.ref p1), .val (.long p2), .second] [(.ref p0), (.ref a)])) P3 (by
    intro tt_ kk_
    refine XS.aloadN X2.here hx rfl (hb hby d4_4) rfl rfl ?_
    show Steps p.tables e below (T2.setTop (mkF m 5 #[.val (.ref a), .val (.ref p0), .val (.ref p1), .val (.long p2), .second] [(.ref a)])) _
    refine XS.aloadN X2.here hx rfl (hb hby d4_5) rfl rfl ?_
    exact kk_)
  obtain ⟨T5, h5, X5, e5, W5, st5⟩ := putF X2 hx hZ hown (host := "") (Or.inl (hw _ (List.mem_of_getElem? (i := 37) rfl))) Via.refl e2 Fid Ea (Or.inr ⟨(hw _ (List.mem_of_getElem? (i := 38) rfl)), rfl, hnm⟩) (hw _ (List.mem_of_getElem? (i := 22) rfl)) (ty := (.object "java/lang/String")) (by decide) rfl rfl (g := (mkF m 6 #[.val (.ref a), .val (.ref p0), .val (.ref p1), .val (.long p2), .second] [(.ref p0), (.ref a)])) rfl rfl (hb hby d4_6)
  have f6 := Ea.wr W5
  have f7 := (Keep.refl h0 [a]).wr W5 (Or.inl (List.mem_of_getElem? (i := 0) rfl))
  have f8 := Fid.same W5
  have f9 := Fsubject.other W5 (Or.inr (slot_ne (Or.inr (hw _ (List.mem_of_getElem? (i := 40) rfl))) (Or.inr (hw _ (List.mem_of_getElem? (i := 38) rfl))) (by decide) (t := (.object "java/lang/String")) (t' := (.object "java/lang/String")) (by decide) (by decide)))
  have f10 := FauthTime.other W5 (Or.inr (slot_ne (Or.inr (hw _ (List.mem_of_getElem? (i := 42) rfl))) (Or.inr (hw _ (List.mem_of_getElem? (i := 38) rfl))) (by decide) (t := .long) (t' := (.object "java/lang/String")) (by decide) (by decide)))
  have Z11 : n0 ≤ h5.size := Nat.le_trans Z0 (Keep.of_wr W5).1
  have N5 := Fr.snoc X5 N2 ga
  have P12 := own_step (C := T5.setTop (mkF m 9 #[.val (.ref a), .val (.ref p0), .val (.ref p1), .val (.long p2), .second] [])) P4 (fun t_ k_ => st5 t_ k_)
  have P13 := own_step (C := T5.setTop (mkF m 11 #[.val (.ref a), .val (.ref p0), .val (.ref p1), .val (.long p2), .second] [(.ref p1), (.ref a)])) P12 (by
    intro tt_ kk_
    refine XS.aloadN X5.here hx rfl (hb hby d4_9) rfl rfl ?_
    show Steps p.tables e below (T5.setTop (mkF m 10 #[.val (.ref a), .val (.ref p0), .val (.ref p1), .val (.long p2), .second] [(.ref a)])) _
    refine XS.aloadN X5.here hx rfl (hb hby d4_10) rfl rfl ?_
    exact kk_)
  obtain ⟨T14, h14, X14, e14, W14, st14⟩ := putF X5 hx hZ hown (host := "") (Or.inl (hw _ (List.mem_of_getElem? (i := 39) rfl))) Via.refl e5 f9 f6 (Or.inr ⟨(hw _ (List.mem_of_getElem? (i := 40) rfl)), rfl, hnm⟩) (hw _ (List.mem_of_getElem? (i := 22) rfl)) (ty := (.object "java/lang/String")) (by decide) rfl rfl (g := (mkF m 11 #[.val (.ref a), .val (.ref p0), .val (.ref p1), .val (.long p2), .second] [(.ref p1), (.ref a)])) rfl rfl (hb hby d4_11)
  have f15 := f6.wr W14
  have f16 := f7.wr W14 (Or.inl (List.mem_of_getElem? (i := 0) rfl))
  have f17 := f8.other W14 (Or.inr (slot_ne (Or.inr (hw _ (List.mem_of_getElem? (i := 38) rfl))) (Or.inr (hw _ (List.mem_of_getElem? (i := 40) rfl))) (by decide) (t := (.object "java/lang/String")) (t' := (.object "java/lang/String")) (by decide) (by decide)))
  have f18 := f9.same W14
  have f19 := f10.other W14 (Or.inr (slot_ne (Or.inr (hw _ (List.mem_of_getElem? (i := 42) rfl))) (Or.inr (hw _ (List.mem_of_getElem? (i := 40) rfl))) (by decide) (t := .long) (t' := (.object "java/lang/String")) (by decide) (by decide)))
  have Z20 : n0 ≤ h14.size := Nat.le_trans Z11 (Keep.of_wr W14).1
  have N14 := Fr.snoc X14 N5 ga
  have P21 := own_step (C := T14.setTop (mkF m 14 #[.val (.ref a), .val (.ref p0), .val (.ref p1), .val (.long p2), .second] [])) P13 (fun t_ k_ => st14 t_ k_)
  have P22 := own_step (C := T14.setTop (mkF m 16 #[.val (.ref a), .val (.ref p0), .val (.ref p1), .val (.long p2), .second] [(.long p2), (.ref a)])) P21 (by
    intro tt_ kk_
    refine XS.aloadN X14.here hx rfl (hb hby d4_14) rfl rfl ?_
    show Steps p.tables e below (T14.setTop (mkF m 15 #[.val (.ref a), .val (.ref p0), .val (.ref p1), .val (.long p2), .second] [(.ref a)])) _
    refine XS.lloadN X14.here hx rfl (hb hby d4_15) rfl ?_
    exact kk_)
  obtain ⟨T23, h23, X23, e23, W23, st23⟩ := putF X14 hx hZ hown (host := "") (Or.inl (hw _ (List.mem_of_getElem? (i := 41) rfl))) Via.refl e14 f19 f15 (Or.inr ⟨(hw _ (List.mem_of_getElem? (i := 42) rfl)), rfl, hnm⟩) (hw _ (List.mem_of_getElem? (i := 22) rfl)) (ty := .long) (by decide) rfl rfl (g := (mkF m 16 #[.val (.ref a), .val (.ref p0), .val (.ref p1), .val (.long p2), .second] [(.long p2), (.ref a)])) rfl rfl (hb hby d4_16)
  have f24 := f15.wr W23
  have f25 := f16.wr W23 (Or.inl (List.mem_of_getElem? (i := 0) rfl))
  have f26 := f17.other W23 (Or.inr (slot_ne (Or.inr (hw _ (List.mem_of_getElem? (i := 38) rfl))) (Or.inr (hw _ (List.mem_of_getElem? (i := 42) rfl))) (by decide) (t := (.object "java/lang/String")) (t' := .long) (by decide) (by decide)))
  have f27 := f18.other W23 (Or.inr (slot_ne (Or.inr (hw _ (List.mem_of_getElem? (i := 40) rfl))) (Or.inr (hw _ (List.mem_of_getElem? (i := 42) rfl))) (by decide) (t := (.object "java/lang/String")) (t' := .long) (by decide) (by decide)))
  have f28 := f19.same W23
  have Z29 : n0 ≤ h23.size := Nat.le_trans Z20 (Keep.of_wr W23).1
  have N23 := Fr.snoc X23 N14 ga
  have P30 := own_step (C := T23.setTop (mkF m 19 #[.val (.ref a), .val (.ref p0), .val (.ref p1), .val (.long p2), .second] [])) P22 (fun t_ k_ => st23 t_ k_)
  obtain ⟨fs, hr, hrun, hended, hW, hsame⟩ := X23.leave (v := none) (fun _ => rfl)
  refine ⟨_, _, P30 _ ?_, hrun, hended, _, _, rfl, ?_, ⟨_, rfl⟩, hW, hsame.mono (by decide) (by decide)⟩
  · exact X23.returnOut hx Bd.returns (hb hby d4_19) hr
  · show Q_session Z _ _ _ _ h0 n0 _ T23.heap _
    rw [e23]
    exact ⟨rfl, N23, f25, f24, f26, f27, f28⟩
def own_at (tm : Int64) : Int64 := tm
theorem d6_0 : decode prog_31_method_7_code 0 = .ok (.aload_n 0, 1) := by decide +kernel
theorem d6_1 : decode prog_31_method_7_code 1 = .ok (.getfield 16, 3) := by decide +kernel
theorem d6_4 : decode prog_31_method_7_code 4 = .ok (.lreturn, 1) := by decide +kernel
theorem ef__own_at (m : MethodId) (x0 : Addr) : entryFrame m #[(.ref x0)] 1 = mkF m 0 #[.val (.ref x0)] [] := by first | (simp [entryFrame, mkF, argsToLocals, Value.category]; done) | rfl
def Q_own_at (Z : State) (a : Addr) (tm : Int64) (h0 : Heap) (n0 : Nat) (v_ : Option Value) (h : Heap) (L_ : List Loc) : Prop := v_ = some (.long (own_at tm)) ∧ Fr n0 L_ ∧ h = h0
set_option maxRecDepth 65536 in
set_option maxHeartbeats 40000000 in
theorem rm_own_at (l : Launch) (Z : State) (a0 : Array Value) (hw : ∀ d ∈ tables_1, d.before a0 Z = true) (ws : List Jvm.Cond) (a : Addr) (tm : Int64) (h0 : Heap) (n0 : Nat) (Z0 : n0 ≤ h0.size) (Fa : Fld Z h0 a "com/example/issuant/issuant/token/Sessions$Session" "authTime" "J" (.long tm)) :
    MetFree l (⟨"com/example/issuant/issuant/token/Sessions$Session", "authTime", "()J"⟩ : MethodName) (head1 (Jvm.Cond.code (⟨"com/example/issuant/issuant/token/Sessions$Session", "authTime", "()J"⟩ : MethodName) prog_31_method_7_code 1 (some .long) :: ws) ({ frames := 0, cells := 0, slots := 0, locals := 0 } : Room)) (fun a_ U_ => a_ = #[(.ref a)] ∧ Z.Warmed39 U_.vm ∧ U_.heap = h0) (fun _ _ _ _ _ => True) (fun _ U_ o_ V_ => ∃ v_ L_, o_ = .returned v_ ∧ Q_own_at Z a tm h0 n0 v_ V_.heap L_ ∧ FrameEnd U_ o_ V_ L_ ({ frames := 0, cells := 0, slots := 0, locals := 0 } : Room).cells ({ frames := 0, cells := 0, slots := 0, locals := 0 } : Room).slots) := by
  refine MetFree.of_bodySF (plainFor_of_name pn2) hisR ?_
  intro p e s m args below meth c s₁ Bd hml0 hP hK
  obtain ⟨rfl, hZ, hh⟩ := hP
  have hx := Bd.exec
  have hby := Bd.bytes
  have hml : c.maxLocals = 1 := hml0
  have hown : s.vm.findClass "com/example/issuant/issuant/token/Sessions$Session" = some m.cls := findClass_of_methodNamed Bd.named
  have hnm := (name_of_methodNamed Bd.named Bd.method).1
  have X0 : Stand p l e ({ frames := 0, cells := 0, slots := 0, locals := 0 } : Room) s m #[(.ref a)] below meth c s₁ [] 0 0 := Stand.of_body Bd
  have e0 : s₁.heap = h0 := by rw [← hh, Bd.state]; rfl
  have N0 := Fr.nil n0
  have pre0 : own_Go p e below (s₁.setTop (entryFrame m #[(.ref a)] 1)) (s₁.setTop (mkF m 0 #[.val (.ref a)] [])) := fun t_ k_ => castTop (ef__own_at m a) k_
  have P1 := own_step (C := s₁.setTop (mkF m 1 #[.val (.ref a)] [(.ref a)])) pre0 (by
    intro tt_ kk_
    refine XS.aloadN X0.here hx rfl (hb hby d6_0) rfl rfl ?_
    exact kk_)
  obtain ⟨T2, X2, e2, st2⟩ := getF X0 hx hZ hown (host := "") (Or.inl (hw _ (List.mem_of_getElem? (i := 41) rfl))) Via.refl e0 Fa (g := (mkF m 1 #[.val (.ref a)] [(.ref a)])) rfl rfl (hb hby d6_1)
  have P3 := own_step (C := T2.setTop (mkF m 4 #[.val (.ref a)] [(.long tm)])) P1 (fun t_ k_ => st2 t_ k_)
  obtain ⟨fs, hr, hrun, hended, hW, hsame⟩ := X2.leave (v := some (.long tm)) (fun h => by rw [Bd.returns] at h; cases h)
  refine ⟨_, _, P3 _ ?_, hrun, hended, _, _, rfl, ?_, ⟨_, rfl⟩, hW, hsame.mono (by decide) (by decide)⟩
  · jvm_step X2.here [X2.here.top, hx, (hb hby d6_4), X2.method', Bd.returns, narrow]
    first | (intro acts; rw [hr _ acts rfl rfl rfl]) | rw [hr _ _ rfl rfl rfl]
    exact Steps.refl _
  · show Q_own_at Z _ _ h0 n0 _ T2.heap _
    rw [e2]
    exact ⟨rfl, N0, rfl⟩
theorem pd1 : parseMethodDescriptor "()J" = some ⟨[], some .long⟩ := by decide +kernel
def own_acc (now : Int64) (lg : Int32) (ma : Int64) (tm : Int64) : Int32 := (if lg = (0 : Int32) then (if ma < (now - (own_at tm)) then (0 : Int32) else (1 : Int32)) else (0 : Int32))
theorem d5_0 : decode prog_11_method_3_code 0 = .ok (.aload_n 0, 1) := by decide +kernel
theorem d5_1 : decode prog_11_method_3_code 1 = .ok (.getfield 13, 3) := by decide +kernel
theorem d5_4 : decode prog_11_method_3_code 4 = .ok (.ifCond .ne 21, 3) := by decide +kernel
theorem d5_7 : decode prog_11_method_3_code 7 = .ok (.lload_n 2, 1) := by decide +kernel
theorem d5_8 : decode prog_11_method_3_code 8 = .ok (.aload_n 1, 1) := by decide +kernel
theorem d5_9 : decode prog_11_method_3_code 9 = .ok (.invokevirtual 116, 3) := by decide +kernel
theorem d5_12 : decode prog_11_method_3_code 12 = .ok (.lsub, 1) := by decide +kernel
theorem d5_13 : decode prog_11_method_3_code 13 = .ok (.aload_n 0, 1) := by decide +kernel
theorem d5_14 : decode prog_11_method_3_code 14 = .ok (.getfield 16, 3) := by decide +kernel
theorem d5_17 : decode prog_11_method_3_code 17 = .ok (.lcmp, 1) := by decide +kernel
theorem d5_18 : decode prog_11_method_3_code 18 = .ok (.ifCond .gt 7, 3) := by decide +kernel
theorem d5_21 : decode prog_11_method_3_code 21 = .ok (.iconst 1, 1) := by decide +kernel
theorem d5_22 : decode prog_11_method_3_code 22 = .ok (.goto 4, 3) := by decide +kernel
theorem d5_25 : decode prog_11_method_3_code 25 = .ok (.iconst 0, 1) := by decide +kernel
theorem d5_26 : decode prog_11_method_3_code 26 = .ok (.ireturn, 1) := by decide +kernel
theorem ef__own_acc (m : MethodId) (x0 : Addr) (x1 : Addr) (x2 : Int64) : entryFrame m #[(.ref x0), (.ref x1), (.long x2)] 4 = mkF m 0 #[.val (.ref x0), .val (.ref x1), .val (.long x2), .second] [] := by first | (simp [entryFrame, mkF, argsToLocals, Value.category]; done) | rfl
def Q_own_acc (Z : State) (a : Addr) (b : Addr) (now : Int64) (lg : Int32) (ma : Int64) (tm : Int64) (h0 : Heap) (n0 : Nat) (v_ : Option Value) (h : Heap) (L_ : List Loc) : Prop := v_ = some (.int (own_acc now lg ma tm)) ∧ Fr n0 L_ ∧ h = h0
set_option maxRecDepth 65536 in
set_option maxHeartbeats 40000000 in
theorem rm_own_acc (l : Launch) (Z : State) (a0 : Array Value) (hw : ∀ d ∈ tables_1, d.before a0 Z = true) (ws : List Jvm.Cond) (a : Addr) (b : Addr) (now : Int64) (lg : Int32) (ma : Int64) (tm : Int64) (h0 : Heap) (n0 : Nat) (Z0 : n0 ≤ h0.size) (Fl : Fld Z h0 a "com/example/issuant/issuant/endpoint/Prompt" "login" "Z" (.int lg)) (Fm : Fld Z h0 a "com/example/issuant/issuant/endpoint/Prompt" "maxAge" "J" (.long ma)) (Eb : Exa Z h0 b "com/example/issuant/issuant/token/Sessions$Session") (Ft : Fld Z h0 b "com/example/issuant/issuant/token/Sessions$Session" "authTime" "J" (.long tm)) :
    MetFree l (⟨"com/example/issuant/issuant/endpoint/Prompt", "accepts", "(Lcom/example/issuant/issuant/token/Sessions$Session;J)Z"⟩ : MethodName) (head1 (Jvm.Cond.code (⟨"com/example/issuant/issuant/endpoint/Prompt", "accepts", "(Lcom/example/issuant/issuant/token/Sessions$Session;J)Z"⟩ : MethodName) prog_11_method_3_code 4 (some .boolean) :: ws) ({ frames := 1, cells := 0, slots := 0, locals := 14 } : Room)) (fun a_ U_ => a_ = #[(.ref a), (.ref b), (.long now)] ∧ Z.Warmed39 U_.vm ∧ U_.heap = h0) (fun _ _ _ _ _ => True) (fun _ U_ o_ V_ => ∃ v_ L_, o_ = .returned v_ ∧ Q_own_acc Z a b now lg ma tm h0 n0 v_ V_.heap L_ ∧ FrameEnd U_ o_ V_ L_ ({ frames := 1, cells := 0, slots := 0, locals := 14 } : Room).cells ({ frames := 1, cells := 0, slots := 0, locals := 14 } : Room).slots) := by
  refine MetFree.of_bodySF (plainFor_of_name pn1) hisR ?_
  intro p e s m args below meth c s₁ Bd hml0 hP hK
  obtain ⟨rfl, hZ, hh⟩ := hP
  have hx := Bd.exec
  have hby := Bd.bytes
  have hml : c.maxLocals = 4 := hml0
  have hown : s.vm.findClass "com/example/issuant/issuant/endpoint/Prompt" = some m.cls := findClass_of_methodNamed Bd.named
  have hnm := (name_of_methodNamed Bd.named Bd.method).1
  have X0 : Stand p l e ({ frames := 1, cells := 0, slots := 0, locals := 14 } : Room) s m #[(.ref a), (.ref b), (.long now)] below meth c s₁ [] 0 0 := Stand.of_body Bd
  have e0 : s₁.heap = h0 := by rw [← hh, Bd.state]; rfl
  have N0 := Fr.nil n0
  have pre0 : own_Go p e below (s₁.setTop (entryFrame m #[(.ref a), (.ref b), (.long now)] 4)) (s₁.setTop (mkF m 0 #[.val (.ref a), .val (.ref b), .val (.long now), .second] [])) := fun t_ k_ => castTop (ef__own_acc m a b now) k_
  have P1 := own_step (C := s₁.setTop (mkF m 1 #[.val (.ref a), .val (.ref b), .val (.long now), .second] [(.ref a)])) pre0 (by
    intro tt_ kk_
    refine XS.aloadN X0.here hx rfl (hb hby d5_0) rfl rfl ?_
    exact kk_)
  obtain ⟨T2, X2, e2, st2⟩ := getF X0 hx hZ hown (host := "") (Or.inl (hw _ (List.mem_of_getElem? (i := 17) rfl))) Via.refl e0 Fl (g := (mkF m 1 #[.val (.ref a), .val (.ref b), .val (.long now), .second] [(.ref a)])) rfl rfl (hb hby d5_1)
  have P3 := own_step (C := T2.setTop (mkF m 4 #[.val (.ref a), .val (.ref b), .val (.long now), .second] [(.int lg)])) P1 (fun t_ k_ => st2 t_ k_)
  by_cases c4 : lg = (0 : Int32)
  · have P5 := own_step (C := T2.setTop (mkF m 7 #[.val (.ref a), .val (.ref b), .val (.long now), .second] [])) P3 (by
      intro tt_ kk_
      refine XS.ifNo X2.here hx rfl (hb hby d5_4) rfl ((if0 _ _).trans (teq c4).2) ?_
      exact kk_)
    have P6 := own_step (C := T2.setTop (mkF m 9 #[.val (.ref a), .val (.ref b), .val (.long now), .second] [(.ref b), (.long now)])) P5 (by
      intro tt_ kk_
      refine XS.lloadN X2.here hx rfl (hb hby d5_7) rfl ?_
      show Steps p.tables e below (T2.setTop (mkF m 8 #[.val (.ref a), .val (.ref b), .val (.long now), .second] [(.long now)])) _
      refine XS.aloadN X2.here hx rfl (hb hby d5_8) rfl rfl ?_
      exact kk_)
    obtain ⟨cq7, kq7, q7a, q7b, q7c⟩ := isOf hZ e2 Eb
    obtain ⟨_, _, ⟨T7, L7, k7, n7⟩, -, X7, ⟨Lc7, hQ7, l7, y7, z7⟩, st7⟩ := X2.virtualBack hx (y := (⟨"com/example/issuant/issuant/token/Sessions$Session", "authTime", "()J"⟩ : MethodName)) (z := (⟨"com/example/issuant/issuant/token/Sessions$Session", "authTime", "()J"⟩ : MethodName)) hown (mvT hZ (hw _ (List.mem_of_getElem? (i := 48) rfl))) (mvT hZ (hw _ (List.mem_of_getElem? (i := 49) rfl))) (notFace_of_selects (args := #[]) (mvT hZ (hw _ (List.mem_of_getElem? (i := 51) rfl)))) (mvT hZ (hw _ (List.mem_of_getElem? (i := 51) rfl))) (mvT hZ (hw _ (List.mem_of_getElem? (i := 50) rfl))) (by decide) (backOf (W := 2) (rm_own_at l Z a0 hw [] b tm h0 n0 Z0 Ft) hZ (hw _ (List.mem_of_getElem? (i := 52) rfl)) (hw _ (List.mem_of_getElem? (i := 23) rfl)) (by decide) (by decide)) q7a q7c (g := (mkF m 9 #[.val (.ref a), .val (.ref b), .val (.long now), .second] [(.ref b), (.long now)])) rfl (by rw [hml]; rfl) (Steps.refl _) (argsL := []) (rest := [(.long now)]) (lenOf pd1 rfl) rfl (by show 2 * 0 + _ ≤ _; exact Nat.le_of_eq rfl) (hb hby d5_9) (fun _ _ => ⟨rfl, e2, (by decide : 0 + 0 ≤ _), (by decide : 0 + 0 ≤ _)⟩)
    dsimp only [Pt.U, Pt.locs, Pt.cells, Pt.slots] at X7 l7 y7 z7 st7 hQ7
    subst l7 y7 z7
    obtain ⟨rfl, N7q, e7⟩ := hQ7
    have N7 := Fr.app N0 N7q
    have P8 := own_step (C := T7.setTop (mkF m 12 #[.val (.ref a), .val (.ref b), .val (.long now), .second] [(.long (own_at tm)), (.long now)])) P6 (fun t_ k_ => st7.trans k_)
    have P9 := own_step (C := T7.setTop (mkF m 14 #[.val (.ref a), .val (.ref b), .val (.long now), .second] [(.ref a), (.long (now - (own_at tm)))])) P8 (by
      intro tt_ kk_
      refine XS.lsub X7.here hx rfl (hb hby d5_12) rfl ?_
      show Steps p.tables e below (T7.setTop (mkF m 13 #[.val (.ref a), .val (.ref b), .val (.long now), .second] [(.long (now - (own_at tm)))])) _
      refine XS.aloadN X7.here hx rfl (hb hby d5_13) rfl rfl ?_
      exact kk_)
    obtain ⟨T10, X10, e10, st10⟩ := getF X7 hx hZ hown (host := "") (Or.inl (hw _ (List.mem_of_getElem? (i := 19) rfl))) Via.refl e7 Fm (g := (mkF m 14 #[.val (.ref a), .val (.ref b), .val (.long now), .second] [(.ref a), (.long (now - (own_at tm)))])) rfl rfl (hb hby d5_14)
    have P11 := own_step (C := T10.setTop (mkF m 17 #[.val (.ref a), .val (.ref b), .val (.long now), .second] [(.long ma), (.long (now - (own_at tm)))])) P9 (fun t_ k_ => st10 t_ k_)
    have P12 := own_step (C := T10.setTop (mkF m 18 #[.val (.ref a), .val (.ref b), .val (.long now), .second] [(.int (lcmpW (now - (own_at tm)) ma))])) P11 (by
      intro tt_ kk_
      refine XS.lcmp X10.here hx rfl (hb hby d5_17) rfl ?_
      exact kk_)
    by_cases c13 : ma < (now - (own_at tm))
    · have P14 := own_step (C := T10.setTop (mkF m 25 #[.val (.ref a), .val (.ref b), .val (.long now), .second] [])) P12 (by
        intro tt_ kk_
        refine XS.ifYes X10.here hx rfl (pc0 := 18) (pc' := 25) rfl (hb hby d5_18) rfl ((if0 _ _).trans (tlt ((lw_gt _ _).mpr c13)).2.2.1) (by decide) (by decide) ?_
        exact kk_)
      have P15 := own_step (C := T10.setTop (mkF m 26 #[.val (.ref a), .val (.ref b), .val (.long now), .second] [(.int (0 : Int32))])) P14 (by
        intro tt_ kk_
        refine XS.iconst X10.here hx rfl (hb hby d5_25) ?_
        exact kk_)
      obtain ⟨fs, hr, hrun, hended, hW, hsame⟩ := X10.leave (v := some (.int (0 : Int32))) (fun h => by rw [Bd.returns] at h; cases h)
      refine ⟨_, _, P15 _ ?_, hrun, hended, _, _, rfl, ?_, ⟨_, rfl⟩, hW, hsame.mono (by decide) (by decide)⟩
      · exact retN X10 hx (t := .boolean) Bd.returns (by simp) (hb hby d5_26) hr
      · show Q_own_acc Z _ _ _ _ _ _ h0 n0 _ T10.heap _
        rw [e10]
        exact ⟨by unfold own_acc; rw [if_pos c4, if_pos c13], N7, rfl⟩
    · have P16 := own_step (C := T10.setTop (mkF m 21 #[.val (.ref a), .val (.ref b), .val (.long now), .second] [])) P12 (by
        intro tt_ kk_
        refine XS.ifNo X10.here hx rfl (hb hby d5_18) rfl ((if0 _ _).trans (flt (fun q => c13 ((lw_gt _ _).mp q))).2.2.1) ?_
        exact kk_)
      have P17 := own_step (C := T10.setTop (mkF m 26 #[.val (.ref a), .val (.ref b), .val (.long now), .second] [(.int (1 : Int32))])) P16 (by
        intro tt_ kk_
        refine XS.iconst X10.here hx rfl (hb hby d5_21) ?_
        show Steps p.tables e below (T10.setTop (mkF m 22 #[.val (.ref a), .val (.ref b), .val (.long now), .second] [(.int (1 : Int32))])) _
        refine XS.goto X10.here hx rfl (pc0 := 22) (pc' := 26) rfl (hb hby d5_22) (by decide) (by decide) ?_
        exact kk_)
      obtain ⟨fs, hr, hrun, hended, hW, hsame⟩ := X10.leave (v := some (.int (1 : Int32))) (fun h => by rw [Bd.returns] at h; cases h)
      refine ⟨_, _, P17 _ ?_, hrun, hended, _, _, rfl, ?_, ⟨_, rfl⟩, hW, hsame.mono (by decide) (by decide)⟩
      · exact retN X10 hx (t := .boolean) Bd.returns (by simp) (hb hby d5_26) hr
      · show Q_own_acc Z _ _ _ _ _ _ h0 n0 _ T10.heap _
        rw [e10]
        exact ⟨by unfold own_acc; rw [if_pos c4, if_neg c13], N7, rfl⟩
  · have P18 := own_step (C := T2.setTop (mkF m 25 #[.val (.ref a), .val (.ref b), .val (.long now), .second] [])) P3 (by
      intro tt_ kk_
      refine XS.ifYes X2.here hx rfl (pc0 := 4) (pc' := 25) rfl (hb hby d5_4) rfl ((if0 _ _).trans (feq c4).2) (by decide) (by decide) ?_
      exact kk_)
    have P19 := own_step (C := T2.setTop (mkF m 26 #[.val (.ref a), .val (.ref b), .val (.long now), .second] [(.int (0 : Int32))])) P18 (by
      intro tt_ kk_
      refine XS.iconst X2.here hx rfl (hb hby d5_25) ?_
      exact kk_)
    obtain ⟨fs, hr, hrun, hended, hW, hsame⟩ := X2.leave (v := some (.int (0 : Int32))) (fun h => by rw [Bd.returns] at h; cases h)
    refine ⟨_, _, P19 _ ?_, hrun, hended, _, _, rfl, ?_, ⟨_, rfl⟩, hW, hsame.mono (by decide) (by decide)⟩
    · exact retN X2 hx (t := .boolean) Bd.returns (by simp) (hb hby d5_26) hr
    · show Q_own_acc Z _ _ _ _ _ _ h0 n0 _ T2.heap _
      rw [e2]
      exact ⟨by unfold own_acc; rw [if_neg c4], N0, rfl⟩
def own_ref (p0 : Int32) (p1 : Int64) (p2 : Int64) (p3 : Int64) : Int32 := (if p0 = (0 : Int32) then (if ((9223372036854775807 : Int64) - p1) < p3 then (1 : Int32) else (if (p3 + p1) < p2 then (0 : Int32) else (1 : Int32))) else (0 : Int32))
theorem d7_0 : decode method_3_code 0 = .ok (.iload_n 0, 1) := by decide +kernel
theorem d7_1 : decode method_3_code 1 = .ok (.ifCond .eq 5, 3) := by decide +kernel
theorem d7_4 : decode method_3_code 4 = .ok (.iconst 0, 1) := by decide +kernel
theorem d7_5 : decode method_3_code 5 = .ok (.ireturn, 1) := by decide +kernel
theorem d7_6 : decode method_3_code 6 = .ok (.lload 5, 2) := by decide +kernel
theorem d7_8 : decode method_3_code 8 = .ok (.ldc2_w 9, 3) := by decide +kernel
theorem d7_11 : decode method_3_code 11 = .ok (.lload_n 1, 1) := by decide +kernel
theorem d7_12 : decode method_3_code 12 = .ok (.lsub, 1) := by decide +kernel
theorem d7_13 : decode method_3_code 13 = .ok (.lcmp, 1) := by decide +kernel
theorem d7_14 : decode method_3_code 14 = .ok (.ifCond .le 5, 3) := by decide +kernel
theorem d7_17 : decode method_3_code 17 = .ok (.iconst 1, 1) := by decide +kernel
theorem d7_18 : decode method_3_code 18 = .ok (.ireturn, 1) := by decide +kernel
theorem d7_19 : decode method_3_code 19 = .ok (.lload 5, 2) := by decide +kernel
theorem d7_21 : decode method_3_code 21 = .ok (.lload_n 1, 1) := by decide +kernel
theorem d7_22 : decode method_3_code 22 = .ok (.ladd, 1) := by decide +kernel
theorem d7_23 : decode method_3_code 23 = .ok (.lstore 7, 2) := by decide +kernel
theorem d7_25 : decode method_3_code 25 = .ok (.lload_n 3, 1) := by decide +kernel
theorem d7_26 : decode method_3_code 26 = .ok (.lload 7, 2) := by decide +kernel
theorem d7_28 : decode method_3_code 28 = .ok (.lcmp, 1) := by decide +kernel
theorem d7_29 : decode method_3_code 29 = .ok (.ifCond .gt 7, 3) := by decide +kernel
theorem d7_32 : decode method_3_code 32 = .ok (.iconst 1, 1) := by decide +kernel
theorem d7_33 : decode method_3_code 33 = .ok (.goto 4, 3) := by decide +kernel
theorem d7_36 : decode method_3_code 36 = .ok (.iconst 0, 1) := by decide +kernel
theorem d7_37 : decode method_3_code 37 = .ok (.ireturn, 1) := by decide +kernel
theorem ef__own_ref (m : MethodId) (x0 : Int32) (x1 : Int64) (x2 : Int64) (x3 : Int64) : entryFrame m #[(.int x0), (.long x1), (.long x2), (.long x3)] 9 = mkF m 0 #[.val (.int x0), .val (.long x1), .second, .val (.long x2), .second, .val (.long x3), .second, .unset, .unset] [] := by first | (simp [entryFrame, mkF, argsToLocals, Value.category]; done) | rfl
def Q_own_ref (Z : State) (p0 : Int32) (p1 : Int64) (p2 : Int64) (p3 : Int64) (h0 : Heap) (n0 : Nat) (v_ : Option Value) (h : Heap) (L_ : List Loc) : Prop := v_ = some (.int (own_ref p0 p1 p2 p3)) ∧ Fr n0 L_ ∧ h = h0
theorem pn3 : plainName "com/example/issuant/issuant/endpoint/PromptAcceptsPinLaw" = true := by first | (simp [plainName, overriddenIn]; done) | decide +kernel
set_option maxRecDepth 65536 in
set_option maxHeartbeats 40000000 in
theorem rm_own_ref (l : Launch) (Z : State) (a0 : Array Value) (hw : ∀ d ∈ tables_1, d.before a0 Z = true) (ws : List Jvm.Cond) (p0 : Int32) (p1 : Int64) (p2 : Int64) (p3 : Int64) (h0 : Heap) (n0 : Nat) (Z0 : n0 ≤ h0.size) :
    MetFree l (⟨"com/example/issuant/issuant/endpoint/PromptAcceptsPinLaw", "reference", "(ZJJJ)Z"⟩ : MethodName) (head1 (Jvm.Cond.code (⟨"com/example/issuant/issuant/endpoint/PromptAcceptsPinLaw", "reference", "(ZJJJ)Z"⟩ : MethodName) method_3_code 9 (some .boolean) :: ws) ({ frames := 0, cells := 0, slots := 0, locals := 0 } : Room)) (fun a_ U_ => a_ = #[(.int p0), (.long p1), (.long p2), (.long p3)] ∧ Z.Warmed39 U_.vm ∧ U_.heap = h0) (fun _ _ _ _ _ => True) (fun _ U_ o_ V_ => ∃ v_ L_, o_ = .returned v_ ∧ Q_own_ref Z p0 p1 p2 p3 h0 n0 v_ V_.heap L_ ∧ FrameEnd U_ o_ V_ L_ ({ frames := 0, cells := 0, slots := 0, locals := 0 } : Room).cells ({ frames := 0, cells := 0, slots := 0, locals := 0 } : Room).slots) := by
  refine MetFree.of_bodySF (plainFor_of_name pn3) hisR ?_
  intro p e s m args below meth c s₁ Bd hml0 hP hK
  obtain ⟨rfl, hZ, hh⟩ := hP
  have hx := Bd.exec
  have hby := Bd.bytes
  have hml : c.maxLocals = 9 := hml0
  have hown : s.vm.findClass "com/example/issuant/issuant/endpoint/PromptAcceptsPinLaw" = some m.cls := findClass_of_methodNamed Bd.named
  have hnm := (name_of_methodNamed Bd.named Bd.method).1
  have X0 : Stand p l e ({ frames := 0, cells := 0, slots := 0, locals := 0 } : Room) s m #[(.int p0), (.long p1), (.long p2), (.long p3)] below meth c s₁ [] 0 0 := Stand.of_body Bd
  have e0 : s₁.heap = h0 := by rw [← hh, Bd.state]; rfl
  have N0 := Fr.nil n0
  have pre0 : own_Go p e below (s₁.setTop (entryFrame m #[(.int p0), (.long p1), (.long p2), (.long p3)] 9)) (s₁.setTop (mkF m 0 #[.val (.int p0), .val (.long p1), .second, .val (.long p2), .second, .val (.long p3), .second, .unset, .unset] [])) := fun t_ k_ => castTop (ef__own_ref m p0 p1 p2 p3) k_
  have P1 := own_step (C := s₁.setTop (mkF m 1 #[.val (.int p0), .val (.long p1), .second, .val (.long p2), .second, .val (.long p3), .second, .unset, .unset] [(.int p0)])) pre0 (by
    intro tt_ kk_
    refine XS.iloadN X0.here hx rfl (hb hby d7_0) rfl ?_
    exact kk_)
  by_cases c2 : p0 = (0 : Int32)
  · have P3 := own_step (C := s₁.setTop (mkF m 6 #[.val (.int p0), .val (.long p1), .second, .val (.long p2), .second, .val (.long p3), .second, .unset, .unset] [])) P1 (by
      intro tt_ kk_
      refine XS.ifYes X0.here hx rfl (pc0 := 1) (pc' := 6) rfl (hb hby d7_1) rfl ((if0 _ _).trans (teq c2).1) (by decide) (by decide) ?_
      exact kk_)
    have P4 := own_step (C := s₁.setTop (mkF m 14 #[.val (.int p0), .val (.long p1), .second, .val (.long p2), .second, .val (.long p3), .second, .unset, .unset] [(.int (lcmpW p3 ((9223372036854775807 : Int64) - p1)))])) P3 (by
      intro tt_ kk_
      refine XS.lload X0.here hx rfl (hb hby d7_6) rfl ?_
      show Steps p.tables e below (s₁.setTop (mkF m 8 #[.val (.int p0), .val (.long p1), .second, .val (.long p2), .second, .val (.long p3), .second, .unset, .unset] [(.long p3)])) _
      refine X0.ldc2Long hx hown (mvT hZ (hw _ (List.mem_of_getElem? (i := 0) rfl))) (g := (mkF m 8 #[.val (.int p0), .val (.long p1), .second, .val (.long p2), .second, .val (.long p3), .second, .unset, .unset] [(.long p3)])) rfl (hb hby d7_8) _ ?_
      show Steps p.tables e below (s₁.setTop (mkF m 11 #[.val (.int p0), .val (.long p1), .second, .val (.long p2), .second, .val (.long p3), .second, .unset, .unset] [(.long (9223372036854775807 : Int64)), (.long p3)])) _
      refine XS.lloadN X0.here hx rfl (hb hby d7_11) rfl ?_
      show Steps p.tables e below (s₁.setTop (mkF m 12 #[.val (.int p0), .val (.long p1), .second, .val (.long p2), .second, .val (.long p3), .second, .unset, .unset] [(.long p1), (.long (9223372036854775807 : Int64)), (.long p3)])) _
      refine XS.lsub X0.here hx rfl (hb hby d7_12) rfl ?_
      show Steps p.tables e below (s₁.setTop (mkF m 13 #[.val (.int p0), .val (.long p1), .second, .val (.long p2), .second, .val (.long p3), .second, .unset, .unset] [(.long ((9223372036854775807 : Int64) - p1)), (.long p3)])) _
      refine XS.lcmp X0.here hx rfl (hb hby d7_13) rfl ?_
      exact kk_)
    by_cases c5 : ((9223372036854775807 : Int64) - p1) < p3
    · have P6 := own_step (C := s₁.setTop (mkF m 17 #[.val (.int p0), .val (.long p1), .second, .val (.long p2), .second, .val (.long p3), .second, .unset, .unset] [])) P4 (by
        intro tt_ kk_
        refine XS.ifNo X0.here hx rfl (hb hby d7_14) rfl ((if0 _ _).trans (tlt ((lw_gt _ _).mpr c5)).2.2.2) ?_
        exact kk_)
      have P7 := own_step (C := s₁.setTop (mkF m 18 #[.val (.int p0), .val (.long p1), .second, .val (.long p2), .second, .val (.long p3), .second, .unset, .unset] [(.int (1 : Int32))])) P6 (by
        intro tt_ kk_
        refine XS.iconst X0.here hx rfl (hb hby d7_17) ?_
        exact kk_)
      obtain ⟨fs, hr, hrun, hended, hW, hsame⟩ := X0.leave (v := some (.int (1 : Int32))) (fun h => by rw [Bd.returns] at h; cases h)
      refine ⟨_, _, P7 _ ?_, hrun, hended, _, _, rfl, ?_, ⟨_, rfl⟩, hW, hsame.mono (by decide) (by decide)⟩
      · exact retN X0 hx (t := .boolean) Bd.returns (by simp) (hb hby d7_18) hr
      · show Q_own_ref Z _ _ _ _ h0 n0 _ s₁.heap _
        rw [e0]
        exact ⟨by unfold own_ref; rw [if_pos c2, if_pos c5], N0, rfl⟩
    · have P8 := own_step (C := s₁.setTop (mkF m 19 #[.val (.int p0), .val (.long p1), .second, .val (.long p2), .second, .val (.long p3), .second, .unset, .unset] [])) P4 (by
        intro tt_ kk_
        refine XS.ifYes X0.here hx rfl (pc0 := 14) (pc' := 19) rfl (hb hby d7_14) rfl ((if0 _ _).trans (flt (fun q => c5 ((lw_gt _ _).mp q))).2.2.2) (by decide) (by decide) ?_
        exact kk_)
      have P9 := own_step (C := s₁.setTop (mkF m 29 #[.val (.int p0), .val (.long p1), .second, .val (.long p2), .second, .val (.long p3), .second, .val (.long (p3 + p1)), .second] [(.int (lcmpW p2 (p3 + p1)))])) P8 (by
        intro tt_ kk_
        refine XS.lload X0.here hx rfl (hb hby d7_19) rfl ?_
        show Steps p.tables e below (s₁.setTop (mkF m 21 #[.val (.int p0), .val (.long p1), .second, .val (.long p2), .second, .val (.long p3), .second, .unset, .unset] [(.long p3)])) _
        refine XS.lloadN X0.here hx rfl (hb hby d7_21) rfl ?_
        show Steps p.tables e below (s₁.setTop (mkF m 22 #[.val (.int p0), .val (.long p1), .second, .val (.long p2), .second, .val (.long p3), .second, .unset, .unset] [(.long p1), (.long p3)])) _
        refine XS.ladd X0.here hx rfl (hb hby d7_22) rfl ?_
        show Steps p.tables e below (s₁.setTop (mkF m 23 #[.val (.int p0), .val (.long p1), .second, .val (.long p2), .second, .val (.long p3), .second, .unset, .unset] [(.long (p3 + p1))])) _
        refine XS.lstore X0.here hx rfl (hb hby d7_23) rfl (l' := #[.val (.int p0), .val (.long p1), .second, .val (.long p2), .second, .val (.long p3), .second, .val (.long (p3 + p1)), .second]) rfl ?_
        show Steps p.tables e below (s₁.setTop (mkF m 25 #[.val (.int p0), .val (.long p1), .second, .val (.long p2), .second, .val (.long p3), .second, .val (.long (p3 + p1)), .second] [])) _
        refine XS.lloadN X0.here hx rfl (hb hby d7_25) rfl ?_
        show Steps p.tables e below (s₁.setTop (mkF m 26 #[.val (.int p0), .val (.long p1), .second, .val (.long p2), .second, .val (.long p3), .second, .val (.long (p3 + p1)), .second] [(.long p2)])) _
        refine XS.lload X0.here hx rfl (hb hby d7_26) rfl ?_
        show Steps p.tables e below (s₁.setTop (mkF m 28 #[.val (.int p0), .val (.long p1), .second, .val (.long p2), .second, .val (.long p3), .second, .val (.long (p3 + p1)), .second] [(.long (p3 + p1)), (.long p2)])) _
        refine XS.lcmp X0.here hx rfl (hb hby d7_28) rfl ?_
        exact kk_)
      by_cases c10 : (p3 + p1) < p2
      · have P11 := own_step (C := s₁.setTop (mkF m 36 #[.val (.int p0), .val (.long p1), .second, .val (.long p2), .second, .val (.long p3), .second, .val (.long (p3 + p1)), .second] [])) P9 (by
          intro tt_ kk_
          refine XS.ifYes X0.here hx rfl (pc0 := 29) (pc' := 36) rfl (hb hby d7_29) rfl ((if0 _ _).trans (tlt ((lw_gt _ _).mpr c10)).2.2.1) (by decide) (by decide) ?_
          exact kk_)
        have P12 := own_step (C := s₁.setTop (mkF m 37 #[.val (.int p0), .val (.long p1), .second, .val (.long p2), .second, .val (.long p3), .second, .val (.long (p3 + p1)), .second] [(.int (0 : Int32))])) P11 (by
          intro tt_ kk_
          refine XS.iconst X0.here hx rfl (hb hby d7_36) ?_
          exact kk_)
        obtain ⟨fs, hr, hrun, hended, hW, hsame⟩ := X0.leave (v := some (.int (0 : Int32))) (fun h => by rw [Bd.returns] at h; cases h)
        refine ⟨_, _, P12 _ ?_, hrun, hended, _, _, rfl, ?_, ⟨_, rfl⟩, hW, hsame.mono (by decide) (by decide)⟩
        · exact retN X0 hx (t := .boolean) Bd.returns (by simp) (hb hby d7_37) hr
        · show Q_own_ref Z _ _ _ _ h0 n0 _ s₁.heap _
          rw [e0]
          exact ⟨by unfold own_ref; rw [if_pos c2, if_neg c5, if_pos c10], N0, rfl⟩
      · have P13 := own_step (C := s₁.setTop (mkF m 32 #[.val (.int p0), .val (.long p1), .second, .val (.long p2), .second, .val (.long p3), .second, .val (.long (p3 + p1)), .second] [])) P9 (by
          intro tt_ kk_
          refine XS.ifNo X0.here hx rfl (hb hby d7_29) rfl ((if0 _ _).trans (flt (fun q => c10 ((lw_gt _ _).mp q))).2.2.1) ?_
          exact kk_)
        have P14 := own_step (C := s₁.setTop (mkF m 37 #[.val (.int p0), .val (.long p1), .second, .val (.long p2), .second, .val (.long p3), .second, .val (.long (p3 + p1)), .second] [(.int (1 : Int32))])) P13 (by
          intro tt_ kk_
          refine XS.iconst X0.here hx rfl (hb hby d7_32) ?_
          show Steps p.tables e below (s₁.setTop (mkF m 33 #[.val (.int p0), .val (.long p1), .second, .val (.long p2), .second, .val (.long p3), .second, .val (.long (p3 + p1)), .second] [(.int (1 : Int32))])) _
          refine XS.goto X0.here hx rfl (pc0 := 33) (pc' := 37) rfl (hb hby d7_33) (by decide) (by decide) ?_
          exact kk_)
        obtain ⟨fs, hr, hrun, hended, hW, hsame⟩ := X0.leave (v := some (.int (1 : Int32))) (fun h => by rw [Bd.returns] at h; cases h)
        refine ⟨_, _, P14 _ ?_, hrun, hended, _, _, rfl, ?_, ⟨_, rfl⟩, hW, hsame.mono (by decide) (by decide)⟩
        · exact retN X0 hx (t := .boolean) Bd.returns (by simp) (hb hby d7_37) hr
        · show Q_own_ref Z _ _ _ _ h0 n0 _ s₁.heap _
          rw [e0]
          exact ⟨by unfold own_ref; rw [if_pos c2, if_neg c5, if_neg c10], N0, rfl⟩
  · have P15 := own_step (C := s₁.setTop (mkF m 4 #[.val (.int p0), .val (.long p1), .second, .val (.long p2), .second, .val (.long p3), .second, .unset, .unset] [])) P1 (by
      intro tt_ kk_
      refine XS.ifNo X0.here hx rfl (hb hby d7_1) rfl ((if0 _ _).trans (feq c2).1) ?_
      exact kk_)
    have P16 := own_step (C := s₁.setTop (mkF m 5 #[.val (.int p0), .val (.long p1), .second, .val (.long p2), .second, .val (.long p3), .second, .unset, .unset] [(.int (0 : Int32))])) P15 (by
      intro tt_ kk_
      refine XS.iconst X0.here hx rfl (hb hby d7_4) ?_
      exact kk_)
    obtain ⟨fs, hr, hrun, hended, hW, hsame⟩ := X0.leave (v := some (.int (0 : Int32))) (fun h => by rw [Bd.returns] at h; cases h)
    refine ⟨_, _, P16 _ ?_, hrun, hended, _, _, rfl, ?_, ⟨_, rfl⟩, hW, hsame.mono (by decide) (by decide)⟩
    · exact retN X0 hx (t := .boolean) Bd.returns (by simp) (hb hby d7_5) hr
    · show Q_own_ref Z _ _ _ _ h0 n0 _ s₁.heap _
      rw [e0]
      exact ⟨by unfold own_ref; rw [if_neg c2], N0, rfl⟩
theorem own_mask (x : Int64) : 0 ≤ (x &&& (9223372036854775807 : Int64)).toInt := by
  rw [c_maskL x _ 63 (by decide) (by decide +kernel)]; omega
theorem own_law {vl fl : Int32} (hv : fl &&& (2 : Int32) = (0 : Int32) ∧ vl = (0 : Int32) ∨ ¬ (fl &&& (2 : Int32) = (0 : Int32)) ∧ vl = (1 : Int32)) (r1 r2 r3 : Int64) :
    own_acc (r2 &&& (9223372036854775807 : Int64)) (nar .boolean vl) (r1 &&& (9223372036854775807 : Int64)) (r3 &&& (9223372036854775807 : Int64)) = own_ref vl (r1 &&& (9223372036854775807 : Int64)) (r2 &&& (9223372036854775807 : Int64)) (r3 &&& (9223372036854775807 : Int64)) := by
  have h1 := own_mask r1; have h2 := own_mask r2; have h3 := own_mask r3
  generalize (r1 &&& (9223372036854775807 : Int64)) = a at *
  generalize (r2 &&& (9223372036854775807 : Int64)) = b at *
  generalize (r3 &&& (9223372036854775807 : Int64)) = c at *
  have e1 := c_lsub b c; have e2 := c_ladd c a; have e3 := c_lsub (9223372036854775807 : Int64) a
  have g1 := rng64 (b - c); have g2 := rng64 (c + a); have g3 := rng64 ((9223372036854775807 : Int64) - a); have ga := rng64 a; have gb := rng64 b; have gc := rng64 c
  rw [show (9223372036854775807 : Int64).toInt = 9223372036854775807 from rfl] at e3
  unfold own_acc own_ref own_at
  rcases hv with ⟨-, rfl⟩ | ⟨-, rfl⟩
  · simp only [show nar .boolean (0 : Int32) = 0 from rfl, if_true, Int64.lt_iff_toInt_lt]
    repeat' split
    all_goals first | rfl | omega
  · rw [if_neg (by decide), if_neg (by decide)]

theorem pd2 : parseMethodDescriptor "(ZZJ)V" = some ⟨[.boolean, .boolean, .long], none⟩ := by decide +kernel
theorem pd3 : parseMethodDescriptor "(Ljava/lang/String;Ljava/lang/String;J)V" = some ⟨[(.object "java/lang/String"), (.object "java/lang/String"), .long], none⟩ := by decide +kernel
theorem pd4 : parseMethodDescriptor "(Lcom/example/issuant/issuant/token/Sessions$Session;J)Z" = some ⟨[(.object "com/example/issuant/issuant/token/Sessions$Session"), .long], some .boolean⟩ := by decide +kernel
theorem pd5 : parseMethodDescriptor "(ZJJJ)Z" = some ⟨[.boolean, .long, .long, .long], some .boolean⟩ := by decide +kernel
theorem ef_0 (m : MethodId) (x0 : Int32) (x1 : Int64) (x2 : Int64) (x3 : Int64) : entryFrame m #[(.int x0), (.long x1), (.long x2), (.long x3)] maxLocals = mkF m 0 #[.val (.int x0), .val (.long x1), .second, .val (.long x2), .second, .val (.long x3), .second, .unset, .unset, .unset, .unset, .unset, .unset, .unset, .unset, .unset, .unset, .unset, .unset] [] := by first | (simp [entryFrame, mkF, argsToLocals, Value.category, maxLocals]; done) | rfl
def Q0 (Z : State) (fl : Int32) (r1 : Int64) (r2 : Int64) (r3 : Int64) (h0 : Heap) (n0 : Nat) (v_ : Option Value) (h : Heap) (L_ : List Loc) : Prop := v_ = some (.int 1) ∧ Fr n0 L_
set_option maxRecDepth 65536 in
set_option maxHeartbeats 40000000 in
theorem rm0 (l : Launch) (Z : State) (a0 : Array Value) (hw : ∀ d ∈ tables_1, d.before a0 Z = true) (ws : List Jvm.Cond) (fl : Int32) (r1 : Int64) (r2 : Int64) (r3 : Int64) (h0 : Heap) (n0 : Nat) (Z0 : n0 ≤ h0.size) :
    MetFree l x (head1 (Jvm.Cond.code x code maxLocals ret :: ws) room_1) (fun a_ U_ => a_ = #[(.int fl), (.long r1), (.long r2), (.long r3)] ∧ Z.Warmed39 U_.vm ∧ U_.heap = h0) (fun _ _ _ _ _ => True) (fun _ U_ o_ V_ => ∃ v_ L_, o_ = .returned v_ ∧ Q0 Z fl r1 r2 r3 h0 n0 v_ V_.heap L_ ∧ ReturnedEndW U_ o_ V_ L_ room_1.cells room_1.slots) := by
  refine MetFree.of_bodySF (plainFor_of_name pn3) hisR ?_
  intro p e s m args below meth c s₁ Bd hml0 hP hK
  obtain ⟨rfl, hZ, hh⟩ := hP
  have hx := Bd.exec
  have hby := Bd.bytes
  have hml : c.maxLocals = 19 := hml0
  have hown : s.vm.findClass "com/example/issuant/issuant/endpoint/PromptAcceptsPinLaw" = some m.cls := findClass_of_methodNamed Bd.named
  have hnm := (name_of_methodNamed Bd.named Bd.method).1
  have X0 : Stand p l e room_1 s m #[(.int fl), (.long r1), (.long r2), (.long r3)] below meth c s₁ [] 0 0 := Stand.of_body Bd
  have e0 : s₁.heap = h0 := by rw [← hh, Bd.state]; rfl
  have N0 := Fr.nil n0
  have pre0 : own_Go p e below (s₁.setTop (entryFrame m #[(.int fl), (.long r1), (.long r2), (.long r3)] maxLocals)) (s₁.setTop (mkF m 0 #[.val (.int fl), .val (.long r1), .second, .val (.long r2), .second, .val (.long r3), .second, .unset, .unset, .unset, .unset, .unset, .unset, .unset, .unset, .unset, .unset, .unset, .unset] [])) := fun t_ k_ => castTop (ef_0 m fl r1 r2 r3) k_
  have P1 := own_step (C := s₁.setTop (mkF m 3 #[.val (.int fl), .val (.long r1), .second, .val (.long r2), .second, .val (.long r3), .second, .unset, .unset, .unset, .unset, .unset, .unset, .unset, .unset, .unset, .unset, .unset, .unset] [(.int (fl &&& (1 : Int32)))])) pre0 (by
    intro tt_ kk_
    refine XS.iloadN X0.here hx rfl (hb hby at_0) rfl ?_
    show Steps p.tables e below (s₁.setTop (mkF m 1 #[.val (.int fl), .val (.long r1), .second, .val (.long r2), .second, .val (.long r3), .second, .unset, .unset, .unset, .unset, .unset, .unset, .unset, .unset, .unset, .unset, .unset, .unset] [(.int fl)])) _
    refine XS.iconst X0.here hx rfl (hb hby at_1) ?_
    show Steps p.tables e below (s₁.setTop (mkF m 2 #[.val (.int fl), .val (.long r1), .second, .val (.long r2), .second, .val (.long r3), .second, .unset, .unset, .unset, .unset, .unset, .unset, .unset, .unset, .unset, .unset, .unset, .unset] [(.int (1 : Int32)), (.int fl)])) _
    refine XS.iand X0.here hx rfl (hb hby at_2) rfl ?_
    exact kk_)
  obtain ⟨vn, hv2, J2⟩ : ∃ (vn : Int32), (((fl &&& (1 : Int32)) = (0 : Int32) ∧ vn = (0 : Int32)) ∨ (¬ ((fl &&& (1 : Int32)) = (0 : Int32)) ∧ vn = (1 : Int32))) ∧ own_Go p e below (s₁.setTop (mkF m 3 #[.val (.int fl), .val (.long r1), .second, .val (.long r2), .second, .val (.long r3), .second, .unset, .unset, .unset, .unset, .unset, .unset, .unset, .unset, .unset, .unset, .unset, .unset] [(.int (fl &&& (1 : Int32)))])) (s₁.setTop (mkF m 11 #[.val (.int fl), .val (.long r1), .second, .val (.long r2), .second, .val (.long r3), .second, .unset, .unset, .unset, .unset, .unset, .unset, .unset, .unset, .unset, .unset, .unset, .unset] [(.int vn)])) := by
    have P3 : own_Go p e below (s₁.setTop (mkF m 3 #[.val (.int fl), .val (.long r1), .second, .val (.long r2), .second, .val (.long r3), .second, .unset, .unset, .unset, .unset, .unset, .unset, .unset, .unset, .unset, .unset, .unset, .unset] [(.int (fl &&& (1 : Int32)))])) (s₁.setTop (mkF m 3 #[.val (.int fl), .val (.long r1), .second, .val (.long r2), .second, .val (.long r3), .second, .unset, .unset, .unset, .unset, .unset, .unset, .unset, .unset, .unset, .unset, .unset, .unset] [(.int (fl &&& (1 : Int32)))])) := fun t_ k_ => k_
    by_cases c4 : (fl &&& (1 : Int32)) = (0 : Int32)
    · have P5 := own_step (C := s₁.setTop (mkF m 10 #[.val (.int fl), .val (.long r1), .second, .val (.long r2), .second, .val (.long r3), .second, .unset, .unset, .unset, .unset, .unset, .unset, .unset, .unset, .unset, .unset, .unset, .unset] [])) P3 (by
        intro tt_ kk_
        refine XS.ifYes X0.here hx rfl (pc0 := 3) (pc' := 10) rfl (hb hby at_3) rfl ((if0 _ _).trans (teq c4).1) (by decide) (by decide) ?_
        exact kk_)
      have P6 := own_step (C := s₁.setTop (mkF m 11 #[.val (.int fl), .val (.long r1), .second, .val (.long r2), .second, .val (.long r3), .second, .unset, .unset, .unset, .unset, .unset, .unset, .unset, .unset, .unset, .unset, .unset, .unset] [(.int (0 : Int32))])) P5 (by
        intro tt_ kk_
        refine XS.iconst X0.here hx rfl (hb hby at_10) ?_
        exact kk_)
      exact ⟨(0 : Int32), Or.inl ⟨c4, rfl⟩, P6⟩
    · have P7 := own_step (C := s₁.setTop (mkF m 6 #[.val (.int fl), .val (.long r1), .second, .val (.long r2), .second, .val (.long r3), .second, .unset, .unset, .unset, .unset, .unset, .unset, .unset, .unset, .unset, .unset, .unset, .unset] [])) P3 (by
        intro tt_ kk_
        refine XS.ifNo X0.here hx rfl (hb hby at_3) rfl ((if0 _ _).trans (feq c4).1) ?_
        exact kk_)
      have P8 := own_step (C := s₁.setTop (mkF m 11 #[.val (.int fl), .val (.long r1), .second, .val (.long r2), .second, .val (.long r3), .second, .unset, .unset, .unset, .unset, .unset, .unset, .unset, .unset, .unset, .unset, .unset, .unset] [(.int (1 : Int32))])) P7 (by
        intro tt_ kk_
        refine XS.iconst X0.here hx rfl (hb hby at_6) ?_
        show Steps p.tables e below (s₁.setTop (mkF m 7 #[.val (.int fl), .val (.long r1), .second, .val (.long r2), .second, .val (.long r3), .second, .unset, .unset, .unset, .unset, .unset, .unset, .unset, .unset, .unset, .unset, .unset, .unset] [(.int (1 : Int32))])) _
        refine XS.goto X0.here hx rfl (pc0 := 7) (pc' := 11) rfl (hb hby at_7) (by decide) (by decide) ?_
        exact kk_)
      exact ⟨(1 : Int32), Or.inr (⟨c4, rfl⟩), P8⟩
  have P9 := own_step P1 J2
  have P10 := own_step (C := s₁.setTop (mkF m 16 #[.val (.int fl), .val (.long r1), .second, .val (.long r2), .second, .val (.long r3), .second, .val (.int vn), .unset, .unset, .unset, .unset, .unset, .unset, .unset, .unset, .unset, .unset, .unset] [(.int (fl &&& (2 : Int32)))])) P9 (by
    intro tt_ kk_
    refine XS.istore X0.here hx rfl (hb hby at_11) rfl (l' := #[.val (.int fl), .val (.long r1), .second, .val (.long r2), .second, .val (.long r3), .second, .val (.int vn), .unset, .unset, .unset, .unset, .unset, .unset, .unset, .unset, .unset, .unset, .unset]) rfl ?_
    show Steps p.tables e below (s₁.setTop (mkF m 13 #[.val (.int fl), .val (.long r1), .second, .val (.long r2), .second, .val (.long r3), .second, .val (.int vn), .unset, .unset, .unset, .unset, .unset, .unset, .unset, .unset, .unset, .unset, .unset] [])) _
    refine XS.iloadN X0.here hx rfl (hb hby at_13) rfl ?_
    show Steps p.tables e below (s₁.setTop (mkF m 14 #[.val (.int fl), .val (.long r1), .second, .val (.long r2), .second, .val (.long r3), .second, .val (.int vn), .unset, .unset, .unset, .unset, .unset, .unset, .unset, .unset, .unset, .unset, .unset] [(.int fl)])) _
    refine XS.iconst X0.here hx rfl (hb hby at_14) ?_
    show Steps p.tables e below (s₁.setTop (mkF m 15 #[.val (.int fl), .val (.long r1), .second, .val (.long r2), .second, .val (.long r3), .second, .val (.int vn), .unset, .unset, .unset, .unset, .unset, .unset, .unset, .unset, .unset, .unset, .unset] [(.int (2 : Int32)), (.int fl)])) _
    refine XS.iand X0.here hx rfl (hb hby at_15) rfl ?_
    exact kk_)
  obtain ⟨vl, hv11, J11⟩ : ∃ (vl : Int32), (((fl &&& (2 : Int32)) = (0 : Int32) ∧ vl = (0 : Int32)) ∨ (¬ ((fl &&& (2 : Int32)) = (0 : Int32)) ∧ vl = (1 : Int32))) ∧ own_Go p e below (s₁.setTop (mkF m 16 #[.val (.int fl), .val (.long r1), .second, .val (.long r2), .second, .val (.long r3), .second, .val (.int vn), .unset, .unset, .unset, .unset, .unset, .unset, .unset, .unset, .unset, .unset, .unset] [(.int (fl &&& (2 : Int32)))])) (s₁.setTop (mkF m 24 #[.val (.int fl), .val (.long r1), .second, .val (.long r2), .second, .val (.long r3), .second, .val (.int vn), .unset, .unset, .unset, .unset, .unset, .unset, .unset, .unset, .unset, .unset, .unset] [(.int vl)])) := by
    have P12 : own_Go p e below (s₁.setTop (mkF m 16 #[.val (.int fl), .val (.long r1), .second, .val (.long r2), .second, .val (.long r3), .second, .val (.int vn), .unset, .unset, .unset, .unset, .unset, .unset, .unset, .unset, .unset, .unset, .unset] [(.int (fl &&& (2 : Int32)))])) (s₁.setTop (mkF m 16 #[.val (.int fl), .val (.long r1), .second, .val (.long r2), .second, .val (.long r3), .second, .val (.int vn), .unset, .unset, .unset, .unset, .unset, .unset, .unset, .unset, .unset, .unset, .unset] [(.int (fl &&& (2 : Int32)))])) := fun t_ k_ => k_
    by_cases c13 : (fl &&& (2 : Int32)) = (0 : Int32)
    · have P14 := own_step (C := s₁.setTop (mkF m 23 #[.val (.int fl), .val (.long r1), .second, .val (.long r2), .second, .val (.long r3), .second, .val (.int vn), .unset, .unset, .unset, .unset, .unset, .unset, .unset, .unset, .unset, .unset, .unset] [])) P12 (by
        intro tt_ kk_
        refine XS.ifYes X0.here hx rfl (pc0 := 16) (pc' := 23) rfl (hb hby at_16) rfl ((if0 _ _).trans (teq c13).1) (by decide) (by decide) ?_
        exact kk_)
      have P15 := own_step (C := s₁.setTop (mkF m 24 #[.val (.int fl), .val (.long r1), .second, .val (.long r2), .second, .val (.long r3), .second, .val (.int vn), .unset, .unset, .unset, .unset, .unset, .unset, .unset, .unset, .unset, .unset, .unset] [(.int (0 : Int32))])) P14 (by
        intro tt_ kk_
        refine XS.iconst X0.here hx rfl (hb hby at_23) ?_
        exact kk_)
      exact ⟨(0 : Int32), Or.inl ⟨c13, rfl⟩, P15⟩
    · have P16 := own_step (C := s₁.setTop (mkF m 19 #[.val (.int fl), .val (.long r1), .second, .val (.long r2), .second, .val (.long r3), .second, .val (.int vn), .unset, .unset, .unset, .unset, .unset, .unset, .unset, .unset, .unset, .unset, .unset] [])) P12 (by
        intro tt_ kk_
        refine XS.ifNo X0.here hx rfl (hb hby at_16) rfl ((if0 _ _).trans (feq c13).1) ?_
        exact kk_)
      have P17 := own_step (C := s₁.setTop (mkF m 24 #[.val (.int fl), .val (.long r1), .second, .val (.long r2), .second, .val (.long r3), .second, .val (.int vn), .unset, .unset, .unset, .unset, .unset, .unset, .unset, .unset, .unset, .unset, .unset] [(.int (1 : Int32))])) P16 (by
        intro tt_ kk_
        refine XS.iconst X0.here hx rfl (hb hby at_19) ?_
        show Steps p.tables e below (s₁.setTop (mkF m 20 #[.val (.int fl), .val (.long r1), .second, .val (.long r2), .second, .val (.long r3), .second, .val (.int vn), .unset, .unset, .unset, .unset, .unset, .unset, .unset, .unset, .unset, .unset, .unset] [(.int (1 : Int32))])) _
        refine XS.goto X0.here hx rfl (pc0 := 20) (pc' := 24) rfl (hb hby at_20) (by decide) (by decide) ?_
        exact kk_)
      exact ⟨(1 : Int32), Or.inr (⟨c13, rfl⟩), P17⟩
  have P18 := own_step P10 J11
  have P19 := own_step (C := s₁.setTop (mkF m 48 #[.val (.int fl), .val (.long r1), .second, .val (.long r2), .second, .val (.long r3), .second, .val (.int vn), .val (.int vl), .val (.long (r1 &&& (9223372036854775807 : Int64))), .second, .val (.long (r2 &&& (9223372036854775807 : Int64))), .second, .val (.long (r3 &&& (9223372036854775807 : Int64))), .second, .unset, .unset, .unset, .unset] [])) P18 (by
    intro tt_ kk_
    refine XS.istore X0.here hx rfl (hb hby at_24) rfl (l' := #[.val (.int fl), .val (.long r1), .second, .val (.long r2), .second, .val (.long r3), .second, .val (.int vn), .val (.int vl), .unset, .unset, .unset, .unset, .unset, .unset, .unset, .unset, .unset, .unset]) rfl ?_
    show Steps p.tables e below (s₁.setTop (mkF m 26 #[.val (.int fl), .val (.long r1), .second, .val (.long r2), .second, .val (.long r3), .second, .val (.int vn), .val (.int vl), .unset, .unset, .unset, .unset, .unset, .unset, .unset, .unset, .unset, .unset] [])) _
    refine XS.lloadN X0.here hx rfl (hb hby at_26) rfl ?_
    show Steps p.tables e below (s₁.setTop (mkF m 27 #[.val (.int fl), .val (.long r1), .second, .val (.long r2), .second, .val (.long r3), .second, .val (.int vn), .val (.int vl), .unset, .unset, .unset, .unset, .unset, .unset, .unset, .unset, .unset, .unset] [(.long r1)])) _
    refine X0.ldc2Long hx hown (mvT hZ (hw _ (List.mem_of_getElem? (i := 0) rfl))) (g := (mkF m 27 #[.val (.int fl), .val (.long r1), .second, .val (.long r2), .second, .val (.long r3), .second, .val (.int vn), .val (.int vl), .unset, .unset, .unset, .unset, .unset, .unset, .unset, .unset, .unset, .unset] [(.long r1)])) rfl (hb hby at_27) _ ?_
    show Steps p.tables e below (s₁.setTop (mkF m 30 #[.val (.int fl), .val (.long r1), .second, .val (.long r2), .second, .val (.long r3), .second, .val (.int vn), .val (.int vl), .unset, .unset, .unset, .unset, .unset, .unset, .unset, .unset, .unset, .unset] [(.long (9223372036854775807 : Int64)), (.long r1)])) _
    refine XS.land X0.here hx rfl (hb hby at_30) rfl ?_
    show Steps p.tables e below (s₁.setTop (mkF m 31 #[.val (.int fl), .val (.long r1), .second, .val (.long r2), .second, .val (.long r3), .second, .val (.int vn), .val (.int vl), .unset, .unset, .unset, .unset, .unset, .unset, .unset, .unset, .unset, .unset] [(.long (r1 &&& (9223372036854775807 : Int64)))])) _
    refine XS.lstore X0.here hx rfl (hb hby at_31) rfl (l' := #[.val (.int fl), .val (.long r1), .second, .val (.long r2), .second, .val (.long r3), .second, .val (.int vn), .val (.int vl), .val (.long (r1 &&& (9223372036854775807 : Int64))), .second, .unset, .unset, .unset, .unset, .unset, .unset, .unset, .unset]) rfl ?_
    show Steps p.tables e below (s₁.setTop (mkF m 33 #[.val (.int fl), .val (.long r1), .second, .val (.long r2), .second, .val (.long r3), .second, .val (.int vn), .val (.int vl), .val (.long (r1 &&& (9223372036854775807 : Int64))), .second, .unset, .unset, .unset, .unset, .unset, .unset, .unset, .unset] [])) _
    refine XS.lloadN X0.here hx rfl (hb hby at_33) rfl ?_
    show Steps p.tables e below (s₁.setTop (mkF m 34 #[.val (.int fl), .val (.long r1), .second, .val (.long r2), .second, .val (.long r3), .second, .val (.int vn), .val (.int vl), .val (.long (r1 &&& (9223372036854775807 : Int64))), .second, .unset, .unset, .unset, .unset, .unset, .unset, .unset, .unset] [(.long r2)])) _
    refine X0.ldc2Long hx hown (mvT hZ (hw _ (List.mem_of_getElem? (i := 0) rfl))) (g := (mkF m 34 #[.val (.int fl), .val (.long r1), .second, .val (.long r2), .second, .val (.long r3), .second, .val (.int vn), .val (.int vl), .val (.long (r1 &&& (9223372036854775807 : Int64))), .second, .unset, .unset, .unset, .unset, .unset, .unset, .unset, .unset] [(.long r2)])) rfl (hb hby at_34) _ ?_
    show Steps p.tables e below (s₁.setTop (mkF m 37 #[.val (.int fl), .val (.long r1), .second, .val (.long r2), .second, .val (.long r3), .second, .val (.int vn), .val (.int vl), .val (.long (r1 &&& (9223372036854775807 : Int64))), .second, .unset, .unset, .unset, .unset, .unset, .unset, .unset, .unset] [(.long (9223372036854775807 : Int64)), (.long r2)])) _
    refine XS.land X0.here hx rfl (hb hby at_37) rfl ?_
    show Steps p.tables e below (s₁.setTop (mkF m 38 #[.val (.int fl), .val (.long r1), .second, .val (.long r2), .second, .val (.long r3), .second, .val (.int vn), .val (.int vl), .val (.long (r1 &&& (9223372036854775807 : Int64))), .second, .unset, .unset, .unset, .unset, .unset, .unset, .unset, .unset] [(.long (r2 &&& (9223372036854775807 : Int64)))])) _
    refine XS.lstore X0.here hx rfl (hb hby at_38) rfl (l' := #[.val (.int fl), .val (.long r1), .second, .val (.long r2), .second, .val (.long r3), .second, .val (.int vn), .val (.int vl), .val (.long (r1 &&& (9223372036854775807 : Int64))), .second, .val (.long (r2 &&& (9223372036854775807 : Int64))), .second, .unset, .unset, .unset, .unset, .unset, .unset]) rfl ?_
    show Steps p.tables e below (s₁.setTop (mkF m 40 #[.val (.int fl), .val (.long r1), .second, .val (.long r2), .second, .val (.long r3), .second, .val (.int vn), .val (.int vl), .val (.long (r1 &&& (9223372036854775807 : Int64))), .second, .val (.long (r2 &&& (9223372036854775807 : Int64))), .second, .unset, .unset, .unset, .unset, .unset, .unset] [])) _
    refine XS.lload X0.here hx rfl (hb hby at_40) rfl ?_
    show Steps p.tables e below (s₁.setTop (mkF m 42 #[.val (.int fl), .val (.long r1), .second, .val (.long r2), .second, .val (.long r3), .second, .val (.int vn), .val (.int vl), .val (.long (r1 &&& (9223372036854775807 : Int64))), .second, .val (.long (r2 &&& (9223372036854775807 : Int64))), .second, .unset, .unset, .unset, .unset, .unset, .unset] [(.long r3)])) _
    refine X0.ldc2Long hx hown (mvT hZ (hw _ (List.mem_of_getElem? (i := 0) rfl))) (g := (mkF m 42 #[.val (.int fl), .val (.long r1), .second, .val (.long r2), .second, .val (.long r3), .second, .val (.int vn), .val (.int vl), .val (.long (r1 &&& (9223372036854775807 : Int64))), .second, .val (.long (r2 &&& (9223372036854775807 : Int64))), .second, .unset, .unset, .unset, .unset, .unset, .unset] [(.long r3)])) rfl (hb hby at_42) _ ?_
    show Steps p.tables e below (s₁.setTop (mkF m 45 #[.val (.int fl), .val (.long r1), .second, .val (.long r2), .second, .val (.long r3), .second, .val (.int vn), .val (.int vl), .val (.long (r1 &&& (9223372036854775807 : Int64))), .second, .val (.long (r2 &&& (9223372036854775807 : Int64))), .second, .unset, .unset, .unset, .unset, .unset, .unset] [(.long (9223372036854775807 : Int64)), (.long r3)])) _
    refine XS.land X0.here hx rfl (hb hby at_45) rfl ?_
    show Steps p.tables e below (s₁.setTop (mkF m 46 #[.val (.int fl), .val (.long r1), .second, .val (.long r2), .second, .val (.long r3), .second, .val (.int vn), .val (.int vl), .val (.long (r1 &&& (9223372036854775807 : Int64))), .second, .val (.long (r2 &&& (9223372036854775807 : Int64))), .second, .unset, .unset, .unset, .unset, .unset, .unset] [(.long (r3 &&& (9223372036854775807 : Int64)))])) _
    refine XS.lstore X0.here hx rfl (hb hby at_46) rfl (l' := #[.val (.int fl), .val (.long r1), .second, .val (.long r2), .second, .val (.long r3), .second, .val (.int vn), .val (.int vl), .val (.long (r1 &&& (9223372036854775807 : Int64))), .second, .val (.long (r2 &&& (9223372036854775807 : Int64))), .second, .val (.long (r3 &&& (9223372036854775807 : Int64))), .second, .unset, .unset, .unset, .unset]) rfl ?_
    exact kk_)
  obtain ⟨T20, h20, X20, e20, E20, A20, D20, -, st20⟩ := newO X0 hx hZ hown (hw _ (List.mem_of_getElem? (i := 1) rfl)) (hw _ (List.mem_of_getElem? (i := 2) rfl)) (hw _ (List.mem_of_getElem? (i := 3) rfl)) e0 (g := (mkF m 48 #[.val (.int fl), .val (.long r1), .second, .val (.long r2), .second, .val (.long r3), .second, .val (.int vn), .val (.int vl), .val (.long (r1 &&& (9223372036854775807 : Int64))), .second, .val (.long (r2 &&& (9223372036854775807 : Int64))), .second, .val (.long (r3 &&& (9223372036854775807 : Int64))), .second, .unset, .unset, .unset, .unset] [])) rfl (hb hby at_48) (by decide) (by decide)
  obtain ⟨b20, g20⟩ : ∃ z, z = h0.size := ⟨_, rfl⟩
  rw [← g20] at A20 D20 st20
  have g_b20 : n0 ≤ b20 := Nat.le_trans Z0 (Nat.le_of_eq g20.symm)
  have Z21 : n0 ≤ h20.size := Nat.le_trans Z0 E20.1
  have f22 : Fld Z h20 b20 "com/example/issuant/issuant/endpoint/Prompt" "none" "Z" (.int (0 : Int32)) := D20 (Or.inr (hw _ (List.mem_of_getElem? (i := 16) rfl))) (ty := .boolean) (by decide)
  have f23 : Fld Z h20 b20 "com/example/issuant/issuant/endpoint/Prompt" "login" "Z" (.int (0 : Int32)) := D20 (Or.inr (hw _ (List.mem_of_getElem? (i := 18) rfl))) (ty := .boolean) (by decide)
  have f24 : Fld Z h20 b20 "com/example/issuant/issuant/endpoint/Prompt" "maxAge" "J" (.long (0 : Int64)) := D20 (Or.inr (hw _ (List.mem_of_getElem? (i := 20) rfl))) (ty := .long) (by decide)
  have P25 := own_step (C := T20.setTop (mkF m 51 #[.val (.int fl), .val (.long r1), .second, .val (.long r2), .second, .val (.long r3), .second, .val (.int vn), .val (.int vl), .val (.long (r1 &&& (9223372036854775807 : Int64))), .second, .val (.long (r2 &&& (9223372036854775807 : Int64))), .second, .val (.long (r3 &&& (9223372036854775807 : Int64))), .second, .unset, .unset, .unset, .unset] [(.ref b20)])) P19 (fun t_ k_ => st20 t_ k_)
  have P26 := own_step (C := T20.setTop (mkF m 58 #[.val (.int fl), .val (.long r1), .second, .val (.long r2), .second, .val (.long r3), .second, .val (.int vn), .val (.int vl), .val (.long (r1 &&& (9223372036854775807 : Int64))), .second, .val (.long (r2 &&& (9223372036854775807 : Int64))), .second, .val (.long (r3 &&& (9223372036854775807 : Int64))), .second, .unset, .unset, .unset, .unset] [(.long (r1 &&& (9223372036854775807 : Int64))), (.int vl), (.int vn), (.ref b20), (.ref b20)])) P25 (by
    intro tt_ kk_
    refine XS.dup X20.here hx rfl (hb hby at_51) rfl rfl ?_
    show Steps p.tables e below (T20.setTop (mkF m 52 #[.val (.int fl), .val (.long r1), .second, .val (.long r2), .second, .val (.long r3), .second, .val (.int vn), .val (.int vl), .val (.long (r1 &&& (9223372036854775807 : Int64))), .second, .val (.long (r2 &&& (9223372036854775807 : Int64))), .second, .val (.long (r3 &&& (9223372036854775807 : Int64))), .second, .unset, .unset, .unset, .unset] [(.ref b20), (.ref b20)])) _
    refine XS.iload X20.here hx rfl (hb hby at_52) rfl ?_
    show Steps p.tables e below (T20.setTop (mkF m 54 #[.val (.int fl), .val (.long r1), .second, .val (.long r2), .second, .val (.long r3), .second, .val (.int vn), .val (.int vl), .val (.long (r1 &&& (9223372036854775807 : Int64))), .second, .val (.long (r2 &&& (9223372036854775807 : Int64))), .second, .val (.long (r3 &&& (9223372036854775807 : Int64))), .second, .unset, .unset, .unset, .unset] [(.int vn), (.ref b20), (.ref b20)])) _
    refine XS.iload X20.here hx rfl (hb hby at_54) rfl ?_
    show Steps p.tables e below (T20.setTop (mkF m 56 #[.val (.int fl), .val (.long r1), .second, .val (.long r2), .second, .val (.long r3), .second, .val (.int vn), .val (.int vl), .val (.long (r1 &&& (9223372036854775807 : Int64))), .second, .val (.long (r2 &&& (9223372036854775807 : Int64))), .second, .val (.long (r3 &&& (9223372036854775807 : Int64))), .second, .unset, .unset, .unset, .unset] [(.int vl), (.int vn), (.ref b20), (.ref b20)])) _
    refine XS.lload X20.here hx rfl (hb hby at_56) rfl ?_
    exact kk_)
  obtain ⟨_, _, ⟨T27, L27, k27, n27⟩, -, X27, ⟨Lc27, hQ27, l27, y27, z27⟩, st27⟩ := X20.specialBack hx (y := (⟨"com/example/issuant/issuant/endpoint/Prompt", "<init>", "(ZZJ)V"⟩ : MethodName)) rfl hown (mvT hZ (hw _ (List.mem_of_getElem? (i := 4) rfl))) (mvT hZ (hw _ (List.mem_of_getElem? (i := 5) rfl))) (mvT hZ (hw _ (List.mem_of_getElem? (i := 6) rfl))) (by decide) (backOf (W := 1) (rm_prompt l Z a0 hw [] b20 vn vl (r1 &&& (9223372036854775807 : Int64)) h20 n0 Z21 A20 f22 f23 f24 g_b20) hZ (hw _ (List.mem_of_getElem? (i := 6) rfl)) (hw _ (List.mem_of_getElem? (i := 3) rfl)) (by decide) (by decide)) (g := (mkF m 58 #[.val (.int fl), .val (.long r1), .second, .val (.long r2), .second, .val (.long r3), .second, .val (.int vn), .val (.int vl), .val (.long (r1 &&& (9223372036854775807 : Int64))), .second, .val (.long (r2 &&& (9223372036854775807 : Int64))), .second, .val (.long (r3 &&& (9223372036854775807 : Int64))), .second, .unset, .unset, .unset, .unset] [(.long (r1 &&& (9223372036854775807 : Int64))), (.int vl), (.int vn), (.ref b20), (.ref b20)])) rfl (by rw [hml]; rfl) (Steps.refl _) (a := b20) (argsL := [(.int vn), (.int vl), (.long (r1 &&& (9223372036854775807 : Int64)))]) (rest := [(.ref b20)]) (lenOf pd2 rfl) rfl (by show 2 * 0 + _ ≤ _; exact Nat.le_of_eq rfl) (hb hby at_58) (fun _ _ => ⟨rfl, e20, (by decide : 1 + 0 ≤ _), (by decide : 3 + 0 ≤ _)⟩)
  dsimp only [Pt.U, Pt.locs, Pt.cells, Pt.slots] at X27 l27 y27 z27 st27 hQ27
  subst l27 y27 z27
  obtain ⟨rfl, N27q, K27, f28, f29, f30, f31⟩ := hQ27
  have N27 := Fr.app N0 N27q
  have f32 := A20.keep K27
  have Z36 : n0 ≤ T27.heap.size := Nat.le_trans Z21 K27.1
  have P37 := own_step (C := T27.setTop (mkF m 61 #[.val (.int fl), .val (.long r1), .second, .val (.long r2), .second, .val (.long r3), .second, .val (.int vn), .val (.int vl), .val (.long (r1 &&& (9223372036854775807 : Int64))), .second, .val (.long (r2 &&& (9223372036854775807 : Int64))), .second, .val (.long (r3 &&& (9223372036854775807 : Int64))), .second, .unset, .unset, .unset, .unset] [(.ref b20)])) P26 (fun t_ k_ => st27.trans k_)
  have P38 := own_step (C := T27.setTop (mkF m 63 #[.val (.int fl), .val (.long r1), .second, .val (.long r2), .second, .val (.long r3), .second, .val (.int vn), .val (.int vl), .val (.long (r1 &&& (9223372036854775807 : Int64))), .second, .val (.long (r2 &&& (9223372036854775807 : Int64))), .second, .val (.long (r3 &&& (9223372036854775807 : Int64))), .second, .val (.ref b20), .unset, .unset, .unset] [])) P37 (by
    intro tt_ kk_
    refine XS.astore X27.here hx rfl (hb hby at_61) rfl rfl (l' := #[.val (.int fl), .val (.long r1), .second, .val (.long r2), .second, .val (.long r3), .second, .val (.int vn), .val (.int vl), .val (.long (r1 &&& (9223372036854775807 : Int64))), .second, .val (.long (r2 &&& (9223372036854775807 : Int64))), .second, .val (.long (r3 &&& (9223372036854775807 : Int64))), .second, .val (.ref b20), .unset, .unset, .unset]) rfl ?_
    exact kk_)
  obtain ⟨T39, h39, X39, e39, E39, A39, D39, -, st39⟩ := newO X27 hx hZ hown (hw _ (List.mem_of_getElem? (i := 21) rfl)) (hw _ (List.mem_of_getElem? (i := 22) rfl)) (hw _ (List.mem_of_getElem? (i := 23) rfl)) rfl (g := (mkF m 63 #[.val (.int fl), .val (.long r1), .second, .val (.long r2), .second, .val (.long r3), .second, .val (.int vn), .val (.int vl), .val (.long (r1 &&& (9223372036854775807 : Int64))), .second, .val (.long (r2 &&& (9223372036854775807 : Int64))), .second, .val (.long (r3 &&& (9223372036854775807 : Int64))), .second, .val (.ref b20), .unset, .unset, .unset] [])) rfl (hb hby at_63) (by decide) (by decide)
  obtain ⟨b39, g39⟩ : ∃ z, z = T27.heap.size := ⟨_, rfl⟩
  rw [← g39] at A39 D39 st39
  have ne_b20_b39 : b20 ≠ b39 := Nat.ne_of_lt (Nat.lt_of_lt_of_le f28.lt (Nat.le_of_eq g39.symm))
  have g_b39 : n0 ≤ b39 := Nat.le_trans Z36 (Nat.le_of_eq g39.symm)
  have f40 := f28.ext E39
  have f41 := f30.ext E39
  have f42 := f31.ext E39
  have Z43 : n0 ≤ h39.size := Nat.le_trans Z36 E39.1
  have f44 : Fld Z h39 b39 "com/example/issuant/issuant/token/Sessions$Session" "id" "Ljava/lang/String;" .null := D39 (Or.inr (hw _ (List.mem_of_getElem? (i := 38) rfl))) (ty := (.object "java/lang/String")) (by decide)
  have f45 : Fld Z h39 b39 "com/example/issuant/issuant/token/Sessions$Session" "subject" "Ljava/lang/String;" .null := D39 (Or.inr (hw _ (List.mem_of_getElem? (i := 40) rfl))) (ty := (.object "java/lang/String")) (by decide)
  have f46 : Fld Z h39 b39 "com/example/issuant/issuant/token/Sessions$Session" "authTime" "J" (.long (0 : Int64)) := D39 (Or.inr (hw _ (List.mem_of_getElem? (i := 42) rfl))) (ty := .long) (by decide)
  have P47 := own_step (C := T39.setTop (mkF m 66 #[.val (.int fl), .val (.long r1), .second, .val (.long r2), .second, .val (.long r3), .second, .val (.int vn), .val (.int vl), .val (.long (r1 &&& (9223372036854775807 : Int64))), .second, .val (.long (r2 &&& (9223372036854775807 : Int64))), .second, .val (.long (r3 &&& (9223372036854775807 : Int64))), .second, .val (.ref b20), .unset, .unset, .unset] [(.ref b39)])) P38 (fun t_ k_ => st39 t_ k_)
  have P48 := own_step (C := T39.setTop (mkF m 67 #[.val (.int fl), .val (.long r1), .second, .val (.long r2), .second, .val (.long r3), .second, .val (.int vn), .val (.int vl), .val (.long (r1 &&& (9223372036854775807 : Int64))), .second, .val (.long (r2 &&& (9223372036854775807 : Int64))), .second, .val (.long (r3 &&& (9223372036854775807 : Int64))), .second, .val (.ref b20), .unset, .unset, .unset] [(.ref b39), (.ref b39)])) P47 (by
    intro tt_ kk_
    refine XS.dup X39.here hx rfl (hb hby at_66) rfl rfl ?_
    exact kk_)
  obtain ⟨b49, T49, h49, k49, X49, e49, E49, S49, kz49, hZ49, hown49, st49⟩ := ldcS (s := s) (vm0 := s.vm) X39 hx hZ hown (hw _ (List.mem_of_getElem? (i := 24) rfl)) (fun d hd => hw d (own_wS d hd)) e39 ((State.WarmedH.refl s).since 0) (Nat.zero_le _) (g := (mkF m 67 #[.val (.int fl), .val (.long r1), .second, .val (.long r2), .second, .val (.long r3), .second, .val (.int vn), .val (.int vl), .val (.long (r1 &&& (9223372036854775807 : Int64))), .second, .val (.long (r2 &&& (9223372036854775807 : Int64))), .second, .val (.long (r3 &&& (9223372036854775807 : Int64))), .second, .val (.ref b20), .unset, .unset, .unset] [(.ref b39), (.ref b39)])) rfl (hb hby at_67) (n := 4) (by decide +kernel) (by decide) (by decide) (by decide)
  have f50 := f40.ext E49
  have f51 := f41.ext E49
  have f52 := f42.ext E49
  have f53 := A39.ext E49
  have f54 := f44.ext E49
  have f55 := f45.ext E49
  have f56 := f46.ext E49
  have Z57 : n0 ≤ h49.size := Nat.le_trans Z43 E49.1
  have P58 := own_step (C := T49.setTop (mkF m 69 #[.val (.int fl), .val (.long r1), .second, .val (.long r2), .second, .val (.long r3), .second, .val (.int vn), .val (.int vl), .val (.long (r1 &&& (9223372036854775807 : Int64))), .second, .val (.long (r2 &&& (9223372036854775807 : Int64))), .second, .val (.long (r3 &&& (9223372036854775807 : Int64))), .second, .val (.ref b20), .unset, .unset, .unset] [(.ref b49), (.ref b39), (.ref b39)])) P48 (fun t_ k_ => st49 t_ k_)
  obtain ⟨b59, T59, h59, k59, X59, e59, E59, S59, kz59, hZ59, hown59, st59⟩ := ldcS (s := s) (vm0 := T49.vm) X49 hx hZ49 hown49 (hw _ (List.mem_of_getElem? (i := 32) rfl)) (fun d hd => hw d (own_wS d hd)) e49 S49 kz49 (g := (mkF m 69 #[.val (.int fl), .val (.long r1), .second, .val (.long r2), .second, .val (.long r3), .second, .val (.int vn), .val (.int vl), .val (.long (r1 &&& (9223372036854775807 : Int64))), .second, .val (.long (r2 &&& (9223372036854775807 : Int64))), .second, .val (.long (r3 &&& (9223372036854775807 : Int64))), .second, .val (.ref b20), .unset, .unset, .unset] [(.ref b49), (.ref b39), (.ref b39)])) rfl (hb hby at_69) (n := 4) (by decide +kernel) (by decide) (by decide) (by decide)
  have f60 := f50.ext E59
  have f61 := f51.ext E59
  have f62 := f52.ext E59
  have f63 := f53.ext E59
  have f64 := f54.ext E59
  have f65 := f55.ext E59
  have f66 := f56.ext E59
  have Z67 : n0 ≤ h59.size := Nat.le_trans Z57 E59.1
  have P68 := own_step (C := T59.setTop (mkF m 71 #[.val (.int fl), .val (.long r1), .second, .val (.long r2), .second, .val (.long r3), .second, .val (.int vn), .val (.int vl), .val (.long (r1 &&& (9223372036854775807 : Int64))), .second, .val (.long (r2 &&& (9223372036854775807 : Int64))), .second, .val (.long (r3 &&& (9223372036854775807 : Int64))), .second, .val (.ref b20), .unset, .unset, .unset] [(.ref b59), (.ref b49), (.ref b39), (.ref b39)])) P58 (fun t_ k_ => st59 t_ k_)
  have P69 := own_step (C := T59.setTop (mkF m 73 #[.val (.int fl), .val (.long r1), .second, .val (.long r2), .second, .val (.long r3), .second, .val (.int vn), .val (.int vl), .val (.long (r1 &&& (9223372036854775807 : Int64))), .second, .val (.long (r2 &&& (9223372036854775807 : Int64))), .second, .val (.long (r3 &&& (9223372036854775807 : Int64))), .second, .val (.ref b20), .unset, .unset, .unset] [(.long (r3 &&& (9223372036854775807 : Int64))), (.ref b59), (.ref b49), (.ref b39), (.ref b39)])) P68 (by
    intro tt_ kk_
    refine XS.lload X59.here hx rfl (hb hby at_71) rfl ?_
    exact kk_)
  obtain ⟨_, _, ⟨T70, L70, k70, n70⟩, -, X70, ⟨Lc70, hQ70, l70, y70, z70⟩, st70⟩ := X59.specialBack hx (y := (⟨"com/example/issuant/issuant/token/Sessions$Session", "<init>", "(Ljava/lang/String;Ljava/lang/String;J)V"⟩ : MethodName)) rfl hown59 (mvT hZ59 (hw _ (List.mem_of_getElem? (i := 33) rfl))) (mvT hZ59 (hw _ (List.mem_of_getElem? (i := 34) rfl))) (mvT hZ59 (hw _ (List.mem_of_getElem? (i := 35) rfl))) (by decide) (backOf (W := 1) (rm_session l Z a0 hw [] b39 b49 b59 (r3 &&& (9223372036854775807 : Int64)) h59 n0 Z67 f63 f64 f65 f66 g_b39) hZ59 (hw _ (List.mem_of_getElem? (i := 35) rfl)) (hw _ (List.mem_of_getElem? (i := 23) rfl)) (by decide) (by decide)) (g := (mkF m 73 #[.val (.int fl), .val (.long r1), .second, .val (.long r2), .second, .val (.long r3), .second, .val (.int vn), .val (.int vl), .val (.long (r1 &&& (9223372036854775807 : Int64))), .second, .val (.long (r2 &&& (9223372036854775807 : Int64))), .second, .val (.long (r3 &&& (9223372036854775807 : Int64))), .second, .val (.ref b20), .unset, .unset, .unset] [(.long (r3 &&& (9223372036854775807 : Int64))), (.ref b59), (.ref b49), (.ref b39), (.ref b39)])) rfl (by rw [hml]; rfl) (Steps.refl _) (a := b39) (argsL := [(.ref b49), (.ref b59), (.long (r3 &&& (9223372036854775807 : Int64)))]) (rest := [(.ref b39)]) (lenOf pd3 rfl) rfl (by show 2 * 0 + _ ≤ _; exact Nat.le_of_eq rfl) (hb hby at_73) (fun _ _ => ⟨rfl, e59, (by decide : 6 + 0 ≤ _), (by decide : 22 + 0 ≤ _)⟩)
  dsimp only [Pt.U, Pt.locs, Pt.cells, Pt.slots] at X70 l70 y70 z70 st70 hQ70
  subst l70 y70 z70
  obtain ⟨rfl, N70q, K70, f71, f72, f73, f74⟩ := hQ70
  have N70 := Fr.app N27 N70q
  have f75 := f60.keep K70
  have f76 := f61.keep K70 (ninS ne_b20_b39 nin0)
  have f77 := f62.keep K70 (ninS ne_b20_b39 nin0)
  have f78 := f63.keep K70
  have Z82 : n0 ≤ T70.heap.size := Nat.le_trans Z67 K70.1
  have kz83 := Nat.le_trans kz59 K70.1
  have P84 := own_step (C := T70.setTop (mkF m 76 #[.val (.int fl), .val (.long r1), .second, .val (.long r2), .second, .val (.long r3), .second, .val (.int vn), .val (.int vl), .val (.long (r1 &&& (9223372036854775807 : Int64))), .second, .val (.long (r2 &&& (9223372036854775807 : Int64))), .second, .val (.long (r3 &&& (9223372036854775807 : Int64))), .second, .val (.ref b20), .unset, .unset, .unset] [(.ref b39)])) P69 (fun t_ k_ => st70.trans k_)
  have P85 := own_step (C := T70.setTop (mkF m 84 #[.val (.int fl), .val (.long r1), .second, .val (.long r2), .second, .val (.long r3), .second, .val (.int vn), .val (.int vl), .val (.long (r1 &&& (9223372036854775807 : Int64))), .second, .val (.long (r2 &&& (9223372036854775807 : Int64))), .second, .val (.long (r3 &&& (9223372036854775807 : Int64))), .second, .val (.ref b20), .val (.ref b39), .unset, .unset] [(.long (r2 &&& (9223372036854775807 : Int64))), (.ref b39), (.ref b20)])) P84 (by
    intro tt_ kk_
    refine XS.astore X70.here hx rfl (hb hby at_76) rfl rfl (l' := #[.val (.int fl), .val (.long r1), .second, .val (.long r2), .second, .val (.long r3), .second, .val (.int vn), .val (.int vl), .val (.long (r1 &&& (9223372036854775807 : Int64))), .second, .val (.long (r2 &&& (9223372036854775807 : Int64))), .second, .val (.long (r3 &&& (9223372036854775807 : Int64))), .second, .val (.ref b20), .val (.ref b39), .unset, .unset]) rfl ?_
    show Steps p.tables e below (T70.setTop (mkF m 78 #[.val (.int fl), .val (.long r1), .second, .val (.long r2), .second, .val (.long r3), .second, .val (.int vn), .val (.int vl), .val (.long (r1 &&& (9223372036854775807 : Int64))), .second, .val (.long (r2 &&& (9223372036854775807 : Int64))), .second, .val (.long (r3 &&& (9223372036854775807 : Int64))), .second, .val (.ref b20), .val (.ref b39), .unset, .unset] [])) _
    refine XS.aload X70.here hx rfl (hb hby at_78) rfl rfl ?_
    show Steps p.tables e below (T70.setTop (mkF m 80 #[.val (.int fl), .val (.long r1), .second, .val (.long r2), .second, .val (.long r3), .second, .val (.int vn), .val (.int vl), .val (.long (r1 &&& (9223372036854775807 : Int64))), .second, .val (.long (r2 &&& (9223372036854775807 : Int64))), .second, .val (.long (r3 &&& (9223372036854775807 : Int64))), .second, .val (.ref b20), .val (.ref b39), .unset, .unset] [(.ref b20)])) _
    refine XS.aload X70.here hx rfl (hb hby at_80) rfl rfl ?_
    show Steps p.tables e below (T70.setTop (mkF m 82 #[.val (.int fl), .val (.long r1), .second, .val (.long r2), .second, .val (.long r3), .second, .val (.int vn), .val (.int vl), .val (.long (r1 &&& (9223372036854775807 : Int64))), .second, .val (.long (r2 &&& (9223372036854775807 : Int64))), .second, .val (.long (r3 &&& (9223372036854775807 : Int64))), .second, .val (.ref b20), .val (.ref b39), .unset, .unset] [(.ref b39), (.ref b20)])) _
    refine XS.lload X70.here hx rfl (hb hby at_82) rfl ?_
    exact kk_)
  obtain ⟨cq86, kq86, q86a, q86b, q86c⟩ := isOf hZ59 rfl f75
  obtain ⟨_, _, ⟨T86, L86, k86, n86⟩, -, X86, ⟨Lc86, hQ86, l86, y86, z86⟩, st86⟩ := X70.virtualBack hx (y := (⟨"com/example/issuant/issuant/endpoint/Prompt", "accepts", "(Lcom/example/issuant/issuant/token/Sessions$Session;J)Z"⟩ : MethodName)) (z := (⟨"com/example/issuant/issuant/endpoint/Prompt", "accepts", "(Lcom/example/issuant/issuant/token/Sessions$Session;J)Z"⟩ : MethodName)) hown59 (mvT hZ59 (hw _ (List.mem_of_getElem? (i := 43) rfl))) (mvT hZ59 (hw _ (List.mem_of_getElem? (i := 44) rfl))) (notFace_of_selects (args := #[]) (mvT hZ59 (hw _ (List.mem_of_getElem? (i := 46) rfl)))) (mvT hZ59 (hw _ (List.mem_of_getElem? (i := 46) rfl))) (mvT hZ59 (hw _ (List.mem_of_getElem? (i := 45) rfl))) (by decide) (backOf (W := 0) (rm_own_acc l Z a0 hw [] b20 b39 (r2 &&& (9223372036854775807 : Int64)) (nar .boolean vl) (r1 &&& (9223372036854775807 : Int64)) (r3 &&& (9223372036854775807 : Int64)) T70.heap n0 Z82 f76 f77 f71 f74) hZ59 (hw _ (List.mem_of_getElem? (i := 47) rfl)) (hw _ (List.mem_of_getElem? (i := 3) rfl)) (by decide) (by decide)) q86a q86c (g := (mkF m 84 #[.val (.int fl), .val (.long r1), .second, .val (.long r2), .second, .val (.long r3), .second, .val (.int vn), .val (.int vl), .val (.long (r1 &&& (9223372036854775807 : Int64))), .second, .val (.long (r2 &&& (9223372036854775807 : Int64))), .second, .val (.long (r3 &&& (9223372036854775807 : Int64))), .second, .val (.ref b20), .val (.ref b39), .unset, .unset] [(.long (r2 &&& (9223372036854775807 : Int64))), (.ref b39), (.ref b20)])) rfl (by rw [hml]; rfl) (Steps.refl _) (argsL := [(.ref b39), (.long (r2 &&& (9223372036854775807 : Int64)))]) (rest := []) (lenOf pd4 rfl) rfl (by show 2 * 0 + _ ≤ _; exact Nat.le_of_eq rfl) (hb hby at_84) (fun _ _ => ⟨rfl, rfl, (by decide : 6 + 0 ≤ _), (by decide : 22 + 0 ≤ _)⟩)
  dsimp only [Pt.U, Pt.locs, Pt.cells, Pt.slots] at X86 l86 y86 z86 st86 hQ86
  subst l86 y86 z86
  obtain ⟨rfl, N86q, e86⟩ := hQ86
  have N86 := Fr.app N70 N86q
  have P87 := own_step (C := T86.setTop (mkF m 87 #[.val (.int fl), .val (.long r1), .second, .val (.long r2), .second, .val (.long r3), .second, .val (.int vn), .val (.int vl), .val (.long (r1 &&& (9223372036854775807 : Int64))), .second, .val (.long (r2 &&& (9223372036854775807 : Int64))), .second, .val (.long (r3 &&& (9223372036854775807 : Int64))), .second, .val (.ref b20), .val (.ref b39), .unset, .unset] [(.int (own_acc (r2 &&& (9223372036854775807 : Int64)) (nar .boolean vl) (r1 &&& (9223372036854775807 : Int64)) (r3 &&& (9223372036854775807 : Int64))))])) P85 (fun t_ k_ => st86.trans k_)
  have P88 := own_step (C := T86.setTop (mkF m 97 #[.val (.int fl), .val (.long r1), .second, .val (.long r2), .second, .val (.long r3), .second, .val (.int vn), .val (.int vl), .val (.long (r1 &&& (9223372036854775807 : Int64))), .second, .val (.long (r2 &&& (9223372036854775807 : Int64))), .second, .val (.long (r3 &&& (9223372036854775807 : Int64))), .second, .val (.ref b20), .val (.ref b39), .val (.int (own_acc (r2 &&& (9223372036854775807 : Int64)) (nar .boolean vl) (r1 &&& (9223372036854775807 : Int64)) (r3 &&& (9223372036854775807 : Int64)))), .unset] [(.long (r3 &&& (9223372036854775807 : Int64))), (.long (r2 &&& (9223372036854775807 : Int64))), (.long (r1 &&& (9223372036854775807 : Int64))), (.int vl)])) P87 (by
    intro tt_ kk_
    refine XS.istore X86.here hx rfl (hb hby at_87) rfl (l' := #[.val (.int fl), .val (.long r1), .second, .val (.long r2), .second, .val (.long r3), .second, .val (.int vn), .val (.int vl), .val (.long (r1 &&& (9223372036854775807 : Int64))), .second, .val (.long (r2 &&& (9223372036854775807 : Int64))), .second, .val (.long (r3 &&& (9223372036854775807 : Int64))), .second, .val (.ref b20), .val (.ref b39), .val (.int (own_acc (r2 &&& (9223372036854775807 : Int64)) (nar .boolean vl) (r1 &&& (9223372036854775807 : Int64)) (r3 &&& (9223372036854775807 : Int64)))), .unset]) rfl ?_
    show Steps p.tables e below (T86.setTop (mkF m 89 #[.val (.int fl), .val (.long r1), .second, .val (.long r2), .second, .val (.long r3), .second, .val (.int vn), .val (.int vl), .val (.long (r1 &&& (9223372036854775807 : Int64))), .second, .val (.long (r2 &&& (9223372036854775807 : Int64))), .second, .val (.long (r3 &&& (9223372036854775807 : Int64))), .second, .val (.ref b20), .val (.ref b39), .val (.int (own_acc (r2 &&& (9223372036854775807 : Int64)) (nar .boolean vl) (r1 &&& (9223372036854775807 : Int64)) (r3 &&& (9223372036854775807 : Int64)))), .unset] [])) _
    refine XS.iload X86.here hx rfl (hb hby at_89) rfl ?_
    show Steps p.tables e below (T86.setTop (mkF m 91 #[.val (.int fl), .val (.long r1), .second, .val (.long r2), .second, .val (.long r3), .second, .val (.int vn), .val (.int vl), .val (.long (r1 &&& (9223372036854775807 : Int64))), .second, .val (.long (r2 &&& (9223372036854775807 : Int64))), .second, .val (.long (r3 &&& (9223372036854775807 : Int64))), .second, .val (.ref b20), .val (.ref b39), .val (.int (own_acc (r2 &&& (9223372036854775807 : Int64)) (nar .boolean vl) (r1 &&& (9223372036854775807 : Int64)) (r3 &&& (9223372036854775807 : Int64)))), .unset] [(.int vl)])) _
    refine XS.lload X86.here hx rfl (hb hby at_91) rfl ?_
    show Steps p.tables e below (T86.setTop (mkF m 93 #[.val (.int fl), .val (.long r1), .second, .val (.long r2), .second, .val (.long r3), .second, .val (.int vn), .val (.int vl), .val (.long (r1 &&& (9223372036854775807 : Int64))), .second, .val (.long (r2 &&& (9223372036854775807 : Int64))), .second, .val (.long (r3 &&& (9223372036854775807 : Int64))), .second, .val (.ref b20), .val (.ref b39), .val (.int (own_acc (r2 &&& (9223372036854775807 : Int64)) (nar .boolean vl) (r1 &&& (9223372036854775807 : Int64)) (r3 &&& (9223372036854775807 : Int64)))), .unset] [(.long (r1 &&& (9223372036854775807 : Int64))), (.int vl)])) _
    refine XS.lload X86.here hx rfl (hb hby at_93) rfl ?_
    show Steps p.tables e below (T86.setTop (mkF m 95 #[.val (.int fl), .val (.long r1), .second, .val (.long r2), .second, .val (.long r3), .second, .val (.int vn), .val (.int vl), .val (.long (r1 &&& (9223372036854775807 : Int64))), .second, .val (.long (r2 &&& (9223372036854775807 : Int64))), .second, .val (.long (r3 &&& (9223372036854775807 : Int64))), .second, .val (.ref b20), .val (.ref b39), .val (.int (own_acc (r2 &&& (9223372036854775807 : Int64)) (nar .boolean vl) (r1 &&& (9223372036854775807 : Int64)) (r3 &&& (9223372036854775807 : Int64)))), .unset] [(.long (r2 &&& (9223372036854775807 : Int64))), (.long (r1 &&& (9223372036854775807 : Int64))), (.int vl)])) _
    refine XS.lload X86.here hx rfl (hb hby at_95) rfl ?_
    exact kk_)
  obtain ⟨_, _, ⟨T89, L89, k89, n89⟩, -, X89, ⟨Lc89, hQ89, l89, y89, z89⟩, st89⟩ := Jvm.LawKit.callS X86 hx (y := (⟨"com/example/issuant/issuant/endpoint/PromptAcceptsPinLaw", "reference", "(ZJJJ)Z"⟩ : MethodName)) hown59 (mvT hZ59 (hw _ (List.mem_of_getElem? (i := 53) rfl))) (mvT hZ59 (hw _ (List.mem_of_getElem? (i := 54) rfl))) (mvT hZ59 (hw _ (List.mem_of_getElem? (i := 55) rfl))) (mvT hZ59 (hw _ (List.mem_of_getElem? (i := 56) rfl))) (by decide) (backOf (W := 0) (rm_own_ref l Z a0 hw [] vl (r1 &&& (9223372036854775807 : Int64)) (r2 &&& (9223372036854775807 : Int64)) (r3 &&& (9223372036854775807 : Int64)) T70.heap n0 Z82 ) hZ59 (hw _ (List.mem_of_getElem? (i := 56) rfl)) (hw _ (List.mem_of_getElem? (i := 55) rfl)) (by decide) (by decide)) (g := (mkF m 97 #[.val (.int fl), .val (.long r1), .second, .val (.long r2), .second, .val (.long r3), .second, .val (.int vn), .val (.int vl), .val (.long (r1 &&& (9223372036854775807 : Int64))), .second, .val (.long (r2 &&& (9223372036854775807 : Int64))), .second, .val (.long (r3 &&& (9223372036854775807 : Int64))), .second, .val (.ref b20), .val (.ref b39), .val (.int (own_acc (r2 &&& (9223372036854775807 : Int64)) (nar .boolean vl) (r1 &&& (9223372036854775807 : Int64)) (r3 &&& (9223372036854775807 : Int64)))), .unset] [(.long (r3 &&& (9223372036854775807 : Int64))), (.long (r2 &&& (9223372036854775807 : Int64))), (.long (r1 &&& (9223372036854775807 : Int64))), (.int vl)])) rfl (by rw [hml]; rfl) (argsL := [(.int vl), (.long (r1 &&& (9223372036854775807 : Int64))), (.long (r2 &&& (9223372036854775807 : Int64))), (.long (r3 &&& (9223372036854775807 : Int64)))]) (rest := []) (lenOf pd5 rfl) rfl (by show 2 * 0 + _ ≤ _; exact Nat.le_of_eq rfl) (hb hby at_97) (fun _ _ => ⟨rfl, e86, (by decide : 6 + 0 ≤ _), (by decide : 22 + 0 ≤ _)⟩)
  dsimp only [Pt.U, Pt.locs, Pt.cells, Pt.slots] at X89 l89 y89 z89 st89 hQ89
  subst l89 y89 z89
  obtain ⟨rfl, N89q, e89⟩ := hQ89
  have N89 := Fr.app N86 N89q
  have P90 := own_step (C := T89.setTop (mkF m 100 #[.val (.int fl), .val (.long r1), .second, .val (.long r2), .second, .val (.long r3), .second, .val (.int vn), .val (.int vl), .val (.long (r1 &&& (9223372036854775807 : Int64))), .second, .val (.long (r2 &&& (9223372036854775807 : Int64))), .second, .val (.long (r3 &&& (9223372036854775807 : Int64))), .second, .val (.ref b20), .val (.ref b39), .val (.int (own_acc (r2 &&& (9223372036854775807 : Int64)) (nar .boolean vl) (r1 &&& (9223372036854775807 : Int64)) (r3 &&& (9223372036854775807 : Int64)))), .unset] [(.int (own_ref vl (r1 &&& (9223372036854775807 : Int64)) (r2 &&& (9223372036854775807 : Int64)) (r3 &&& (9223372036854775807 : Int64))))])) P88 (fun t_ k_ => st89 t_ k_)
  have hsame : (own_acc (r2 &&& (9223372036854775807 : Int64)) (nar .boolean vl) (r1 &&& (9223372036854775807 : Int64)) (r3 &&& (9223372036854775807 : Int64))) = (own_ref vl (r1 &&& (9223372036854775807 : Int64)) (r2 &&& (9223372036854775807 : Int64)) (r3 &&& (9223372036854775807 : Int64))) := own_law hv11 r1 r2 r3
  have P91 := own_step (C := T89.setTop (mkF m 106 #[.val (.int fl), .val (.long r1), .second, .val (.long r2), .second, .val (.long r3), .second, .val (.int vn), .val (.int vl), .val (.long (r1 &&& (9223372036854775807 : Int64))), .second, .val (.long (r2 &&& (9223372036854775807 : Int64))), .second, .val (.long (r3 &&& (9223372036854775807 : Int64))), .second, .val (.ref b20), .val (.ref b39), .val (.int (own_acc (r2 &&& (9223372036854775807 : Int64)) (nar .boolean vl) (r1 &&& (9223372036854775807 : Int64)) (r3 &&& (9223372036854775807 : Int64)))), .val (.int (own_ref vl (r1 &&& (9223372036854775807 : Int64)) (r2 &&& (9223372036854775807 : Int64)) (r3 &&& (9223372036854775807 : Int64))))] [(.int (own_ref vl (r1 &&& (9223372036854775807 : Int64)) (r2 &&& (9223372036854775807 : Int64)) (r3 &&& (9223372036854775807 : Int64)))), (.int (own_acc (r2 &&& (9223372036854775807 : Int64)) (nar .boolean vl) (r1 &&& (9223372036854775807 : Int64)) (r3 &&& (9223372036854775807 : Int64))))])) P90 (by
    intro tt_ kk_
    refine XS.istore X89.here hx rfl (hb hby at_100) rfl (l' := #[.val (.int fl), .val (.long r1), .second, .val (.long r2), .second, .val (.long r3), .second, .val (.int vn), .val (.int vl), .val (.long (r1 &&& (9223372036854775807 : Int64))), .second, .val (.long (r2 &&& (9223372036854775807 : Int64))), .second, .val (.long (r3 &&& (9223372036854775807 : Int64))), .second, .val (.ref b20), .val (.ref b39), .val (.int (own_acc (r2 &&& (9223372036854775807 : Int64)) (nar .boolean vl) (r1 &&& (9223372036854775807 : Int64)) (r3 &&& (9223372036854775807 : Int64)))), .val (.int (own_ref vl (r1 &&& (9223372036854775807 : Int64)) (r2 &&& (9223372036854775807 : Int64)) (r3 &&& (9223372036854775807 : Int64))))]) rfl ?_
    show Steps p.tables e below (T89.setTop (mkF m 102 #[.val (.int fl), .val (.long r1), .second, .val (.long r2), .second, .val (.long r3), .second, .val (.int vn), .val (.int vl), .val (.long (r1 &&& (9223372036854775807 : Int64))), .second, .val (.long (r2 &&& (9223372036854775807 : Int64))), .second, .val (.long (r3 &&& (9223372036854775807 : Int64))), .second, .val (.ref b20), .val (.ref b39), .val (.int (own_acc (r2 &&& (9223372036854775807 : Int64)) (nar .boolean vl) (r1 &&& (9223372036854775807 : Int64)) (r3 &&& (9223372036854775807 : Int64)))), .val (.int (own_ref vl (r1 &&& (9223372036854775807 : Int64)) (r2 &&& (9223372036854775807 : Int64)) (r3 &&& (9223372036854775807 : Int64))))] [])) _
    refine XS.iload X89.here hx rfl (hb hby at_102) rfl ?_
    show Steps p.tables e below (T89.setTop (mkF m 104 #[.val (.int fl), .val (.long r1), .second, .val (.long r2), .second, .val (.long r3), .second, .val (.int vn), .val (.int vl), .val (.long (r1 &&& (9223372036854775807 : Int64))), .second, .val (.long (r2 &&& (9223372036854775807 : Int64))), .second, .val (.long (r3 &&& (9223372036854775807 : Int64))), .second, .val (.ref b20), .val (.ref b39), .val (.int (own_acc (r2 &&& (9223372036854775807 : Int64)) (nar .boolean vl) (r1 &&& (9223372036854775807 : Int64)) (r3 &&& (9223372036854775807 : Int64)))), .val (.int (own_ref vl (r1 &&& (9223372036854775807 : Int64)) (r2 &&& (9223372036854775807 : Int64)) (r3 &&& (9223372036854775807 : Int64))))] [(.int (own_acc (r2 &&& (9223372036854775807 : Int64)) (nar .boolean vl) (r1 &&& (9223372036854775807 : Int64)) (r3 &&& (9223372036854775807 : Int64))))])) _
    refine XS.iload X89.here hx rfl (hb hby at_104) rfl ?_
    exact kk_)
  have P92 := own_step (C := T89.setTop (mkF m 109 #[.val (.int fl), .val (.long r1), .second, .val (.long r2), .second, .val (.long r3), .second, .val (.int vn), .val (.int vl), .val (.long (r1 &&& (9223372036854775807 : Int64))), .second, .val (.long (r2 &&& (9223372036854775807 : Int64))), .second, .val (.long (r3 &&& (9223372036854775807 : Int64))), .second, .val (.ref b20), .val (.ref b39), .val (.int (own_acc (r2 &&& (9223372036854775807 : Int64)) (nar .boolean vl) (r1 &&& (9223372036854775807 : Int64)) (r3 &&& (9223372036854775807 : Int64)))), .val (.int (own_ref vl (r1 &&& (9223372036854775807 : Int64)) (r2 &&& (9223372036854775807 : Int64)) (r3 &&& (9223372036854775807 : Int64))))] [])) P91 (by
    intro tt_ kk_
    refine XS.icmpNo X89.here hx rfl (hb hby at_106) rfl (teq hsame).2 ?_
    exact kk_)
  have P93 := own_step (C := T89.setTop (mkF m 114 #[.val (.int fl), .val (.long r1), .second, .val (.long r2), .second, .val (.long r3), .second, .val (.int vn), .val (.int vl), .val (.long (r1 &&& (9223372036854775807 : Int64))), .second, .val (.long (r2 &&& (9223372036854775807 : Int64))), .second, .val (.long (r3 &&& (9223372036854775807 : Int64))), .second, .val (.ref b20), .val (.ref b39), .val (.int (own_acc (r2 &&& (9223372036854775807 : Int64)) (nar .boolean vl) (r1 &&& (9223372036854775807 : Int64)) (r3 &&& (9223372036854775807 : Int64)))), .val (.int (own_ref vl (r1 &&& (9223372036854775807 : Int64)) (r2 &&& (9223372036854775807 : Int64)) (r3 &&& (9223372036854775807 : Int64))))] [(.int (1 : Int32))])) P92 (by
    intro tt_ kk_
    refine XS.iconst X89.here hx rfl (hb hby at_109) ?_
    show Steps p.tables e below (T89.setTop (mkF m 110 #[.val (.int fl), .val (.long r1), .second, .val (.long r2), .second, .val (.long r3), .second, .val (.int vn), .val (.int vl), .val (.long (r1 &&& (9223372036854775807 : Int64))), .second, .val (.long (r2 &&& (9223372036854775807 : Int64))), .second, .val (.long (r3 &&& (9223372036854775807 : Int64))), .second, .val (.ref b20), .val (.ref b39), .val (.int (own_acc (r2 &&& (9223372036854775807 : Int64)) (nar .boolean vl) (r1 &&& (9223372036854775807 : Int64)) (r3 &&& (9223372036854775807 : Int64)))), .val (.int (own_ref vl (r1 &&& (9223372036854775807 : Int64)) (r2 &&& (9223372036854775807 : Int64)) (r3 &&& (9223372036854775807 : Int64))))] [(.int (1 : Int32))])) _
    refine XS.goto X89.here hx rfl (pc0 := 110) (pc' := 114) rfl (hb hby at_110) (by decide) (by decide) ?_
    exact kk_)
  obtain ⟨fs, hr, hrun, hended, hW⟩ := X89.leaveW S59 (by rw [e89]; exact kz83) (v := some (.int (1 : Int32))) (fun h => by rw [Bd.returns] at h; cases h)
  refine ⟨_, _, P93 _ ?_, hrun, hended, _, _, rfl, ?_, ⟨hW.1, hW.2.1, hW.2.2.1, hW.2.2.2.mono (by decide) (by decide)⟩⟩
  · exact retN X89 hx (t := .boolean) Bd.returns (by simp) (hb hby at_114) hr
  · show Q0 Z _ _ _ _ h0 n0 _ T89.heap _
    rw [e89]
    exact ⟨rfl, N89⟩
set_option maxRecDepth 65536 in
set_option maxHeartbeats 40000000 in
theorem comes_1 {Post : Tables → Env → Array Value → State → Outcome → State → Prop} (hpost : ∀ tb e args s v u, (limb_1_1.after args s (.returned v) u = true ∧ limb_1_2.after args s (.returned v) u = true ∧ True) → ReturnedEndW s (.returned v) u (Jvm.fieldLocs frame_1_writes args s ++ Jvm.arrayLocs frame_1_arrays args s ++ Jvm.staticLocs frame_1_statics s) 16 2176 → Post tb e args s (.returned v) u) :
    ArmFor flags0 classFile x code maxLocals ret World_1 tables_1 room_1 Calls_1 rest_1 Pre_1 Post := by
  intro l hfl _ _ p e ha hc hk s m args below hf hA hF happ hP
  obtain ⟨hcalls, hrest, hpre⟩ := hP
  obtain ⟨-, -, -, hnamed, -, -, -, hat⟩ := (Spec.applies_iff hf).mp happ
  obtain ⟨hg, hn⟩ := and_e (Cond.before_iff.mp (show (Jvm.Cond.and given_1 narrow_1).before args s = true from hpre))
  obtain ⟨hgc, hg0⟩ := and_e hg
  obtain ⟨ha0, hg1⟩ := and_e hg0
  obtain ⟨ha1, hg2⟩ := and_e hg1
  obtain ⟨ha2, hg3⟩ := and_e hg2
  have ha3 := hg3
  obtain ⟨w0, w1, w2, w3, rfl⟩ : ∃ w0 w1 w2 w3 : Value, args = #[w0, w1, w2, w3] := by
    have hs : args.size = 4 := by simpa [Cond.value, given_1] using hgc
    obtain ⟨L⟩ := args
    match L, hs with
    | [w0, w1, w2, w3], _ => exact ⟨w0, w1, w2, w3, rfl⟩
  have hw := fun d (hd : d ∈ tables_1) => atoms_spec (ws := Jvm.Cond.code x code maxLocals ret :: tables_1) hat d (List.mem_cons_of_mem _ hd)
  have hfit : Fit s := fun {y c} hc i hi => by
    obtain ⟨ha, rfl⟩ := Array.getElem?_eq_some_iff.mp hc
    have q := List.all_eq_true.mp ((Array.all_eq_true_iff_forall_mem.mp hF) _ (Array.getElem_mem ha)) i (List.mem_range.mpr hi)
    simpa [Array.getElem?_eq_getElem hi] using q
  obtain ⟨i0, ei0⟩ := is_v ha0
  obtain rfl : w0 = (.int i0) := Option.some.inj ei0
  obtain ⟨i1, ei1⟩ := isL_v ha1
  obtain rfl : w1 = (.long i1) := Option.some.inj ei1
  obtain ⟨i2, ei2⟩ := isL_v ha2
  obtain rfl : w2 = (.long i2) := Option.some.inj ei2
  obtain ⟨i3, ei3⟩ := isL_v ha3
  obtain rfl : w3 = (.long i3) := Option.some.inj ei3
  obtain ⟨n, o, h1, h2, h3, _, L, rfl, ⟨rfl, N⟩, hq⟩ := rm0 l s _ hw tables_1 i0 i1 i2 i3 s.heap s.heap.size (Nat.le_refl _)  p e ha hc hk s m _ below hf ((Spec.applies_iff_loose hf).mp happ).1 ⟨rfl, State.Warmed39.refl s, rfl⟩ trivial
  exact ⟨n, _, h1, h2, h3, hpost _ _ _ _ _ _ ⟨Cond.after_iff.mpr rfl, Cond.after_iff.mpr (eq_i res_at (Term.int_eval (1)) rfl), trivial⟩ ⟨hq.1, hq.2.1, hq.2.2.1, (hq.2.2.2.sift fun y hy => Or.inr (N y hy)).mono (by decide) (by decide)⟩⟩
theorem main_1_1 : Claimed_1_1 := comes_1 fun _ _ _ _ _ _ h hF => ⟨h.1, hF⟩
theorem main_1_2 : Claimed_1_2 := comes_1 fun _ _ _ _ _ _ h hF => ⟨h.2.1, hF⟩
end Jvm.Pilot.@@N@@
namespace Jvm.Pilot.@@N@@
open Jvm Jvm.ClassFile Sem Op Lib Jvm.Free Jvm.Stand Jvm.Pilot.@@N@@.Jvm.D
/-! MADE BY PROGRAM (witnessworld.py) out of the Statement's table words and the real class files: 16 classes; the members and pool entries that the words name. The judged class is class 1, her method 1. -/
namespace start1
open Jvm.ClassFile
def u (s : String) : CpInfo := .utf8 (stringToUtf16 s)
/-- a pool by its gaps: so many unusable entries, then the entry; so many at the end -/
def gap : Nat → List CpInfo → List CpInfo
  | 0, r => r
  | n + 1, r => .unusable :: gap n r
def poolList (es : List (Nat × CpInfo)) (last : Nat) : List CpInfo := es.foldr (fun e r => gap e.1 (e.2 :: r)) (gap last [])
def pool (es : List (Nat × CpInfo)) (last : Nat) : Array CpInfo := ⟨poolList es last⟩
def fileOf (pool : Array CpInfo) (this : Nat) (attrs : Array Attribute := #[]) (ms : Array MethodInfo := #[]) (fl : Nat := 33) (sup : Nat := 0) (ifs : Array Nat := #[]) (fds : Array FieldInfo := #[]) : ClassFile where
  minorVersion := 0
  majorVersion := 65
  constantPool := pool
  accessFlags := fl
  thisClass := this
  superClass := sup
  interfaces := ifs
  fields := fds
  methods := ms
  attributes := attrs
def plain (name : String) (sup : Option ClassId) : Class where
  name := name
  kind := .ordinary
  loader := none
  accessFlags := 33
  super := sup
  interfaces := #[]
  cf := none
  fields := #[]
  methods := #[]
  instanceTypes := #[]
  staticTypes := #[]
  resolved := #[]
  callSites := []
  init := .initialized
  statics := none
  mirror := none

def pool0 : Array CpInfo := pool [(5, u "<init>"), (0, u "()V"), (1, .class_ 10), (1, u "java/lang/Object")] 113

def k0c0 : Code := { maxStack := 0, maxLocals := 1, code := object_method_1_code, exceptionTable := #[], attributes := #[] }
def k0m0 : Method := { name := "<init>", desc := "()V", sig := { parameters := [], returnType := none }, accessFlags := 1, code := some k0c0 }
/-- java/lang/Object -/
def k0 : Class := { plain "java/lang/Object" none with
  accessFlags := 33
  interfaces := #[]
  cf := some (fileOf pool0 8 #[] #[{ accessFlags := 1, nameIndex := 5, descriptorIndex := 6, attributes := #[] }] 33 0 #[] #[])
  fields := #[]
  methods := #[k0m0]
  instanceTypes := #[]
  staticTypes := #[]
  resolved := Array.replicate 124 none
  statics := none }

def pool1 : Array CpInfo := pool [(2, .class_ 4), (1, u "java/lang/Object"), (0, u "<init>"), (0, u "()V"), (2, .long 9223372036854775807), (1, .class_ 12), (0, u "com/example/issuant/issuant/endpoint/Prompt"), (0, .methodref 11 14), (0, .nameAndType 5 15), (0, u "(ZZJ)V"), (0, .class_ 17), (0, u "com/example/issuant/issuant/token/Sessions$Session"), (0, .string 19), (0, u "i"), (0, .string 21), (0, u "u"), (0, .methodref 16 23), (0, .nameAndType 5 24), (0, u "(Ljava/lang/String;Ljava/lang/String;J)V"), (0, .methodref 11 26), (0, .nameAndType 27 28), (0, u "accepts"), (0, u "(Lcom/example/issuant/issuant/token/Sessions$Session;J)Z"), (0, .methodref 30 31), (0, .class_ 32), (0, .nameAndType 33 34), (0, u "com/example/issuant/issuant/endpoint/PromptAcceptsPinLaw"), (0, u "reference"), (0, u "(ZJJJ)Z"), (2, u "law"), (0, u "(IJJJ)Z")] 7

def k1m0 : Method := { name := "<init>", desc := "()V", sig := { parameters := [], returnType := none }, accessFlags := 2, code := none }
def k1c1 : Code := { maxStack := 7, maxLocals := 19, code := code, exceptionTable := #[], attributes := #[] }
def k1m1 : Method := { name := "law", desc := "(IJJJ)Z", sig := { parameters := [.int, .long, .long, .long], returnType := some .boolean }, accessFlags := 9, code := some k1c1 }
def k1c2 : Code := { maxStack := 6, maxLocals := 9, code := method_3_code, exceptionTable := #[], attributes := #[] }
def k1m2 : Method := { name := "reference", desc := "(ZJJJ)Z", sig := { parameters := [.boolean, .long, .long, .long], returnType := some .boolean }, accessFlags := 10, code := some k1c2 }
/-- com/example/issuant/issuant/endpoint/PromptAcceptsPinLaw -/
def k1 : Class := { plain "com/example/issuant/issuant/endpoint/PromptAcceptsPinLaw" (some 0) with
  accessFlags := 49
  interfaces := #[]
  cf := some (fileOf pool1 30 #[] #[{ accessFlags := 2, nameIndex := 5, descriptorIndex := 6, attributes := #[] }, { accessFlags := 9, nameIndex := 37, descriptorIndex := 38, attributes := #[] }, { accessFlags := 10, nameIndex := 33, descriptorIndex := 34, attributes := #[] }] 49 2 #[] #[])
  fields := #[]
  methods := #[k1m0, k1m1, k1m2]
  instanceTypes := #[]
  staticTypes := #[]
  resolved := Array.replicate 46 none
  statics := none }

def pool2 : Array CpInfo := pool [(1, .methodref 2 3), (0, .class_ 4), (0, .nameAndType 5 6), (0, u "java/lang/Object"), (0, u "<init>"), (0, u "()V"), (0, .class_ 8), (0, u "java/lang/Record")] 13

def k2c0 : Code := { maxStack := 1, maxLocals := 1, code := jdk_30_method_1_code, exceptionTable := #[], attributes := #[] }
def k2m0 : Method := { name := "<init>", desc := "()V", sig := { parameters := [], returnType := none }, accessFlags := 4, code := some k2c0 }
/-- java/lang/Record -/
def k2 : Class := { plain "java/lang/Record" (some 0) with
  accessFlags := 1057
  interfaces := #[]
  cf := some (fileOf pool2 7 #[] #[{ accessFlags := 4, nameIndex := 5, descriptorIndex := 6, attributes := #[] }] 1057 2 #[] #[])
  fields := #[]
  methods := #[k2m0]
  instanceTypes := #[]
  staticTypes := #[]
  resolved := Array.replicate 22 none
  statics := none }

def pool3 : Array CpInfo := pool [(1, .methodref 2 3), (0, .class_ 4), (0, .nameAndType 5 6), (0, u "java/lang/Record"), (0, u "<init>"), (0, u "()V"), (0, .fieldref 8 9), (0, .class_ 10), (0, .nameAndType 11 12), (0, u "com/example/issuant/issuant/endpoint/Prompt"), (0, u "none"), (0, u "Z"), (0, .fieldref 8 14), (0, .nameAndType 15 12), (0, u "login"), (0, .fieldref 8 17), (0, .nameAndType 18 19), (0, u "maxAge"), (0, u "J"), (42, u "VALUES"), (0, u "Ljava/util/Set;"), (22, u "SECONDS"), (0, u "Ljava/util/regex/Pattern;"), (27, u "(ZZJ)V"), (0, .methodref 117 118), (0, .class_ 119), (0, .nameAndType 120 121), (0, u "com/example/issuant/issuant/token/Sessions$Session"), (0, u "authTime"), (0, u "()J"), (26, u "NONE"), (0, u "Ljava/lang/String;"), (1, u "LOGIN"), (0, u "SELECT_ACCOUNT"), (8, u "accepts"), (0, u "(Lcom/example/issuant/issuant/token/Sessions$Session;J)Z")] 41

def k3c0 : Code := { maxStack := 3, maxLocals := 5, code := prog_11_method_1_code, exceptionTable := #[], attributes := #[] }
def k3m0 : Method := { name := "<init>", desc := "(ZZJ)V", sig := { parameters := [.boolean, .boolean, .long], returnType := none }, accessFlags := 0, code := some k3c0 }
def k3c1 : Code := { maxStack := 4, maxLocals := 4, code := prog_11_method_3_code, exceptionTable := #[], attributes := #[] }
def k3m1 : Method := { name := "accepts", desc := "(Lcom/example/issuant/issuant/token/Sessions$Session;J)Z", sig := { parameters := [(.object "com/example/issuant/issuant/token/Sessions$Session"), .long], returnType := some .boolean }, accessFlags := 0, code := some k3c1 }
/-- com/example/issuant/issuant/endpoint/Prompt -/
def k3 : Class := { plain "com/example/issuant/issuant/endpoint/Prompt" (some 2) with
  accessFlags := 48
  interfaces := #[]
  cf := some (fileOf pool3 8 #[] #[{ accessFlags := 0, nameIndex := 5, descriptorIndex := 115, attributes := #[] }, { accessFlags := 0, nameIndex := 161, descriptorIndex := 162, attributes := #[] }] 48 2 #[] #[{ accessFlags := 18, nameIndex := 11, descriptorIndex := 12, attributes := #[] }, { accessFlags := 18, nameIndex := 15, descriptorIndex := 12, attributes := #[] }, { accessFlags := 18, nameIndex := 18, descriptorIndex := 19, attributes := #[] }, { accessFlags := 26, nameIndex := 148, descriptorIndex := 149, attributes := #[] }, { accessFlags := 26, nameIndex := 151, descriptorIndex := 149, attributes := #[] }, { accessFlags := 26, nameIndex := 152, descriptorIndex := 149, attributes := #[] }, { accessFlags := 26, nameIndex := 62, descriptorIndex := 63, attributes := #[] }, { accessFlags := 26, nameIndex := 86, descriptorIndex := 87, attributes := #[] }])
  fields := #[{ name := "none", type := .boolean, accessFlags := 18, slot := 0, constantValue := 0 }, { name := "login", type := .boolean, accessFlags := 18, slot := 1, constantValue := 0 }, { name := "maxAge", type := .long, accessFlags := 18, slot := 2, constantValue := 0 }, { name := "NONE", type := (.object "java/lang/String"), accessFlags := 26, slot := 0, constantValue := 0 }, { name := "LOGIN", type := (.object "java/lang/String"), accessFlags := 26, slot := 1, constantValue := 0 }, { name := "SELECT_ACCOUNT", type := (.object "java/lang/String"), accessFlags := 26, slot := 2, constantValue := 0 }, { name := "VALUES", type := (.object "java/util/Set"), accessFlags := 26, slot := 3, constantValue := 0 }, { name := "SECONDS", type := (.object "java/util/regex/Pattern"), accessFlags := 26, slot := 4, constantValue := 0 }]
  methods := #[k3m0, k3m1]
  instanceTypes := #[.boolean, .boolean, .long]
  staticTypes := #[(.object "java/lang/String"), (.object "java/lang/String"), (.object "java/lang/String"), (.object "java/util/Set"), (.object "java/util/regex/Pattern")]
  resolved := Array.replicate 204 none
  statics := none }

def pool4 : Array CpInfo := pool [(1, .methodref 2 3), (0, .class_ 4), (0, .nameAndType 5 6), (0, u "java/lang/Record"), (0, u "<init>"), (0, u "()V"), (0, .fieldref 8 9), (0, .class_ 10), (0, .nameAndType 11 12), (0, u "com/example/issuant/issuant/token/Sessions$Session"), (0, u "id"), (0, u "Ljava/lang/String;"), (0, .fieldref 8 14), (0, .nameAndType 15 12), (0, u "subject"), (0, .fieldref 8 17), (0, .nameAndType 18 19), (0, u "authTime"), (0, u "J"), (12, u "(Ljava/lang/String;Ljava/lang/String;J)V"), (6, u "()J"), (3, .class_ 44), (0, u "com/example/issuant/issuant/token/Sessions")] 21

def k4c0 : Code := { maxStack := 3, maxLocals := 5, code := prog_31_method_1_code, exceptionTable := #[], attributes := #[] }
def k4m0 : Method := { name := "<init>", desc := "(Ljava/lang/String;Ljava/lang/String;J)V", sig := { parameters := [(.object "java/lang/String"), (.object "java/lang/String"), .long], returnType := none }, accessFlags := 1, code := some k4c0 }
def k4c1 : Code := { maxStack := 2, maxLocals := 1, code := prog_31_method_7_code, exceptionTable := #[], attributes := #[] }
def k4m1 : Method := { name := "authTime", desc := "()J", sig := { parameters := [], returnType := some .long }, accessFlags := 1, code := some k4c1 }
/-- com/example/issuant/issuant/token/Sessions$Session -/
def k4 : Class := { plain "com/example/issuant/issuant/token/Sessions$Session" (some 2) with
  accessFlags := 49
  interfaces := #[]
  cf := some (fileOf pool4 8 #[.nestHost 43] #[{ accessFlags := 1, nameIndex := 5, descriptorIndex := 32, attributes := #[] }, { accessFlags := 1, nameIndex := 18, descriptorIndex := 39, attributes := #[] }] 49 2 #[] #[{ accessFlags := 18, nameIndex := 11, descriptorIndex := 12, attributes := #[] }, { accessFlags := 18, nameIndex := 15, descriptorIndex := 12, attributes := #[] }, { accessFlags := 18, nameIndex := 18, descriptorIndex := 19, attributes := #[] }])
  fields := #[{ name := "id", type := (.object "java/lang/String"), accessFlags := 18, slot := 0, constantValue := 0 }, { name := "subject", type := (.object "java/lang/String"), accessFlags := 18, slot := 1, constantValue := 0 }, { name := "authTime", type := .long, accessFlags := 18, slot := 2, constantValue := 0 }]
  methods := #[k4m0, k4m1]
  instanceTypes := #[(.object "java/lang/String"), (.object "java/lang/String"), .long]
  staticTypes := #[]
  resolved := Array.replicate 66 none
  statics := none }

def pool5 : Array CpInfo := pool [(1, .class_ 2), (0, u "java/io/Serializable"), (0, .class_ 4), (0, u "java/lang/Object")] 2

/-- java/io/Serializable -/
def k5 : Class := { plain "java/io/Serializable" (some 0) with
  accessFlags := 1537
  interfaces := #[]
  cf := some (fileOf pool5 1 #[] #[] 1537 3 #[] #[])
  fields := #[]
  methods := #[]
  instanceTypes := #[]
  staticTypes := #[]
  resolved := Array.replicate 7 none
  statics := none }

def pool6 : Array CpInfo := pool [(1, .class_ 2), (0, u "java/lang/Comparable"), (0, .class_ 4), (0, u "java/lang/Object")] 7

/-- java/lang/Comparable -/
def k6 : Class := { plain "java/lang/Comparable" (some 0) with
  accessFlags := 1537
  interfaces := #[]
  cf := some (fileOf pool6 1 #[] #[] 1537 3 #[] #[])
  fields := #[]
  methods := #[]
  instanceTypes := #[]
  staticTypes := #[]
  resolved := Array.replicate 12 none
  statics := none }

def pool7 : Array CpInfo := pool [(2, .class_ 4), (1, u "java/lang/CharSequence"), (42, .class_ 48), (0, u "java/lang/CharSequence$1CodePointIterator"), (10, .class_ 60), (0, u "java/lang/CharSequence$1CharIterator"), (5, .class_ 67), (0, u "java/lang/Object")] 63

/-- java/lang/CharSequence -/
def k7 : Class := { plain "java/lang/CharSequence" (some 0) with
  accessFlags := 1537
  interfaces := #[]
  cf := some (fileOf pool7 2 #[.nestMembers #[47, 59]] #[] 1537 66 #[] #[])
  fields := #[]
  methods := #[]
  instanceTypes := #[]
  staticTypes := #[]
  resolved := Array.replicate 131 none
  statics := none }

def pool8 : Array CpInfo := pool [(1, .class_ 2), (0, u "java/lang/constant/Constable"), (0, .class_ 4), (0, u "java/lang/Object")] 6

/-- java/lang/constant/Constable -/
def k8 : Class := { plain "java/lang/constant/Constable" (some 0) with
  accessFlags := 1537
  interfaces := #[]
  cf := some (fileOf pool8 1 #[] #[] 1537 3 #[] #[])
  fields := #[]
  methods := #[]
  instanceTypes := #[]
  staticTypes := #[]
  resolved := Array.replicate 11 none
  statics := none }

def pool9 : Array CpInfo := pool [(1, .class_ 2), (0, u "java/lang/constant/ConstantDesc"), (0, .class_ 4), (0, u "java/lang/Object")] 32

/-- java/lang/constant/ConstantDesc -/
def k9 : Class := { plain "java/lang/constant/ConstantDesc" (some 0) with
  accessFlags := 1537
  interfaces := #[]
  cf := some (fileOf pool9 1 #[] #[] 1537 3 #[] #[])
  fields := #[]
  methods := #[]
  instanceTypes := #[]
  staticTypes := #[]
  resolved := Array.replicate 37 none
  statics := none }

def pool10 : Array CpInfo := pool [(2, .class_ 4), (1, u "java/lang/Object"), (0, u "<init>"), (0, u "()V"), (3, .class_ 12), (1, u "java/lang/String"), (0, u "value"), (0, u "[B"), (2, u "coder"), (0, u "B"), (2, u "hash"), (0, u "I"), (2, u "hashIsZero"), (0, u "Z"), (13, u "COMPACT_STRINGS"), (534, .class_ 576), (0, u "java/lang/CharSequence"), (22, u "CASE_INSENSITIVE_ORDER"), (0, u "Ljava/util/Comparator;"), (500, u "serialPersistentFields"), (0, u "[Ljava/io/ObjectStreamField;"), (0, .class_ 1104), (0, u "java/lang/String$CaseInsensitiveComparator"), (1, .class_ 1107), (0, u "java/io/Serializable"), (0, .class_ 1109), (0, u "java/lang/Comparable"), (0, .class_ 1111), (0, u "java/lang/constant/Constable"), (0, .class_ 1113), (0, u "java/lang/constant/ConstantDesc"), (2, u "serialVersionUID"), (0, u "J"), (3, u "REPL"), (0, u "C"), (2, u "LATIN1"), (1, u "UTF16")] 323

def k10m0 : Method := { name := "<init>", desc := "()V", sig := { parameters := [], returnType := none }, accessFlags := 1, code := none }
/-- java/lang/String -/
def k10 : Class := { plain "java/lang/String" (some 0) with
  accessFlags := 49
  interfaces := #[5, 6, 7, 8, 9]
  cf := some (fileOf pool10 10 #[.nestMembers #[1103]] #[{ accessFlags := 1, nameIndex := 5, descriptorIndex := 6, attributes := #[] }] 49 2 #[1106, 1108, 575, 1110, 1112] #[{ accessFlags := 18, nameIndex := 13, descriptorIndex := 14, attributes := #[] }, { accessFlags := 18, nameIndex := 17, descriptorIndex := 18, attributes := #[] }, { accessFlags := 2, nameIndex := 21, descriptorIndex := 22, attributes := #[] }, { accessFlags := 2, nameIndex := 25, descriptorIndex := 26, attributes := #[] }, { accessFlags := 26, nameIndex := 1116, descriptorIndex := 1117, attributes := #[] }, { accessFlags := 24, nameIndex := 40, descriptorIndex := 26, attributes := #[] }, { accessFlags := 26, nameIndex := 1101, descriptorIndex := 1102, attributes := #[] }, { accessFlags := 26, nameIndex := 1121, descriptorIndex := 1122, attributes := #[] }, { accessFlags := 25, nameIndex := 599, descriptorIndex := 600, attributes := #[] }, { accessFlags := 24, nameIndex := 1125, descriptorIndex := 18, attributes := #[] }, { accessFlags := 24, nameIndex := 1127, descriptorIndex := 18, attributes := #[] }])
  fields := #[{ name := "value", type := (.array .byte), accessFlags := 18, slot := 0, constantValue := 0 }, { name := "coder", type := .byte, accessFlags := 18, slot := 1, constantValue := 0 }, { name := "hash", type := .int, accessFlags := 2, slot := 2, constantValue := 0 }, { name := "hashIsZero", type := .boolean, accessFlags := 2, slot := 3, constantValue := 0 }, { name := "serialVersionUID", type := .long, accessFlags := 26, slot := 0, constantValue := 0 }, { name := "COMPACT_STRINGS", type := .boolean, accessFlags := 24, slot := 1, constantValue := 0 }, { name := "serialPersistentFields", type := (.array (.object "java/io/ObjectStreamField")), accessFlags := 26, slot := 2, constantValue := 0 }, { name := "REPL", type := .char, accessFlags := 26, slot := 3, constantValue := 0 }, { name := "CASE_INSENSITIVE_ORDER", type := (.object "java/util/Comparator"), accessFlags := 25, slot := 4, constantValue := 0 }, { name := "LATIN1", type := .byte, accessFlags := 24, slot := 5, constantValue := 0 }, { name := "UTF16", type := .byte, accessFlags := 24, slot := 6, constantValue := 0 }]
  methods := #[k10m0]
  instanceTypes := #[(.array .byte), .byte, .int, .boolean]
  staticTypes := #[.long, .boolean, (.array (.object "java/io/ObjectStreamField")), .char, (.object "java/util/Comparator"), .byte, .byte]
  resolved := Array.replicate 1451 none
  statics := none }

def pool11 : Array CpInfo := pool [(1, u "java/lang/Cloneable"), (0, .class_ 1), (0, u "java/lang/Object"), (0, .class_ 3)] 3

/-- java/lang/Cloneable -/
def k11 : Class := { plain "java/lang/Cloneable" (some 0) with
  accessFlags := 1537
  interfaces := #[]
  cf := some (fileOf pool11 2 #[] #[] 1537 4 #[] #[])
  fields := #[]
  methods := #[]
  instanceTypes := #[]
  staticTypes := #[]
  resolved := Array.replicate 8 none
  statics := none }

/-- the primitive byte -/
def k12 : Class := { plain "byte" none with kind := .primitive 'B', accessFlags := 0x411 }
/-- [B -/
def k13 : Class := { plain "[B" (some 0) with kind := .array 12 .byte, interfaces := #[11, 5], accessFlags := 1041 }

/-- the primitive int -/
def k14 : Class := { plain "int" none with kind := .primitive 'I', accessFlags := 0x411 }
/-- [I -/
def k15 : Class := { plain "[I" (some 0) with kind := .array 14 .int, interfaces := #[11, 5], accessFlags := 1041 }

def heap : Heap := #[]
def classes : Array Class := #[k0, k1, k2, k3, k4, k5, k6, k7, k8, k9, k10, k11, k12, k13, k14, k15]
def interned : List (Array UInt16 × Addr) := []
def slotsUsed : Nat := 0
def theMethod : MethodId := ⟨1, 1⟩
def args0 : Array Value := #[.int 1, .long 5, .long 7, .long 9]
def aboutOver (below : List Frame) : State where
  vm := { classes := classes, interned := interned.toArray }
  heap := heap
  slotsUsed := slotsUsed
  threads := #[{ frames := .invoking theMethod args0 :: below }]
def below0 : List Frame := [.native { method := ⟨0, 0⟩, args := #[] }]
def about1 : State := aboutOver below0
def p0 : Program := .bare "" "" ""
def e0 : Env := launch0.env 0 0 0
theorem w_frames : about1.frames = Frame.invoking theMethod args0 :: below0 := rfl
set_option maxRecDepth 65536 in
theorem w_args : argsFit about1.vm theMethod args0 = true := by decide +kernel
set_option maxRecDepth 65536 in
theorem w_heap : heapFits about1 = true := by decide +kernel
set_option maxRecDepth 65536 in
theorem w_runnable : about1.curStatus? = some .runnable := by decide +kernel
set_option maxRecDepth 65536 in
theorem w_alone : about1.alone = true := by decide +kernel
set_option maxRecDepth 65536 in
theorem w_named : about1.methodNamed? x = some theMethod := by decide +kernel
set_option maxRecDepth 65536 in
theorem w_hears : about1.hears theMethod below0 = true := by decide +kernel
set_option maxRecDepth 65536 in
theorem w_ripe : about1.ripe theMethod args0 below0 = true := by decide +kernel
theorem w_running : about1.status = .running := rfl
set_option maxRecDepth 65536 in
theorem w_room : about1.hasRoom e0.platform room_1 = true :=
  launch0.hasRoom_least _ room_1 (by decide +kernel) (by decide +kernel) (by decide +kernel) (by decide +kernel) (by decide +kernel) (by decide +kernel)
theorem allAtoms_all (ts : List Jvm.Cond) (a : Array Jvm.Value) (st : Jvm.State) : (allAtoms ts).before a st = ts.all (fun c => c.before a st) := by
  induction ts with
  | nil => rfl
  | cons c t ih =>
    show (Jvm.Cond.and c (allAtoms t)).before a st = _
    rw [Jvm.Cond.before_and, ih, List.all_cons]
def words1 : List Jvm.Cond := Jvm.Cond.code x code maxLocals ret :: tables_1
/-- a 'code' word, met by the world's own term for the bytes: nothing is compared byte by byte -/
theorem code_word {y : MethodName} {bytes : ByteArray} {mx : Nat} {rt : Option FieldType} {a : Array Value} {s : State} {m : MethodId} {meth : Method} {c : Code} (h1 : s.methodNamed? y = some m) (h2 : s.vm.method? m = some meth) (h3 : meth.code = some c) (h4 : c.code = bytes)
    (h5 : (c.maxLocals == mx && c.exceptionTable.isEmpty && decide (c.maxStack ≤ mostOperands) && decide (meth.sig.returnType = rt) && !meth.locks && decide (parseMethodDescriptor y.desc = some meth.sig)) = true) : (Jvm.Cond.code y bytes mx rt).before a s = true := by
  simp only [Bool.and_eq_true, beq_iff_eq, Bool.not_eq_true', decide_eq_true_eq] at h5
  obtain ⟨⟨⟨⟨⟨g1, g2⟩, g3⟩, g4⟩, g5⟩, g6⟩ := h5
  simp [Cond.before, Cond.holds, Cond.value, h1, h2, h3, h4, g1, g2, g3, g4, g5, g6]
def isCode : Jvm.Cond → Bool
  | .code _ _ _ _ => true
  | _ => false
theorem all_split {L : List Jvm.Cond} {P : Jvm.Cond → Bool} (h1 : L.all (fun c => isCode c || P c) = true) (h2 : ∀ c ∈ L.filter isCode, P c = true) : L.all P = true := by
  refine List.all_eq_true.mpr fun c hc => ?_
  have h := List.all_eq_true.mp h1 c hc
  rcases Bool.eq_false_or_eq_true (isCode c) with hi | hi
  · exact h2 c (List.mem_filter.mpr ⟨hc, hi⟩)
  · simpa [hi] using h
set_option maxRecDepth 65536 in
theorem w_c0 : (Jvm.Cond.code x code maxLocals ret).before args0 about1 = true := code_word (m := ⟨1, 1⟩) (meth := k1m1) (c := k1c1) (by decide +kernel) rfl rfl rfl (by decide +kernel)
set_option maxRecDepth 65536 in
theorem w_c1 : (Jvm.Cond.code ({ cls := "com/example/issuant/issuant/endpoint/Prompt", name := "<init>", desc := "(ZZJ)V" } : Jvm.MethodName) prog_11_method_1_code (5 : Nat) (Option.none : Option Jvm.ClassFile.FieldType)).before args0 about1 = true := code_word (m := ⟨3, 0⟩) (meth := k3m0) (c := k3c0) (by decide +kernel) rfl rfl rfl (by decide +kernel)
set_option maxRecDepth 65536 in
theorem w_c2 : (Jvm.Cond.code ({ cls := "java/lang/Record", name := "<init>", desc := "()V" } : Jvm.MethodName) jdk_30_method_1_code (1 : Nat) (Option.none : Option Jvm.ClassFile.FieldType)).before args0 about1 = true := code_word (m := ⟨2, 0⟩) (meth := k2m0) (c := k2c0) (by decide +kernel) rfl rfl rfl (by decide +kernel)
set_option maxRecDepth 65536 in
theorem w_c3 : (Jvm.Cond.code ({ cls := "java/lang/Object", name := "<init>", desc := "()V" } : Jvm.MethodName) object_method_1_code (1 : Nat) (Option.none : Option Jvm.ClassFile.FieldType)).before args0 about1 = true := code_word (m := ⟨0, 0⟩) (meth := k0m0) (c := k0c0) (by decide +kernel) rfl rfl rfl (by decide +kernel)
set_option maxRecDepth 65536 in
theorem w_c4 : (Jvm.Cond.code ({ cls := "com/example/issuant/issuant/token/Sessions$Session", name := "<init>", desc := "(Ljava/lang/String;Ljava/lang/String;J)V" } : Jvm.MethodName) prog_31_method_1_code (5 : Nat) (Option.none : Option Jvm.ClassFile.FieldType)).before args0 about1 = true := code_word (m := ⟨4, 0⟩) (meth := k4m0) (c := k4c0) (by decide +kernel) rfl rfl rfl (by decide +kernel)
set_option maxRecDepth 65536 in
theorem w_c5 : (Jvm.Cond.code ({ cls := "com/example/issuant/issuant/endpoint/Prompt", name := "accepts", desc := "(Lcom/example/issuant/issuant/token/Sessions$Session;J)Z" } : Jvm.MethodName) prog_11_method_3_code (4 : Nat) (Option.some Jvm.ClassFile.FieldType.boolean)).before args0 about1 = true := code_word (m := ⟨3, 1⟩) (meth := k3m1) (c := k3c1) (by decide +kernel) rfl rfl rfl (by decide +kernel)
set_option maxRecDepth 65536 in
theorem w_c6 : (Jvm.Cond.code ({ cls := "com/example/issuant/issuant/token/Sessions$Session", name := "authTime", desc := "()J" } : Jvm.MethodName) prog_31_method_7_code (1 : Nat) (Option.some Jvm.ClassFile.FieldType.long)).before args0 about1 = true := code_word (m := ⟨4, 1⟩) (meth := k4m1) (c := k4c1) (by decide +kernel) rfl rfl rfl (by decide +kernel)
set_option maxRecDepth 65536 in
theorem w_c7 : (Jvm.Cond.code ({ cls := "com/example/issuant/issuant/endpoint/PromptAcceptsPinLaw", name := "reference", desc := "(ZJJJ)Z" } : Jvm.MethodName) method_3_code (9 : Nat) (Option.some Jvm.ClassFile.FieldType.boolean)).before args0 about1 = true := code_word (m := ⟨1, 2⟩) (meth := k1m2) (c := k1c2) (by decide +kernel) rfl rfl rfl (by decide +kernel)
def codes1 : List Jvm.Cond := [Jvm.Cond.code x code maxLocals ret, Jvm.Cond.code ({ cls := "com/example/issuant/issuant/endpoint/Prompt", name := "<init>", desc := "(ZZJ)V" } : Jvm.MethodName) prog_11_method_1_code (5 : Nat) (Option.none : Option Jvm.ClassFile.FieldType), Jvm.Cond.code ({ cls := "java/lang/Record", name := "<init>", desc := "()V" } : Jvm.MethodName) jdk_30_method_1_code (1 : Nat) (Option.none : Option Jvm.ClassFile.FieldType), Jvm.Cond.code ({ cls := "java/lang/Object", name := "<init>", desc := "()V" } : Jvm.MethodName) object_method_1_code (1 : Nat) (Option.none : Option Jvm.ClassFile.FieldType), Jvm.Cond.code ({ cls := "com/example/issuant/issuant/token/Sessions$Session", name := "<init>", desc := "(Ljava/lang/String;Ljava/lang/String;J)V" } : Jvm.MethodName) prog_31_method_1_code (5 : Nat) (Option.none : Option Jvm.ClassFile.FieldType), Jvm.Cond.code ({ cls := "com/example/issuant/issuant/endpoint/Prompt", name := "accepts", desc := "(Lcom/example/issuant/issuant/token/Sessions$Session;J)Z" } : Jvm.MethodName) prog_11_method_3_code (4 : Nat) (Option.some Jvm.ClassFile.FieldType.boolean), Jvm.Cond.code ({ cls := "com/example/issuant/issuant/token/Sessions$Session", name := "authTime", desc := "()J" } : Jvm.MethodName) prog_31_method_7_code (1 : Nat) (Option.some Jvm.ClassFile.FieldType.long), Jvm.Cond.code ({ cls := "com/example/issuant/issuant/endpoint/PromptAcceptsPinLaw", name := "reference", desc := "(ZJJJ)Z" } : Jvm.MethodName) method_3_code (9 : Nat) (Option.some Jvm.ClassFile.FieldType.boolean)]
set_option maxRecDepth 65536 in
theorem codes_eq : words1.filter isCode = codes1 := rfl
theorem w_codes : ∀ c ∈ words1.filter isCode, c.before args0 about1 = true := by
  rw [codes_eq]
  intro c hc
  simp only [codes1, List.mem_cons, List.not_mem_nil, or_false] at hc
  rcases hc with rfl | rfl | rfl | rfl | rfl | rfl | rfl | rfl
  · exact w_c0
  · exact w_c1
  · exact w_c2
  · exact w_c3
  · exact w_c4
  · exact w_c5
  · exact w_c6
  · exact w_c7
set_option maxRecDepth 65536 in
theorem w_t1 : (words1.take 24).all (fun c => isCode c || c.before args0 about1) = true := by decide +kernel
set_option maxRecDepth 65536 in
theorem w_t2 : ((words1.drop 24).take 24).all (fun c => isCode c || c.before args0 about1) = true := by decide +kernel
set_option maxRecDepth 65536 in
theorem w_t3 : ((words1.drop 24).drop 24).all (fun c => isCode c || c.before args0 about1) = true := by decide +kernel
theorem w_tables : (allAtoms (Jvm.Cond.code x code maxLocals ret :: tables_1)).before args0 about1 = true := by
  rw [allAtoms_all]
  show words1.all (fun c => c.before args0 about1) = true
  refine all_split ?_ w_codes
  rw [← List.take_append_drop 24 words1, List.all_append, w_t1, ← List.take_append_drop 24 (words1.drop 24), List.all_append, w_t2, w_t3]
  rfl
set_option maxRecDepth 65536 in
theorem w_case : (Jvm.Cond.and given_1 narrow_1).before args0 about1 = true := by decide +kernel
theorem w_applies : (headSpec (Jvm.Cond.code x code maxLocals ret :: tables_1) room_1).applies x e0.platform about1 = true :=
  (Spec.applies_iff w_frames).mpr ⟨w_running, w_runnable, w_alone, w_named, w_hears, w_ripe, w_room, w_tables⟩
theorem atStart : AtStart classFile x code maxLocals ret World_1 tables_1 room_1 Calls_1 rest_1 Pre_1 launch0 p0 e0 about1 theMethod args0 below0 :=
  ⟨lists_1, trivial, launch0.admits_env _ _ _, launch0.least_env, fairChoices_fair.cas, fairChoices_fair.clock, w_frames, w_args, w_heap, w_applies, trivial, trivial, w_case⟩
end start1
theorem witness_1 : WitnessClaimed_1 := ⟨start1.p0, start1.e0, start1.about1, start1.theMethod, start1.args0, start1.below0, start1.atStart⟩
end Jvm.Pilot.@@N@@
