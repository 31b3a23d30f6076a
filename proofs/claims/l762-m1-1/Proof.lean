import JvmDerived
import JvmDerived.Pilot.@@N@@Statement
import JvmDerived.Pilot.@@N@@Code
set_option linter.unusedVariables false
set_option linter.unusedSimpArgs false
namespace Jvm.RoadKit
open Sem ClassFile Op Lib Jvm.Stand Jvm.Free Jvm.LawKit
abbrev own_Go (p : Program) (e : Env) (below : List Frame) (A B : State) : Prop := ∀ t, Steps p.tables e below B t → Steps p.tables e below A t
theorem own_name {p : Program} {e : Env} {below : List Frame} {A : State} {α : Type} {F : α → State} (x : α) (P : own_Go p e below A (F x)) : ∃ z, z = x ∧ own_Go p e below A (F z) := ⟨x, rfl, P⟩
theorem own_step {p : Program} {e : Env} {below : List Frame} {A B C : State} (P : own_Go p e below A B) (q : own_Go p e below B C) : own_Go p e below A C := fun t_ k_ => P t_ (q t_ k_)
theorem own_IB {Z s U : State} {Ts : List String} (I : IB Z s.vm Ts) (w : s.WarmedH U.vm) : IB Z U.vm Ts := by
  obtain ⟨more, e, hm⟩ := I
  exact ⟨more, w.interned_eq.trans e, hm⟩
theorem own_backI {p : Program} {l : Launch} {e : Env} {R : Room} {s Z : State} {args a0 : Array Value} {below : List Frame} {h : Heap} {y : MethodName} {bytes : ByteArray} {maxL : Nat} {ret : Option FieldType} {rm : Room} {len W : Nat} {as' : Array Value} {Ts : List String} {Q : Option Value → Heap → List Loc → Prop}
    (hM : MetFree l y (head1 [Cond.code y bytes maxL ret] rm) (fun a U => a = as' ∧ Z.Warmed39 U.vm ∧ U.heap = h ∧ IB Z U.vm Ts) (fun _ _ _ _ _ => True) (fun _ U o U' => ∃ v L, o = .returned v ∧ Q v U'.heap L ∧ ReturnedEndW U o U' L rm.cells rm.slots))
    (hZ : Z.Warmed39 s.vm) (hI : IB Z s.vm Ts) (wc : (Cond.code y bytes maxL ret).before a0 Z = true) (wz : (Cond.initialized y.cls).before a0 Z = true) (hf : rm.frames + 1 ≤ R.frames) (hl : W + (maxL + 11) + rm.locals ≤ R.locals) :
    BackS l R p e below s args y len W (fun A a => a = as' ∧ A.U.heap = h ∧ A.cells + rm.cells ≤ R.cells ∧ A.slots + rm.slots ≤ R.slots) (fun A _ v B => ∃ L, Q v B.U.heap L ∧ B.locs = A.locs ++ L ∧ B.cells = A.cells + rm.cells ∧ B.slots = A.slots + rm.slots) := by
  refine BackS.of_freeW (bytes := bytes) (maxL := maxL) (ret := ret) (E := fun _ _ o t L k n => k = rm.cells ∧ n = rm.slots ∧ ∃ v, o = .returned v ∧ Q v t.heap L) hM hf hl ?_ ?_ (fun _ _ _ _ _ _ _ _ _ => trivial) ?_ ?_
  · intro m meth c A a Y hp
    have hU : Z.Warmed39 A.U.vm := wtrans hZ Y.warmed
    refine ⟨?_, mv hU wc, mv hU wz, hp.2.2.1, hp.2.2.2⟩
    show (Cond.and _ .tt).before a A.U = true
    rw [Cond.before_and, mv hU wc]; rfl
  · intro m meth c A a g mk Y hp
    exact ⟨hp.1, wtrans hZ Y.warmed, hp.2.1, own_IB hI Y.warmed⟩
  · rintro _ _ _ _ ⟨v, L, h1, h2, h3⟩
    exact ⟨L, _, _, h3, rfl, rfl, v, h1, h2⟩
  · intro m meth c A a g mk v t L k n Y hp _ _ q
    obtain ⟨e1, e2, v', e3, e4⟩ := q
    cases e3; subst e1 e2; exact ⟨L, e4, rfl, rfl, rfl⟩
section New
variable {p : Program} {l : Launch} {e : Env} {R : Room} {s : State} {m : MethodId} {args : Array Value} {below : List Frame} {meth : Method} {c : Code} {T : State} {locs : List Loc} {cells slots : Nat}
theorem retI (X : Stand p l e R s m args below meth c T locs cells slots) (hx : p.tables.exec = Jvm.exec) {pc : Nat} {Ls : Array Slot} {z : Int32} {rest : List Value} (hret : meth.sig.returnType = some .int) (hd : decode c.code pc = .ok (.ireturn, 1)) {fs : List Frame}
    (hl : ∀ (f : JFrame) (acts : List Action), f.method = m → f.locked = none → f.entered = [] → (doReturn e (T.setTop f) acts (some (.int z))).1 = T.setFrames fs) : Steps p.tables e below (T.setTop (mkF m pc Ls (.int z :: rest))) (T.setFrames fs) := by
  have hm' : T.vm.method? m = some meth := X.method'
  have hn : narrow .int (.int z) = .int z := rfl
  show Steps p.tables e below (T.setTop { method := m, pc := pc, locals := Ls, stack := _ :: rest, locked := none }) _
  jvm_step X.here [X.here.top, hx, hd, hm', hret, hn]
  first | (intro acts; rw [hl _ acts rfl rfl rfl]) | rw [hl _ _ rfl rfl rfl]
  exact Steps.refl _
end New
end Jvm.RoadKit
namespace Jvm.Pilot.@@N@@
open Jvm Jvm.ClassFile Sem Op Lib Jvm.Free Jvm.Stand Jvm.LawKit Jvm.RoadKit Bundle Jvm.Pilot.@@N@@.Jvm.D
theorem own_wS : ∀ d ∈ Bundle.stringAtoms, d ∈ tables_1 := by
  intro d hd
  simp only [Bundle.stringAtoms, Bundle.sN, List.mem_cons, List.not_mem_nil, or_false] at hd
  rcases hd with rfl | rfl | rfl | rfl | rfl | rfl | rfl
  all_goals (simp only [tables_1, List.mem_cons, List.not_mem_nil, or_false]; simp)

def own_min (p0 : Int32) (p1 : Int32) : Int32 := (if p1 < p0 then p1 else p0)
theorem d1_0 : decode jdk_29_method_69_code 0 = .ok (.iload_n 0, 1) := by decide +kernel
theorem d1_1 : decode jdk_29_method_69_code 1 = .ok (.iload_n 1, 1) := by decide +kernel
theorem d1_2 : decode jdk_29_method_69_code 2 = .ok (.if_icmp .gt 7, 3) := by decide +kernel
theorem d1_5 : decode jdk_29_method_69_code 5 = .ok (.iload_n 0, 1) := by decide +kernel
theorem d1_6 : decode jdk_29_method_69_code 6 = .ok (.goto 4, 3) := by decide +kernel
theorem d1_9 : decode jdk_29_method_69_code 9 = .ok (.iload_n 1, 1) := by decide +kernel
theorem d1_10 : decode jdk_29_method_69_code 10 = .ok (.ireturn, 1) := by decide +kernel
theorem ef__own_min (m : MethodId) (x0 : Int32) (x1 : Int32) : entryFrame m #[(.int x0), (.int x1)] 2 = mkF m 0 #[.val (.int x0), .val (.int x1)] [] := by first | (simp [entryFrame, mkF, argsToLocals, Value.category]; done) | rfl
def Q_own_min (Z : State) (p0 : Int32) (p1 : Int32) (h0 : Heap) (n0 : Nat) (v_ : Option Value) (h : Heap) (L_ : List Loc) : Prop := v_ = some (.int (own_min p0 p1)) ∧ Fr n0 L_ ∧ h = h0
set_option maxRecDepth 65536 in
set_option maxHeartbeats 40000000 in
theorem rm_own_min (l : Launch) (Z : State) (a0 : Array Value) (hw : ∀ d ∈ tables_1, d.before a0 Z = true) (ws : List Jvm.Cond) (p0 : Int32) (p1 : Int32) (h0 : Heap) (n0 : Nat) (Z0 : n0 ≤ h0.size) :
    MetFree l (⟨"java/lang/Math", "min", "(II)I"⟩ : MethodName) (head1 (Jvm.Cond.code (⟨"java/lang/Math", "min", "(II)I"⟩ : MethodName) jdk_29_method_69_code 2 (some .int) :: ws) ({ frames := 0, cells := 0, slots := 0, locals := 0 } : Room)) (fun a_ U_ => a_ = #[(.int p0), (.int p1)] ∧ Z.Warmed39 U_.vm ∧ U_.heap = h0) (fun _ _ _ _ _ => True) (fun _ U_ o_ V_ => ∃ v_ L_, o_ = .returned v_ ∧ Q_own_min Z p0 p1 h0 n0 v_ V_.heap L_ ∧ FrameEnd U_ o_ V_ L_ ({ frames := 0, cells := 0, slots := 0, locals := 0 } : Room).cells ({ frames := 0, cells := 0, slots := 0, locals := 0 } : Room).slots) := by
  refine MetFree.of_bodySF (Jvm.Free.JP.mathPlain rfl (by decide +kernel)) hisR ?_
  intro p e s m args below meth c s₁ Bd hml0 hP hK
  obtain ⟨rfl, hZ, hh⟩ := hP
  have hx := Bd.exec
  have hby := Bd.bytes
  have hml : c.maxLocals = 2 := hml0
  have hown : s.vm.findClass "java/lang/Math" = some m.cls := findClass_of_methodNamed Bd.named
  have hnm := (name_of_methodNamed Bd.named Bd.method).1
  have X0 : Stand p l e ({ frames := 0, cells := 0, slots := 0, locals := 0 } : Room) s m #[(.int p0), (.int p1)] below meth c s₁ [] 0 0 := Stand.of_body Bd
  have e0 : s₁.heap = h0 := by rw [← hh, Bd.state]; rfl
  have N0 := Fr.nil n0
  have pre0 : own_Go p e below (s₁.setTop (entryFrame m #[(.int p0), (.int p1)] 2)) (s₁.setTop (mkF m 0 #[.val (.int p0), .val (.int p1)] [])) := fun t_ k_ => castTop (ef__own_min m p0 p1) k_
  have P1 := own_step (C := s₁.setTop (mkF m 2 #[.val (.int p0), .val (.int p1)] [(.int p1), (.int p0)])) pre0 (by
    intro tt_ kk_
    refine XS.iloadN X0.here hx rfl (hb hby d1_0) rfl ?_
    show Steps p.tables e below (s₁.setTop (mkF m 1 #[.val (.int p0), .val (.int p1)] [(.int p0)])) _
    refine XS.iloadN X0.here hx rfl (hb hby d1_1) rfl ?_
    exact kk_)
  by_cases c2 : p1 < p0
  · have P3 := own_step (C := s₁.setTop (mkF m 9 #[.val (.int p0), .val (.int p1)] [])) P1 (by
      intro tt_ kk_
      refine XS.icmpYes X0.here hx rfl (pc0 := 2) (pc' := 9) rfl (hb hby d1_2) rfl (tlt c2).2.2.1 (by decide) (by decide) ?_
      exact kk_)
    have P4 := own_step (C := s₁.setTop (mkF m 10 #[.val (.int p0), .val (.int p1)] [(.int p1)])) P3 (by
      intro tt_ kk_
      refine XS.iloadN X0.here hx rfl (hb hby d1_9) rfl ?_
      exact kk_)
    obtain ⟨fs, hr, hrun, hended, hW, hsame⟩ := X0.leave (v := some (.int p1)) (fun h => by rw [Bd.returns] at h; cases h)
    refine ⟨_, _, P4 _ ?_, hrun, hended, _, _, rfl, ?_, ⟨_, rfl⟩, hW, hsame.mono (by decide) (by decide)⟩
    · exact retI X0 hx Bd.returns (hb hby d1_10) hr
    · show Q_own_min Z _ _ h0 n0 _ s₁.heap _
      rw [e0]
      exact ⟨by unfold own_min; rw [if_pos c2], N0, rfl⟩
  · have P5 := own_step (C := s₁.setTop (mkF m 5 #[.val (.int p0), .val (.int p1)] [])) P1 (by
      intro tt_ kk_
      refine XS.icmpNo X0.here hx rfl (hb hby d1_2) rfl (flt c2).2.2.1 ?_
      exact kk_)
    have P6 := own_step (C := s₁.setTop (mkF m 10 #[.val (.int p0), .val (.int p1)] [(.int p0)])) P5 (by
      intro tt_ kk_
      refine XS.iloadN X0.here hx rfl (hb hby d1_5) rfl ?_
      show Steps p.tables e below (s₁.setTop (mkF m 6 #[.val (.int p0), .val (.int p1)] [(.int p0)])) _
      refine XS.goto X0.here hx rfl (pc0 := 6) (pc' := 10) rfl (hb hby d1_6) (by decide) (by decide) ?_
      exact kk_)
    obtain ⟨fs, hr, hrun, hended, hW, hsame⟩ := X0.leave (v := some (.int p0)) (fun h => by rw [Bd.returns] at h; cases h)
    refine ⟨_, _, P6 _ ?_, hrun, hended, _, _, rfl, ?_, ⟨_, rfl⟩, hW, hsame.mono (by decide) (by decide)⟩
    · exact retI X0 hx Bd.returns (hb hby d1_10) hr
    · show Q_own_min Z _ _ h0 n0 _ s₁.heap _
      rw [e0]
      exact ⟨by unfold own_min; rw [if_neg c2], N0, rfl⟩
def own_max (p0 : Int32) (p1 : Int32) : Int32 := (if p0 < p1 then p1 else p0)
theorem d2_0 : decode jdk_29_method_65_code 0 = .ok (.iload_n 0, 1) := by decide +kernel
theorem d2_1 : decode jdk_29_method_65_code 1 = .ok (.iload_n 1, 1) := by decide +kernel
theorem d2_2 : decode jdk_29_method_65_code 2 = .ok (.if_icmp .lt 7, 3) := by decide +kernel
theorem d2_5 : decode jdk_29_method_65_code 5 = .ok (.iload_n 0, 1) := by decide +kernel
theorem d2_6 : decode jdk_29_method_65_code 6 = .ok (.goto 4, 3) := by decide +kernel
theorem d2_9 : decode jdk_29_method_65_code 9 = .ok (.iload_n 1, 1) := by decide +kernel
theorem d2_10 : decode jdk_29_method_65_code 10 = .ok (.ireturn, 1) := by decide +kernel
theorem ef__own_max (m : MethodId) (x0 : Int32) (x1 : Int32) : entryFrame m #[(.int x0), (.int x1)] 2 = mkF m 0 #[.val (.int x0), .val (.int x1)] [] := by first | (simp [entryFrame, mkF, argsToLocals, Value.category]; done) | rfl
def Q_own_max (Z : State) (p0 : Int32) (p1 : Int32) (h0 : Heap) (n0 : Nat) (v_ : Option Value) (h : Heap) (L_ : List Loc) : Prop := v_ = some (.int (own_max p0 p1)) ∧ Fr n0 L_ ∧ h = h0
set_option maxRecDepth 65536 in
set_option maxHeartbeats 40000000 in
theorem rm_own_max (l : Launch) (Z : State) (a0 : Array Value) (hw : ∀ d ∈ tables_1, d.before a0 Z = true) (ws : List Jvm.Cond) (p0 : Int32) (p1 : Int32) (h0 : Heap) (n0 : Nat) (Z0 : n0 ≤ h0.size) :
    MetFree l (⟨"java/lang/Math", "max", "(II)I"⟩ : MethodName) (head1 (Jvm.Cond.code (⟨"java/lang/Math", "max", "(II)I"⟩ : MethodName) jdk_29_method_65_code 2 (some .int) :: ws) ({ frames := 0, cells := 0, slots := 0, locals := 0 } : Room)) (fun a_ U_ => a_ = #[(.int p0), (.int p1)] ∧ Z.Warmed39 U_.vm ∧ U_.heap = h0) (fun _ _ _ _ _ => True) (fun _ U_ o_ V_ => ∃ v_ L_, o_ = .returned v_ ∧ Q_own_max Z p0 p1 h0 n0 v_ V_.heap L_ ∧ FrameEnd U_ o_ V_ L_ ({ frames := 0, cells := 0, slots := 0, locals := 0 } : Room).cells ({ frames := 0, cells := 0, slots := 0, locals := 0 } : Room).slots) := by
  refine MetFree.of_bodySF (Jvm.Free.JP.mathPlain rfl (by decide +kernel)) hisR ?_
  intro p e s m args below meth c s₁ Bd hml0 hP hK
  obtain ⟨rfl, hZ, hh⟩ := hP
  have hx := Bd.exec
  have hby := Bd.bytes
  have hml : c.maxLocals = 2 := hml0
  have hown : s.vm.findClass "java/lang/Math" = some m.cls := findClass_of_methodNamed Bd.named
  have hnm := (name_of_methodNamed Bd.named Bd.method).1
  have X0 : Stand p l e ({ frames := 0, cells := 0, slots := 0, locals := 0 } : Room) s m #[(.int p0), (.int p1)] below meth c s₁ [] 0 0 := Stand.of_body Bd
  have e0 : s₁.heap = h0 := by rw [← hh, Bd.state]; rfl
  have N0 := Fr.nil n0
  have pre0 : own_Go p e below (s₁.setTop (entryFrame m #[(.int p0), (.int p1)] 2)) (s₁.setTop (mkF m 0 #[.val (.int p0), .val (.int p1)] [])) := fun t_ k_ => castTop (ef__own_max m p0 p1) k_
  have P1 := own_step (C := s₁.setTop (mkF m 2 #[.val (.int p0), .val (.int p1)] [(.int p1), (.int p0)])) pre0 (by
    intro tt_ kk_
    refine XS.iloadN X0.here hx rfl (hb hby d2_0) rfl ?_
    show Steps p.tables e below (s₁.setTop (mkF m 1 #[.val (.int p0), .val (.int p1)] [(.int p0)])) _
    refine XS.iloadN X0.here hx rfl (hb hby d2_1) rfl ?_
    exact kk_)
  by_cases c2 : p0 < p1
  · have P3 := own_step (C := s₁.setTop (mkF m 9 #[.val (.int p0), .val (.int p1)] [])) P1 (by
      intro tt_ kk_
      refine XS.icmpYes X0.here hx rfl (pc0 := 2) (pc' := 9) rfl (hb hby d2_2) rfl (tlt c2).1 (by decide) (by decide) ?_
      exact kk_)
    have P4 := own_step (C := s₁.setTop (mkF m 10 #[.val (.int p0), .val (.int p1)] [(.int p1)])) P3 (by
      intro tt_ kk_
      refine XS.iloadN X0.here hx rfl (hb hby d2_9) rfl ?_
      exact kk_)
    obtain ⟨fs, hr, hrun, hended, hW, hsame⟩ := X0.leave (v := some (.int p1)) (fun h => by rw [Bd.returns] at h; cases h)
    refine ⟨_, _, P4 _ ?_, hrun, hended, _, _, rfl, ?_, ⟨_, rfl⟩, hW, hsame.mono (by decide) (by decide)⟩
    · exact retI X0 hx Bd.returns (hb hby d2_10) hr
    · show Q_own_max Z _ _ h0 n0 _ s₁.heap _
      rw [e0]
      exact ⟨by unfold own_max; rw [if_pos c2], N0, rfl⟩
  · have P5 := own_step (C := s₁.setTop (mkF m 5 #[.val (.int p0), .val (.int p1)] [])) P1 (by
      intro tt_ kk_
      refine XS.icmpNo X0.here hx rfl (hb hby d2_2) rfl (flt c2).1 ?_
      exact kk_)
    have P6 := own_step (C := s₁.setTop (mkF m 10 #[.val (.int p0), .val (.int p1)] [(.int p0)])) P5 (by
      intro tt_ kk_
      refine XS.iloadN X0.here hx rfl (hb hby d2_5) rfl ?_
      show Steps p.tables e below (s₁.setTop (mkF m 6 #[.val (.int p0), .val (.int p1)] [(.int p0)])) _
      refine XS.goto X0.here hx rfl (pc0 := 6) (pc' := 10) rfl (hb hby d2_6) (by decide) (by decide) ?_
      exact kk_)
    obtain ⟨fs, hr, hrun, hended, hW, hsame⟩ := X0.leave (v := some (.int p0)) (fun h => by rw [Bd.returns] at h; cases h)
    refine ⟨_, _, P6 _ ?_, hrun, hended, _, _, rfl, ?_, ⟨_, rfl⟩, hW, hsame.mono (by decide) (by decide)⟩
    · exact retI X0 hx Bd.returns (hb hby d2_10) hr
    · show Q_own_max Z _ _ h0 n0 _ s₁.heap _
      rw [e0]
      exact ⟨by unfold own_max; rw [if_neg c2], N0, rfl⟩
theorem d4_0 : decode jdk_30_method_1_code 0 = .ok (.aload_n 0, 1) := by decide +kernel
theorem d4_1 : decode jdk_30_method_1_code 1 = .ok (.invokespecial 1, 3) := by decide +kernel
theorem d4_4 : decode jdk_30_method_1_code 4 = .ok (.return_, 1) := by decide +kernel
theorem ef__rec (m : MethodId) (x0 : Addr) : entryFrame m #[(.ref x0)] 1 = mkF m 0 #[.val (.ref x0)] [] := by first | (simp [entryFrame, mkF, argsToLocals, Value.category]; done) | rfl
def Q_rec (Z : State) (a : Addr) (h0 : Heap) (n0 : Nat) (v_ : Option Value) (h : Heap) (L_ : List Loc) : Prop := v_ = none ∧ Fr n0 L_ ∧ h = h0
theorem pn0 : plainName "java/lang/Record" = true := by first | (simp [plainName, overriddenIn]; done) | decide +kernel
set_option maxRecDepth 65536 in
set_option maxHeartbeats 40000000 in
theorem rm_rec (l : Launch) (Z : State) (a0 : Array Value) (hw : ∀ d ∈ tables_1, d.before a0 Z = true) (ws : List Jvm.Cond) (a : Addr) (h0 : Heap) (n0 : Nat) (Z0 : n0 ≤ h0.size) :
    MetFree l (⟨"java/lang/Record", "<init>", "()V"⟩ : MethodName) (head1 (Jvm.Cond.code (⟨"java/lang/Record", "<init>", "()V"⟩ : MethodName) jdk_30_method_1_code 1 none :: ws) ({ frames := 1, cells := 0, slots := 0, locals := 12 } : Room)) (fun a_ U_ => a_ = #[(.ref a)] ∧ Z.Warmed39 U_.vm ∧ U_.heap = h0) (fun _ _ _ _ _ => True) (fun _ U_ o_ V_ => ∃ v_ L_, o_ = .returned v_ ∧ Q_rec Z a h0 n0 v_ V_.heap L_ ∧ FrameEnd U_ o_ V_ L_ ({ frames := 1, cells := 0, slots := 0, locals := 12 } : Room).cells ({ frames := 1, cells := 0, slots := 0, locals := 12 } : Room).slots) := by
  refine MetFree.of_bodySF (plainFor_of_name pn0) hisR ?_
  intro p e s m args below meth c s₁ Bd hml0 hP hK
  obtain ⟨rfl, hZ, hh⟩ := hP
  have hx := Bd.exec
  have hby := Bd.bytes
  have hml : c.maxLocals = 1 := hml0
  have hown : s.vm.findClass "java/lang/Record" = some m.cls := findClass_of_methodNamed Bd.named
  have hnm := (name_of_methodNamed Bd.named Bd.method).1
  have X0 : Stand p l e ({ frames := 1, cells := 0, slots := 0, locals := 12 } : Room) s m #[(.ref a)] below meth c s₁ [] 0 0 := Stand.of_body Bd
  have e0 : s₁.heap = h0 := by rw [← hh, Bd.state]; rfl
  have N0 := Fr.nil n0
  have pre0 : own_Go p e below (s₁.setTop (entryFrame m #[(.ref a)] 1)) (s₁.setTop (mkF m 0 #[.val (.ref a)] [])) := fun t_ k_ => castTop (ef__rec m a) k_
  have P1 := own_step (C := s₁.setTop (mkF m 1 #[.val (.ref a)] [(.ref a)])) pre0 (by
    intro tt_ kk_
    refine XS.aloadN X0.here hx rfl (hb hby d4_0) rfl rfl ?_
    exact kk_)
  obtain ⟨T2, X2, e2, st2⟩ := initO X0 hx hZ hown (hw _ (List.mem_of_getElem? (i := 26) rfl)) (hw _ (List.mem_of_getElem? (i := 27) rfl)) (hw _ (List.mem_of_getElem? (i := 28) rfl)) e0 (g := (mkF m 1 #[.val (.ref a)] [(.ref a)])) rfl (by rw [hml]; rfl) rfl (hb hby d4_1) (by decide) (W := 0) (by show 2 * 0 + _ ≤ _; exact Nat.le_of_eq rfl) (by decide)
  have P3 := own_step (C := T2.setTop (mkF m 4 #[.val (.ref a)] [])) P1 (fun t_ k_ => st2 t_ k_)
  obtain ⟨fs, hr, hrun, hended, hW, hsame⟩ := X2.leave (v := none) (fun _ => rfl)
  refine ⟨_, _, P3 _ ?_, hrun, hended, _, _, rfl, ?_, ⟨_, rfl⟩, hW, hsame.mono (by decide) (by decide)⟩
  · exact X2.returnOut hx Bd.returns (hb hby d4_4) hr
  · show Q_rec Z _ h0 n0 _ T2.heap _
    rw [e2]
    exact ⟨rfl, N0, rfl⟩
theorem pd0 : parseMethodDescriptor "()V" = some ⟨[], none⟩ := by decide +kernel
theorem d3_0 : decode prog_78_method_1_code 0 = .ok (.aload_n 0, 1) := by decide +kernel
theorem d3_1 : decode prog_78_method_1_code 1 = .ok (.invokespecial 1, 3) := by decide +kernel
theorem d3_4 : decode prog_78_method_1_code 4 = .ok (.iload_n 3, 1) := by decide +kernel
theorem d3_5 : decode prog_78_method_1_code 5 = .ok (.iload 4, 2) := by decide +kernel
theorem d3_7 : decode prog_78_method_1_code 7 = .ok (.if_icmp .gt 16, 3) := by decide +kernel
theorem d3_10 : decode prog_78_method_1_code 10 = .ok (.iload 5, 2) := by decide +kernel
theorem d3_12 : decode prog_78_method_1_code 12 = .ok (.iload_n 3, 1) := by decide +kernel
theorem d3_13 : decode prog_78_method_1_code 13 = .ok (.if_icmp .lt 10, 3) := by decide +kernel
theorem d3_16 : decode prog_78_method_1_code 16 = .ok (.iload 5, 2) := by decide +kernel
theorem d3_18 : decode prog_78_method_1_code 18 = .ok (.iload 4, 2) := by decide +kernel
theorem d3_20 : decode prog_78_method_1_code 20 = .ok (.if_icmp .le 22, 3) := by decide +kernel
theorem d3_42 : decode prog_78_method_1_code 42 = .ok (.aload_n 0, 1) := by decide +kernel
theorem d3_43 : decode prog_78_method_1_code 43 = .ok (.aload_n 1, 1) := by decide +kernel
theorem d3_44 : decode prog_78_method_1_code 44 = .ok (.putfield 16, 3) := by decide +kernel
theorem d3_47 : decode prog_78_method_1_code 47 = .ok (.aload_n 0, 1) := by decide +kernel
theorem d3_48 : decode prog_78_method_1_code 48 = .ok (.iload_n 2, 1) := by decide +kernel
theorem d3_49 : decode prog_78_method_1_code 49 = .ok (.putfield 22, 3) := by decide +kernel
theorem d3_52 : decode prog_78_method_1_code 52 = .ok (.aload_n 0, 1) := by decide +kernel
theorem d3_53 : decode prog_78_method_1_code 53 = .ok (.iload_n 3, 1) := by decide +kernel
theorem d3_54 : decode prog_78_method_1_code 54 = .ok (.putfield 26, 3) := by decide +kernel
theorem d3_57 : decode prog_78_method_1_code 57 = .ok (.aload_n 0, 1) := by decide +kernel
theorem d3_58 : decode prog_78_method_1_code 58 = .ok (.iload 4, 2) := by decide +kernel
theorem d3_60 : decode prog_78_method_1_code 60 = .ok (.putfield 29, 3) := by decide +kernel
theorem d3_63 : decode prog_78_method_1_code 63 = .ok (.aload_n 0, 1) := by decide +kernel
theorem d3_64 : decode prog_78_method_1_code 64 = .ok (.iload 5, 2) := by decide +kernel
theorem d3_66 : decode prog_78_method_1_code 66 = .ok (.putfield 32, 3) := by decide +kernel
theorem d3_69 : decode prog_78_method_1_code 69 = .ok (.return_, 1) := by decide +kernel
theorem ef__ctor (m : MethodId) (x0 : Addr) (x1 : Addr) (x2 : Int32) (x3 : Int32) (x4 : Int32) (x5 : Int32) : entryFrame m #[(.ref x0), (.ref x1), (.int x2), (.int x3), (.int x4), (.int x5)] 6 = mkF m 0 #[.val (.ref x0), .val (.ref x1), .val (.int x2), .val (.int x3), .val (.int x4), .val (.int x5)] [] := by first | (simp [entryFrame, mkF, argsToLocals, Value.category]; done) | rfl
def Q_ctor (Z : State) (a : Addr) (p0 : Addr) (p1 : Int32) (p2 : Int32) (p3 : Int32) (p4 : Int32) (h0 : Heap) (n0 : Nat) (v_ : Option Value) (h : Heap) (L_ : List Loc) : Prop := v_ = none ∧ Fr n0 L_ ∧ Keep h0 h [a] ∧ Exa Z h a "com/example/uhrwerk/uhrwerk/model/IntVariable" ∧ Fld Z h a "com/example/uhrwerk/uhrwerk/model/IntVariable" "minimum" "I" (.int p2) ∧ Fld Z h a "com/example/uhrwerk/uhrwerk/model/IntVariable" "maximum" "I" (.int p3)
theorem pn1 : plainName "com/example/uhrwerk/uhrwerk/model/IntVariable" = true := by first | (simp [plainName, overriddenIn]; done) | decide +kernel
set_option maxRecDepth 65536 in
set_option maxHeartbeats 40000000 in
theorem rm_ctor (l : Launch) (Z : State) (a0 : Array Value) (hw : ∀ d ∈ tables_1, d.before a0 Z = true) (ws : List Jvm.Cond) (a : Addr) (p0 : Addr) (p1 : Int32) (p2 : Int32) (p3 : Int32) (p4 : Int32) (h0 : Heap) (n0 : Nat) (Z0 : n0 ≤ h0.size) (Ea : Exa Z h0 a "com/example/uhrwerk/uhrwerk/model/IntVariable") (Fname : Fld Z h0 a "com/example/uhrwerk/uhrwerk/model/IntVariable" "name" "Ljava/lang/String;" .null) (Findex : Fld Z h0 a "com/example/uhrwerk/uhrwerk/model/IntVariable" "index" "I" (.int (0 : Int32))) (Fminimum : Fld Z h0 a "com/example/uhrwerk/uhrwerk/model/IntVariable" "minimum" "I" (.int (0 : Int32))) (Fmaximum : Fld Z h0 a "com/example/uhrwerk/uhrwerk/model/IntVariable" "maximum" "I" (.int (0 : Int32))) (Finitial : Fld Z h0 a "com/example/uhrwerk/uhrwerk/model/IntVariable" "initial" "I" (.int (0 : Int32))) (ga : n0 ≤ a) (k1 : ¬ (p3 < p2)) (k2 : ¬ (p4 < p2)) (k3 : ¬ (p3 < p4)) :
    MetFree l (⟨"com/example/uhrwerk/uhrwerk/model/IntVariable", "<init>", "(Ljava/lang/String;IIII)V"⟩ : MethodName) (head1 (Jvm.Cond.code (⟨"com/example/uhrwerk/uhrwerk/model/IntVariable", "<init>", "(Ljava/lang/String;IIII)V"⟩ : MethodName) prog_78_method_1_code 6 none :: ws) ({ frames := 2, cells := 0, slots := 0, locals := 24 } : Room)) (fun a_ U_ => a_ = #[(.ref a), (.ref p0), (.int p1), (.int p2), (.int p3), (.int p4)] ∧ Z.Warmed39 U_.vm ∧ U_.heap = h0) (fun _ _ _ _ _ => True) (fun _ U_ o_ V_ => ∃ v_ L_, o_ = .returned v_ ∧ Q_ctor Z a p0 p1 p2 p3 p4 h0 n0 v_ V_.heap L_ ∧ FrameEnd U_ o_ V_ L_ ({ frames := 2, cells := 0, slots := 0, locals := 24 } : Room).cells ({ frames := 2, cells := 0, slots := 0, locals := 24 } : Room).slots) := by
  refine MetFree.of_bodySF (plainFor_of_name pn1) hisR ?_
  intro p e s m args below meth c s₁ Bd hml0 hP hK
  obtain ⟨rfl, hZ, hh⟩ := hP
  have hx := Bd.exec
  have hby := Bd.bytes
  have hml : c.maxLocals = 6 := hml0
  have hown : s.vm.findClass "com/example/uhrwerk/uhrwerk/model/IntVariable" = some m.cls := findClass_of_methodNamed Bd.named
  have hnm := (name_of_methodNamed Bd.named Bd.method).1
  have X0 : Stand p l e ({ frames := 2, cells := 0, slots := 0, locals := 24 } : Room) s m #[(.ref a), (.ref p0), (.int p1), (.int p2), (.int p3), (.int p4)] below meth c s₁ [] 0 0 := Stand.of_body Bd
  have e0 : s₁.heap = h0 := by rw [← hh, Bd.state]; rfl
  have N0 := Fr.nil n0
  have pre0 : own_Go p e below (s₁.setTop (entryFrame m #[(.ref a), (.ref p0), (.int p1), (.int p2), (.int p3), (.int p4)] 6)) (s₁.setTop (mkF m 0 #[.val (.ref a), .val (.ref p0), .val (.int p1), .val (.int p2), .val (.int p3), .val (.int p4)] [])) := fun t_ k_ => castTop (ef__ctor m a p0 p1 p2 p3 p4) k_
  have P1 := own_step (C := s₁.setTop (mkF m 1 #[.val (.ref a), .val (.ref p0), .val (.int p1), .val (.int p2), .val (.int p3), .val (.int p4)] [(.ref a)])) pre0 (by
    intro tt_ kk_
    refine XS.aloadN X0.here hx rfl (hb hby d3_0) rfl rfl ?_
    exact kk_)
  obtain ⟨_, _, ⟨T2, L2, k2, n2⟩, -, X2, ⟨Lc2, hQ2, l2, y2, z2⟩, st2⟩ := X0.specialBack hx (y := (⟨"java/lang/Record", "<init>", "()V"⟩ : MethodName)) rfl hown (mvT hZ (hw _ (List.mem_of_getElem? (i := 21) rfl))) (mvT hZ (hw _ (List.mem_of_getElem? (i := 22) rfl))) (mvT hZ (hw _ (List.mem_of_getElem? (i := 25) rfl))) (by decide) (backOf (W := 0) (rm_rec l Z a0 hw [] a h0 n0 Z0 ) hZ (hw _ (List.mem_of_getElem? (i := 25) rfl)) (hw _ (List.mem_of_getElem? (i := 24) rfl)) (by decide) (by decide)) (g := (mkF m 1 #[.val (.ref a), .val (.ref p0), .val (.int p1), .val (.int p2), .val (.int p3), .val (.int p4)] [(.ref a)])) rfl (by rw [hml]; rfl) (Steps.refl _) (a := a) (argsL := []) (rest := []) (lenOf pd0 rfl) rfl (by show 2 * 0 + _ ≤ _; exact Nat.le_of_eq rfl) (hb hby d3_1) (fun _ _ => ⟨rfl, e0, (by decide : 0 + 0 ≤ _), (by decide : 0 + 0 ≤ _)⟩)
  dsimp only [Pt.U, Pt.locs, Pt.cells, Pt.slots] at X2 l2 y2 z2 st2 hQ2
  subst l2 y2 z2
  obtain ⟨rfl, N2q, e2⟩ := hQ2
  have N2 := Fr.app N0 N2q
  have P3 := own_step (C := T2.setTop (mkF m 4 #[.val (.ref a), .val (.ref p0), .val (.int p1), .val (.int p2), .val (.int p3), .val (.int p4)] [])) P1 (fun t_ k_ => st2.trans k_)
  have P4 := own_step (C := T2.setTop (mkF m 7 #[.val (.ref a), .val (.ref p0), .val (.int p1), .val (.int p2), .val (.int p3), .val (.int p4)] [(.int p3), (.int p2)])) P3 (by
    intro tt_ kk_
    refine XS.iloadN X2.here hx rfl (hb hby d3_4) rfl ?_
    show Steps p.tables e below (T2.setTop (mkF m 5 #[.val (.ref a), .val (.ref p0), .val (.int p1), .val (.int p2), .val (.int p3), .val (.int p4)] [(.int p2)])) _
    refine XS.iload X2.here hx rfl (hb hby d3_5) rfl ?_
    exact kk_)
  have P5 := own_step (C := T2.setTop (mkF m 10 #[.val (.ref a), .val (.ref p0), .val (.int p1), .val (.int p2), .val (.int p3), .val (.int p4)] [])) P4 (by
    intro tt_ kk_
    refine XS.icmpNo X2.here hx rfl (hb hby d3_7) rfl (flt k1).2.2.1 ?_
    exact kk_)
  have P6 := own_step (C := T2.setTop (mkF m 13 #[.val (.ref a), .val (.ref p0), .val (.int p1), .val (.int p2), .val (.int p3), .val (.int p4)] [(.int p2), (.int p4)])) P5 (by
    intro tt_ kk_
    refine XS.iload X2.here hx rfl (hb hby d3_10) rfl ?_
    show Steps p.tables e below (T2.setTop (mkF m 12 #[.val (.ref a), .val (.ref p0), .val (.int p1), .val (.int p2), .val (.int p3), .val (.int p4)] [(.int p4)])) _
    refine XS.iloadN X2.here hx rfl (hb hby d3_12) rfl ?_
    exact kk_)
  have P7 := own_step (C := T2.setTop (mkF m 16 #[.val (.ref a), .val (.ref p0), .val (.int p1), .val (.int p2), .val (.int p3), .val (.int p4)] [])) P6 (by
    intro tt_ kk_
    refine XS.icmpNo X2.here hx rfl (hb hby d3_13) rfl (flt k2).1 ?_
    exact kk_)
  have P8 := own_step (C := T2.setTop (mkF m 20 #[.val (.ref a), .val (.ref p0), .val (.int p1), .val (.int p2), .val (.int p3), .val (.int p4)] [(.int p3), (.int p4)])) P7 (by
    intro tt_ kk_
    refine XS.iload X2.here hx rfl (hb hby d3_16) rfl ?_
    show Steps p.tables e below (T2.setTop (mkF m 18 #[.val (.ref a), .val (.ref p0), .val (.int p1), .val (.int p2), .val (.int p3), .val (.int p4)] [(.int p4)])) _
    refine XS.iload X2.here hx rfl (hb hby d3_18) rfl ?_
    exact kk_)
  have P9 := own_step (C := T2.setTop (mkF m 42 #[.val (.ref a), .val (.ref p0), .val (.int p1), .val (.int p2), .val (.int p3), .val (.int p4)] [])) P8 (by
    intro tt_ kk_
    refine XS.icmpYes X2.here hx rfl (pc0 := 20) (pc' := 42) rfl (hb hby d3_20) rfl (flt k3).2.2.2 (by decide) (by decide) ?_
    exact kk_)
  have P10 := own_step (C := T2.setTop (mkF m 44 #[.val (.ref a), .val (.ref p0), .val (.int p1), .val (.int p2), .val (.int p3), .val (.int p4)] [(.ref p0), (.ref a)])) P9 (by
    intro tt_ kk_
    refine XS.aloadN X2.here hx rfl (hb hby d3_42) rfl rfl ?_
    show Steps p.tables e below (T2.setTop (mkF m 43 #[.val (.ref a), .val (.ref p0), .val (.int p1), .val (.int p2), .val (.int p3), .val (.int p4)] [(.ref a)])) _
    refine XS.aloadN X2.here hx rfl (hb hby d3_43) rfl rfl ?_
    exact kk_)
  obtain ⟨T11, h11, X11, e11, W11, st11⟩ := putF X2 hx hZ hown (host := "") (Or.inl (hw _ (List.mem_of_getElem? (i := 29) rfl))) Via.refl e2 Fname Ea (Or.inr ⟨(hw _ (List.mem_of_getElem? (i := 30) rfl)), rfl, hnm⟩) (hw _ (List.mem_of_getElem? (i := 8) rfl)) (ty := (.object "java/lang/String")) (by decide) rfl rfl (g := (mkF m 44 #[.val (.ref a), .val (.ref p0), .val (.int p1), .val (.int p2), .val (.int p3), .val (.int p4)] [(.ref p0), (.ref a)])) rfl rfl (hb hby d3_44)
  have f12 := Ea.wr W11
  have f13 := (Keep.refl h0 [a]).wr W11 (Or.inl (List.mem_of_getElem? (i := 0) rfl))
  have f14 := Fname.same W11
  have f15 := Findex.other W11 (Or.inr (slot_ne (Or.inr (hw _ (List.mem_of_getElem? (i := 32) rfl))) (Or.inr (hw _ (List.mem_of_getElem? (i := 30) rfl))) (by decide) (t := .int) (t' := (.object "java/lang/String")) (by decide) (by decide)))
  have f16 := Fminimum.other W11 (Or.inr (slot_ne (Or.inr (hw _ (List.mem_of_getElem? (i := 34) rfl))) (Or.inr (hw _ (List.mem_of_getElem? (i := 30) rfl))) (by decide) (t := .int) (t' := (.object "java/lang/String")) (by decide) (by decide)))
  have f17 := Fmaximum.other W11 (Or.inr (slot_ne (Or.inr (hw _ (List.mem_of_getElem? (i := 36) rfl))) (Or.inr (hw _ (List.mem_of_getElem? (i := 30) rfl))) (by decide) (t := .int) (t' := (.object "java/lang/String")) (by decide) (by decide)))
  have f18 := Finitial.other W11 (Or.inr (slot_ne (Or.inr (hw _ (List.mem_of_getElem? (i := 38) rfl))) (Or.inr (hw _ (List.mem_of_getElem? (i := 30) rfl))) (by decide) (t := .int) (t' := (.object "java/lang/String")) (by decide) (by decide)))
  have Z19 : n0 ≤ h11.size := Nat.le_trans Z0 (Keep.of_wr W11).1
  have N11 := Fr.snoc X11 N2 ga
  have P20 := own_step (C := T11.setTop (mkF m 47 #[.val (.ref a), .val (.ref p0), .val (.int p1), .val (.int p2), .val (.int p3), .val (.int p4)] [])) P10 (fun t_ k_ => st11 t_ k_)
  have P21 := own_step (C := T11.setTop (mkF m 49 #[.val (.ref a), .val (.ref p0), .val (.int p1), .val (.int p2), .val (.int p3), .val (.int p4)] [(.int p1), (.ref a)])) P20 (by
    intro tt_ kk_
    refine XS.aloadN X11.here hx rfl (hb hby d3_47) rfl rfl ?_
    show Steps p.tables e below (T11.setTop (mkF m 48 #[.val (.ref a), .val (.ref p0), .val (.int p1), .val (.int p2), .val (.int p3), .val (.int p4)] [(.ref a)])) _
    refine XS.iloadN X11.here hx rfl (hb hby d3_48) rfl ?_
    exact kk_)
  obtain ⟨T22, h22, X22, e22, W22, st22⟩ := putF X11 hx hZ hown (host := "") (Or.inl (hw _ (List.mem_of_getElem? (i := 31) rfl))) Via.refl e11 f15 f12 (Or.inr ⟨(hw _ (List.mem_of_getElem? (i := 32) rfl)), rfl, hnm⟩) (hw _ (List.mem_of_getElem? (i := 8) rfl)) (ty := .int) (by decide) rfl rfl (g := (mkF m 49 #[.val (.ref a), .val (.ref p0), .val (.int p1), .val (.int p2), .val (.int p3), .val (.int p4)] [(.int p1), (.ref a)])) rfl rfl (hb hby d3_49)
  have f23 := f12.wr W22
  have f24 := f13.wr W22 (Or.inl (List.mem_of_getElem? (i := 0) rfl))
  have f25 := f14.other W22 (Or.inr (slot_ne (Or.inr (hw _ (List.mem_of_getElem? (i := 30) rfl))) (Or.inr (hw _ (List.mem_of_getElem? (i := 32) rfl))) (by decide) (t := (.object "java/lang/String")) (t' := .int) (by decide) (by decide)))
  have f26 := f15.same W22
  have f27 := f16.other W22 (Or.inr (slot_ne (Or.inr (hw _ (List.mem_of_getElem? (i := 34) rfl))) (Or.inr (hw _ (List.mem_of_getElem? (i := 32) rfl))) (by decide) (t := .int) (t' := .int) (by decide) (by decide)))
  have f28 := f17.other W22 (Or.inr (slot_ne (Or.inr (hw _ (List.mem_of_getElem? (i := 36) rfl))) (Or.inr (hw _ (List.mem_of_getElem? (i := 32) rfl))) (by decide) (t := .int) (t' := .int) (by decide) (by decide)))
  have f29 := f18.other W22 (Or.inr (slot_ne (Or.inr (hw _ (List.mem_of_getElem? (i := 38) rfl))) (Or.inr (hw _ (List.mem_of_getElem? (i := 32) rfl))) (by decide) (t := .int) (t' := .int) (by decide) (by decide)))
  have Z30 : n0 ≤ h22.size := Nat.le_trans Z19 (Keep.of_wr W22).1
  have N22 := Fr.snoc X22 N11 ga
  have P31 := own_step (C := T22.setTop (mkF m 52 #[.val (.ref a), .val (.ref p0), .val (.int p1), .val (.int p2), .val (.int p3), .val (.int p4)] [])) P21 (fun t_ k_ => st22 t_ k_)
  have P32 := own_step (C := T22.setTop (mkF m 54 #[.val (.ref a), .val (.ref p0), .val (.int p1), .val (.int p2), .val (.int p3), .val (.int p4)] [(.int p2), (.ref a)])) P31 (by
    intro tt_ kk_
    refine XS.aloadN X22.here hx rfl (hb hby d3_52) rfl rfl ?_
    show Steps p.tables e below (T22.setTop (mkF m 53 #[.val (.ref a), .val (.ref p0), .val (.int p1), .val (.int p2), .val (.int p3), .val (.int p4)] [(.ref a)])) _
    refine XS.iloadN X22.here hx rfl (hb hby d3_53) rfl ?_
    exact kk_)
  obtain ⟨T33, h33, X33, e33, W33, st33⟩ := putF X22 hx hZ hown (host := "") (Or.inl (hw _ (List.mem_of_getElem? (i := 33) rfl))) Via.refl e22 f27 f23 (Or.inr ⟨(hw _ (List.mem_of_getElem? (i := 34) rfl)), rfl, hnm⟩) (hw _ (List.mem_of_getElem? (i := 8) rfl)) (ty := .int) (by decide) rfl rfl (g := (mkF m 54 #[.val (.ref a), .val (.ref p0), .val (.int p1), .val (.int p2), .val (.int p3), .val (.int p4)] [(.int p2), (.ref a)])) rfl rfl (hb hby d3_54)
  have f34 := f23.wr W33
  have f35 := f24.wr W33 (Or.inl (List.mem_of_getElem? (i := 0) rfl))
  have f36 := f25.other W33 (Or.inr (slot_ne (Or.inr (hw _ (List.mem_of_getElem? (i := 30) rfl))) (Or.inr (hw _ (List.mem_of_getElem? (i := 34) rfl))) (by decide) (t := (.object "java/lang/String")) (t' := .int) (by decide) (by decide)))
  have f37 := f26.other W33 (Or.inr (slot_ne (Or.inr (hw _ (List.mem_of_getElem? (i := 32) rfl))) (Or.inr (hw _ (List.mem_of_getElem? (i := 34) rfl))) (by decide) (t := .int) (t' := .int) (by decide) (by decide)))
  have f38 := f27.same W33
  have f39 := f28.other W33 (Or.inr (slot_ne (Or.inr (hw _ (List.mem_of_getElem? (i := 36) rfl))) (Or.inr (hw _ (List.mem_of_getElem? (i := 34) rfl))) (by decide) (t := .int) (t' := .int) (by decide) (by decide)))
  have f40 := f29.other W33 (Or.inr (slot_ne (Or.inr (hw _ (List.mem_of_getElem? (i := 38) rfl))) (Or.inr (hw _ (List.mem_of_getElem? (i := 34) rfl))) (by decide) (t := .int) (t' := .int) (by decide) (by decide)))
  have Z41 : n0 ≤ h33.size := Nat.le_trans Z30 (Keep.of_wr W33).1
  have N33 := Fr.snoc X33 N22 ga
  have P42 := own_step (C := T33.setTop (mkF m 57 #[.val (.ref a), .val (.ref p0), .val (.int p1), .val (.int p2), .val (.int p3), .val (.int p4)] [])) P32 (fun t_ k_ => st33 t_ k_)
  have P43 := own_step (C := T33.setTop (mkF m 60 #[.val (.ref a), .val (.ref p0), .val (.int p1), .val (.int p2), .val (.int p3), .val (.int p4)] [(.int p3), (.ref a)])) P42 (by
    intro tt_ kk_
    refine XS.aloadN X33.here hx rfl (hb hby d3_57) rfl rfl ?_
    show Steps p.tables e below (T33.setTop (mkF m 58 #[.val (.ref a), .val (.ref p0), .val (.int p1), .val (.int p2), .val (.int p3), .val (.int p4)] [(.ref a)])) _
    refine XS.iload X33.here hx rfl (hb hby d3_58) rfl ?_
    exact kk_)
  obtain ⟨T44, h44, X44, e44, W44, st44⟩ := putF X33 hx hZ hown (host := "") (Or.inl (hw _ (List.mem_of_getElem? (i := 35) rfl))) Via.refl e33 f39 f34 (Or.inr ⟨(hw _ (List.mem_of_getElem? (i := 36) rfl)), rfl, hnm⟩) (hw _ (List.mem_of_getElem? (i := 8) rfl)) (ty := .int) (by decide) rfl rfl (g := (mkF m 60 #[.val (.ref a), .val (.ref p0), .val (.int p1), .val (.int p2), .val (.int p3), .val (.int p4)] [(.int p3), (.ref a)])) rfl rfl (hb hby d3_60)
  have f45 := f34.wr W44
  have f46 := f35.wr W44 (Or.inl (List.mem_of_getElem? (i := 0) rfl))
  have f47 := f36.other W44 (Or.inr (slot_ne (Or.inr (hw _ (List.mem_of_getElem? (i := 30) rfl))) (Or.inr (hw _ (List.mem_of_getElem? (i := 36) rfl))) (by decide) (t := (.object "java/lang/String")) (t' := .int) (by decide) (by decide)))
  have f48 := f37.other W44 (Or.inr (slot_ne (Or.inr (hw _ (List.mem_of_getElem? (i := 32) rfl))) (Or.inr (hw _ (List.mem_of_getElem? (i := 36) rfl))) (by decide) (t := .int) (t' := .int) (by decide) (by decide)))
  have f49 := f38.other W44 (Or.inr (slot_ne (Or.inr (hw _ (List.mem_of_getElem? (i := 34) rfl))) (Or.inr (hw _ (List.mem_of_getElem? (i := 36) rfl))) (by decide) (t := .int) (t' := .int) (by decide) (by decide)))
  have f50 := f39.same W44
  have f51 := f40.other W44 (Or.inr (slot_ne (Or.inr (hw _ (List.mem_of_getElem? (i := 38) rfl))) (Or.inr (hw _ (List.mem_of_getElem? (i := 36) rfl))) (by decide) (t := .int) (t' := .int) (by decide) (by decide)))
  have Z52 : n0 ≤ h44.size := Nat.le_trans Z41 (Keep.of_wr W44).1
  have N44 := Fr.snoc X44 N33 ga
  have P53 := own_step (C := T44.setTop (mkF m 63 #[.val (.ref a), .val (.ref p0), .val (.int p1), .val (.int p2), .val (.int p3), .val (.int p4)] [])) P43 (fun t_ k_ => st44 t_ k_)
  have P54 := own_step (C := T44.setTop (mkF m 66 #[.val (.ref a), .val (.ref p0), .val (.int p1), .val (.int p2), .val (.int p3), .val (.int p4)] [(.int p4), (.ref a)])) P53 (by
    intro tt_ kk_
    refine XS.aloadN X44.here hx rfl (hb hby d3_63) rfl rfl ?_
    show Steps p.tables e below (T44.setTop (mkF m 64 #[.val (.ref a), .val (.ref p0), .val (.int p1), .val (.int p2), .val (.int p3), .val (.int p4)] [(.ref a)])) _
    refine XS.iload X44.here hx rfl (hb hby d3_64) rfl ?_
    exact kk_)
  obtain ⟨T55, h55, X55, e55, W55, st55⟩ := putF X44 hx hZ hown (host := "") (Or.inl (hw _ (List.mem_of_getElem? (i := 37) rfl))) Via.refl e44 f51 f45 (Or.inr ⟨(hw _ (List.mem_of_getElem? (i := 38) rfl)), rfl, hnm⟩) (hw _ (List.mem_of_getElem? (i := 8) rfl)) (ty := .int) (by decide) rfl rfl (g := (mkF m 66 #[.val (.ref a), .val (.ref p0), .val (.int p1), .val (.int p2), .val (.int p3), .val (.int p4)] [(.int p4), (.ref a)])) rfl rfl (hb hby d3_66)
  have f56 := f45.wr W55
  have f57 := f46.wr W55 (Or.inl (List.mem_of_getElem? (i := 0) rfl))
  have f58 := f47.other W55 (Or.inr (slot_ne (Or.inr (hw _ (List.mem_of_getElem? (i := 30) rfl))) (Or.inr (hw _ (List.mem_of_getElem? (i := 38) rfl))) (by decide) (t := (.object "java/lang/String")) (t' := .int) (by decide) (by decide)))
  have f59 := f48.other W55 (Or.inr (slot_ne (Or.inr (hw _ (List.mem_of_getElem? (i := 32) rfl))) (Or.inr (hw _ (List.mem_of_getElem? (i := 38) rfl))) (by decide) (t := .int) (t' := .int) (by decide) (by decide)))
  have f60 := f49.other W55 (Or.inr (slot_ne (Or.inr (hw _ (List.mem_of_getElem? (i := 34) rfl))) (Or.inr (hw _ (List.mem_of_getElem? (i := 38) rfl))) (by decide) (t := .int) (t' := .int) (by decide) (by decide)))
  have f61 := f50.other W55 (Or.inr (slot_ne (Or.inr (hw _ (List.mem_of_getElem? (i := 36) rfl))) (Or.inr (hw _ (List.mem_of_getElem? (i := 38) rfl))) (by decide) (t := .int) (t' := .int) (by decide) (by decide)))
  have f62 := f51.same W55
  have Z63 : n0 ≤ h55.size := Nat.le_trans Z52 (Keep.of_wr W55).1
  have N55 := Fr.snoc X55 N44 ga
  have P64 := own_step (C := T55.setTop (mkF m 69 #[.val (.ref a), .val (.ref p0), .val (.int p1), .val (.int p2), .val (.int p3), .val (.int p4)] [])) P54 (fun t_ k_ => st55 t_ k_)
  obtain ⟨fs, hr, hrun, hended, hW, hsame⟩ := X55.leave (v := none) (fun _ => rfl)
  refine ⟨_, _, P64 _ ?_, hrun, hended, _, _, rfl, ?_, ⟨_, rfl⟩, hW, hsame.mono (by decide) (by decide)⟩
  · exact X55.returnOut hx Bd.returns (hb hby d3_69) hr
  · show Q_ctor Z _ _ _ _ _ _ h0 n0 _ T55.heap _
    rw [e55]
    exact ⟨rfl, N55, f57, f56, f60, f61⟩
def own_adm (vv : Int32) (mn : Int32) (mx : Int32) : Int32 := (if vv < mn then (0 : Int32) else (if mx < vv then (0 : Int32) else (1 : Int32)))
theorem d6_0 : decode prog_78_method_2_code 0 = .ok (.aload_n 0, 1) := by decide +kernel
theorem d6_1 : decode prog_78_method_2_code 1 = .ok (.getfield 26, 3) := by decide +kernel
theorem d6_4 : decode prog_78_method_2_code 4 = .ok (.iload_n 1, 1) := by decide +kernel
theorem d6_5 : decode prog_78_method_2_code 5 = .ok (.if_icmp .gt 15, 3) := by decide +kernel
theorem d6_8 : decode prog_78_method_2_code 8 = .ok (.iload_n 1, 1) := by decide +kernel
theorem d6_9 : decode prog_78_method_2_code 9 = .ok (.aload_n 0, 1) := by decide +kernel
theorem d6_10 : decode prog_78_method_2_code 10 = .ok (.getfield 29, 3) := by decide +kernel
theorem d6_13 : decode prog_78_method_2_code 13 = .ok (.if_icmp .gt 7, 3) := by decide +kernel
theorem d6_16 : decode prog_78_method_2_code 16 = .ok (.iconst 1, 1) := by decide +kernel
theorem d6_17 : decode prog_78_method_2_code 17 = .ok (.goto 4, 3) := by decide +kernel
theorem d6_20 : decode prog_78_method_2_code 20 = .ok (.iconst 0, 1) := by decide +kernel
theorem d6_21 : decode prog_78_method_2_code 21 = .ok (.ireturn, 1) := by decide +kernel
theorem ef__own_adm (m : MethodId) (x0 : Addr) (x1 : Int32) : entryFrame m #[(.ref x0), (.int x1)] 2 = mkF m 0 #[.val (.ref x0), .val (.int x1)] [] := by first | (simp [entryFrame, mkF, argsToLocals, Value.category]; done) | rfl
def Q_own_adm (Z : State) (a : Addr) (vv : Int32) (mn : Int32) (mx : Int32) (h0 : Heap) (n0 : Nat) (v_ : Option Value) (h : Heap) (L_ : List Loc) : Prop := v_ = some (.int (own_adm vv mn mx)) ∧ Fr n0 L_ ∧ h = h0
set_option maxRecDepth 65536 in
set_option maxHeartbeats 40000000 in
theorem rm_own_adm (l : Launch) (Z : State) (a0 : Array Value) (hw : ∀ d ∈ tables_1, d.before a0 Z = true) (ws : List Jvm.Cond) (a : Addr) (vv : Int32) (mn : Int32) (mx : Int32) (h0 : Heap) (n0 : Nat) (Z0 : n0 ≤ h0.size) (Fmin : Fld Z h0 a "com/example/uhrwerk/uhrwerk/model/IntVariable" "minimum" "I" (.int mn)) (Fmax : Fld Z h0 a "com/example/uhrwerk/uhrwerk/model/IntVariable" "maximum" "I" (.int mx)) :
    MetFree l (⟨"com/example/uhrwerk/uhrwerk/model/IntVariable", "admits", "(I)Z"⟩ : MethodName) (head1 (Jvm.Cond.code (⟨"com/example/uhrwerk/uhrwerk/model/IntVariable", "admits", "(I)Z"⟩ : MethodName) prog_78_method_2_code 2 (some .boolean) :: ws) ({ frames := 0, cells := 0, slots := 0, locals := 0 } : Room)) (fun a_ U_ => a_ = #[(.ref a), (.int vv)] ∧ Z.Warmed39 U_.vm ∧ U_.heap = h0) (fun _ _ _ _ _ => True) (fun _ U_ o_ V_ => ∃ v_ L_, o_ = .returned v_ ∧ Q_own_adm Z a vv mn mx h0 n0 v_ V_.heap L_ ∧ FrameEnd U_ o_ V_ L_ ({ frames := 0, cells := 0, slots := 0, locals := 0 } : Room).cells ({ frames := 0, cells := 0, slots := 0, locals := 0 } : Room).slots) := by
  refine MetFree.of_bodySF (plainFor_of_name pn1) hisR ?_
  intro p e s m args below meth c s₁ Bd hml0 hP hK
  obtain ⟨rfl, hZ, hh⟩ := hP
  have hx := Bd.exec
  have hby := Bd.bytes
  have hml : c.maxLocals = 2 := hml0
  have hown : s.vm.findClass "com/example/uhrwerk/uhrwerk/model/IntVariable" = some m.cls := findClass_of_methodNamed Bd.named
  have hnm := (name_of_methodNamed Bd.named Bd.method).1
  have X0 : Stand p l e ({ frames := 0, cells := 0, slots := 0, locals := 0 } : Room) s m #[(.ref a), (.int vv)] below meth c s₁ [] 0 0 := Stand.of_body Bd
  have e0 : s₁.heap = h0 := by rw [← hh, Bd.state]; rfl
  have N0 := Fr.nil n0
  have pre0 : own_Go p e below (s₁.setTop (entryFrame m #[(.ref a), (.int vv)] 2)) (s₁.setTop (mkF m 0 #[.val (.ref a), .val (.int vv)] [])) := fun t_ k_ => castTop (ef__own_adm m a vv) k_
  have P1 := own_step (C := s₁.setTop (mkF m 1 #[.val (.ref a), .val (.int vv)] [(.ref a)])) pre0 (by
    intro tt_ kk_
    refine XS.aloadN X0.here hx rfl (hb hby d6_0) rfl rfl ?_
    exact kk_)
  obtain ⟨T2, X2, e2, st2⟩ := getF X0 hx hZ hown (host := "") (Or.inl (hw _ (List.mem_of_getElem? (i := 33) rfl))) Via.refl e0 Fmin (g := (mkF m 1 #[.val (.ref a), .val (.int vv)] [(.ref a)])) rfl rfl (hb hby d6_1)
  have P3 := own_step (C := T2.setTop (mkF m 4 #[.val (.ref a), .val (.int vv)] [(.int mn)])) P1 (fun t_ k_ => st2 t_ k_)
  have P4 := own_step (C := T2.setTop (mkF m 5 #[.val (.ref a), .val (.int vv)] [(.int vv), (.int mn)])) P3 (by
    intro tt_ kk_
    refine XS.iloadN X2.here hx rfl (hb hby d6_4) rfl ?_
    exact kk_)
  by_cases c5 : vv < mn
  · have P6 := own_step (C := T2.setTop (mkF m 20 #[.val (.ref a), .val (.int vv)] [])) P4 (by
      intro tt_ kk_
      refine XS.icmpYes X2.here hx rfl (pc0 := 5) (pc' := 20) rfl (hb hby d6_5) rfl (tlt c5).2.2.1 (by decide) (by decide) ?_
      exact kk_)
    have P7 := own_step (C := T2.setTop (mkF m 21 #[.val (.ref a), .val (.int vv)] [(.int (0 : Int32))])) P6 (by
      intro tt_ kk_
      refine XS.iconst X2.here hx rfl (hb hby d6_20) ?_
      exact kk_)
    obtain ⟨fs, hr, hrun, hended, hW, hsame⟩ := X2.leave (v := some (.int (0 : Int32))) (fun h => by rw [Bd.returns] at h; cases h)
    refine ⟨_, _, P7 _ ?_, hrun, hended, _, _, rfl, ?_, ⟨_, rfl⟩, hW, hsame.mono (by decide) (by decide)⟩
    · exact retN X2 hx (t := .boolean) Bd.returns (by simp) (hb hby d6_21) hr
    · show Q_own_adm Z _ _ _ _ h0 n0 _ T2.heap _
      rw [e2]
      exact ⟨by unfold own_adm; rw [if_pos c5], N0, rfl⟩
  · have P8 := own_step (C := T2.setTop (mkF m 8 #[.val (.ref a), .val (.int vv)] [])) P4 (by
      intro tt_ kk_
      refine XS.icmpNo X2.here hx rfl (hb hby d6_5) rfl (flt c5).2.2.1 ?_
      exact kk_)
    have P9 := own_step (C := T2.setTop (mkF m 10 #[.val (.ref a), .val (.int vv)] [(.ref a), (.int vv)])) P8 (by
      intro tt_ kk_
      refine XS.iloadN X2.here hx rfl (hb hby d6_8) rfl ?_
      show Steps p.tables e below (T2.setTop (mkF m 9 #[.val (.ref a), .val (.int vv)] [(.int vv)])) _
      refine XS.aloadN X2.here hx rfl (hb hby d6_9) rfl rfl ?_
      exact kk_)
    obtain ⟨T10, X10, e10, st10⟩ := getF X2 hx hZ hown (host := "") (Or.inl (hw _ (List.mem_of_getElem? (i := 35) rfl))) Via.refl e2 Fmax (g := (mkF m 10 #[.val (.ref a), .val (.int vv)] [(.ref a), (.int vv)])) rfl rfl (hb hby d6_10)
    have P11 := own_step (C := T10.setTop (mkF m 13 #[.val (.ref a), .val (.int vv)] [(.int mx), (.int vv)])) P9 (fun t_ k_ => st10 t_ k_)
    by_cases c12 : mx < vv
    · have P13 := own_step (C := T10.setTop (mkF m 20 #[.val (.ref a), .val (.int vv)] [])) P11 (by
        intro tt_ kk_
        refine XS.icmpYes X10.here hx rfl (pc0 := 13) (pc' := 20) rfl (hb hby d6_13) rfl (tlt c12).2.2.1 (by decide) (by decide) ?_
        exact kk_)
      have P14 := own_step (C := T10.setTop (mkF m 21 #[.val (.ref a), .val (.int vv)] [(.int (0 : Int32))])) P13 (by
        intro tt_ kk_
        refine XS.iconst X10.here hx rfl (hb hby d6_20) ?_
        exact kk_)
      obtain ⟨fs, hr, hrun, hended, hW, hsame⟩ := X10.leave (v := some (.int (0 : Int32))) (fun h => by rw [Bd.returns] at h; cases h)
      refine ⟨_, _, P14 _ ?_, hrun, hended, _, _, rfl, ?_, ⟨_, rfl⟩, hW, hsame.mono (by decide) (by decide)⟩
      · exact retN X10 hx (t := .boolean) Bd.returns (by simp) (hb hby d6_21) hr
      · show Q_own_adm Z _ _ _ _ h0 n0 _ T10.heap _
        rw [e10]
        exact ⟨by unfold own_adm; rw [if_neg c5, if_pos c12], N0, rfl⟩
    · have P15 := own_step (C := T10.setTop (mkF m 16 #[.val (.ref a), .val (.int vv)] [])) P11 (by
        intro tt_ kk_
        refine XS.icmpNo X10.here hx rfl (hb hby d6_13) rfl (flt c12).2.2.1 ?_
        exact kk_)
      have P16 := own_step (C := T10.setTop (mkF m 21 #[.val (.ref a), .val (.int vv)] [(.int (1 : Int32))])) P15 (by
        intro tt_ kk_
        refine XS.iconst X10.here hx rfl (hb hby d6_16) ?_
        show Steps p.tables e below (T10.setTop (mkF m 17 #[.val (.ref a), .val (.int vv)] [(.int (1 : Int32))])) _
        refine XS.goto X10.here hx rfl (pc0 := 17) (pc' := 21) rfl (hb hby d6_17) (by decide) (by decide) ?_
        exact kk_)
      obtain ⟨fs, hr, hrun, hended, hW, hsame⟩ := X10.leave (v := some (.int (1 : Int32))) (fun h => by rw [Bd.returns] at h; cases h)
      refine ⟨_, _, P16 _ ?_, hrun, hended, _, _, rfl, ?_, ⟨_, rfl⟩, hW, hsame.mono (by decide) (by decide)⟩
      · exact retN X10 hx (t := .boolean) Bd.returns (by simp) (hb hby d6_21) hr
      · show Q_own_adm Z _ _ _ _ h0 n0 _ T10.heap _
        rw [e10]
        exact ⟨by unfold own_adm; rw [if_neg c5, if_neg c12], N0, rfl⟩
theorem own_r1 (a b : Int32) : ¬ (own_max a b < own_min a b) := by
  unfold own_max own_min; simp only [Int32.lt_iff_toInt_lt]; repeat' split
  all_goals omega
theorem own_r2 (lo mi : Int32) : ¬ (own_max lo mi < lo) := by
  unfold own_max; simp only [Int32.lt_iff_toInt_lt]; repeat' split
  all_goals omega
theorem own_r3 (lo hi c : Int32) (r : ¬ (hi < lo)) : ¬ (hi < own_max lo (own_min hi c)) := by
  unfold own_max own_min; simp only [Int32.lt_iff_toInt_lt] at *; repeat' split
  all_goals omega
theorem own_l1 {v lo hi ve : Int32} (h : (v.toInt64 - lo.toInt64 < (0 : Int64) ∧ ve = (0 : Int32)) ∨ (¬ (v.toInt64 - lo.toInt64 < (0 : Int64)) ∧ hi.toInt64 - v.toInt64 < (0 : Int64) ∧ ve = (0 : Int32)) ∨ (¬ (v.toInt64 - lo.toInt64 < (0 : Int64)) ∧ ¬ (hi.toInt64 - v.toInt64 < (0 : Int64)) ∧ ve = (1 : Int32))) : own_adm v lo hi = ve := by
  have e1 := c_lsub v.toInt64 lo.toInt64; have e2 := c_lsub hi.toInt64 v.toInt64; rw [c_i2l, c_i2l] at e1 e2
  have g1 := rng64 (v.toInt64 - lo.toInt64); have g2 := rng64 (hi.toInt64 - v.toInt64); have a1 := rng32 v; have a2 := rng32 lo; have a3 := rng32 hi
  simp only [Int64.lt_iff_toInt_lt, show (0 : Int64).toInt = 0 from rfl] at h
  unfold own_adm; simp only [Int32.lt_iff_toInt_lt]
  rcases h with ⟨h1, rfl⟩ | ⟨h1, h2, rfl⟩ | ⟨h1, h2, rfl⟩
  all_goals repeat' split
  all_goals first | rfl | omega
theorem own_l2 {lo hi : Int32} (r : ¬ (hi < lo)) : ¬ (own_adm lo lo hi = (0 : Int32)) := by
  unfold own_adm; simp only [Int32.lt_iff_toInt_lt] at *; repeat' split
  all_goals first | decide | omega
theorem own_l3 {lo hi : Int32} (r : ¬ (hi < lo)) : ¬ (own_adm hi lo hi = (0 : Int32)) := by
  unfold own_adm; simp only [Int32.lt_iff_toInt_lt] at *; repeat' split
  all_goals first | decide | omega
theorem own_l4 {lo hi i : Int32} (r : ¬ (i < lo)) (r' : ¬ (hi < i)) : ¬ (own_adm i lo hi = (0 : Int32)) := by
  unfold own_adm; simp only [Int32.lt_iff_toInt_lt] at *; repeat' split
  all_goals first | decide | omega
theorem own_l5 {lo hi : Int32} (r : ¬ (lo = (-2147483648 : Int32))) : own_adm (lo - (1 : Int32)) lo hi = (0 : Int32) := by
  have e := c_isub lo 1; have g := rng32 (lo - 1); have a := rng32 lo
  rw [← Int32.toInt_inj, show (-2147483648 : Int32).toInt = -2147483648 from rfl] at r
  rw [show (1 : Int32).toInt = 1 from rfl] at e
  unfold own_adm; simp only [Int32.lt_iff_toInt_lt] at *; repeat' split
  all_goals first | rfl | omega
theorem own_l6 {lo hi : Int32} (r : ¬ (hi = (2147483647 : Int32))) : own_adm (hi + (1 : Int32)) lo hi = (0 : Int32) := by
  have e := c_iadd hi 1; have g := rng32 (hi + 1); have a := rng32 hi
  rw [← Int32.toInt_inj, show (2147483647 : Int32).toInt = 2147483647 from rfl] at r
  rw [show (1 : Int32).toInt = 1 from rfl] at e
  unfold own_adm; simp only [Int32.lt_iff_toInt_lt] at *; repeat' split
  all_goals first | rfl | omega

theorem pd1 : parseMethodDescriptor "(II)I" = some ⟨[.int, .int], some .int⟩ := by decide +kernel
theorem pd2 : parseMethodDescriptor "(Ljava/lang/String;IIII)V" = some ⟨[(.object "java/lang/String"), .int, .int, .int, .int], none⟩ := by decide +kernel
theorem pd3 : parseMethodDescriptor "(I)Z" = some ⟨[.int], some .boolean⟩ := by decide +kernel
theorem ef_0 (m : MethodId) (x0 : Int32) (x1 : Int32) (x2 : Int32) (x3 : Int32) (x4 : Int32) : entryFrame m #[(.int x0), (.int x1), (.int x2), (.int x3), (.int x4)] maxLocals = mkF m 0 #[.val (.int x0), .val (.int x1), .val (.int x2), .val (.int x3), .val (.int x4), .unset, .unset, .unset, .unset, .unset, .unset, .unset, .unset] [] := by first | (simp [entryFrame, mkF, argsToLocals, Value.category, maxLocals]; done) | rfl
def Q0 (Z : State) (pa : Int32) (pb : Int32) (pc : Int32) (pv : Int32) (idx : Int32) (h0 : Heap) (n0 : Nat) (v_ : Option Value) (h : Heap) (L_ : List Loc) : Prop := v_ = some (.int 1) ∧ Fr n0 L_
theorem pn2 : plainName "com/example/uhrwerk/uhrwerk/model/IntVariableAdmitsPinLaw" = true := by first | (simp [plainName, overriddenIn]; done) | decide +kernel
set_option maxRecDepth 65536 in
set_option maxHeartbeats 40000000 in
theorem rm0 (l : Launch) (Z : State) (a0 : Array Value) (hw : ∀ d ∈ tables_1, d.before a0 Z = true) (ws : List Jvm.Cond) (pa : Int32) (pb : Int32) (pc : Int32) (pv : Int32) (idx : Int32) (h0 : Heap) (n0 : Nat) (Z0 : n0 ≤ h0.size) :
    MetFree l x (head1 (Jvm.Cond.code x code maxLocals ret :: ws) room_1) (fun a_ U_ => a_ = #[(.int pa), (.int pb), (.int pc), (.int pv), (.int idx)] ∧ Z.Warmed39 U_.vm ∧ U_.heap = h0) (fun _ _ _ _ _ => True) (fun _ U_ o_ V_ => ∃ v_ L_, o_ = .returned v_ ∧ Q0 Z pa pb pc pv idx h0 n0 v_ V_.heap L_ ∧ ReturnedEndW U_ o_ V_ L_ room_1.cells room_1.slots) := by
  refine MetFree.of_bodySF (plainFor_of_name pn2) hisR ?_
  intro p e s m args below meth c s₁ Bd hml0 hP hK
  obtain ⟨rfl, hZ, hh⟩ := hP
  have hx := Bd.exec
  have hby := Bd.bytes
  have hml : c.maxLocals = 13 := hml0
  have hown : s.vm.findClass "com/example/uhrwerk/uhrwerk/model/IntVariableAdmitsPinLaw" = some m.cls := findClass_of_methodNamed Bd.named
  have hnm := (name_of_methodNamed Bd.named Bd.method).1
  have X0 : Stand p l e room_1 s m #[(.int pa), (.int pb), (.int pc), (.int pv), (.int idx)] below meth c s₁ [] 0 0 := Stand.of_body Bd
  have e0 : s₁.heap = h0 := by rw [← hh, Bd.state]; rfl
  have N0 := Fr.nil n0
  have pre0 : own_Go p e below (s₁.setTop (entryFrame m #[(.int pa), (.int pb), (.int pc), (.int pv), (.int idx)] maxLocals)) (s₁.setTop (mkF m 0 #[.val (.int pa), .val (.int pb), .val (.int pc), .val (.int pv), .val (.int idx), .unset, .unset, .unset, .unset, .unset, .unset, .unset, .unset] [])) := fun t_ k_ => castTop (ef_0 m pa pb pc pv idx) k_
  have P1 := own_step (C := s₁.setTop (mkF m 2 #[.val (.int pa), .val (.int pb), .val (.int pc), .val (.int pv), .val (.int idx), .unset, .unset, .unset, .unset, .unset, .unset, .unset, .unset] [(.int pb), (.int pa)])) pre0 (by
    intro tt_ kk_
    refine XS.iloadN X0.here hx rfl (hb hby at_0) rfl ?_
    show Steps p.tables e below (s₁.setTop (mkF m 1 #[.val (.int pa), .val (.int pb), .val (.int pc), .val (.int pv), .val (.int idx), .unset, .unset, .unset, .unset, .unset, .unset, .unset, .unset] [(.int pa)])) _
    refine XS.iloadN X0.here hx rfl (hb hby at_1) rfl ?_
    exact kk_)
  obtain ⟨_, _, ⟨T2, L2, k2, n2⟩, -, X2, ⟨Lc2, hQ2, l2, y2, z2⟩, st2⟩ := Jvm.LawKit.callS X0 hx (y := (⟨"java/lang/Math", "min", "(II)I"⟩ : MethodName)) hown (mvT hZ (hw _ (List.mem_of_getElem? (i := 0) rfl))) (mvT hZ (hw _ (List.mem_of_getElem? (i := 1) rfl))) (mvT hZ (hw _ (List.mem_of_getElem? (i := 2) rfl))) (mvT hZ (hw _ (List.mem_of_getElem? (i := 3) rfl))) (by decide) (backOf (W := 0) (rm_own_min l Z a0 hw [] pa pb h0 n0 Z0 ) hZ (hw _ (List.mem_of_getElem? (i := 3) rfl)) (hw _ (List.mem_of_getElem? (i := 2) rfl)) (by decide) (by decide)) (g := (mkF m 2 #[.val (.int pa), .val (.int pb), .val (.int pc), .val (.int pv), .val (.int idx), .unset, .unset, .unset, .unset, .unset, .unset, .unset, .unset] [(.int pb), (.int pa)])) rfl (by rw [hml]; rfl) (argsL := [(.int pa), (.int pb)]) (rest := []) (lenOf pd1 rfl) rfl (by show 2 * 0 + _ ≤ _; exact Nat.le_of_eq rfl) (hb hby at_2) (fun _ _ => ⟨rfl, e0, (by decide : 0 + 0 ≤ _), (by decide : 0 + 0 ≤ _)⟩)
  dsimp only [Pt.U, Pt.locs, Pt.cells, Pt.slots] at X2 l2 y2 z2 st2 hQ2
  subst l2 y2 z2
  obtain ⟨rfl, N2q, e2⟩ := hQ2
  have N2 := Fr.app N0 N2q
  have P3 := own_step (C := T2.setTop (mkF m 5 #[.val (.int pa), .val (.int pb), .val (.int pc), .val (.int pv), .val (.int idx), .unset, .unset, .unset, .unset, .unset, .unset, .unset, .unset] [(.int (own_min pa pb))])) P1 (fun t_ k_ => st2 t_ k_)
  obtain ⟨lo, hlo, P4⟩ := own_name (F := fun z => T2.setTop (mkF m 5 #[.val (.int pa), .val (.int pb), .val (.int pc), .val (.int pv), .val (.int idx), .unset, .unset, .unset, .unset, .unset, .unset, .unset, .unset] [(.int z)])) (own_min pa pb) P3
  have P5 := own_step (C := T2.setTop (mkF m 9 #[.val (.int pa), .val (.int pb), .val (.int pc), .val (.int pv), .val (.int idx), .val (.int lo), .unset, .unset, .unset, .unset, .unset, .unset, .unset] [(.int pb), (.int pa)])) P4 (by
    intro tt_ kk_
    refine XS.istore X2.here hx rfl (hb hby at_5) rfl (l' := #[.val (.int pa), .val (.int pb), .val (.int pc), .val (.int pv), .val (.int idx), .val (.int lo), .unset, .unset, .unset, .unset, .unset, .unset, .unset]) rfl ?_
    show Steps p.tables e below (T2.setTop (mkF m 7 #[.val (.int pa), .val (.int pb), .val (.int pc), .val (.int pv), .val (.int idx), .val (.int lo), .unset, .unset, .unset, .unset, .unset, .unset, .unset] [])) _
    refine XS.iloadN X2.here hx rfl (hb hby at_7) rfl ?_
    show Steps p.tables e below (T2.setTop (mkF m 8 #[.val (.int pa), .val (.int pb), .val (.int pc), .val (.int pv), .val (.int idx), .val (.int lo), .unset, .unset, .unset, .unset, .unset, .unset, .unset] [(.int pa)])) _
    refine XS.iloadN X2.here hx rfl (hb hby at_8) rfl ?_
    exact kk_)
  obtain ⟨_, _, ⟨T6, L6, k6, n6⟩, -, X6, ⟨Lc6, hQ6, l6, y6, z6⟩, st6⟩ := Jvm.LawKit.callS X2 hx (y := (⟨"java/lang/Math", "max", "(II)I"⟩ : MethodName)) hown (mvT hZ (hw _ (List.mem_of_getElem? (i := 4) rfl))) (mvT hZ (hw _ (List.mem_of_getElem? (i := 5) rfl))) (mvT hZ (hw _ (List.mem_of_getElem? (i := 2) rfl))) (mvT hZ (hw _ (List.mem_of_getElem? (i := 6) rfl))) (by decide) (backOf (W := 0) (rm_own_max l Z a0 hw [] pa pb h0 n0 Z0 ) hZ (hw _ (List.mem_of_getElem? (i := 6) rfl)) (hw _ (List.mem_of_getElem? (i := 2) rfl)) (by decide) (by decide)) (g := (mkF m 9 #[.val (.int pa), .val (.int pb), .val (.int pc), .val (.int pv), .val (.int idx), .val (.int lo), .unset, .unset, .unset, .unset, .unset, .unset, .unset] [(.int pb), (.int pa)])) rfl (by rw [hml]; rfl) (argsL := [(.int pa), (.int pb)]) (rest := []) (lenOf pd1 rfl) rfl (by show 2 * 0 + _ ≤ _; exact Nat.le_of_eq rfl) (hb hby at_9) (fun _ _ => ⟨rfl, e2, (by decide : 0 + 0 ≤ _), (by decide : 0 + 0 ≤ _)⟩)
  dsimp only [Pt.U, Pt.locs, Pt.cells, Pt.slots] at X6 l6 y6 z6 st6 hQ6
  subst l6 y6 z6
  obtain ⟨rfl, N6q, e6⟩ := hQ6
  have N6 := Fr.app N2 N6q
  have P7 := own_step (C := T6.setTop (mkF m 12 #[.val (.int pa), .val (.int pb), .val (.int pc), .val (.int pv), .val (.int idx), .val (.int lo), .unset, .unset, .unset, .unset, .unset, .unset, .unset] [(.int (own_max pa pb))])) P5 (fun t_ k_ => st6 t_ k_)
  obtain ⟨hi, hhi, P8⟩ := own_name (F := fun z => T6.setTop (mkF m 12 #[.val (.int pa), .val (.int pb), .val (.int pc), .val (.int pv), .val (.int idx), .val (.int lo), .unset, .unset, .unset, .unset, .unset, .unset, .unset] [(.int z)])) (own_max pa pb) P7
  have P9 := own_step (C := T6.setTop (mkF m 19 #[.val (.int pa), .val (.int pb), .val (.int pc), .val (.int pv), .val (.int idx), .val (.int lo), .val (.int hi), .unset, .unset, .unset, .unset, .unset, .unset] [(.int pc), (.int hi), (.int lo)])) P8 (by
    intro tt_ kk_
    refine XS.istore X6.here hx rfl (hb hby at_12) rfl (l' := #[.val (.int pa), .val (.int pb), .val (.int pc), .val (.int pv), .val (.int idx), .val (.int lo), .val (.int hi), .unset, .unset, .unset, .unset, .unset, .unset]) rfl ?_
    show Steps p.tables e below (T6.setTop (mkF m 14 #[.val (.int pa), .val (.int pb), .val (.int pc), .val (.int pv), .val (.int idx), .val (.int lo), .val (.int hi), .unset, .unset, .unset, .unset, .unset, .unset] [])) _
    refine XS.iload X6.here hx rfl (hb hby at_14) rfl ?_
    show Steps p.tables e below (T6.setTop (mkF m 16 #[.val (.int pa), .val (.int pb), .val (.int pc), .val (.int pv), .val (.int idx), .val (.int lo), .val (.int hi), .unset, .unset, .unset, .unset, .unset, .unset] [(.int lo)])) _
    refine XS.iload X6.here hx rfl (hb hby at_16) rfl ?_
    show Steps p.tables e below (T6.setTop (mkF m 18 #[.val (.int pa), .val (.int pb), .val (.int pc), .val (.int pv), .val (.int idx), .val (.int lo), .val (.int hi), .unset, .unset, .unset, .unset, .unset, .unset] [(.int hi), (.int lo)])) _
    refine XS.iloadN X6.here hx rfl (hb hby at_18) rfl ?_
    exact kk_)
  obtain ⟨_, _, ⟨T10, L10, k10, n10⟩, -, X10, ⟨Lc10, hQ10, l10, y10, z10⟩, st10⟩ := Jvm.LawKit.callS X6 hx (y := (⟨"java/lang/Math", "min", "(II)I"⟩ : MethodName)) hown (mvT hZ (hw _ (List.mem_of_getElem? (i := 0) rfl))) (mvT hZ (hw _ (List.mem_of_getElem? (i := 1) rfl))) (mvT hZ (hw _ (List.mem_of_getElem? (i := 2) rfl))) (mvT hZ (hw _ (List.mem_of_getElem? (i := 3) rfl))) (by decide) (backOf (W := 1) (rm_own_min l Z a0 hw [] hi pc h0 n0 Z0 ) hZ (hw _ (List.mem_of_getElem? (i := 3) rfl)) (hw _ (List.mem_of_getElem? (i := 2) rfl)) (by decide) (by decide)) (g := (mkF m 19 #[.val (.int pa), .val (.int pb), .val (.int pc), .val (.int pv), .val (.int idx), .val (.int lo), .val (.int hi), .unset, .unset, .unset, .unset, .unset, .unset] [(.int pc), (.int hi), (.int lo)])) rfl (by rw [hml]; rfl) (argsL := [(.int hi), (.int pc)]) (rest := [(.int lo)]) (lenOf pd1 rfl) rfl (by show 2 * 0 + _ ≤ _; exact Nat.le_of_eq rfl) (hb hby at_19) (fun _ _ => ⟨rfl, e6, (by decide : 0 + 0 ≤ _), (by decide : 0 + 0 ≤ _)⟩)
  dsimp only [Pt.U, Pt.locs, Pt.cells, Pt.slots] at X10 l10 y10 z10 st10 hQ10
  subst l10 y10 z10
  obtain ⟨rfl, N10q, e10⟩ := hQ10
  have N10 := Fr.app N6 N10q
  have P11 := own_step (C := T10.setTop (mkF m 22 #[.val (.int pa), .val (.int pb), .val (.int pc), .val (.int pv), .val (.int idx), .val (.int lo), .val (.int hi), .unset, .unset, .unset, .unset, .unset, .unset] [(.int (own_min hi pc)), (.int lo)])) P9 (fun t_ k_ => st10 t_ k_)
  obtain ⟨mi, hmi, P12⟩ := own_name (F := fun z => T10.setTop (mkF m 22 #[.val (.int pa), .val (.int pb), .val (.int pc), .val (.int pv), .val (.int idx), .val (.int lo), .val (.int hi), .unset, .unset, .unset, .unset, .unset, .unset] [(.int z), (.int lo)])) (own_min hi pc) P11
  obtain ⟨_, _, ⟨T13, L13, k13, n13⟩, -, X13, ⟨Lc13, hQ13, l13, y13, z13⟩, st13⟩ := Jvm.LawKit.callS X10 hx (y := (⟨"java/lang/Math", "max", "(II)I"⟩ : MethodName)) hown (mvT hZ (hw _ (List.mem_of_getElem? (i := 4) rfl))) (mvT hZ (hw _ (List.mem_of_getElem? (i := 5) rfl))) (mvT hZ (hw _ (List.mem_of_getElem? (i := 2) rfl))) (mvT hZ (hw _ (List.mem_of_getElem? (i := 6) rfl))) (by decide) (backOf (W := 0) (rm_own_max l Z a0 hw [] lo mi h0 n0 Z0 ) hZ (hw _ (List.mem_of_getElem? (i := 6) rfl)) (hw _ (List.mem_of_getElem? (i := 2) rfl)) (by decide) (by decide)) (g := (mkF m 22 #[.val (.int pa), .val (.int pb), .val (.int pc), .val (.int pv), .val (.int idx), .val (.int lo), .val (.int hi), .unset, .unset, .unset, .unset, .unset, .unset] [(.int mi), (.int lo)])) rfl (by rw [hml]; rfl) (argsL := [(.int lo), (.int mi)]) (rest := []) (lenOf pd1 rfl) rfl (by show 2 * 0 + _ ≤ _; exact Nat.le_of_eq rfl) (hb hby at_22) (fun _ _ => ⟨rfl, e10, (by decide : 0 + 0 ≤ _), (by decide : 0 + 0 ≤ _)⟩)
  dsimp only [Pt.U, Pt.locs, Pt.cells, Pt.slots] at X13 l13 y13 z13 st13 hQ13
  subst l13 y13 z13
  obtain ⟨rfl, N13q, e13⟩ := hQ13
  have N13 := Fr.app N10 N13q
  have P14 := own_step (C := T13.setTop (mkF m 25 #[.val (.int pa), .val (.int pb), .val (.int pc), .val (.int pv), .val (.int idx), .val (.int lo), .val (.int hi), .unset, .unset, .unset, .unset, .unset, .unset] [(.int (own_max lo mi))])) P12 (fun t_ k_ => st13 t_ k_)
  obtain ⟨ini, hini, P15⟩ := own_name (F := fun z => T13.setTop (mkF m 25 #[.val (.int pa), .val (.int pb), .val (.int pc), .val (.int pv), .val (.int idx), .val (.int lo), .val (.int hi), .unset, .unset, .unset, .unset, .unset, .unset] [(.int z)])) (own_max lo mi) P14
  have P16 := own_step (C := T13.setTop (mkF m 27 #[.val (.int pa), .val (.int pb), .val (.int pc), .val (.int pv), .val (.int idx), .val (.int lo), .val (.int hi), .val (.int ini), .unset, .unset, .unset, .unset, .unset] [])) P15 (by
    intro tt_ kk_
    refine XS.istore X13.here hx rfl (hb hby at_25) rfl (l' := #[.val (.int pa), .val (.int pb), .val (.int pc), .val (.int pv), .val (.int idx), .val (.int lo), .val (.int hi), .val (.int ini), .unset, .unset, .unset, .unset, .unset]) rfl ?_
    exact kk_)
  have r1 : ¬ (hi < lo) := by subst hlo hhi; exact own_r1 pa pb
  have r2 : ¬ (ini < lo) := by subst hini; exact own_r2 lo mi
  have r3 : ¬ (hi < ini) := by subst hini hmi; exact own_r3 lo hi pc r1
  obtain ⟨T17, h17, X17, e17, E17, A17, D17, -, st17⟩ := newO X13 hx hZ hown (hw _ (List.mem_of_getElem? (i := 7) rfl)) (hw _ (List.mem_of_getElem? (i := 8) rfl)) (hw _ (List.mem_of_getElem? (i := 9) rfl)) e13 (g := (mkF m 27 #[.val (.int pa), .val (.int pb), .val (.int pc), .val (.int pv), .val (.int idx), .val (.int lo), .val (.int hi), .val (.int ini), .unset, .unset, .unset, .unset, .unset] [])) rfl (hb hby at_27) (by decide) (by decide)
  obtain ⟨b17, g17⟩ : ∃ z, z = h0.size := ⟨_, rfl⟩
  rw [← g17] at A17 D17 st17
  have g_b17 : n0 ≤ b17 := Nat.le_trans Z0 (Nat.le_of_eq g17.symm)
  have Z18 : n0 ≤ h17.size := Nat.le_trans Z0 E17.1
  have f19 : Fld Z h17 b17 "com/example/uhrwerk/uhrwerk/model/IntVariable" "name" "Ljava/lang/String;" .null := D17 (Or.inr (hw _ (List.mem_of_getElem? (i := 30) rfl))) (ty := (.object "java/lang/String")) (by decide)
  have f20 : Fld Z h17 b17 "com/example/uhrwerk/uhrwerk/model/IntVariable" "index" "I" (.int (0 : Int32)) := D17 (Or.inr (hw _ (List.mem_of_getElem? (i := 32) rfl))) (ty := .int) (by decide)
  have f21 : Fld Z h17 b17 "com/example/uhrwerk/uhrwerk/model/IntVariable" "minimum" "I" (.int (0 : Int32)) := D17 (Or.inr (hw _ (List.mem_of_getElem? (i := 34) rfl))) (ty := .int) (by decide)
  have f22 : Fld Z h17 b17 "com/example/uhrwerk/uhrwerk/model/IntVariable" "maximum" "I" (.int (0 : Int32)) := D17 (Or.inr (hw _ (List.mem_of_getElem? (i := 36) rfl))) (ty := .int) (by decide)
  have f23 : Fld Z h17 b17 "com/example/uhrwerk/uhrwerk/model/IntVariable" "initial" "I" (.int (0 : Int32)) := D17 (Or.inr (hw _ (List.mem_of_getElem? (i := 38) rfl))) (ty := .int) (by decide)
  have P24 := own_step (C := T17.setTop (mkF m 30 #[.val (.int pa), .val (.int pb), .val (.int pc), .val (.int pv), .val (.int idx), .val (.int lo), .val (.int hi), .val (.int ini), .unset, .unset, .unset, .unset, .unset] [(.ref b17)])) P16 (fun t_ k_ => st17 t_ k_)
  have P25 := own_step (C := T17.setTop (mkF m 31 #[.val (.int pa), .val (.int pb), .val (.int pc), .val (.int pv), .val (.int idx), .val (.int lo), .val (.int hi), .val (.int ini), .unset, .unset, .unset, .unset, .unset] [(.ref b17), (.ref b17)])) P24 (by
    intro tt_ kk_
    refine XS.dup X17.here hx rfl (hb hby at_30) rfl rfl ?_
    exact kk_)
  obtain ⟨b26, T26, h26, k26, X26, e26, E26, S26, kz26, hZ26, hown26, st26⟩ := ldcS (s := s) (vm0 := s.vm) X17 hx hZ hown (hw _ (List.mem_of_getElem? (i := 10) rfl)) (fun d hd => hw d (own_wS d hd)) e17 ((State.WarmedH.refl s).since 0) (Nat.zero_le _) (g := (mkF m 31 #[.val (.int pa), .val (.int pb), .val (.int pc), .val (.int pv), .val (.int idx), .val (.int lo), .val (.int hi), .val (.int ini), .unset, .unset, .unset, .unset, .unset] [(.ref b17), (.ref b17)])) rfl (hb hby at_31) (n := 4) (by decide +kernel) (by decide) (by decide) (by decide)
  have f27 := A17.ext E26
  have f28 := f19.ext E26
  have f29 := f20.ext E26
  have f30 := f21.ext E26
  have f31 := f22.ext E26
  have f32 := f23.ext E26
  have Z33 : n0 ≤ h26.size := Nat.le_trans Z18 E26.1
  have P34 := own_step (C := T26.setTop (mkF m 33 #[.val (.int pa), .val (.int pb), .val (.int pc), .val (.int pv), .val (.int idx), .val (.int lo), .val (.int hi), .val (.int ini), .unset, .unset, .unset, .unset, .unset] [(.ref b26), (.ref b17), (.ref b17)])) P25 (fun t_ k_ => st26 t_ k_)
  have P35 := own_step (C := T26.setTop (mkF m 41 #[.val (.int pa), .val (.int pb), .val (.int pc), .val (.int pv), .val (.int idx), .val (.int lo), .val (.int hi), .val (.int ini), .unset, .unset, .unset, .unset, .unset] [(.int ini), (.int hi), (.int lo), (.int idx), (.ref b26), (.ref b17), (.ref b17)])) P34 (by
    intro tt_ kk_
    refine XS.iload X26.here hx rfl (hb hby at_33) rfl ?_
    show Steps p.tables e below (T26.setTop (mkF m 35 #[.val (.int pa), .val (.int pb), .val (.int pc), .val (.int pv), .val (.int idx), .val (.int lo), .val (.int hi), .val (.int ini), .unset, .unset, .unset, .unset, .unset] [(.int idx), (.ref b26), (.ref b17), (.ref b17)])) _
    refine XS.iload X26.here hx rfl (hb hby at_35) rfl ?_
    show Steps p.tables e below (T26.setTop (mkF m 37 #[.val (.int pa), .val (.int pb), .val (.int pc), .val (.int pv), .val (.int idx), .val (.int lo), .val (.int hi), .val (.int ini), .unset, .unset, .unset, .unset, .unset] [(.int lo), (.int idx), (.ref b26), (.ref b17), (.ref b17)])) _
    refine XS.iload X26.here hx rfl (hb hby at_37) rfl ?_
    show Steps p.tables e below (T26.setTop (mkF m 39 #[.val (.int pa), .val (.int pb), .val (.int pc), .val (.int pv), .val (.int idx), .val (.int lo), .val (.int hi), .val (.int ini), .unset, .unset, .unset, .unset, .unset] [(.int hi), (.int lo), (.int idx), (.ref b26), (.ref b17), (.ref b17)])) _
    refine XS.iload X26.here hx rfl (hb hby at_39) rfl ?_
    exact kk_)
  obtain ⟨_, _, ⟨T36, L36, k36, n36⟩, -, X36, ⟨Lc36, hQ36, l36, y36, z36⟩, st36⟩ := X26.specialBack hx (y := (⟨"com/example/uhrwerk/uhrwerk/model/IntVariable", "<init>", "(Ljava/lang/String;IIII)V"⟩ : MethodName)) rfl hown26 (mvT hZ26 (hw _ (List.mem_of_getElem? (i := 18) rfl))) (mvT hZ26 (hw _ (List.mem_of_getElem? (i := 19) rfl))) (mvT hZ26 (hw _ (List.mem_of_getElem? (i := 20) rfl))) (by decide) (backOf (W := 1) (rm_ctor l Z a0 hw [] b17 b26 idx lo hi ini h26 n0 Z33 f27 f28 f29 f30 f31 f32 g_b17 r1 r2 r3) hZ26 (hw _ (List.mem_of_getElem? (i := 20) rfl)) (hw _ (List.mem_of_getElem? (i := 9) rfl)) (by decide) (by decide)) (g := (mkF m 41 #[.val (.int pa), .val (.int pb), .val (.int pc), .val (.int pv), .val (.int idx), .val (.int lo), .val (.int hi), .val (.int ini), .unset, .unset, .unset, .unset, .unset] [(.int ini), (.int hi), (.int lo), (.int idx), (.ref b26), (.ref b17), (.ref b17)])) rfl (by rw [hml]; rfl) (Steps.refl _) (a := b17) (argsL := [(.ref b26), (.int idx), (.int lo), (.int hi), (.int ini)]) (rest := [(.ref b17)]) (lenOf pd2 rfl) rfl (by show 2 * 0 + _ ≤ _; exact Nat.le_of_eq rfl) (hb hby at_41) (fun _ _ => ⟨rfl, e26, (by decide : 3 + 0 ≤ _), (by decide : 13 + 0 ≤ _)⟩)
  dsimp only [Pt.U, Pt.locs, Pt.cells, Pt.slots] at X36 l36 y36 z36 st36 hQ36
  subst l36 y36 z36
  obtain ⟨rfl, N36q, K36, f37, f38, f39⟩ := hQ36
  have N36 := Fr.app N13 N36q
  have f40 := f27.keep K36
  have Z46 : n0 ≤ T36.heap.size := Nat.le_trans Z33 K36.1
  have kz47 := Nat.le_trans kz26 K36.1
  have P48 := own_step (C := T36.setTop (mkF m 44 #[.val (.int pa), .val (.int pb), .val (.int pc), .val (.int pv), .val (.int idx), .val (.int lo), .val (.int hi), .val (.int ini), .unset, .unset, .unset, .unset, .unset] [(.ref b17)])) P35 (fun t_ k_ => st36.trans k_)
  have P49 := own_step (C := T36.setTop (mkF m 49 #[.val (.int pa), .val (.int pb), .val (.int pc), .val (.int pv), .val (.int idx), .val (.int lo), .val (.int hi), .val (.int ini), .val (.ref b17), .unset, .unset, .unset, .unset] [(.int pv), (.ref b17)])) P48 (by
    intro tt_ kk_
    refine XS.astore X36.here hx rfl (hb hby at_44) rfl rfl (l' := #[.val (.int pa), .val (.int pb), .val (.int pc), .val (.int pv), .val (.int idx), .val (.int lo), .val (.int hi), .val (.int ini), .val (.ref b17), .unset, .unset, .unset, .unset]) rfl ?_
    show Steps p.tables e below (T36.setTop (mkF m 46 #[.val (.int pa), .val (.int pb), .val (.int pc), .val (.int pv), .val (.int idx), .val (.int lo), .val (.int hi), .val (.int ini), .val (.ref b17), .unset, .unset, .unset, .unset] [])) _
    refine XS.aload X36.here hx rfl (hb hby at_46) rfl rfl ?_
    show Steps p.tables e below (T36.setTop (mkF m 48 #[.val (.int pa), .val (.int pb), .val (.int pc), .val (.int pv), .val (.int idx), .val (.int lo), .val (.int hi), .val (.int ini), .val (.ref b17), .unset, .unset, .unset, .unset] [(.ref b17)])) _
    refine XS.iloadN X36.here hx rfl (hb hby at_48) rfl ?_
    exact kk_)
  obtain ⟨cq50, kq50, q50a, q50b, q50c⟩ := isOf hZ26 rfl f37
  obtain ⟨_, _, ⟨T50, L50, k50, n50⟩, -, X50, ⟨Lc50, hQ50, l50, y50, z50⟩, st50⟩ := X36.virtualBack hx (y := (⟨"com/example/uhrwerk/uhrwerk/model/IntVariable", "admits", "(I)Z"⟩ : MethodName)) (z := (⟨"com/example/uhrwerk/uhrwerk/model/IntVariable", "admits", "(I)Z"⟩ : MethodName)) hown26 (mvT hZ26 (hw _ (List.mem_of_getElem? (i := 39) rfl))) (mvT hZ26 (hw _ (List.mem_of_getElem? (i := 40) rfl))) (notFace_of_selects (args := #[]) (mvT hZ26 (hw _ (List.mem_of_getElem? (i := 42) rfl)))) (mvT hZ26 (hw _ (List.mem_of_getElem? (i := 42) rfl))) (mvT hZ26 (hw _ (List.mem_of_getElem? (i := 41) rfl))) (by decide) (backOf (W := 0) (rm_own_adm l Z a0 hw [] b17 pv lo hi T36.heap n0 Z46 f38 f39) hZ26 (hw _ (List.mem_of_getElem? (i := 43) rfl)) (hw _ (List.mem_of_getElem? (i := 9) rfl)) (by decide) (by decide)) q50a q50c (g := (mkF m 49 #[.val (.int pa), .val (.int pb), .val (.int pc), .val (.int pv), .val (.int idx), .val (.int lo), .val (.int hi), .val (.int ini), .val (.ref b17), .unset, .unset, .unset, .unset] [(.int pv), (.ref b17)])) rfl (by rw [hml]; rfl) (Steps.refl _) (argsL := [(.int pv)]) (rest := []) (lenOf pd3 rfl) rfl (by show 2 * 0 + _ ≤ _; exact Nat.le_of_eq rfl) (hb hby at_49) (fun _ _ => ⟨rfl, rfl, (by decide : 3 + 0 ≤ _), (by decide : 13 + 0 ≤ _)⟩)
  dsimp only [Pt.U, Pt.locs, Pt.cells, Pt.slots] at X50 l50 y50 z50 st50 hQ50
  subst l50 y50 z50
  obtain ⟨rfl, N50q, e50⟩ := hQ50
  have N50 := Fr.app N36 N50q
  have P51 := own_step (C := T50.setTop (mkF m 52 #[.val (.int pa), .val (.int pb), .val (.int pc), .val (.int pv), .val (.int idx), .val (.int lo), .val (.int hi), .val (.int ini), .val (.ref b17), .unset, .unset, .unset, .unset] [(.int (own_adm pv lo hi))])) P49 (fun t_ k_ => st50.trans k_)
  have P52 := own_step (C := T50.setTop (mkF m 66 #[.val (.int pa), .val (.int pb), .val (.int pc), .val (.int pv), .val (.int idx), .val (.int lo), .val (.int hi), .val (.int ini), .val (.ref b17), .val (.int (own_adm pv lo hi)), .val (.long (pv.toInt64)), .second, .unset] [(.int (lcmpW ((pv.toInt64) - (lo.toInt64)) (0 : Int64)))])) P51 (by
    intro tt_ kk_
    refine XS.istore X50.here hx rfl (hb hby at_52) rfl (l' := #[.val (.int pa), .val (.int pb), .val (.int pc), .val (.int pv), .val (.int idx), .val (.int lo), .val (.int hi), .val (.int ini), .val (.ref b17), .val (.int (own_adm pv lo hi)), .unset, .unset, .unset]) rfl ?_
    show Steps p.tables e below (T50.setTop (mkF m 54 #[.val (.int pa), .val (.int pb), .val (.int pc), .val (.int pv), .val (.int idx), .val (.int lo), .val (.int hi), .val (.int ini), .val (.ref b17), .val (.int (own_adm pv lo hi)), .unset, .unset, .unset] [])) _
    refine XS.iloadN X50.here hx rfl (hb hby at_54) rfl ?_
    show Steps p.tables e below (T50.setTop (mkF m 55 #[.val (.int pa), .val (.int pb), .val (.int pc), .val (.int pv), .val (.int idx), .val (.int lo), .val (.int hi), .val (.int ini), .val (.ref b17), .val (.int (own_adm pv lo hi)), .unset, .unset, .unset] [(.int pv)])) _
    refine XS.i2l X50.here hx rfl (hb hby at_55) rfl ?_
    show Steps p.tables e below (T50.setTop (mkF m 56 #[.val (.int pa), .val (.int pb), .val (.int pc), .val (.int pv), .val (.int idx), .val (.int lo), .val (.int hi), .val (.int ini), .val (.ref b17), .val (.int (own_adm pv lo hi)), .unset, .unset, .unset] [(.long (pv.toInt64))])) _
    refine XS.lstore X50.here hx rfl (hb hby at_56) rfl (l' := #[.val (.int pa), .val (.int pb), .val (.int pc), .val (.int pv), .val (.int idx), .val (.int lo), .val (.int hi), .val (.int ini), .val (.ref b17), .val (.int (own_adm pv lo hi)), .val (.long (pv.toInt64)), .second, .unset]) rfl ?_
    show Steps p.tables e below (T50.setTop (mkF m 58 #[.val (.int pa), .val (.int pb), .val (.int pc), .val (.int pv), .val (.int idx), .val (.int lo), .val (.int hi), .val (.int ini), .val (.ref b17), .val (.int (own_adm pv lo hi)), .val (.long (pv.toInt64)), .second, .unset] [])) _
    refine XS.lload X50.here hx rfl (hb hby at_58) rfl ?_
    show Steps p.tables e below (T50.setTop (mkF m 60 #[.val (.int pa), .val (.int pb), .val (.int pc), .val (.int pv), .val (.int idx), .val (.int lo), .val (.int hi), .val (.int ini), .val (.ref b17), .val (.int (own_adm pv lo hi)), .val (.long (pv.toInt64)), .second, .unset] [(.long (pv.toInt64))])) _
    refine XS.iload X50.here hx rfl (hb hby at_60) rfl ?_
    show Steps p.tables e below (T50.setTop (mkF m 62 #[.val (.int pa), .val (.int pb), .val (.int pc), .val (.int pv), .val (.int idx), .val (.int lo), .val (.int hi), .val (.int ini), .val (.ref b17), .val (.int (own_adm pv lo hi)), .val (.long (pv.toInt64)), .second, .unset] [(.int lo), (.long (pv.toInt64))])) _
    refine XS.i2l X50.here hx rfl (hb hby at_62) rfl ?_
    show Steps p.tables e below (T50.setTop (mkF m 63 #[.val (.int pa), .val (.int pb), .val (.int pc), .val (.int pv), .val (.int idx), .val (.int lo), .val (.int hi), .val (.int ini), .val (.ref b17), .val (.int (own_adm pv lo hi)), .val (.long (pv.toInt64)), .second, .unset] [(.long (lo.toInt64)), (.long (pv.toInt64))])) _
    refine XS.lsub X50.here hx rfl (hb hby at_63) rfl ?_
    show Steps p.tables e below (T50.setTop (mkF m 64 #[.val (.int pa), .val (.int pb), .val (.int pc), .val (.int pv), .val (.int idx), .val (.int lo), .val (.int hi), .val (.int ini), .val (.ref b17), .val (.int (own_adm pv lo hi)), .val (.long (pv.toInt64)), .second, .unset] [(.long ((pv.toInt64) - (lo.toInt64)))])) _
    refine XS.lconst X50.here hx rfl (hb hby at_64) ?_
    show Steps p.tables e below (T50.setTop (mkF m 65 #[.val (.int pa), .val (.int pb), .val (.int pc), .val (.int pv), .val (.int idx), .val (.int lo), .val (.int hi), .val (.int ini), .val (.ref b17), .val (.int (own_adm pv lo hi)), .val (.long (pv.toInt64)), .second, .unset] [(.long (0 : Int64)), (.long ((pv.toInt64) - (lo.toInt64)))])) _
    refine XS.lcmp X50.here hx rfl (hb hby at_65) rfl ?_
    exact kk_)
  obtain ⟨ve, hv53, J53⟩ : ∃ (ve : Int32), ((((pv.toInt64) - (lo.toInt64)) < (0 : Int64) ∧ ve = (0 : Int32)) ∨ (¬ (((pv.toInt64) - (lo.toInt64)) < (0 : Int64)) ∧ ((hi.toInt64) - (pv.toInt64)) < (0 : Int64) ∧ ve = (0 : Int32)) ∨ (¬ (((pv.toInt64) - (lo.toInt64)) < (0 : Int64)) ∧ ¬ (((hi.toInt64) - (pv.toInt64)) < (0 : Int64)) ∧ ve = (1 : Int32))) ∧ own_Go p e below (T50.setTop (mkF m 66 #[.val (.int pa), .val (.int pb), .val (.int pc), .val (.int pv), .val (.int idx), .val (.int lo), .val (.int hi), .val (.int ini), .val (.ref b17), .val (.int (own_adm pv lo hi)), .val (.long (pv.toInt64)), .second, .unset] [(.int (lcmpW ((pv.toInt64) - (lo.toInt64)) (0 : Int64)))])) (T50.setTop (mkF m 85 #[.val (.int pa), .val (.int pb), .val (.int pc), .val (.int pv), .val (.int idx), .val (.int lo), .val (.int hi), .val (.int ini), .val (.ref b17), .val (.int (own_adm pv lo hi)), .val (.long (pv.toInt64)), .second, .unset] [(.int ve)])) := by
    have P54 : own_Go p e below (T50.setTop (mkF m 66 #[.val (.int pa), .val (.int pb), .val (.int pc), .val (.int pv), .val (.int idx), .val (.int lo), .val (.int hi), .val (.int ini), .val (.ref b17), .val (.int (own_adm pv lo hi)), .val (.long (pv.toInt64)), .second, .unset] [(.int (lcmpW ((pv.toInt64) - (lo.toInt64)) (0 : Int64)))])) (T50.setTop (mkF m 66 #[.val (.int pa), .val (.int pb), .val (.int pc), .val (.int pv), .val (.int idx), .val (.int lo), .val (.int hi), .val (.int ini), .val (.ref b17), .val (.int (own_adm pv lo hi)), .val (.long (pv.toInt64)), .second, .unset] [(.int (lcmpW ((pv.toInt64) - (lo.toInt64)) (0 : Int64)))])) := fun t_ k_ => k_
    by_cases c55 : ((pv.toInt64) - (lo.toInt64)) < (0 : Int64)
    · have P56 := own_step (C := T50.setTop (mkF m 84 #[.val (.int pa), .val (.int pb), .val (.int pc), .val (.int pv), .val (.int idx), .val (.int lo), .val (.int hi), .val (.int ini), .val (.ref b17), .val (.int (own_adm pv lo hi)), .val (.long (pv.toInt64)), .second, .unset] [])) P54 (by
        intro tt_ kk_
        refine XS.ifYes X50.here hx rfl (pc0 := 66) (pc' := 84) rfl (hb hby at_66) rfl ((if0 _ _).trans (tlt ((lw_lt _ _).mpr c55)).1) (by decide) (by decide) ?_
        exact kk_)
      have P57 := own_step (C := T50.setTop (mkF m 85 #[.val (.int pa), .val (.int pb), .val (.int pc), .val (.int pv), .val (.int idx), .val (.int lo), .val (.int hi), .val (.int ini), .val (.ref b17), .val (.int (own_adm pv lo hi)), .val (.long (pv.toInt64)), .second, .unset] [(.int (0 : Int32))])) P56 (by
        intro tt_ kk_
        refine XS.iconst X50.here hx rfl (hb hby at_84) ?_
        exact kk_)
      exact ⟨(0 : Int32), Or.inl ⟨c55, rfl⟩, P57⟩
    · have P58 := own_step (C := T50.setTop (mkF m 69 #[.val (.int pa), .val (.int pb), .val (.int pc), .val (.int pv), .val (.int idx), .val (.int lo), .val (.int hi), .val (.int ini), .val (.ref b17), .val (.int (own_adm pv lo hi)), .val (.long (pv.toInt64)), .second, .unset] [])) P54 (by
        intro tt_ kk_
        refine XS.ifNo X50.here hx rfl (hb hby at_66) rfl ((if0 _ _).trans (flt (fun q => c55 ((lw_lt _ _).mp q))).1) ?_
        exact kk_)
      have P59 := own_step (C := T50.setTop (mkF m 77 #[.val (.int pa), .val (.int pb), .val (.int pc), .val (.int pv), .val (.int idx), .val (.int lo), .val (.int hi), .val (.int ini), .val (.ref b17), .val (.int (own_adm pv lo hi)), .val (.long (pv.toInt64)), .second, .unset] [(.int (lcmpW ((hi.toInt64) - (pv.toInt64)) (0 : Int64)))])) P58 (by
        intro tt_ kk_
        refine XS.iload X50.here hx rfl (hb hby at_69) rfl ?_
        show Steps p.tables e below (T50.setTop (mkF m 71 #[.val (.int pa), .val (.int pb), .val (.int pc), .val (.int pv), .val (.int idx), .val (.int lo), .val (.int hi), .val (.int ini), .val (.ref b17), .val (.int (own_adm pv lo hi)), .val (.long (pv.toInt64)), .second, .unset] [(.int hi)])) _
        refine XS.i2l X50.here hx rfl (hb hby at_71) rfl ?_
        show Steps p.tables e below (T50.setTop (mkF m 72 #[.val (.int pa), .val (.int pb), .val (.int pc), .val (.int pv), .val (.int idx), .val (.int lo), .val (.int hi), .val (.int ini), .val (.ref b17), .val (.int (own_adm pv lo hi)), .val (.long (pv.toInt64)), .second, .unset] [(.long (hi.toInt64))])) _
        refine XS.lload X50.here hx rfl (hb hby at_72) rfl ?_
        show Steps p.tables e below (T50.setTop (mkF m 74 #[.val (.int pa), .val (.int pb), .val (.int pc), .val (.int pv), .val (.int idx), .val (.int lo), .val (.int hi), .val (.int ini), .val (.ref b17), .val (.int (own_adm pv lo hi)), .val (.long (pv.toInt64)), .second, .unset] [(.long (pv.toInt64)), (.long (hi.toInt64))])) _
        refine XS.lsub X50.here hx rfl (hb hby at_74) rfl ?_
        show Steps p.tables e below (T50.setTop (mkF m 75 #[.val (.int pa), .val (.int pb), .val (.int pc), .val (.int pv), .val (.int idx), .val (.int lo), .val (.int hi), .val (.int ini), .val (.ref b17), .val (.int (own_adm pv lo hi)), .val (.long (pv.toInt64)), .second, .unset] [(.long ((hi.toInt64) - (pv.toInt64)))])) _
        refine XS.lconst X50.here hx rfl (hb hby at_75) ?_
        show Steps p.tables e below (T50.setTop (mkF m 76 #[.val (.int pa), .val (.int pb), .val (.int pc), .val (.int pv), .val (.int idx), .val (.int lo), .val (.int hi), .val (.int ini), .val (.ref b17), .val (.int (own_adm pv lo hi)), .val (.long (pv.toInt64)), .second, .unset] [(.long (0 : Int64)), (.long ((hi.toInt64) - (pv.toInt64)))])) _
        refine XS.lcmp X50.here hx rfl (hb hby at_76) rfl ?_
        exact kk_)
      by_cases c60 : ((hi.toInt64) - (pv.toInt64)) < (0 : Int64)
      · have P61 := own_step (C := T50.setTop (mkF m 84 #[.val (.int pa), .val (.int pb), .val (.int pc), .val (.int pv), .val (.int idx), .val (.int lo), .val (.int hi), .val (.int ini), .val (.ref b17), .val (.int (own_adm pv lo hi)), .val (.long (pv.toInt64)), .second, .unset] [])) P59 (by
          intro tt_ kk_
          refine XS.ifYes X50.here hx rfl (pc0 := 77) (pc' := 84) rfl (hb hby at_77) rfl ((if0 _ _).trans (tlt ((lw_lt _ _).mpr c60)).1) (by decide) (by decide) ?_
          exact kk_)
        have P62 := own_step (C := T50.setTop (mkF m 85 #[.val (.int pa), .val (.int pb), .val (.int pc), .val (.int pv), .val (.int idx), .val (.int lo), .val (.int hi), .val (.int ini), .val (.ref b17), .val (.int (own_adm pv lo hi)), .val (.long (pv.toInt64)), .second, .unset] [(.int (0 : Int32))])) P61 (by
          intro tt_ kk_
          refine XS.iconst X50.here hx rfl (hb hby at_84) ?_
          exact kk_)
        exact ⟨(0 : Int32), Or.inr (Or.inl ⟨c55, c60, rfl⟩), P62⟩
      · have P63 := own_step (C := T50.setTop (mkF m 80 #[.val (.int pa), .val (.int pb), .val (.int pc), .val (.int pv), .val (.int idx), .val (.int lo), .val (.int hi), .val (.int ini), .val (.ref b17), .val (.int (own_adm pv lo hi)), .val (.long (pv.toInt64)), .second, .unset] [])) P59 (by
          intro tt_ kk_
          refine XS.ifNo X50.here hx rfl (hb hby at_77) rfl ((if0 _ _).trans (flt (fun q => c60 ((lw_lt _ _).mp q))).1) ?_
          exact kk_)
        have P64 := own_step (C := T50.setTop (mkF m 85 #[.val (.int pa), .val (.int pb), .val (.int pc), .val (.int pv), .val (.int idx), .val (.int lo), .val (.int hi), .val (.int ini), .val (.ref b17), .val (.int (own_adm pv lo hi)), .val (.long (pv.toInt64)), .second, .unset] [(.int (1 : Int32))])) P63 (by
          intro tt_ kk_
          refine XS.iconst X50.here hx rfl (hb hby at_80) ?_
          show Steps p.tables e below (T50.setTop (mkF m 81 #[.val (.int pa), .val (.int pb), .val (.int pc), .val (.int pv), .val (.int idx), .val (.int lo), .val (.int hi), .val (.int ini), .val (.ref b17), .val (.int (own_adm pv lo hi)), .val (.long (pv.toInt64)), .second, .unset] [(.int (1 : Int32))])) _
          refine XS.goto X50.here hx rfl (pc0 := 81) (pc' := 85) rfl (hb hby at_81) (by decide) (by decide) ?_
          exact kk_)
        exact ⟨(1 : Int32), Or.inr (Or.inr (⟨c55, c60, rfl⟩)), P64⟩
  have P65 := own_step P52 J53
  have P66 := own_step (C := T50.setTop (mkF m 91 #[.val (.int pa), .val (.int pb), .val (.int pc), .val (.int pv), .val (.int idx), .val (.int lo), .val (.int hi), .val (.int ini), .val (.ref b17), .val (.int (own_adm pv lo hi)), .val (.long (pv.toInt64)), .second, .val (.int ve)] [(.int ve), (.int (own_adm pv lo hi))])) P65 (by
    intro tt_ kk_
    refine XS.istore X50.here hx rfl (hb hby at_85) rfl (l' := #[.val (.int pa), .val (.int pb), .val (.int pc), .val (.int pv), .val (.int idx), .val (.int lo), .val (.int hi), .val (.int ini), .val (.ref b17), .val (.int (own_adm pv lo hi)), .val (.long (pv.toInt64)), .second, .val (.int ve)]) rfl ?_
    show Steps p.tables e below (T50.setTop (mkF m 87 #[.val (.int pa), .val (.int pb), .val (.int pc), .val (.int pv), .val (.int idx), .val (.int lo), .val (.int hi), .val (.int ini), .val (.ref b17), .val (.int (own_adm pv lo hi)), .val (.long (pv.toInt64)), .second, .val (.int ve)] [])) _
    refine XS.iload X50.here hx rfl (hb hby at_87) rfl ?_
    show Steps p.tables e below (T50.setTop (mkF m 89 #[.val (.int pa), .val (.int pb), .val (.int pc), .val (.int pv), .val (.int idx), .val (.int lo), .val (.int hi), .val (.int ini), .val (.ref b17), .val (.int (own_adm pv lo hi)), .val (.long (pv.toInt64)), .second, .val (.int ve)] [(.int (own_adm pv lo hi))])) _
    refine XS.iload X50.here hx rfl (hb hby at_89) rfl ?_
    exact kk_)
  have P67 := own_step (C := T50.setTop (mkF m 96 #[.val (.int pa), .val (.int pb), .val (.int pc), .val (.int pv), .val (.int idx), .val (.int lo), .val (.int hi), .val (.int ini), .val (.ref b17), .val (.int (own_adm pv lo hi)), .val (.long (pv.toInt64)), .second, .val (.int ve)] [])) P66 (by
    intro tt_ kk_
    refine XS.icmpYes X50.here hx rfl (pc0 := 91) (pc' := 96) rfl (hb hby at_91) rfl (teq (own_l1 hv53)).1 (by decide) (by decide) ?_
    exact kk_)
  have P68 := own_step (C := T50.setTop (mkF m 100 #[.val (.int pa), .val (.int pb), .val (.int pc), .val (.int pv), .val (.int idx), .val (.int lo), .val (.int hi), .val (.int ini), .val (.ref b17), .val (.int (own_adm pv lo hi)), .val (.long (pv.toInt64)), .second, .val (.int ve)] [(.int lo), (.ref b17)])) P67 (by
    intro tt_ kk_
    refine XS.aload X50.here hx rfl (hb hby at_96) rfl rfl ?_
    show Steps p.tables e below (T50.setTop (mkF m 98 #[.val (.int pa), .val (.int pb), .val (.int pc), .val (.int pv), .val (.int idx), .val (.int lo), .val (.int hi), .val (.int ini), .val (.ref b17), .val (.int (own_adm pv lo hi)), .val (.long (pv.toInt64)), .second, .val (.int ve)] [(.ref b17)])) _
    refine XS.iload X50.here hx rfl (hb hby at_98) rfl ?_
    exact kk_)
  obtain ⟨cq69, kq69, q69a, q69b, q69c⟩ := isOf hZ26 e50 f37
  obtain ⟨_, _, ⟨T69, L69, k69, n69⟩, -, X69, ⟨Lc69, hQ69, l69, y69, z69⟩, st69⟩ := X50.virtualBack hx (y := (⟨"com/example/uhrwerk/uhrwerk/model/IntVariable", "admits", "(I)Z"⟩ : MethodName)) (z := (⟨"com/example/uhrwerk/uhrwerk/model/IntVariable", "admits", "(I)Z"⟩ : MethodName)) hown26 (mvT hZ26 (hw _ (List.mem_of_getElem? (i := 39) rfl))) (mvT hZ26 (hw _ (List.mem_of_getElem? (i := 40) rfl))) (notFace_of_selects (args := #[]) (mvT hZ26 (hw _ (List.mem_of_getElem? (i := 42) rfl)))) (mvT hZ26 (hw _ (List.mem_of_getElem? (i := 42) rfl))) (mvT hZ26 (hw _ (List.mem_of_getElem? (i := 41) rfl))) (by decide) (backOf (W := 0) (rm_own_adm l Z a0 hw [] b17 lo lo hi T36.heap n0 Z46 f38 f39) hZ26 (hw _ (List.mem_of_getElem? (i := 43) rfl)) (hw _ (List.mem_of_getElem? (i := 9) rfl)) (by decide) (by decide)) q69a q69c (g := (mkF m 100 #[.val (.int pa), .val (.int pb), .val (.int pc), .val (.int pv), .val (.int idx), .val (.int lo), .val (.int hi), .val (.int ini), .val (.ref b17), .val (.int (own_adm pv lo hi)), .val (.long (pv.toInt64)), .second, .val (.int ve)] [(.int lo), (.ref b17)])) rfl (by rw [hml]; rfl) (Steps.refl _) (argsL := [(.int lo)]) (rest := []) (lenOf pd3 rfl) rfl (by show 2 * 0 + _ ≤ _; exact Nat.le_of_eq rfl) (hb hby at_100) (fun _ _ => ⟨rfl, e50, (by decide : 3 + 0 ≤ _), (by decide : 13 + 0 ≤ _)⟩)
  dsimp only [Pt.U, Pt.locs, Pt.cells, Pt.slots] at X69 l69 y69 z69 st69 hQ69
  subst l69 y69 z69
  obtain ⟨rfl, N69q, e69⟩ := hQ69
  have N69 := Fr.app N50 N69q
  have P70 := own_step (C := T69.setTop (mkF m 103 #[.val (.int pa), .val (.int pb), .val (.int pc), .val (.int pv), .val (.int idx), .val (.int lo), .val (.int hi), .val (.int ini), .val (.ref b17), .val (.int (own_adm pv lo hi)), .val (.long (pv.toInt64)), .second, .val (.int ve)] [(.int (own_adm lo lo hi))])) P68 (fun t_ k_ => st69.trans k_)
  have P71 := own_step (C := T69.setTop (mkF m 106 #[.val (.int pa), .val (.int pb), .val (.int pc), .val (.int pv), .val (.int idx), .val (.int lo), .val (.int hi), .val (.int ini), .val (.ref b17), .val (.int (own_adm pv lo hi)), .val (.long (pv.toInt64)), .second, .val (.int ve)] [])) P70 (by
    intro tt_ kk_
    refine XS.ifNo X69.here hx rfl (hb hby at_103) rfl ((if0 _ _).trans (feq (own_l2 r1)).1) ?_
    exact kk_)
  have P72 := own_step (C := T69.setTop (mkF m 110 #[.val (.int pa), .val (.int pb), .val (.int pc), .val (.int pv), .val (.int idx), .val (.int lo), .val (.int hi), .val (.int ini), .val (.ref b17), .val (.int (own_adm pv lo hi)), .val (.long (pv.toInt64)), .second, .val (.int ve)] [(.int hi), (.ref b17)])) P71 (by
    intro tt_ kk_
    refine XS.aload X69.here hx rfl (hb hby at_106) rfl rfl ?_
    show Steps p.tables e below (T69.setTop (mkF m 108 #[.val (.int pa), .val (.int pb), .val (.int pc), .val (.int pv), .val (.int idx), .val (.int lo), .val (.int hi), .val (.int ini), .val (.ref b17), .val (.int (own_adm pv lo hi)), .val (.long (pv.toInt64)), .second, .val (.int ve)] [(.ref b17)])) _
    refine XS.iload X69.here hx rfl (hb hby at_108) rfl ?_
    exact kk_)
  obtain ⟨cq73, kq73, q73a, q73b, q73c⟩ := isOf hZ26 e69 f37
  obtain ⟨_, _, ⟨T73, L73, k73, n73⟩, -, X73, ⟨Lc73, hQ73, l73, y73, z73⟩, st73⟩ := X69.virtualBack hx (y := (⟨"com/example/uhrwerk/uhrwerk/model/IntVariable", "admits", "(I)Z"⟩ : MethodName)) (z := (⟨"com/example/uhrwerk/uhrwerk/model/IntVariable", "admits", "(I)Z"⟩ : MethodName)) hown26 (mvT hZ26 (hw _ (List.mem_of_getElem? (i := 39) rfl))) (mvT hZ26 (hw _ (List.mem_of_getElem? (i := 40) rfl))) (notFace_of_selects (args := #[]) (mvT hZ26 (hw _ (List.mem_of_getElem? (i := 42) rfl)))) (mvT hZ26 (hw _ (List.mem_of_getElem? (i := 42) rfl))) (mvT hZ26 (hw _ (List.mem_of_getElem? (i := 41) rfl))) (by decide) (backOf (W := 0) (rm_own_adm l Z a0 hw [] b17 hi lo hi T36.heap n0 Z46 f38 f39) hZ26 (hw _ (List.mem_of_getElem? (i := 43) rfl)) (hw _ (List.mem_of_getElem? (i := 9) rfl)) (by decide) (by decide)) q73a q73c (g := (mkF m 110 #[.val (.int pa), .val (.int pb), .val (.int pc), .val (.int pv), .val (.int idx), .val (.int lo), .val (.int hi), .val (.int ini), .val (.ref b17), .val (.int (own_adm pv lo hi)), .val (.long (pv.toInt64)), .second, .val (.int ve)] [(.int hi), (.ref b17)])) rfl (by rw [hml]; rfl) (Steps.refl _) (argsL := [(.int hi)]) (rest := []) (lenOf pd3 rfl) rfl (by show 2 * 0 + _ ≤ _; exact Nat.le_of_eq rfl) (hb hby at_110) (fun _ _ => ⟨rfl, e69, (by decide : 3 + 0 ≤ _), (by decide : 13 + 0 ≤ _)⟩)
  dsimp only [Pt.U, Pt.locs, Pt.cells, Pt.slots] at X73 l73 y73 z73 st73 hQ73
  subst l73 y73 z73
  obtain ⟨rfl, N73q, e73⟩ := hQ73
  have N73 := Fr.app N69 N73q
  have P74 := own_step (C := T73.setTop (mkF m 113 #[.val (.int pa), .val (.int pb), .val (.int pc), .val (.int pv), .val (.int idx), .val (.int lo), .val (.int hi), .val (.int ini), .val (.ref b17), .val (.int (own_adm pv lo hi)), .val (.long (pv.toInt64)), .second, .val (.int ve)] [(.int (own_adm hi lo hi))])) P72 (fun t_ k_ => st73.trans k_)
  have P75 := own_step (C := T73.setTop (mkF m 116 #[.val (.int pa), .val (.int pb), .val (.int pc), .val (.int pv), .val (.int idx), .val (.int lo), .val (.int hi), .val (.int ini), .val (.ref b17), .val (.int (own_adm pv lo hi)), .val (.long (pv.toInt64)), .second, .val (.int ve)] [])) P74 (by
    intro tt_ kk_
    refine XS.ifNo X73.here hx rfl (hb hby at_113) rfl ((if0 _ _).trans (feq (own_l3 r1)).1) ?_
    exact kk_)
  have P76 := own_step (C := T73.setTop (mkF m 120 #[.val (.int pa), .val (.int pb), .val (.int pc), .val (.int pv), .val (.int idx), .val (.int lo), .val (.int hi), .val (.int ini), .val (.ref b17), .val (.int (own_adm pv lo hi)), .val (.long (pv.toInt64)), .second, .val (.int ve)] [(.int ini), (.ref b17)])) P75 (by
    intro tt_ kk_
    refine XS.aload X73.here hx rfl (hb hby at_116) rfl rfl ?_
    show Steps p.tables e below (T73.setTop (mkF m 118 #[.val (.int pa), .val (.int pb), .val (.int pc), .val (.int pv), .val (.int idx), .val (.int lo), .val (.int hi), .val (.int ini), .val (.ref b17), .val (.int (own_adm pv lo hi)), .val (.long (pv.toInt64)), .second, .val (.int ve)] [(.ref b17)])) _
    refine XS.iload X73.here hx rfl (hb hby at_118) rfl ?_
    exact kk_)
  obtain ⟨cq77, kq77, q77a, q77b, q77c⟩ := isOf hZ26 e73 f37
  obtain ⟨_, _, ⟨T77, L77, k77, n77⟩, -, X77, ⟨Lc77, hQ77, l77, y77, z77⟩, st77⟩ := X73.virtualBack hx (y := (⟨"com/example/uhrwerk/uhrwerk/model/IntVariable", "admits", "(I)Z"⟩ : MethodName)) (z := (⟨"com/example/uhrwerk/uhrwerk/model/IntVariable", "admits", "(I)Z"⟩ : MethodName)) hown26 (mvT hZ26 (hw _ (List.mem_of_getElem? (i := 39) rfl))) (mvT hZ26 (hw _ (List.mem_of_getElem? (i := 40) rfl))) (notFace_of_selects (args := #[]) (mvT hZ26 (hw _ (List.mem_of_getElem? (i := 42) rfl)))) (mvT hZ26 (hw _ (List.mem_of_getElem? (i := 42) rfl))) (mvT hZ26 (hw _ (List.mem_of_getElem? (i := 41) rfl))) (by decide) (backOf (W := 0) (rm_own_adm l Z a0 hw [] b17 ini lo hi T36.heap n0 Z46 f38 f39) hZ26 (hw _ (List.mem_of_getElem? (i := 43) rfl)) (hw _ (List.mem_of_getElem? (i := 9) rfl)) (by decide) (by decide)) q77a q77c (g := (mkF m 120 #[.val (.int pa), .val (.int pb), .val (.int pc), .val (.int pv), .val (.int idx), .val (.int lo), .val (.int hi), .val (.int ini), .val (.ref b17), .val (.int (own_adm pv lo hi)), .val (.long (pv.toInt64)), .second, .val (.int ve)] [(.int ini), (.ref b17)])) rfl (by rw [hml]; rfl) (Steps.refl _) (argsL := [(.int ini)]) (rest := []) (lenOf pd3 rfl) rfl (by show 2 * 0 + _ ≤ _; exact Nat.le_of_eq rfl) (hb hby at_120) (fun _ _ => ⟨rfl, e73, (by decide : 3 + 0 ≤ _), (by decide : 13 + 0 ≤ _)⟩)
  dsimp only [Pt.U, Pt.locs, Pt.cells, Pt.slots] at X77 l77 y77 z77 st77 hQ77
  subst l77 y77 z77
  obtain ⟨rfl, N77q, e77⟩ := hQ77
  have N77 := Fr.app N73 N77q
  have P78 := own_step (C := T77.setTop (mkF m 123 #[.val (.int pa), .val (.int pb), .val (.int pc), .val (.int pv), .val (.int idx), .val (.int lo), .val (.int hi), .val (.int ini), .val (.ref b17), .val (.int (own_adm pv lo hi)), .val (.long (pv.toInt64)), .second, .val (.int ve)] [(.int (own_adm ini lo hi))])) P76 (fun t_ k_ => st77.trans k_)
  have P79 := own_step (C := T77.setTop (mkF m 128 #[.val (.int pa), .val (.int pb), .val (.int pc), .val (.int pv), .val (.int idx), .val (.int lo), .val (.int hi), .val (.int ini), .val (.ref b17), .val (.int (own_adm pv lo hi)), .val (.long (pv.toInt64)), .second, .val (.int ve)] [])) P78 (by
    intro tt_ kk_
    refine XS.ifYes X77.here hx rfl (pc0 := 123) (pc' := 128) rfl (hb hby at_123) rfl ((if0 _ _).trans (feq (own_l4 r2 r3)).2) (by decide) (by decide) ?_
    exact kk_)
  have P80 := own_step (C := T77.setTop (mkF m 132 #[.val (.int pa), .val (.int pb), .val (.int pc), .val (.int pv), .val (.int idx), .val (.int lo), .val (.int hi), .val (.int ini), .val (.ref b17), .val (.int (own_adm pv lo hi)), .val (.long (pv.toInt64)), .second, .val (.int ve)] [(.int (-2147483648 : Int32)), (.int lo)])) P79 (by
    intro tt_ kk_
    refine XS.iload X77.here hx rfl (hb hby at_128) rfl ?_
    show Steps p.tables e below (T77.setTop (mkF m 130 #[.val (.int pa), .val (.int pb), .val (.int pc), .val (.int pv), .val (.int idx), .val (.int lo), .val (.int hi), .val (.int ini), .val (.ref b17), .val (.int (own_adm pv lo hi)), .val (.long (pv.toInt64)), .second, .val (.int ve)] [(.int lo)])) _
    refine X77.ldcInt hx hown26 (mvT hZ26 (hw _ (List.mem_of_getElem? (i := 44) rfl))) (g := (mkF m 130 #[.val (.int pa), .val (.int pb), .val (.int pc), .val (.int pv), .val (.int idx), .val (.int lo), .val (.int hi), .val (.int ini), .val (.ref b17), .val (.int (own_adm pv lo hi)), .val (.long (pv.toInt64)), .second, .val (.int ve)] [(.int lo)])) rfl (hb hby at_130) _ ?_
    exact kk_)
  by_cases c81 : lo = (-2147483648 : Int32)
  · have P82 := own_step (C := T77.setTop (mkF m 149 #[.val (.int pa), .val (.int pb), .val (.int pc), .val (.int pv), .val (.int idx), .val (.int lo), .val (.int hi), .val (.int ini), .val (.ref b17), .val (.int (own_adm pv lo hi)), .val (.long (pv.toInt64)), .second, .val (.int ve)] [])) P80 (by
      intro tt_ kk_
      refine XS.icmpYes X77.here hx rfl (pc0 := 132) (pc' := 149) rfl (hb hby at_132) rfl (teq c81).1 (by decide) (by decide) ?_
      exact kk_)
    have P83 := own_step (C := T77.setTop (mkF m 153 #[.val (.int pa), .val (.int pb), .val (.int pc), .val (.int pv), .val (.int idx), .val (.int lo), .val (.int hi), .val (.int ini), .val (.ref b17), .val (.int (own_adm pv lo hi)), .val (.long (pv.toInt64)), .second, .val (.int ve)] [(.int (2147483647 : Int32)), (.int hi)])) P82 (by
      intro tt_ kk_
      refine XS.iload X77.here hx rfl (hb hby at_149) rfl ?_
      show Steps p.tables e below (T77.setTop (mkF m 151 #[.val (.int pa), .val (.int pb), .val (.int pc), .val (.int pv), .val (.int idx), .val (.int lo), .val (.int hi), .val (.int ini), .val (.ref b17), .val (.int (own_adm pv lo hi)), .val (.long (pv.toInt64)), .second, .val (.int ve)] [(.int hi)])) _
      refine X77.ldcInt hx hown26 (mvT hZ26 (hw _ (List.mem_of_getElem? (i := 45) rfl))) (g := (mkF m 151 #[.val (.int pa), .val (.int pb), .val (.int pc), .val (.int pv), .val (.int idx), .val (.int lo), .val (.int hi), .val (.int ini), .val (.ref b17), .val (.int (own_adm pv lo hi)), .val (.long (pv.toInt64)), .second, .val (.int ve)] [(.int hi)])) rfl (hb hby at_151) _ ?_
      exact kk_)
    by_cases c84 : hi = (2147483647 : Int32)
    · have P85 := own_step (C := T77.setTop (mkF m 170 #[.val (.int pa), .val (.int pb), .val (.int pc), .val (.int pv), .val (.int idx), .val (.int lo), .val (.int hi), .val (.int ini), .val (.ref b17), .val (.int (own_adm pv lo hi)), .val (.long (pv.toInt64)), .second, .val (.int ve)] [])) P83 (by
        intro tt_ kk_
        refine XS.icmpYes X77.here hx rfl (pc0 := 153) (pc' := 170) rfl (hb hby at_153) rfl (teq c84).1 (by decide) (by decide) ?_
        exact kk_)
      have P86 := own_step (C := T77.setTop (mkF m 171 #[.val (.int pa), .val (.int pb), .val (.int pc), .val (.int pv), .val (.int idx), .val (.int lo), .val (.int hi), .val (.int ini), .val (.ref b17), .val (.int (own_adm pv lo hi)), .val (.long (pv.toInt64)), .second, .val (.int ve)] [(.int (1 : Int32))])) P85 (by
        intro tt_ kk_
        refine XS.iconst X77.here hx rfl (hb hby at_170) ?_
        exact kk_)
      obtain ⟨fs, hr, hrun, hended, hW⟩ := X77.leaveW S26 (by rw [e77]; exact kz47) (v := some (.int (1 : Int32))) (fun h => by rw [Bd.returns] at h; cases h)
      refine ⟨_, _, P86 _ ?_, hrun, hended, _, _, rfl, ?_, ⟨hW.1, hW.2.1, hW.2.2.1, hW.2.2.2.mono (by decide) (by decide)⟩⟩
      · exact retN X77 hx (t := .boolean) Bd.returns (by simp) (hb hby at_171) hr
      · show Q0 Z _ _ _ _ _ h0 n0 _ T77.heap _
        rw [e77]
        exact ⟨rfl, N77⟩
    · have P87 := own_step (C := T77.setTop (mkF m 156 #[.val (.int pa), .val (.int pb), .val (.int pc), .val (.int pv), .val (.int idx), .val (.int lo), .val (.int hi), .val (.int ini), .val (.ref b17), .val (.int (own_adm pv lo hi)), .val (.long (pv.toInt64)), .second, .val (.int ve)] [])) P83 (by
        intro tt_ kk_
        refine XS.icmpNo X77.here hx rfl (hb hby at_153) rfl (feq c84).1 ?_
        exact kk_)
      have P88 := own_step (C := T77.setTop (mkF m 162 #[.val (.int pa), .val (.int pb), .val (.int pc), .val (.int pv), .val (.int idx), .val (.int lo), .val (.int hi), .val (.int ini), .val (.ref b17), .val (.int (own_adm pv lo hi)), .val (.long (pv.toInt64)), .second, .val (.int ve)] [(.int (hi + (1 : Int32))), (.ref b17)])) P87 (by
        intro tt_ kk_
        refine XS.aload X77.here hx rfl (hb hby at_156) rfl rfl ?_
        show Steps p.tables e below (T77.setTop (mkF m 158 #[.val (.int pa), .val (.int pb), .val (.int pc), .val (.int pv), .val (.int idx), .val (.int lo), .val (.int hi), .val (.int ini), .val (.ref b17), .val (.int (own_adm pv lo hi)), .val (.long (pv.toInt64)), .second, .val (.int ve)] [(.ref b17)])) _
        refine XS.iload X77.here hx rfl (hb hby at_158) rfl ?_
        show Steps p.tables e below (T77.setTop (mkF m 160 #[.val (.int pa), .val (.int pb), .val (.int pc), .val (.int pv), .val (.int idx), .val (.int lo), .val (.int hi), .val (.int ini), .val (.ref b17), .val (.int (own_adm pv lo hi)), .val (.long (pv.toInt64)), .second, .val (.int ve)] [(.int hi), (.ref b17)])) _
        refine XS.iconst X77.here hx rfl (hb hby at_160) ?_
        show Steps p.tables e below (T77.setTop (mkF m 161 #[.val (.int pa), .val (.int pb), .val (.int pc), .val (.int pv), .val (.int idx), .val (.int lo), .val (.int hi), .val (.int ini), .val (.ref b17), .val (.int (own_adm pv lo hi)), .val (.long (pv.toInt64)), .second, .val (.int ve)] [(.int (1 : Int32)), (.int hi), (.ref b17)])) _
        refine XS.iadd X77.here hx rfl (hb hby at_161) rfl ?_
        exact kk_)
      obtain ⟨cq89, kq89, q89a, q89b, q89c⟩ := isOf hZ26 e77 f37
      obtain ⟨_, _, ⟨T89, L89, k89, n89⟩, -, X89, ⟨Lc89, hQ89, l89, y89, z89⟩, st89⟩ := X77.virtualBack hx (y := (⟨"com/example/uhrwerk/uhrwerk/model/IntVariable", "admits", "(I)Z"⟩ : MethodName)) (z := (⟨"com/example/uhrwerk/uhrwerk/model/IntVariable", "admits", "(I)Z"⟩ : MethodName)) hown26 (mvT hZ26 (hw _ (List.mem_of_getElem? (i := 39) rfl))) (mvT hZ26 (hw _ (List.mem_of_getElem? (i := 40) rfl))) (notFace_of_selects (args := #[]) (mvT hZ26 (hw _ (List.mem_of_getElem? (i := 42) rfl)))) (mvT hZ26 (hw _ (List.mem_of_getElem? (i := 42) rfl))) (mvT hZ26 (hw _ (List.mem_of_getElem? (i := 41) rfl))) (by decide) (backOf (W := 0) (rm_own_adm l Z a0 hw [] b17 (hi + (1 : Int32)) lo hi T36.heap n0 Z46 f38 f39) hZ26 (hw _ (List.mem_of_getElem? (i := 43) rfl)) (hw _ (List.mem_of_getElem? (i := 9) rfl)) (by decide) (by decide)) q89a q89c (g := (mkF m 162 #[.val (.int pa), .val (.int pb), .val (.int pc), .val (.int pv), .val (.int idx), .val (.int lo), .val (.int hi), .val (.int ini), .val (.ref b17), .val (.int (own_adm pv lo hi)), .val (.long (pv.toInt64)), .second, .val (.int ve)] [(.int (hi + (1 : Int32))), (.ref b17)])) rfl (by rw [hml]; rfl) (Steps.refl _) (argsL := [(.int (hi + (1 : Int32)))]) (rest := []) (lenOf pd3 rfl) rfl (by show 2 * 0 + _ ≤ _; exact Nat.le_of_eq rfl) (hb hby at_162) (fun _ _ => ⟨rfl, e77, (by decide : 3 + 0 ≤ _), (by decide : 13 + 0 ≤ _)⟩)
      dsimp only [Pt.U, Pt.locs, Pt.cells, Pt.slots] at X89 l89 y89 z89 st89 hQ89
      subst l89 y89 z89
      obtain ⟨rfl, N89q, e89⟩ := hQ89
      have N89 := Fr.app N77 N89q
      have P90 := own_step (C := T89.setTop (mkF m 165 #[.val (.int pa), .val (.int pb), .val (.int pc), .val (.int pv), .val (.int idx), .val (.int lo), .val (.int hi), .val (.int ini), .val (.ref b17), .val (.int (own_adm pv lo hi)), .val (.long (pv.toInt64)), .second, .val (.int ve)] [(.int (own_adm (hi + (1 : Int32)) lo hi))])) P88 (fun t_ k_ => st89.trans k_)
      have P91 := own_step (C := T89.setTop (mkF m 170 #[.val (.int pa), .val (.int pb), .val (.int pc), .val (.int pv), .val (.int idx), .val (.int lo), .val (.int hi), .val (.int ini), .val (.ref b17), .val (.int (own_adm pv lo hi)), .val (.long (pv.toInt64)), .second, .val (.int ve)] [])) P90 (by
        intro tt_ kk_
        refine XS.ifYes X89.here hx rfl (pc0 := 165) (pc' := 170) rfl (hb hby at_165) rfl ((if0 _ _).trans (teq (own_l6 c84)).1) (by decide) (by decide) ?_
        exact kk_)
      have P92 := own_step (C := T89.setTop (mkF m 171 #[.val (.int pa), .val (.int pb), .val (.int pc), .val (.int pv), .val (.int idx), .val (.int lo), .val (.int hi), .val (.int ini), .val (.ref b17), .val (.int (own_adm pv lo hi)), .val (.long (pv.toInt64)), .second, .val (.int ve)] [(.int (1 : Int32))])) P91 (by
        intro tt_ kk_
        refine XS.iconst X89.here hx rfl (hb hby at_170) ?_
        exact kk_)
      obtain ⟨fs, hr, hrun, hended, hW⟩ := X89.leaveW S26 (by rw [e89]; exact kz47) (v := some (.int (1 : Int32))) (fun h => by rw [Bd.returns] at h; cases h)
      refine ⟨_, _, P92 _ ?_, hrun, hended, _, _, rfl, ?_, ⟨hW.1, hW.2.1, hW.2.2.1, hW.2.2.2.mono (by decide) (by decide)⟩⟩
      · exact retN X89 hx (t := .boolean) Bd.returns (by simp) (hb hby at_171) hr
      · show Q0 Z _ _ _ _ _ h0 n0 _ T89.heap _
        rw [e89]
        exact ⟨rfl, N89⟩
  · have P93 := own_step (C := T77.setTop (mkF m 135 #[.val (.int pa), .val (.int pb), .val (.int pc), .val (.int pv), .val (.int idx), .val (.int lo), .val (.int hi), .val (.int ini), .val (.ref b17), .val (.int (own_adm pv lo hi)), .val (.long (pv.toInt64)), .second, .val (.int ve)] [])) P80 (by
      intro tt_ kk_
      refine XS.icmpNo X77.here hx rfl (hb hby at_132) rfl (feq c81).1 ?_
      exact kk_)
    have P94 := own_step (C := T77.setTop (mkF m 141 #[.val (.int pa), .val (.int pb), .val (.int pc), .val (.int pv), .val (.int idx), .val (.int lo), .val (.int hi), .val (.int ini), .val (.ref b17), .val (.int (own_adm pv lo hi)), .val (.long (pv.toInt64)), .second, .val (.int ve)] [(.int (lo - (1 : Int32))), (.ref b17)])) P93 (by
      intro tt_ kk_
      refine XS.aload X77.here hx rfl (hb hby at_135) rfl rfl ?_
      show Steps p.tables e below (T77.setTop (mkF m 137 #[.val (.int pa), .val (.int pb), .val (.int pc), .val (.int pv), .val (.int idx), .val (.int lo), .val (.int hi), .val (.int ini), .val (.ref b17), .val (.int (own_adm pv lo hi)), .val (.long (pv.toInt64)), .second, .val (.int ve)] [(.ref b17)])) _
      refine XS.iload X77.here hx rfl (hb hby at_137) rfl ?_
      show Steps p.tables e below (T77.setTop (mkF m 139 #[.val (.int pa), .val (.int pb), .val (.int pc), .val (.int pv), .val (.int idx), .val (.int lo), .val (.int hi), .val (.int ini), .val (.ref b17), .val (.int (own_adm pv lo hi)), .val (.long (pv.toInt64)), .second, .val (.int ve)] [(.int lo), (.ref b17)])) _
      refine XS.iconst X77.here hx rfl (hb hby at_139) ?_
      show Steps p.tables e below (T77.setTop (mkF m 140 #[.val (.int pa), .val (.int pb), .val (.int pc), .val (.int pv), .val (.int idx), .val (.int lo), .val (.int hi), .val (.int ini), .val (.ref b17), .val (.int (own_adm pv lo hi)), .val (.long (pv.toInt64)), .second, .val (.int ve)] [(.int (1 : Int32)), (.int lo), (.ref b17)])) _
      refine XS.isub X77.here hx rfl (hb hby at_140) rfl ?_
      exact kk_)
    obtain ⟨cq95, kq95, q95a, q95b, q95c⟩ := isOf hZ26 e77 f37
    obtain ⟨_, _, ⟨T95, L95, k95, n95⟩, -, X95, ⟨Lc95, hQ95, l95, y95, z95⟩, st95⟩ := X77.virtualBack hx (y := (⟨"com/example/uhrwerk/uhrwerk/model/IntVariable", "admits", "(I)Z"⟩ : MethodName)) (z := (⟨"com/example/uhrwerk/uhrwerk/model/IntVariable", "admits", "(I)Z"⟩ : MethodName)) hown26 (mvT hZ26 (hw _ (List.mem_of_getElem? (i := 39) rfl))) (mvT hZ26 (hw _ (List.mem_of_getElem? (i := 40) rfl))) (notFace_of_selects (args := #[]) (mvT hZ26 (hw _ (List.mem_of_getElem? (i := 42) rfl)))) (mvT hZ26 (hw _ (List.mem_of_getElem? (i := 42) rfl))) (mvT hZ26 (hw _ (List.mem_of_getElem? (i := 41) rfl))) (by decide) (backOf (W := 0) (rm_own_adm l Z a0 hw [] b17 (lo - (1 : Int32)) lo hi T36.heap n0 Z46 f38 f39) hZ26 (hw _ (List.mem_of_getElem? (i := 43) rfl)) (hw _ (List.mem_of_getElem? (i := 9) rfl)) (by decide) (by decide)) q95a q95c (g := (mkF m 141 #[.val (.int pa), .val (.int pb), .val (.int pc), .val (.int pv), .val (.int idx), .val (.int lo), .val (.int hi), .val (.int ini), .val (.ref b17), .val (.int (own_adm pv lo hi)), .val (.long (pv.toInt64)), .second, .val (.int ve)] [(.int (lo - (1 : Int32))), (.ref b17)])) rfl (by rw [hml]; rfl) (Steps.refl _) (argsL := [(.int (lo - (1 : Int32)))]) (rest := []) (lenOf pd3 rfl) rfl (by show 2 * 0 + _ ≤ _; exact Nat.le_of_eq rfl) (hb hby at_141) (fun _ _ => ⟨rfl, e77, (by decide : 3 + 0 ≤ _), (by decide : 13 + 0 ≤ _)⟩)
    dsimp only [Pt.U, Pt.locs, Pt.cells, Pt.slots] at X95 l95 y95 z95 st95 hQ95
    subst l95 y95 z95
    obtain ⟨rfl, N95q, e95⟩ := hQ95
    have N95 := Fr.app N77 N95q
    have P96 := own_step (C := T95.setTop (mkF m 144 #[.val (.int pa), .val (.int pb), .val (.int pc), .val (.int pv), .val (.int idx), .val (.int lo), .val (.int hi), .val (.int ini), .val (.ref b17), .val (.int (own_adm pv lo hi)), .val (.long (pv.toInt64)), .second, .val (.int ve)] [(.int (own_adm (lo - (1 : Int32)) lo hi))])) P94 (fun t_ k_ => st95.trans k_)
    have P97 := own_step (C := T95.setTop (mkF m 149 #[.val (.int pa), .val (.int pb), .val (.int pc), .val (.int pv), .val (.int idx), .val (.int lo), .val (.int hi), .val (.int ini), .val (.ref b17), .val (.int (own_adm pv lo hi)), .val (.long (pv.toInt64)), .second, .val (.int ve)] [])) P96 (by
      intro tt_ kk_
      refine XS.ifYes X95.here hx rfl (pc0 := 144) (pc' := 149) rfl (hb hby at_144) rfl ((if0 _ _).trans (teq (own_l5 c81)).1) (by decide) (by decide) ?_
      exact kk_)
    have P98 := own_step (C := T95.setTop (mkF m 153 #[.val (.int pa), .val (.int pb), .val (.int pc), .val (.int pv), .val (.int idx), .val (.int lo), .val (.int hi), .val (.int ini), .val (.ref b17), .val (.int (own_adm pv lo hi)), .val (.long (pv.toInt64)), .second, .val (.int ve)] [(.int (2147483647 : Int32)), (.int hi)])) P97 (by
      intro tt_ kk_
      refine XS.iload X95.here hx rfl (hb hby at_149) rfl ?_
      show Steps p.tables e below (T95.setTop (mkF m 151 #[.val (.int pa), .val (.int pb), .val (.int pc), .val (.int pv), .val (.int idx), .val (.int lo), .val (.int hi), .val (.int ini), .val (.ref b17), .val (.int (own_adm pv lo hi)), .val (.long (pv.toInt64)), .second, .val (.int ve)] [(.int hi)])) _
      refine X95.ldcInt hx hown26 (mvT hZ26 (hw _ (List.mem_of_getElem? (i := 45) rfl))) (g := (mkF m 151 #[.val (.int pa), .val (.int pb), .val (.int pc), .val (.int pv), .val (.int idx), .val (.int lo), .val (.int hi), .val (.int ini), .val (.ref b17), .val (.int (own_adm pv lo hi)), .val (.long (pv.toInt64)), .second, .val (.int ve)] [(.int hi)])) rfl (hb hby at_151) _ ?_
      exact kk_)
    by_cases c99 : hi = (2147483647 : Int32)
    · have P100 := own_step (C := T95.setTop (mkF m 170 #[.val (.int pa), .val (.int pb), .val (.int pc), .val (.int pv), .val (.int idx), .val (.int lo), .val (.int hi), .val (.int ini), .val (.ref b17), .val (.int (own_adm pv lo hi)), .val (.long (pv.toInt64)), .second, .val (.int ve)] [])) P98 (by
        intro tt_ kk_
        refine XS.icmpYes X95.here hx rfl (pc0 := 153) (pc' := 170) rfl (hb hby at_153) rfl (teq c99).1 (by decide) (by decide) ?_
        exact kk_)
      have P101 := own_step (C := T95.setTop (mkF m 171 #[.val (.int pa), .val (.int pb), .val (.int pc), .val (.int pv), .val (.int idx), .val (.int lo), .val (.int hi), .val (.int ini), .val (.ref b17), .val (.int (own_adm pv lo hi)), .val (.long (pv.toInt64)), .second, .val (.int ve)] [(.int (1 : Int32))])) P100 (by
        intro tt_ kk_
        refine XS.iconst X95.here hx rfl (hb hby at_170) ?_
        exact kk_)
      obtain ⟨fs, hr, hrun, hended, hW⟩ := X95.leaveW S26 (by rw [e95]; exact kz47) (v := some (.int (1 : Int32))) (fun h => by rw [Bd.returns] at h; cases h)
      refine ⟨_, _, P101 _ ?_, hrun, hended, _, _, rfl, ?_, ⟨hW.1, hW.2.1, hW.2.2.1, hW.2.2.2.mono (by decide) (by decide)⟩⟩
      · exact retN X95 hx (t := .boolean) Bd.returns (by simp) (hb hby at_171) hr
      · show Q0 Z _ _ _ _ _ h0 n0 _ T95.heap _
        rw [e95]
        exact ⟨rfl, N95⟩
    · have P102 := own_step (C := T95.setTop (mkF m 156 #[.val (.int pa), .val (.int pb), .val (.int pc), .val (.int pv), .val (.int idx), .val (.int lo), .val (.int hi), .val (.int ini), .val (.ref b17), .val (.int (own_adm pv lo hi)), .val (.long (pv.toInt64)), .second, .val (.int ve)] [])) P98 (by
        intro tt_ kk_
        refine XS.icmpNo X95.here hx rfl (hb hby at_153) rfl (feq c99).1 ?_
        exact kk_)
      have P103 := own_step (C := T95.setTop (mkF m 162 #[.val (.int pa), .val (.int pb), .val (.int pc), .val (.int pv), .val (.int idx), .val (.int lo), .val (.int hi), .val (.int ini), .val (.ref b17), .val (.int (own_adm pv lo hi)), .val (.long (pv.toInt64)), .second, .val (.int ve)] [(.int (hi + (1 : Int32))), (.ref b17)])) P102 (by
        intro tt_ kk_
        refine XS.aload X95.here hx rfl (hb hby at_156) rfl rfl ?_
        show Steps p.tables e below (T95.setTop (mkF m 158 #[.val (.int pa), .val (.int pb), .val (.int pc), .val (.int pv), .val (.int idx), .val (.int lo), .val (.int hi), .val (.int ini), .val (.ref b17), .val (.int (own_adm pv lo hi)), .val (.long (pv.toInt64)), .second, .val (.int ve)] [(.ref b17)])) _
        refine XS.iload X95.here hx rfl (hb hby at_158) rfl ?_
        show Steps p.tables e below (T95.setTop (mkF m 160 #[.val (.int pa), .val (.int pb), .val (.int pc), .val (.int pv), .val (.int idx), .val (.int lo), .val (.int hi), .val (.int ini), .val (.ref b17), .val (.int (own_adm pv lo hi)), .val (.long (pv.toInt64)), .second, .val (.int ve)] [(.int hi), (.ref b17)])) _
        refine XS.iconst X95.here hx rfl (hb hby at_160) ?_
        show Steps p.tables e below (T95.setTop (mkF m 161 #[.val (.int pa), .val (.int pb), .val (.int pc), .val (.int pv), .val (.int idx), .val (.int lo), .val (.int hi), .val (.int ini), .val (.ref b17), .val (.int (own_adm pv lo hi)), .val (.long (pv.toInt64)), .second, .val (.int ve)] [(.int (1 : Int32)), (.int hi), (.ref b17)])) _
        refine XS.iadd X95.here hx rfl (hb hby at_161) rfl ?_
        exact kk_)
      obtain ⟨cq104, kq104, q104a, q104b, q104c⟩ := isOf hZ26 e95 f37
      obtain ⟨_, _, ⟨T104, L104, k104, n104⟩, -, X104, ⟨Lc104, hQ104, l104, y104, z104⟩, st104⟩ := X95.virtualBack hx (y := (⟨"com/example/uhrwerk/uhrwerk/model/IntVariable", "admits", "(I)Z"⟩ : MethodName)) (z := (⟨"com/example/uhrwerk/uhrwerk/model/IntVariable", "admits", "(I)Z"⟩ : MethodName)) hown26 (mvT hZ26 (hw _ (List.mem_of_getElem? (i := 39) rfl))) (mvT hZ26 (hw _ (List.mem_of_getElem? (i := 40) rfl))) (notFace_of_selects (args := #[]) (mvT hZ26 (hw _ (List.mem_of_getElem? (i := 42) rfl)))) (mvT hZ26 (hw _ (List.mem_of_getElem? (i := 42) rfl))) (mvT hZ26 (hw _ (List.mem_of_getElem? (i := 41) rfl))) (by decide) (backOf (W := 0) (rm_own_adm l Z a0 hw [] b17 (hi + (1 : Int32)) lo hi T36.heap n0 Z46 f38 f39) hZ26 (hw _ (List.mem_of_getElem? (i := 43) rfl)) (hw _ (List.mem_of_getElem? (i := 9) rfl)) (by decide) (by decide)) q104a q104c (g := (mkF m 162 #[.val (.int pa), .val (.int pb), .val (.int pc), .val (.int pv), .val (.int idx), .val (.int lo), .val (.int hi), .val (.int ini), .val (.ref b17), .val (.int (own_adm pv lo hi)), .val (.long (pv.toInt64)), .second, .val (.int ve)] [(.int (hi + (1 : Int32))), (.ref b17)])) rfl (by rw [hml]; rfl) (Steps.refl _) (argsL := [(.int (hi + (1 : Int32)))]) (rest := []) (lenOf pd3 rfl) rfl (by show 2 * 0 + _ ≤ _; exact Nat.le_of_eq rfl) (hb hby at_162) (fun _ _ => ⟨rfl, e95, (by decide : 3 + 0 ≤ _), (by decide : 13 + 0 ≤ _)⟩)
      dsimp only [Pt.U, Pt.locs, Pt.cells, Pt.slots] at X104 l104 y104 z104 st104 hQ104
      subst l104 y104 z104
      obtain ⟨rfl, N104q, e104⟩ := hQ104
      have N104 := Fr.app N95 N104q
      have P105 := own_step (C := T104.setTop (mkF m 165 #[.val (.int pa), .val (.int pb), .val (.int pc), .val (.int pv), .val (.int idx), .val (.int lo), .val (.int hi), .val (.int ini), .val (.ref b17), .val (.int (own_adm pv lo hi)), .val (.long (pv.toInt64)), .second, .val (.int ve)] [(.int (own_adm (hi + (1 : Int32)) lo hi))])) P103 (fun t_ k_ => st104.trans k_)
      have P106 := own_step (C := T104.setTop (mkF m 170 #[.val (.int pa), .val (.int pb), .val (.int pc), .val (.int pv), .val (.int idx), .val (.int lo), .val (.int hi), .val (.int ini), .val (.ref b17), .val (.int (own_adm pv lo hi)), .val (.long (pv.toInt64)), .second, .val (.int ve)] [])) P105 (by
        intro tt_ kk_
        refine XS.ifYes X104.here hx rfl (pc0 := 165) (pc' := 170) rfl (hb hby at_165) rfl ((if0 _ _).trans (teq (own_l6 c99)).1) (by decide) (by decide) ?_
        exact kk_)
      have P107 := own_step (C := T104.setTop (mkF m 171 #[.val (.int pa), .val (.int pb), .val (.int pc), .val (.int pv), .val (.int idx), .val (.int lo), .val (.int hi), .val (.int ini), .val (.ref b17), .val (.int (own_adm pv lo hi)), .val (.long (pv.toInt64)), .second, .val (.int ve)] [(.int (1 : Int32))])) P106 (by
        intro tt_ kk_
        refine XS.iconst X104.here hx rfl (hb hby at_170) ?_
        exact kk_)
      obtain ⟨fs, hr, hrun, hended, hW⟩ := X104.leaveW S26 (by rw [e104]; exact kz47) (v := some (.int (1 : Int32))) (fun h => by rw [Bd.returns] at h; cases h)
      refine ⟨_, _, P107 _ ?_, hrun, hended, _, _, rfl, ?_, ⟨hW.1, hW.2.1, hW.2.2.1, hW.2.2.2.mono (by decide) (by decide)⟩⟩
      · exact retN X104 hx (t := .boolean) Bd.returns (by simp) (hb hby at_171) hr
      · show Q0 Z _ _ _ _ _ h0 n0 _ T104.heap _
        rw [e104]
        exact ⟨rfl, N104⟩
set_option maxRecDepth 65536 in
set_option maxHeartbeats 40000000 in
theorem comes_1 {Post : Tables → Env → Array Value → State → Outcome → State → Prop} (hpost : ∀ tb e args s v u, (limb_1_1.after args s (.returned v) u = true ∧ limb_1_2.after args s (.returned v) u = true ∧ True) → ReturnedEndW s (.returned v) u (Jvm.fieldLocs frame_1_writes args s ++ Jvm.arrayLocs frame_1_arrays args s ++ Jvm.staticLocs frame_1_statics s) 16 1152 → Post tb e args s (.returned v) u) :
    ArmFor flags0 classFile x code maxLocals ret World_1 tables_1 room_1 Calls_1 rest_1 Pre_1 Post := by
  intro l hfl _ _ p e ha hc hk s m args below hf hA hF happ hP
  obtain ⟨hcalls, hrest, hpre⟩ := hP
  obtain ⟨-, -, -, hnamed, -, -, -, hat⟩ := (Spec.applies_iff hf).mp happ
  obtain ⟨hg, hn⟩ := and_e (Cond.before_iff.mp (show (Jvm.Cond.and given_1 narrow_1).before args s = true from hpre))
  obtain ⟨hgc, hg0⟩ := and_e hg
  obtain ⟨ha0, hg1⟩ := and_e hg0
  obtain ⟨ha1, hg2⟩ := and_e hg1
  obtain ⟨ha2, hg3⟩ := and_e hg2
  obtain ⟨ha3, hg4⟩ := and_e hg3
  have ha4 := hg4
  obtain ⟨w0, w1, w2, w3, w4, rfl⟩ : ∃ w0 w1 w2 w3 w4 : Value, args = #[w0, w1, w2, w3, w4] := by
    have hs : args.size = 5 := by simpa [Cond.value, given_1] using hgc
    obtain ⟨L⟩ := args
    match L, hs with
    | [w0, w1, w2, w3, w4], _ => exact ⟨w0, w1, w2, w3, w4, rfl⟩
  have hw := fun d (hd : d ∈ tables_1) => atoms_spec (ws := Jvm.Cond.code x code maxLocals ret :: tables_1) hat d (List.mem_cons_of_mem _ hd)
  have hfit : Fit s := fun {y c} hc i hi => by
    obtain ⟨ha, rfl⟩ := Array.getElem?_eq_some_iff.mp hc
    have q := List.all_eq_true.mp ((Array.all_eq_true_iff_forall_mem.mp hF) _ (Array.getElem_mem ha)) i (List.mem_range.mpr hi)
    simpa [Array.getElem?_eq_getElem hi] using q
  obtain ⟨i0, ei0⟩ := is_v ha0
  obtain rfl : w0 = (.int i0) := Option.some.inj ei0
  obtain ⟨i1, ei1⟩ := is_v ha1
  obtain rfl : w1 = (.int i1) := Option.some.inj ei1
  obtain ⟨i2, ei2⟩ := is_v ha2
  obtain rfl : w2 = (.int i2) := Option.some.inj ei2
  obtain ⟨i3, ei3⟩ := is_v ha3
  obtain rfl : w3 = (.int i3) := Option.some.inj ei3
  obtain ⟨i4, ei4⟩ := is_v ha4
  obtain rfl : w4 = (.int i4) := Option.some.inj ei4
  obtain ⟨n, o, h1, h2, h3, _, L, rfl, ⟨rfl, N⟩, hq⟩ := rm0 l s _ hw tables_1 i0 i1 i2 i3 i4 s.heap s.heap.size (Nat.le_refl _)  p e ha hc hk s m _ below hf ((Spec.applies_iff_loose hf).mp happ).1 ⟨rfl, State.Warmed39.refl s, rfl⟩ trivial
  exact ⟨n, _, h1, h2, h3, hpost _ _ _ _ _ _ ⟨Cond.after_iff.mpr rfl, Cond.after_iff.mpr (eq_i res_at (Term.int_eval (1)) rfl), trivial⟩ ⟨hq.1, hq.2.1, hq.2.2.1, (hq.2.2.2.sift fun y hy => Or.inr (N y hy)).mono (by decide) (by decide)⟩⟩
theorem main_1_1 : Claimed_1_1 := comes_1 fun _ _ _ _ _ _ h hF => ⟨h.1, hF⟩
theorem main_1_2 : Claimed_1_2 := comes_1 fun _ _ _ _ _ _ h hF => ⟨h.2.1, hF⟩
end Jvm.Pilot.@@N@@
namespace Jvm.Pilot.@@N@@
open Jvm Jvm.ClassFile Sem Op Lib Jvm.Free Jvm.Stand Jvm.Pilot.@@N@@.Jvm.D
/-! MADE BY PROGRAM (witnessworld.py) out of the Statement's table words and the real class files: 16 classes; the members and pool entries that the words name. The judged class is class 1, her method 1. -/
namespace start1
open Jvm.ClassFile
def u (s : String) : CpInfo := .utf8 (stringToUtf16 s)
/-- a pool by its gaps: so many unusable entries, then the entry; so many at the end -/
def gap : Nat → List CpInfo → List CpInfo
  | 0, r => r
  | n + 1, r => .unusable :: gap n r
def poolList (es : List (Nat × CpInfo)) (last : Nat) : List CpInfo := es.foldr (fun e r => gap e.1 (e.2 :: r)) (gap last [])
def pool (es : List (Nat × CpInfo)) (last : Nat) : Array CpInfo := ⟨poolList es last⟩
def fileOf (pool : Array CpInfo) (this : Nat) (attrs : Array Attribute := #[]) (ms : Array MethodInfo := #[]) (fl : Nat := 33) (sup : Nat := 0) (ifs : Array Nat := #[]) (fds : Array FieldInfo := #[]) : ClassFile where
  minorVersion := 0
  majorVersion := 65
  constantPool := pool
  accessFlags := fl
  thisClass := this
  superClass := sup
  interfaces := ifs
  fields := fds
  methods := ms
  attributes := attrs
def plain (name : String) (sup : Option ClassId) : Class where
  name := name
  kind := .ordinary
  loader := none
  accessFlags := 33
  super := sup
  interfaces := #[]
  cf := none
  fields := #[]
  methods := #[]
  instanceTypes := #[]
  staticTypes := #[]
  resolved := #[]
  callSites := []
  init := .initialized
  statics := none
  mirror := none

def pool0 : Array CpInfo := pool [(5, u "<init>"), (0, u "()V"), (1, .class_ 10), (1, u "java/lang/Object")] 113

def k0c0 : Code := { maxStack := 0, maxLocals := 1, code := object_method_1_code, exceptionTable := #[], attributes := #[] }
def k0m0 : Method := { name := "<init>", desc := "()V", sig := { parameters := [], returnType := none }, accessFlags := 1, code := some k0c0 }
/-- java/lang/Object -/
def k0 : Class := { plain "java/lang/Object" none with
  accessFlags := 33
  interfaces := #[]
  cf := some (fileOf pool0 8 #[] #[{ accessFlags := 1, nameIndex := 5, descriptorIndex := 6, attributes := #[] }] 33 0 #[] #[])
  fields := #[]
  methods := #[k0m0]
  instanceTypes := #[]
  staticTypes := #[]
  resolved := Array.replicate 124 none
  statics := none }

def pool1 : Array CpInfo := pool [(2, .class_ 4), (1, u "java/lang/Object"), (0, u "<init>"), (0, u "()V"), (0, .methodref 8 9), (0, .class_ 10), (0, .nameAndType 11 12), (0, u "java/lang/Math"), (0, u "min"), (0, u "(II)I"), (0, .methodref 8 14), (0, .nameAndType 15 12), (0, u "max"), (0, .class_ 17), (0, u "com/example/uhrwerk/uhrwerk/model/IntVariable"), (0, .string 19), (0, u "v"), (0, .methodref 16 21), (0, .nameAndType 5 22), (0, u "(Ljava/lang/String;IIII)V"), (0, .methodref 16 24), (0, .nameAndType 25 26), (0, u "admits"), (0, u "(I)Z"), (2, .integer 2147483648), (0, .integer 2147483647), (0, .class_ 32), (0, u "com/example/uhrwerk/uhrwerk/model/IntVariableAdmitsPinLaw"), (2, u "law"), (0, u "(IIIII)Z")] 3

def k1m0 : Method := { name := "<init>", desc := "()V", sig := { parameters := [], returnType := none }, accessFlags := 1, code := none }
def k1c1 : Code := { maxStack := 7, maxLocals := 13, code := code, exceptionTable := #[], attributes := #[] }
def k1m1 : Method := { name := "law", desc := "(IIIII)Z", sig := { parameters := [.int, .int, .int, .int, .int], returnType := some .boolean }, accessFlags := 9, code := some k1c1 }
/-- com/example/uhrwerk/uhrwerk/model/IntVariableAdmitsPinLaw -/
def k1 : Class := { plain "com/example/uhrwerk/uhrwerk/model/IntVariableAdmitsPinLaw" (some 0) with
  accessFlags := 49
  interfaces := #[]
  cf := some (fileOf pool1 31 #[] #[{ accessFlags := 1, nameIndex := 5, descriptorIndex := 6, attributes := #[] }, { accessFlags := 9, nameIndex := 35, descriptorIndex := 36, attributes := #[] }] 49 2 #[] #[])
  fields := #[]
  methods := #[k1m0, k1m1]
  instanceTypes := #[]
  staticTypes := #[]
  resolved := Array.replicate 40 none
  statics := none }

def pool2 : Array CpInfo := pool [(1, .class_ 2), (0, u "java/lang/Math"), (1, .class_ 6), (1, u "java/lang/Object"), (0, u "<init>"), (0, u "()V"), (89, .class_ 100), (1, u "java/lang/Math$RandomNumberGeneratorHolder"), (71, u "negativeZeroFloatBits"), (0, u "J"), (2, u "negativeZeroDoubleBits"), (21, u "max"), (2, u "min"), (43, u "$assertionsDisabled"), (0, u "Z"), (88, u "(II)I"), (2, u "twoToTheDoubleScaleDown"), (0, u "D"), (4, u "twoToTheDoubleScaleUp"), (9, u "E"), (3, u "PI"), (2, u "TAU"), (2, u "DEGREES_TO_RADIANS"), (0, u "RADIANS_TO_DEGREES")] 94

def k2m0 : Method := { name := "<init>", desc := "()V", sig := { parameters := [], returnType := none }, accessFlags := 2, code := none }
def k2c1 : Code := { maxStack := 2, maxLocals := 2, code := jdk_29_method_65_code, exceptionTable := #[], attributes := #[] }
def k2m1 : Method := { name := "max", desc := "(II)I", sig := { parameters := [.int, .int], returnType := some .int }, accessFlags := 9, code := some k2c1 }
def k2c2 : Code := { maxStack := 2, maxLocals := 2, code := jdk_29_method_69_code, exceptionTable := #[], attributes := #[] }
def k2m2 : Method := { name := "min", desc := "(II)I", sig := { parameters := [.int, .int], returnType := some .int }, accessFlags := 9, code := some k2c2 }
/-- java/lang/Math -/
def k2 : Class := { plain "java/lang/Math" (some 0) with
  accessFlags := 49
  interfaces := #[]
  cf := some (fileOf pool2 1 #[.nestMembers #[98]] #[{ accessFlags := 2, nameIndex := 7, descriptorIndex := 8, attributes := #[] }, { accessFlags := 9, nameIndex := 198, descriptorIndex := 335, attributes := #[] }, { accessFlags := 9, nameIndex := 201, descriptorIndex := 335, attributes := #[] }] 49 4 #[] #[{ accessFlags := 25, nameIndex := 354, descriptorIndex := 339, attributes := #[] }, { accessFlags := 25, nameIndex := 358, descriptorIndex := 339, attributes := #[] }, { accessFlags := 25, nameIndex := 361, descriptorIndex := 339, attributes := #[] }, { accessFlags := 26, nameIndex := 364, descriptorIndex := 339, attributes := #[] }, { accessFlags := 26, nameIndex := 365, descriptorIndex := 339, attributes := #[] }, { accessFlags := 26, nameIndex := 172, descriptorIndex := 173, attributes := #[] }, { accessFlags := 26, nameIndex := 176, descriptorIndex := 173, attributes := #[] }, { accessFlags := 8, nameIndex := 344, descriptorIndex := 339, attributes := #[] }, { accessFlags := 8, nameIndex := 338, descriptorIndex := 339, attributes := #[] }, { accessFlags := 4120, nameIndex := 245, descriptorIndex := 246, attributes := #[] }])
  fields := #[{ name := "E", type := .double, accessFlags := 25, slot := 0, constantValue := 0 }, { name := "PI", type := .double, accessFlags := 25, slot := 1, constantValue := 0 }, { name := "TAU", type := .double, accessFlags := 25, slot := 2, constantValue := 0 }, { name := "DEGREES_TO_RADIANS", type := .double, accessFlags := 26, slot := 3, constantValue := 0 }, { name := "RADIANS_TO_DEGREES", type := .double, accessFlags := 26, slot := 4, constantValue := 0 }, { name := "negativeZeroFloatBits", type := .long, accessFlags := 26, slot := 5, constantValue := 0 }, { name := "negativeZeroDoubleBits", type := .long, accessFlags := 26, slot := 6, constantValue := 0 }, { name := "twoToTheDoubleScaleUp", type := .double, accessFlags := 8, slot := 7, constantValue := 0 }, { name := "twoToTheDoubleScaleDown", type := .double, accessFlags := 8, slot := 8, constantValue := 0 }, { name := "$assertionsDisabled", type := .boolean, accessFlags := 4120, slot := 9, constantValue := 0 }]
  methods := #[k2m0, k2m1, k2m2]
  instanceTypes := #[]
  staticTypes := #[.double, .double, .double, .double, .double, .long, .long, .double, .double, .boolean]
  resolved := Array.replicate 460 none
  statics := none }

def pool3 : Array CpInfo := pool [(1, .methodref 2 3), (0, .class_ 4), (0, .nameAndType 5 6), (0, u "java/lang/Object"), (0, u "<init>"), (0, u "()V"), (0, .class_ 8), (0, u "java/lang/Record")] 13

def k3c0 : Code := { maxStack := 1, maxLocals := 1, code := jdk_30_method_1_code, exceptionTable := #[], attributes := #[] }
def k3m0 : Method := { name := "<init>", desc := "()V", sig := { parameters := [], returnType := none }, accessFlags := 4, code := some k3c0 }
/-- java/lang/Record -/
def k3 : Class := { plain "java/lang/Record" (some 0) with
  accessFlags := 1057
  interfaces := #[]
  cf := some (fileOf pool3 7 #[] #[{ accessFlags := 4, nameIndex := 5, descriptorIndex := 6, attributes := #[] }] 1057 2 #[] #[])
  fields := #[]
  methods := #[k3m0]
  instanceTypes := #[]
  staticTypes := #[]
  resolved := Array.replicate 22 none
  statics := none }

def pool4 : Array CpInfo := pool [(1, .methodref 2 3), (0, .class_ 4), (0, .nameAndType 5 6), (0, u "java/lang/Record"), (0, u "<init>"), (0, u "()V"), (9, .fieldref 17 18), (0, .class_ 19), (0, .nameAndType 20 21), (0, u "com/example/uhrwerk/uhrwerk/model/IntVariable"), (0, u "name"), (0, u "Ljava/lang/String;"), (0, .fieldref 17 23), (0, .nameAndType 24 25), (0, u "index"), (0, u "I"), (0, .fieldref 17 27), (0, .nameAndType 28 25), (0, u "minimum"), (0, .fieldref 17 30), (0, .nameAndType 31 25), (0, u "maximum"), (0, .fieldref 17 33), (0, .nameAndType 34 25), (0, u "initial"), (8, u "(Ljava/lang/String;IIII)V"), (6, u "admits"), (0, u "(I)Z")] 36

def k4c0 : Code := { maxStack := 6, maxLocals := 6, code := prog_78_method_1_code, exceptionTable := #[], attributes := #[] }
def k4m0 : Method := { name := "<init>", desc := "(Ljava/lang/String;IIII)V", sig := { parameters := [(.object "java/lang/String"), .int, .int, .int, .int], returnType := none }, accessFlags := 1, code := some k4c0 }
def k4c1 : Code := { maxStack := 2, maxLocals := 2, code := prog_78_method_2_code, exceptionTable := #[], attributes := #[] }
def k4m1 : Method := { name := "admits", desc := "(I)Z", sig := { parameters := [.int], returnType := some .boolean }, accessFlags := 1, code := some k4c1 }
/-- com/example/uhrwerk/uhrwerk/model/IntVariable -/
def k4 : Class := { plain "com/example/uhrwerk/uhrwerk/model/IntVariable" (some 3) with
  accessFlags := 49
  interfaces := #[]
  cf := some (fileOf pool4 17 #[] #[{ accessFlags := 1, nameIndex := 5, descriptorIndex := 43, attributes := #[] }, { accessFlags := 1, nameIndex := 50, descriptorIndex := 51, attributes := #[] }] 49 2 #[] #[{ accessFlags := 18, nameIndex := 20, descriptorIndex := 21, attributes := #[] }, { accessFlags := 18, nameIndex := 24, descriptorIndex := 25, attributes := #[] }, { accessFlags := 18, nameIndex := 28, descriptorIndex := 25, attributes := #[] }, { accessFlags := 18, nameIndex := 31, descriptorIndex := 25, attributes := #[] }, { accessFlags := 18, nameIndex := 34, descriptorIndex := 25, attributes := #[] }])
  fields := #[{ name := "name", type := (.object "java/lang/String"), accessFlags := 18, slot := 0, constantValue := 0 }, { name := "index", type := .int, accessFlags := 18, slot := 1, constantValue := 0 }, { name := "minimum", type := .int, accessFlags := 18, slot := 2, constantValue := 0 }, { name := "maximum", type := .int, accessFlags := 18, slot := 3, constantValue := 0 }, { name := "initial", type := .int, accessFlags := 18, slot := 4, constantValue := 0 }]
  methods := #[k4m0, k4m1]
  instanceTypes := #[(.object "java/lang/String"), .int, .int, .int, .int]
  staticTypes := #[]
  resolved := Array.replicate 88 none
  statics := none }

def pool5 : Array CpInfo := pool [(1, .class_ 2), (0, u "java/io/Serializable"), (0, .class_ 4), (0, u "java/lang/Object")] 2

/-- java/io/Serializable -/
def k5 : Class := { plain "java/io/Serializable" (some 0) with
  accessFlags := 1537
  interfaces := #[]
  cf := some (fileOf pool5 1 #[] #[] 1537 3 #[] #[])
  fields := #[]
  methods := #[]
  instanceTypes := #[]
  staticTypes := #[]
  resolved := Array.replicate 7 none
  statics := none }

def pool6 : Array CpInfo := pool [(1, .class_ 2), (0, u "java/lang/Comparable"), (0, .class_ 4), (0, u "java/lang/Object")] 7

/-- java/lang/Comparable -/
def k6 : Class := { plain "java/lang/Comparable" (some 0) with
  accessFlags := 1537
  interfaces := #[]
  cf := some (fileOf pool6 1 #[] #[] 1537 3 #[] #[])
  fields := #[]
  methods := #[]
  instanceTypes := #[]
  staticTypes := #[]
  resolved := Array.replicate 12 none
  statics := none }

def pool7 : Array CpInfo := pool [(2, .class_ 4), (1, u "java/lang/CharSequence"), (42, .class_ 48), (0, u "java/lang/CharSequence$1CodePointIterator"), (10, .class_ 60), (0, u "java/lang/CharSequence$1CharIterator"), (5, .class_ 67), (0, u "java/lang/Object")] 63

/-- java/lang/CharSequence -/
def k7 : Class := { plain "java/lang/CharSequence" (some 0) with
  accessFlags := 1537
  interfaces := #[]
  cf := some (fileOf pool7 2 #[.nestMembers #[47, 59]] #[] 1537 66 #[] #[])
  fields := #[]
  methods := #[]
  instanceTypes := #[]
  staticTypes := #[]
  resolved := Array.replicate 131 none
  statics := none }

def pool8 : Array CpInfo := pool [(1, .class_ 2), (0, u "java/lang/constant/Constable"), (0, .class_ 4), (0, u "java/lang/Object")] 6

/-- java/lang/constant/Constable -/
def k8 : Class := { plain "java/lang/constant/Constable" (some 0) with
  accessFlags := 1537
  interfaces := #[]
  cf := some (fileOf pool8 1 #[] #[] 1537 3 #[] #[])
  fields := #[]
  methods := #[]
  instanceTypes := #[]
  staticTypes := #[]
  resolved := Array.replicate 11 none
  statics := none }

def pool9 : Array CpInfo := pool [(1, .class_ 2), (0, u "java/lang/constant/ConstantDesc"), (0, .class_ 4), (0, u "java/lang/Object")] 32

/-- java/lang/constant/ConstantDesc -/
def k9 : Class := { plain "java/lang/constant/ConstantDesc" (some 0) with
  accessFlags := 1537
  interfaces := #[]
  cf := some (fileOf pool9 1 #[] #[] 1537 3 #[] #[])
  fields := #[]
  methods := #[]
  instanceTypes := #[]
  staticTypes := #[]
  resolved := Array.replicate 37 none
  statics := none }

def pool10 : Array CpInfo := pool [(2, .class_ 4), (1, u "java/lang/Object"), (0, u "<init>"), (0, u "()V"), (3, .class_ 12), (1, u "java/lang/String"), (0, u "value"), (0, u "[B"), (2, u "coder"), (0, u "B"), (2, u "hash"), (0, u "I"), (2, u "hashIsZero"), (0, u "Z"), (13, u "COMPACT_STRINGS"), (534, .class_ 576), (0, u "java/lang/CharSequence"), (22, u "CASE_INSENSITIVE_ORDER"), (0, u "Ljava/util/Comparator;"), (500, u "serialPersistentFields"), (0, u "[Ljava/io/ObjectStreamField;"), (0, .class_ 1104), (0, u "java/lang/String$CaseInsensitiveComparator"), (1, .class_ 1107), (0, u "java/io/Serializable"), (0, .class_ 1109), (0, u "java/lang/Comparable"), (0, .class_ 1111), (0, u "java/lang/constant/Constable"), (0, .class_ 1113), (0, u "java/lang/constant/ConstantDesc"), (2, u "serialVersionUID"), (0, u "J"), (3, u "REPL"), (0, u "C"), (2, u "LATIN1"), (1, u "UTF16")] 323

def k10m0 : Method := { name := "<init>", desc := "()V", sig := { parameters := [], returnType := none }, accessFlags := 1, code := none }
/-- java/lang/String -/
def k10 : Class := { plain "java/lang/String" (some 0) with
  accessFlags := 49
  interfaces := #[5, 6, 7, 8, 9]
  cf := some (fileOf pool10 10 #[.nestMembers #[1103]] #[{ accessFlags := 1, nameIndex := 5, descriptorIndex := 6, attributes := #[] }] 49 2 #[1106, 1108, 575, 1110, 1112] #[{ accessFlags := 18, nameIndex := 13, descriptorIndex := 14, attributes := #[] }, { accessFlags := 18, nameIndex := 17, descriptorIndex := 18, attributes := #[] }, { accessFlags := 2, nameIndex := 21, descriptorIndex := 22, attributes := #[] }, { accessFlags := 2, nameIndex := 25, descriptorIndex := 26, attributes := #[] }, { accessFlags := 26, nameIndex := 1116, descriptorIndex := 1117, attributes := #[] }, { accessFlags := 24, nameIndex := 40, descriptorIndex := 26, attributes := #[] }, { accessFlags := 26, nameIndex := 1101, descriptorIndex := 1102, attributes := #[] }, { accessFlags := 26, nameIndex := 1121, descriptorIndex := 1122, attributes := #[] }, { accessFlags := 25, nameIndex := 599, descriptorIndex := 600, attributes := #[] }, { accessFlags := 24, nameIndex := 1125, descriptorIndex := 18, attributes := #[] }, { accessFlags := 24, nameIndex := 1127, descriptorIndex := 18, attributes := #[] }])
  fields := #[{ name := "value", type := (.array .byte), accessFlags := 18, slot := 0, constantValue := 0 }, { name := "coder", type := .byte, accessFlags := 18, slot := 1, constantValue := 0 }, { name := "hash", type := .int, accessFlags := 2, slot := 2, constantValue := 0 }, { name := "hashIsZero", type := .boolean, accessFlags := 2, slot := 3, constantValue := 0 }, { name := "serialVersionUID", type := .long, accessFlags := 26, slot := 0, constantValue := 0 }, { name := "COMPACT_STRINGS", type := .boolean, accessFlags := 24, slot := 1, constantValue := 0 }, { name := "serialPersistentFields", type := (.array (.object "java/io/ObjectStreamField")), accessFlags := 26, slot := 2, constantValue := 0 }, { name := "REPL", type := .char, accessFlags := 26, slot := 3, constantValue := 0 }, { name := "CASE_INSENSITIVE_ORDER", type := (.object "java/util/Comparator"), accessFlags := 25, slot := 4, constantValue := 0 }, { name := "LATIN1", type := .byte, accessFlags := 24, slot := 5, constantValue := 0 }, { name := "UTF16", type := .byte, accessFlags := 24, slot := 6, constantValue := 0 }]
  methods := #[k10m0]
  instanceTypes := #[(.array .byte), .byte, .int, .boolean]
  staticTypes := #[.long, .boolean, (.array (.object "java/io/ObjectStreamField")), .char, (.object "java/util/Comparator"), .byte, .byte]
  resolved := Array.replicate 1451 none
  statics := none }

def pool11 : Array CpInfo := pool [(1, u "java/lang/Cloneable"), (0, .class_ 1), (0, u "java/lang/Object"), (0, .class_ 3)] 3

/-- java/lang/Cloneable -/
def k11 : Class := { plain "java/lang/Cloneable" (some 0) with
  accessFlags := 1537
  interfaces := #[]
  cf := some (fileOf pool11 2 #[] #[] 1537 4 #[] #[])
  fields := #[]
  methods := #[]
  instanceTypes := #[]
  staticTypes := #[]
  resolved := Array.replicate 8 none
  statics := none }

/-- the primitive byte -/
def k12 : Class := { plain "byte" none with kind := .primitive 'B', accessFlags := 0x411 }
/-- [B -/
def k13 : Class := { plain "[B" (some 0) with kind := .array 12 .byte, interfaces := #[11, 5], accessFlags := 1041 }

/-- the primitive int -/
def k14 : Class := { plain "int" none with kind := .primitive 'I', accessFlags := 0x411 }
/-- [I -/
def k15 : Class := { plain "[I" (some 0) with kind := .array 14 .int, interfaces := #[11, 5], accessFlags := 1041 }

def heap : Heap := #[]
def classes : Array Class := #[k0, k1, k2, k3, k4, k5, k6, k7, k8, k9, k10, k11, k12, k13, k14, k15]
def interned : List (Array UInt16 × Addr) := []
def slotsUsed : Nat := 0
def theMethod : MethodId := ⟨1, 1⟩
def args0 : Array Value := #[.int 1, .int 5, .int 7, .int 9, .int 0]
def aboutOver (below : List Frame) : State where
  vm := { classes := classes, interned := interned.toArray }
  heap := heap
  slotsUsed := slotsUsed
  threads := #[{ frames := .invoking theMethod args0 :: below }]
def below0 : List Frame := [.native { method := ⟨0, 0⟩, args := #[] }]
def about1 : State := aboutOver below0
def p0 : Program := .bare "" "" ""
def e0 : Env := launch0.env 0 0 0
theorem w_frames : about1.frames = Frame.invoking theMethod args0 :: below0 := rfl
set_option maxRecDepth 65536 in
theorem w_args : argsFit about1.vm theMethod args0 = true := by decide +kernel
set_option maxRecDepth 65536 in
theorem w_heap : heapFits about1 = true := by decide +kernel
set_option maxRecDepth 65536 in
theorem w_runnable : about1.curStatus? = some .runnable := by decide +kernel
set_option maxRecDepth 65536 in
theorem w_alone : about1.alone = true := by decide +kernel
set_option maxRecDepth 65536 in
theorem w_named : about1.methodNamed? x = some theMethod := by decide +kernel
set_option maxRecDepth 65536 in
theorem w_hears : about1.hears theMethod below0 = true := by decide +kernel
set_option maxRecDepth 65536 in
theorem w_ripe : about1.ripe theMethod args0 below0 = true := by decide +kernel
theorem w_running : about1.status = .running := rfl
set_option maxRecDepth 65536 in
theorem w_room : about1.hasRoom e0.platform room_1 = true :=
  launch0.hasRoom_least _ room_1 (by decide +kernel) (by decide +kernel) (by decide +kernel) (by decide +kernel) (by decide +kernel) (by decide +kernel)
theorem allAtoms_all (ts : List Jvm.Cond) (a : Array Jvm.Value) (st : Jvm.State) : (allAtoms ts).before a st = ts.all (fun c => c.before a st) := by
  induction ts with
  | nil => rfl
  | cons c t ih =>
    show (Jvm.Cond.and c (allAtoms t)).before a st = _
    rw [Jvm.Cond.before_and, ih, List.all_cons]
def words1 : List Jvm.Cond := Jvm.Cond.code x code maxLocals ret :: tables_1
/-- a 'code' word, met by the world's own term for the bytes: nothing is compared byte by byte -/
theorem code_word {y : MethodName} {bytes : ByteArray} {mx : Nat} {rt : Option FieldType} {a : Array Value} {s : State} {m : MethodId} {meth : Method} {c : Code} (h1 : s.methodNamed? y = some m) (h2 : s.vm.method? m = some meth) (h3 : meth.code = some c) (h4 : c.code = bytes)
    (h5 : (c.maxLocals == mx && c.exceptionTable.isEmpty && decide (c.maxStack ≤ mostOperands) && decide (meth.sig.returnType = rt) && !meth.locks && decide (parseMethodDescriptor y.desc = some meth.sig)) = true) : (Jvm.Cond.code y bytes mx rt).before a s = true := by
  simp only [Bool.and_eq_true, beq_iff_eq, Bool.not_eq_true', decide_eq_true_eq] at h5
  obtain ⟨⟨⟨⟨⟨g1, g2⟩, g3⟩, g4⟩, g5⟩, g6⟩ := h5
  simp [Cond.before, Cond.holds, Cond.value, h1, h2, h3, h4, g1, g2, g3, g4, g5, g6]
def isCode : Jvm.Cond → Bool
  | .code _ _ _ _ => true
  | _ => false
theorem all_split {L : List Jvm.Cond} {P : Jvm.Cond → Bool} (h1 : L.all (fun c => isCode c || P c) = true) (h2 : ∀ c ∈ L.filter isCode, P c = true) : L.all P = true := by
  refine List.all_eq_true.mpr fun c hc => ?_
  have h := List.all_eq_true.mp h1 c hc
  rcases Bool.eq_false_or_eq_true (isCode c) with hi | hi
  · exact h2 c (List.mem_filter.mpr ⟨hc, hi⟩)
  · simpa [hi] using h
set_option maxRecDepth 65536 in
theorem w_c0 : (Jvm.Cond.code x code maxLocals ret).before args0 about1 = true := code_word (m := ⟨1, 1⟩) (meth := k1m1) (c := k1c1) (by decide +kernel) rfl rfl rfl (by decide +kernel)
set_option maxRecDepth 65536 in
theorem w_c1 : (Jvm.Cond.code ({ cls := "java/lang/Math", name := "min", desc := "(II)I" } : Jvm.MethodName) jdk_29_method_69_code (2 : Nat) (Option.some Jvm.ClassFile.FieldType.int)).before args0 about1 = true := code_word (m := ⟨2, 2⟩) (meth := k2m2) (c := k2c2) (by decide +kernel) rfl rfl rfl (by decide +kernel)
set_option maxRecDepth 65536 in
theorem w_c2 : (Jvm.Cond.code ({ cls := "java/lang/Math", name := "max", desc := "(II)I" } : Jvm.MethodName) jdk_29_method_65_code (2 : Nat) (Option.some Jvm.ClassFile.FieldType.int)).before args0 about1 = true := code_word (m := ⟨2, 1⟩) (meth := k2m1) (c := k2c1) (by decide +kernel) rfl rfl rfl (by decide +kernel)
set_option maxRecDepth 65536 in
theorem w_c3 : (Jvm.Cond.code ({ cls := "com/example/uhrwerk/uhrwerk/model/IntVariable", name := "<init>", desc := "(Ljava/lang/String;IIII)V" } : Jvm.MethodName) prog_78_method_1_code (6 : Nat) (Option.none : Option Jvm.ClassFile.FieldType)).before args0 about1 = true := code_word (m := ⟨4, 0⟩) (meth := k4m0) (c := k4c0) (by decide +kernel) rfl rfl rfl (by decide +kernel)
set_option maxRecDepth 65536 in
theorem w_c4 : (Jvm.Cond.code ({ cls := "java/lang/Record", name := "<init>", desc := "()V" } : Jvm.MethodName) jdk_30_method_1_code (1 : Nat) (Option.none : Option Jvm.ClassFile.FieldType)).before args0 about1 = true := code_word (m := ⟨3, 0⟩) (meth := k3m0) (c := k3c0) (by decide +kernel) rfl rfl rfl (by decide +kernel)
set_option maxRecDepth 65536 in
theorem w_c5 : (Jvm.Cond.code ({ cls := "java/lang/Object", name := "<init>", desc := "()V" } : Jvm.MethodName) object_method_1_code (1 : Nat) (Option.none : Option Jvm.ClassFile.FieldType)).before args0 about1 = true := code_word (m := ⟨0, 0⟩) (meth := k0m0) (c := k0c0) (by decide +kernel) rfl rfl rfl (by decide +kernel)
set_option maxRecDepth 65536 in
theorem w_c6 : (Jvm.Cond.code ({ cls := "com/example/uhrwerk/uhrwerk/model/IntVariable", name := "admits", desc := "(I)Z" } : Jvm.MethodName) prog_78_method_2_code (2 : Nat) (Option.some Jvm.ClassFile.FieldType.boolean)).before args0 about1 = true := code_word (m := ⟨4, 1⟩) (meth := k4m1) (c := k4c1) (by decide +kernel) rfl rfl rfl (by decide +kernel)
def codes1 : List Jvm.Cond := [Jvm.Cond.code x code maxLocals ret, Jvm.Cond.code ({ cls := "java/lang/Math", name := "min", desc := "(II)I" } : Jvm.MethodName) jdk_29_method_69_code (2 : Nat) (Option.some Jvm.ClassFile.FieldType.int), Jvm.Cond.code ({ cls := "java/lang/Math", name := "max", desc := "(II)I" } : Jvm.MethodName) jdk_29_method_65_code (2 : Nat) (Option.some Jvm.ClassFile.FieldType.int), Jvm.Cond.code ({ cls := "com/example/uhrwerk/uhrwerk/model/IntVariable", name := "<init>", desc := "(Ljava/lang/String;IIII)V" } : Jvm.MethodName) prog_78_method_1_code (6 : Nat) (Option.none : Option Jvm.ClassFile.FieldType), Jvm.Cond.code ({ cls := "java/lang/Record", name := "<init>", desc := "()V" } : Jvm.MethodName) jdk_30_method_1_code (1 : Nat) (Option.none : Option Jvm.ClassFile.FieldType), Jvm.Cond.code ({ cls := "java/lang/Object", name := "<init>", desc := "()V" } : Jvm.MethodName) object_method_1_code (1 : Nat) (Option.none : Option Jvm.ClassFile.FieldType), Jvm.Cond.code ({ cls := "com/example/uhrwerk/uhrwerk/model/IntVariable", name := "admits", desc := "(I)Z" } : Jvm.MethodName) prog_78_method_2_code (2 : Nat) (Option.some Jvm.ClassFile.FieldType.boolean)]
set_option maxRecDepth 65536 in
theorem codes_eq : words1.filter isCode = codes1 := rfl
theorem w_codes : ∀ c ∈ words1.filter isCode, c.before args0 about1 = true := by
  rw [codes_eq]
  intro c hc
  simp only [codes1, List.mem_cons, List.not_mem_nil, or_false] at hc
  rcases hc with rfl | rfl | rfl | rfl | rfl | rfl | rfl
  · exact w_c0
  · exact w_c1
  · exact w_c2
  · exact w_c3
  · exact w_c4
  · exact w_c5
  · exact w_c6
set_option maxRecDepth 65536 in
theorem w_t1 : (words1.take 24).all (fun c => isCode c || c.before args0 about1) = true := by decide +kernel
set_option maxRecDepth 65536 in
theorem w_t2 : (words1.drop 24).all (fun c => isCode c || c.before args0 about1) = true := by decide +kernel
theorem w_tables : (allAtoms (Jvm.Cond.code x code maxLocals ret :: tables_1)).before args0 about1 = true := by
  rw [allAtoms_all]
  show words1.all (fun c => c.before args0 about1) = true
  refine all_split ?_ w_codes
  rw [← List.take_append_drop 24 words1, List.all_append, w_t1, w_t2]
  rfl
set_option maxRecDepth 65536 in
theorem w_case : (Jvm.Cond.and given_1 narrow_1).before args0 about1 = true := by decide +kernel
theorem w_applies : (headSpec (Jvm.Cond.code x code maxLocals ret :: tables_1) room_1).applies x e0.platform about1 = true :=
  (Spec.applies_iff w_frames).mpr ⟨w_running, w_runnable, w_alone, w_named, w_hears, w_ripe, w_room, w_tables⟩
theorem atStart : AtStart classFile x code maxLocals ret World_1 tables_1 room_1 Calls_1 rest_1 Pre_1 launch0 p0 e0 about1 theMethod args0 below0 :=
  ⟨lists_1, trivial, launch0.admits_env _ _ _, launch0.least_env, fairChoices_fair.cas, fairChoices_fair.clock, w_frames, w_args, w_heap, w_applies, trivial, trivial, w_case⟩
end start1
theorem witness_1 : WitnessClaimed_1 := ⟨start1.p0, start1.e0, start1.about1, start1.theMethod, start1.args0, start1.below0, start1.atStart⟩
end Jvm.Pilot.@@N@@
