import JvmDerived
import JvmDerived.Pilot.@@N@@Statement
import JvmDerived.Pilot.@@N@@Code
set_option linter.unusedVariables false
set_option linter.unusedSimpArgs false
namespace Jvm.RoadKit
open Sem ClassFile Op Lib Jvm.Stand Jvm.Free Jvm.LawKit
abbrev own_Go (p : Program) (e : Env) (below : List Frame) (A B : State) : Prop := ∀ t, Steps p.tables e below B t → Steps p.tables e below A t
theorem own_name {p : Program} {e : Env} {below : List Frame} {A : State} {α : Type} {F : α → State} (x : α) (P : own_Go p e below A (F x)) : ∃ z, z = x ∧ own_Go p e below A (F z) := ⟨x, rfl, P⟩
theorem own_step {p : Program} {e : Env} {below : List Frame} {A B C : State} (P : own_Go p e below A B) (q : own_Go p e below B C) : own_Go p e below A C := fun t_ k_ => P t_ (q t_ k_)
theorem own_IB {Z s U : State} {Ts : List String} (I : IB Z s.vm Ts) (w : s.WarmedH U.vm) : IB Z U.vm Ts := by
  obtain ⟨more, e, hm⟩ := I
  exact ⟨more, w.interned_eq.trans e, hm⟩
theorem own_backI {p : Program} {l : Launch} {e : Env} {R : Room} {s Z : State} {args a0 : Array Value} {below : List Frame} {h : Heap} {y : MethodName} {bytes : ByteArray} {maxL : Nat} {ret : Option FieldType} {rm : Room} {len W : Nat} {as' : Array Value} {Ts : List String} {Q : Option Value → Heap → List Loc → Prop}
    (hM : MetFree l y (head1 [Cond.code y bytes maxL ret] rm) (fun a U => a = as' ∧ Z.Warmed39 U.vm ∧ U.heap = h ∧ IB Z U.vm Ts) (fun _ _ _ _ _ => True) (fun _ U o U' => ∃ v L, o = .returned v ∧ Q v U'.heap L ∧ ReturnedEndW U o U' L rm.cells rm.slots))
    (hZ : Z.Warmed39 s.vm) (hI : IB Z s.vm Ts) (wc : (Cond.code y bytes maxL ret).before a0 Z = true) (wz : (Cond.initialized y.cls).before a0 Z = true) (hf : rm.frames + 1 ≤ R.frames) (hl : W + (maxL + 11) + rm.locals ≤ R.locals) :
    BackS l R p e below s args y len W (fun A a => a = as' ∧ A.U.heap = h ∧ A.cells + rm.cells ≤ R.cells ∧ A.slots + rm.slots ≤ R.slots) (fun A _ v B => ∃ L, Q v B.U.heap L ∧ B.locs = A.locs ++ L ∧ B.cells = A.cells + rm.cells ∧ B.slots = A.slots + rm.slots) := by
  refine BackS.of_freeW (bytes := bytes) (maxL := maxL) (ret := ret) (E := fun _ _ o t L k n => k = rm.cells ∧ n = rm.slots ∧ ∃ v, o = .returned v ∧ Q v t.heap L) hM hf hl ?_ ?_ (fun _ _ _ _ _ _ _ _ _ => trivial) ?_ ?_
  · intro m meth c A a Y hp
    have hU : Z.Warmed39 A.U.vm := wtrans hZ Y.warmed
    refine ⟨?_, mv hU wc, mv hU wz, hp.2.2.1, hp.2.2.2⟩
    show (Cond.and _ .tt).before a A.U = true
    rw [Cond.before_and, mv hU wc]; rfl
  · intro m meth c A a g mk Y hp
    exact ⟨hp.1, wtrans hZ Y.warmed, hp.2.1, own_IB hI Y.warmed⟩
  · rintro _ _ _ _ ⟨v, L, h1, h2, h3⟩
    exact ⟨L, _, _, h3, rfl, rfl, v, h1, h2⟩
  · intro m meth c A a g mk v t L k n Y hp _ _ q
    obtain ⟨e1, e2, v', e3, e4⟩ := q
    cases e3; subst e1 e2; exact ⟨L, e4, rfl, rfl, rfl⟩
section New
variable {p : Program} {l : Launch} {e : Env} {R : Room} {s : State} {m : MethodId} {args : Array Value} {below : List Frame} {meth : Method} {c : Code} {T : State} {locs : List Loc} {cells slots : Nat}
theorem retI (X : Stand p l e R s m args below meth c T locs cells slots) (hx : p.tables.exec = Jvm.exec) {pc : Nat} {Ls : Array Slot} {z : Int32} {rest : List Value} (hret : meth.sig.returnType = some .int) (hd : decode c.code pc = .ok (.ireturn, 1)) {fs : List Frame}
    (hl : ∀ (f : JFrame) (acts : List Action), f.method = m → f.locked = none → f.entered = [] → (doReturn e (T.setTop f) acts (some (.int z))).1 = T.setFrames fs) : Steps p.tables e below (T.setTop (mkF m pc Ls (.int z :: rest))) (T.setFrames fs) := by
  have hm' : T.vm.method? m = some meth := X.method'
  have hn : narrow .int (.int z) = .int z := rfl
  show Steps p.tables e below (T.setTop { method := m, pc := pc, locals := Ls, stack := _ :: rest, locked := none }) _
  jvm_step X.here [X.here.top, hx, hd, hm', hret, hn]
  first | (intro acts; rw [hl _ acts rfl rfl rfl]) | rw [hl _ _ rfl rfl rfl]
  exact Steps.refl _
end New
end Jvm.RoadKit
namespace Jvm.Pilot.@@N@@
open Jvm Jvm.ClassFile Sem Op Lib Jvm.Free Jvm.Stand Jvm.LawKit Jvm.RoadKit Bundle Jvm.Pilot.@@N@@.Jvm.D
def own_a (p0 : Int32) : Int32 := (if p0 < (97 : Int32) then (if p0 < (65 : Int32) then (if p0 < (48 : Int32) then (0 : Int32) else (if (57 : Int32) < p0 then (0 : Int32) else (1 : Int32))) else (if (90 : Int32) < p0 then (if p0 < (48 : Int32) then (0 : Int32) else (if (57 : Int32) < p0 then (0 : Int32) else (1 : Int32))) else (1 : Int32))) else (if (122 : Int32) < p0 then (if p0 < (65 : Int32) then (if p0 < (48 : Int32) then (0 : Int32) else (if (57 : Int32) < p0 then (0 : Int32) else (1 : Int32))) else (if (90 : Int32) < p0 then (if p0 < (48 : Int32) then (0 : Int32) else (if (57 : Int32) < p0 then (0 : Int32) else (1 : Int32))) else (1 : Int32))) else (1 : Int32)))
theorem d1_0 : decode prog_29_method_7_code 0 = .ok (.iload_n 0, 1) := by decide +kernel
theorem d1_1 : decode prog_29_method_7_code 1 = .ok (.bipush 97, 2) := by decide +kernel
theorem d1_3 : decode prog_29_method_7_code 3 = .ok (.if_icmp .lt 9, 3) := by decide +kernel
theorem d1_6 : decode prog_29_method_7_code 6 = .ok (.iload_n 0, 1) := by decide +kernel
theorem d1_7 : decode prog_29_method_7_code 7 = .ok (.bipush 122, 2) := by decide +kernel
theorem d1_9 : decode prog_29_method_7_code 9 = .ok (.if_icmp .le 27, 3) := by decide +kernel
theorem d1_12 : decode prog_29_method_7_code 12 = .ok (.iload_n 0, 1) := by decide +kernel
theorem d1_13 : decode prog_29_method_7_code 13 = .ok (.bipush 65, 2) := by decide +kernel
theorem d1_15 : decode prog_29_method_7_code 15 = .ok (.if_icmp .lt 9, 3) := by decide +kernel
theorem d1_18 : decode prog_29_method_7_code 18 = .ok (.iload_n 0, 1) := by decide +kernel
theorem d1_19 : decode prog_29_method_7_code 19 = .ok (.bipush 90, 2) := by decide +kernel
theorem d1_21 : decode prog_29_method_7_code 21 = .ok (.if_icmp .le 15, 3) := by decide +kernel
theorem d1_24 : decode prog_29_method_7_code 24 = .ok (.iload_n 0, 1) := by decide +kernel
theorem d1_25 : decode prog_29_method_7_code 25 = .ok (.bipush 48, 2) := by decide +kernel
theorem d1_27 : decode prog_29_method_7_code 27 = .ok (.if_icmp .lt 13, 3) := by decide +kernel
theorem d1_30 : decode prog_29_method_7_code 30 = .ok (.iload_n 0, 1) := by decide +kernel
theorem d1_31 : decode prog_29_method_7_code 31 = .ok (.bipush 57, 2) := by decide +kernel
theorem d1_33 : decode prog_29_method_7_code 33 = .ok (.if_icmp .gt 7, 3) := by decide +kernel
theorem d1_36 : decode prog_29_method_7_code 36 = .ok (.iconst 1, 1) := by decide +kernel
theorem d1_37 : decode prog_29_method_7_code 37 = .ok (.goto 4, 3) := by decide +kernel
theorem d1_40 : decode prog_29_method_7_code 40 = .ok (.iconst 0, 1) := by decide +kernel
theorem d1_41 : decode prog_29_method_7_code 41 = .ok (.ireturn, 1) := by decide +kernel
theorem ef__own_a (m : MethodId) (x0 : Int32) : entryFrame m #[(.int x0)] 1 = mkF m 0 #[.val (.int x0)] [] := by first | (simp [entryFrame, mkF, argsToLocals, Value.category]; done) | rfl
def Q_own_a (Z : State) (p0 : Int32) (h0 : Heap) (n0 : Nat) (v_ : Option Value) (h : Heap) (L_ : List Loc) : Prop := v_ = some (.int (own_a p0)) ∧ Fr n0 L_ ∧ h = h0
theorem pn0 : plainName "com/example/gatehouse/gatehouse/pattern/CharacterClasses" = true := by first | (simp [plainName, overriddenIn]; done) | decide +kernel
set_option maxRecDepth 65536 in
set_option maxHeartbeats 40000000 in
theorem rm_own_a (l : Launch) (Z : State) (a0 : Array Value) (hw : ∀ d ∈ tables_1, d.before a0 Z = true) (ws : List Jvm.Cond) (p0 : Int32) (h0 : Heap) (n0 : Nat) (Z0 : n0 ≤ h0.size) :
    MetFree l (⟨"com/example/gatehouse/gatehouse/pattern/CharacterClasses", "isAsciiLetterOrDigit", "(I)Z"⟩ : MethodName) (head1 (Jvm.Cond.code (⟨"com/example/gatehouse/gatehouse/pattern/CharacterClasses", "isAsciiLetterOrDigit", "(I)Z"⟩ : MethodName) prog_29_method_7_code 1 (some .boolean) :: ws) ({ frames := 0, cells := 0, slots := 0, locals := 0 } : Room)) (fun a_ U_ => a_ = #[(.int p0)] ∧ Z.Warmed39 U_.vm ∧ U_.heap = h0) (fun _ _ _ _ _ => True) (fun _ U_ o_ V_ => ∃ v_ L_, o_ = .returned v_ ∧ Q_own_a Z p0 h0 n0 v_ V_.heap L_ ∧ FrameEnd U_ o_ V_ L_ ({ frames := 0, cells := 0, slots := 0, locals := 0 } : Room).cells ({ frames := 0, cells := 0, slots := 0, locals := 0 } : Room).slots) := by
  refine MetFree.of_bodySF (plainFor_of_name pn0) hisR ?_
  intro p e s m args below meth c s₁ Bd hml0 hP hK
  obtain ⟨rfl, hZ, hh⟩ := hP
  have hx := Bd.exec
  have hby := Bd.bytes
  have hml : c.maxLocals = 1 := hml0
  have hown : s.vm.findClass "com/example/gatehouse/gatehouse/pattern/CharacterClasses" = some m.cls := findClass_of_methodNamed Bd.named
  have hnm := (name_of_methodNamed Bd.named Bd.method).1
  have X0 : Stand p l e ({ frames := 0, cells := 0, slots := 0, locals := 0 } : Room) s m #[(.int p0)] below meth c s₁ [] 0 0 := Stand.of_body Bd
  have e0 : s₁.heap = h0 := by rw [← hh, Bd.state]; rfl
  have N0 := Fr.nil n0
  have pre0 : own_Go p e below (s₁.setTop (entryFrame m #[(.int p0)] 1)) (s₁.setTop (mkF m 0 #[.val (.int p0)] [])) := fun t_ k_ => castTop (ef__own_a m p0) k_
  have P1 := own_step (C := s₁.setTop (mkF m 3 #[.val (.int p0)] [(.int (97 : Int32)), (.int p0)])) pre0 (by
    intro tt_ kk_
    refine XS.iloadN X0.here hx rfl (hb hby d1_0) rfl ?_
    show Steps p.tables e below (s₁.setTop (mkF m 1 #[.val (.int p0)] [(.int p0)])) _
    refine XS.bipush X0.here hx rfl (hb hby d1_1) ?_
    exact kk_)
  by_cases c2 : p0 < (97 : Int32)
  · have P3 := own_step (C := s₁.setTop (mkF m 12 #[.val (.int p0)] [])) P1 (by
      intro tt_ kk_
      refine XS.icmpYes X0.here hx rfl (pc0 := 3) (pc' := 12) rfl (hb hby d1_3) rfl (tlt c2).1 (by decide) (by decide) ?_
      exact kk_)
    have P4 := own_step (C := s₁.setTop (mkF m 15 #[.val (.int p0)] [(.int (65 : Int32)), (.int p0)])) P3 (by
      intro tt_ kk_
      refine XS.iloadN X0.here hx rfl (hb hby d1_12) rfl ?_
      show Steps p.tables e below (s₁.setTop (mkF m 13 #[.val (.int p0)] [(.int p0)])) _
      refine XS.bipush X0.here hx rfl (hb hby d1_13) ?_
      exact kk_)
    by_cases c5 : p0 < (65 : Int32)
    · have P6 := own_step (C := s₁.setTop (mkF m 24 #[.val (.int p0)] [])) P4 (by
        intro tt_ kk_
        refine XS.icmpYes X0.here hx rfl (pc0 := 15) (pc' := 24) rfl (hb hby d1_15) rfl (tlt c5).1 (by decide) (by decide) ?_
        exact kk_)
      have P7 := own_step (C := s₁.setTop (mkF m 27 #[.val (.int p0)] [(.int (48 : Int32)), (.int p0)])) P6 (by
        intro tt_ kk_
        refine XS.iloadN X0.here hx rfl (hb hby d1_24) rfl ?_
        show Steps p.tables e below (s₁.setTop (mkF m 25 #[.val (.int p0)] [(.int p0)])) _
        refine XS.bipush X0.here hx rfl (hb hby d1_25) ?_
        exact kk_)
      by_cases c8 : p0 < (48 : Int32)
      · have P9 := own_step (C := s₁.setTop (mkF m 40 #[.val (.int p0)] [])) P7 (by
          intro tt_ kk_
          refine XS.icmpYes X0.here hx rfl (pc0 := 27) (pc' := 40) rfl (hb hby d1_27) rfl (tlt c8).1 (by decide) (by decide) ?_
          exact kk_)
        have P10 := own_step (C := s₁.setTop (mkF m 41 #[.val (.int p0)] [(.int (0 : Int32))])) P9 (by
          intro tt_ kk_
          refine XS.iconst X0.here hx rfl (hb hby d1_40) ?_
          exact kk_)
        obtain ⟨fs, hr, hrun, hended, hW, hsame⟩ := X0.leave (v := some (.int (0 : Int32))) (fun h => by rw [Bd.returns] at h; cases h)
        refine ⟨_, _, P10 _ ?_, hrun, hended, _, _, rfl, ?_, ⟨_, rfl⟩, hW, hsame.mono (by decide) (by decide)⟩
        · exact retN X0 hx (t := .boolean) Bd.returns (by simp) (hb hby d1_41) hr
        · show Q_own_a Z p0 h0 n0 _ s₁.heap _
          rw [e0]
          exact ⟨by unfold own_a; rw [if_pos c2, if_pos c5, if_pos c8], N0, rfl⟩
      · have P11 := own_step (C := s₁.setTop (mkF m 30 #[.val (.int p0)] [])) P7 (by
          intro tt_ kk_
          refine XS.icmpNo X0.here hx rfl (hb hby d1_27) rfl (flt c8).1 ?_
          exact kk_)
        have P12 := own_step (C := s₁.setTop (mkF m 33 #[.val (.int p0)] [(.int (57 : Int32)), (.int p0)])) P11 (by
          intro tt_ kk_
          refine XS.iloadN X0.here hx rfl (hb hby d1_30) rfl ?_
          show Steps p.tables e below (s₁.setTop (mkF m 31 #[.val (.int p0)] [(.int p0)])) _
          refine XS.bipush X0.here hx rfl (hb hby d1_31) ?_
          exact kk_)
        by_cases c13 : (57 : Int32) < p0
        · have P14 := own_step (C := s₁.setTop (mkF m 40 #[.val (.int p0)] [])) P12 (by
            intro tt_ kk_
            refine XS.icmpYes X0.here hx rfl (pc0 := 33) (pc' := 40) rfl (hb hby d1_33) rfl (tlt c13).2.2.1 (by decide) (by decide) ?_
            exact kk_)
          have P15 := own_step (C := s₁.setTop (mkF m 41 #[.val (.int p0)] [(.int (0 : Int32))])) P14 (by
            intro tt_ kk_
            refine XS.iconst X0.here hx rfl (hb hby d1_40) ?_
            exact kk_)
          obtain ⟨fs, hr, hrun, hended, hW, hsame⟩ := X0.leave (v := some (.int (0 : Int32))) (fun h => by rw [Bd.returns] at h; cases h)
          refine ⟨_, _, P15 _ ?_, hrun, hended, _, _, rfl, ?_, ⟨_, rfl⟩, hW, hsame.mono (by decide) (by decide)⟩
          · exact retN X0 hx (t := .boolean) Bd.returns (by simp) (hb hby d1_41) hr
          · show Q_own_a Z p0 h0 n0 _ s₁.heap _
            rw [e0]
            exact ⟨by unfold own_a; rw [if_pos c2, if_pos c5, if_neg c8, if_pos c13], N0, rfl⟩
        · have P16 := own_step (C := s₁.setTop (mkF m 36 #[.val (.int p0)] [])) P12 (by
            intro tt_ kk_
            refine XS.icmpNo X0.here hx rfl (hb hby d1_33) rfl (flt c13).2.2.1 ?_
            exact kk_)
          have P17 := own_step (C := s₁.setTop (mkF m 41 #[.val (.int p0)] [(.int (1 : Int32))])) P16 (by
            intro tt_ kk_
            refine XS.iconst X0.here hx rfl (hb hby d1_36) ?_
            show Steps p.tables e below (s₁.setTop (mkF m 37 #[.val (.int p0)] [(.int (1 : Int32))])) _
            refine XS.goto X0.here hx rfl (pc0 := 37) (pc' := 41) rfl (hb hby d1_37) (by decide) (by decide) ?_
            exact kk_)
          obtain ⟨fs, hr, hrun, hended, hW, hsame⟩ := X0.leave (v := some (.int (1 : Int32))) (fun h => by rw [Bd.returns] at h; cases h)
          refine ⟨_, _, P17 _ ?_, hrun, hended, _, _, rfl, ?_, ⟨_, rfl⟩, hW, hsame.mono (by decide) (by decide)⟩
          · exact retN X0 hx (t := .boolean) Bd.returns (by simp) (hb hby d1_41) hr
          · show Q_own_a Z p0 h0 n0 _ s₁.heap _
            rw [e0]
            exact ⟨by unfold own_a; rw [if_pos c2, if_pos c5, if_neg c8, if_neg c13], N0, rfl⟩
    · have P18 := own_step (C := s₁.setTop (mkF m 18 #[.val (.int p0)] [])) P4 (by
        intro tt_ kk_
        refine XS.icmpNo X0.here hx rfl (hb hby d1_15) rfl (flt c5).1 ?_
        exact kk_)
      have P19 := own_step (C := s₁.setTop (mkF m 21 #[.val (.int p0)] [(.int (90 : Int32)), (.int p0)])) P18 (by
        intro tt_ kk_
        refine XS.iloadN X0.here hx rfl (hb hby d1_18) rfl ?_
        show Steps p.tables e below (s₁.setTop (mkF m 19 #[.val (.int p0)] [(.int p0)])) _
        refine XS.bipush X0.here hx rfl (hb hby d1_19) ?_
        exact kk_)
      by_cases c20 : (90 : Int32) < p0
      · have P21 := own_step (C := s₁.setTop (mkF m 24 #[.val (.int p0)] [])) P19 (by
          intro tt_ kk_
          refine XS.icmpNo X0.here hx rfl (hb hby d1_21) rfl (tlt c20).2.2.2 ?_
          exact kk_)
        have P22 := own_step (C := s₁.setTop (mkF m 27 #[.val (.int p0)] [(.int (48 : Int32)), (.int p0)])) P21 (by
          intro tt_ kk_
          refine XS.iloadN X0.here hx rfl (hb hby d1_24) rfl ?_
          show Steps p.tables e below (s₁.setTop (mkF m 25 #[.val (.int p0)] [(.int p0)])) _
          refine XS.bipush X0.here hx rfl (hb hby d1_25) ?_
          exact kk_)
        by_cases c23 : p0 < (48 : Int32)
        · have P24 := own_step (C := s₁.setTop (mkF m 40 #[.val (.int p0)] [])) P22 (by
            intro tt_ kk_
            refine XS.icmpYes X0.here hx rfl (pc0 := 27) (pc' := 40) rfl (hb hby d1_27) rfl (tlt c23).1 (by decide) (by decide) ?_
            exact kk_)
          have P25 := own_step (C := s₁.setTop (mkF m 41 #[.val (.int p0)] [(.int (0 : Int32))])) P24 (by
            intro tt_ kk_
            refine XS.iconst X0.here hx rfl (hb hby d1_40) ?_
            exact kk_)
          obtain ⟨fs, hr, hrun, hended, hW, hsame⟩ := X0.leave (v := some (.int (0 : Int32))) (fun h => by rw [Bd.returns] at h; cases h)
          refine ⟨_, _, P25 _ ?_, hrun, hended, _, _, rfl, ?_, ⟨_, rfl⟩, hW, hsame.mono (by decide) (by decide)⟩
          · exact retN X0 hx (t := .boolean) Bd.returns (by simp) (hb hby d1_41) hr
          · show Q_own_a Z p0 h0 n0 _ s₁.heap _
            rw [e0]
            exact ⟨by unfold own_a; rw [if_pos c2, if_neg c5, if_pos c20, if_pos c23], N0, rfl⟩
        · have P26 := own_step (C := s₁.setTop (mkF m 30 #[.val (.int p0)] [])) P22 (by
            intro tt_ kk_
            refine XS.icmpNo X0.here hx rfl (hb hby d1_27) rfl (flt c23).1 ?_
            exact kk_)
          have P27 := own_step (C := s₁.setTop (mkF m 33 #[.val (.int p0)] [(.int (57 : Int32)), (.int p0)])) P26 (by
            intro tt_ kk_
            refine XS.iloadN X0.here hx rfl (hb hby d1_30) rfl ?_
            show Steps p.tables e below (s₁.setTop (mkF m 31 #[.val (.int p0)] [(.int p0)])) _
            refine XS.bipush X0.here hx rfl (hb hby d1_31) ?_
            exact kk_)
          by_cases c28 : (57 : Int32) < p0
          · have P29 := own_step (C := s₁.setTop (mkF m 40 #[.val (.int p0)] [])) P27 (by
              intro tt_ kk_
              refine XS.icmpYes X0.here hx rfl (pc0 := 33) (pc' := 40) rfl (hb hby d1_33) rfl (tlt c28).2.2.1 (by decide) (by decide) ?_
              exact kk_)
            have P30 := own_step (C := s₁.setTop (mkF m 41 #[.val (.int p0)] [(.int (0 : Int32))])) P29 (by
              intro tt_ kk_
              refine XS.iconst X0.here hx rfl (hb hby d1_40) ?_
              exact kk_)
            obtain ⟨fs, hr, hrun, hended, hW, hsame⟩ := X0.leave (v := some (.int (0 : Int32))) (fun h => by rw [Bd.returns] at h; cases h)
            refine ⟨_, _, P30 _ ?_, hrun, hended, _, _, rfl, ?_, ⟨_, rfl⟩, hW, hsame.mono (by decide) (by decide)⟩
            · exact retN X0 hx (t := .boolean) Bd.returns (by simp) (hb hby d1_41) hr
            · show Q_own_a Z p0 h0 n0 _ s₁.heap _
              rw [e0]
              exact ⟨by unfold own_a; rw [if_pos c2, if_neg c5, if_pos c20, if_neg c23, if_pos c28], N0, rfl⟩
          · have P31 := own_step (C := s₁.setTop (mkF m 36 #[.val (.int p0)] [])) P27 (by
              intro tt_ kk_
              refine XS.icmpNo X0.here hx rfl (hb hby d1_33) rfl (flt c28).2.2.1 ?_
              exact kk_)
            have P32 := own_step (C := s₁.setTop (mkF m 41 #[.val (.int p0)] [(.int (1 : Int32))])) P31 (by
              intro tt_ kk_
              refine XS.iconst X0.here hx rfl (hb hby d1_36) ?_
              show Steps p.tables e below (s₁.setTop (mkF m 37 #[.val (.int p0)] [(.int (1 : Int32))])) _
              refine XS.goto X0.here hx rfl (pc0 := 37) (pc' := 41) rfl (hb hby d1_37) (by decide) (by decide) ?_
              exact kk_)
            obtain ⟨fs, hr, hrun, hended, hW, hsame⟩ := X0.leave (v := some (.int (1 : Int32))) (fun h => by rw [Bd.returns] at h; cases h)
            refine ⟨_, _, P32 _ ?_, hrun, hended, _, _, rfl, ?_, ⟨_, rfl⟩, hW, hsame.mono (by decide) (by decide)⟩
            · exact retN X0 hx (t := .boolean) Bd.returns (by simp) (hb hby d1_41) hr
            · show Q_own_a Z p0 h0 n0 _ s₁.heap _
              rw [e0]
              exact ⟨by unfold own_a; rw [if_pos c2, if_neg c5, if_pos c20, if_neg c23, if_neg c28], N0, rfl⟩
      · have P33 := own_step (C := s₁.setTop (mkF m 36 #[.val (.int p0)] [])) P19 (by
          intro tt_ kk_
          refine XS.icmpYes X0.here hx rfl (pc0 := 21) (pc' := 36) rfl (hb hby d1_21) rfl (flt c20).2.2.2 (by decide) (by decide) ?_
          exact kk_)
        have P34 := own_step (C := s₁.setTop (mkF m 41 #[.val (.int p0)] [(.int (1 : Int32))])) P33 (by
          intro tt_ kk_
          refine XS.iconst X0.here hx rfl (hb hby d1_36) ?_
          show Steps p.tables e below (s₁.setTop (mkF m 37 #[.val (.int p0)] [(.int (1 : Int32))])) _
          refine XS.goto X0.here hx rfl (pc0 := 37) (pc' := 41) rfl (hb hby d1_37) (by decide) (by decide) ?_
          exact kk_)
        obtain ⟨fs, hr, hrun, hended, hW, hsame⟩ := X0.leave (v := some (.int (1 : Int32))) (fun h => by rw [Bd.returns] at h; cases h)
        refine ⟨_, _, P34 _ ?_, hrun, hended, _, _, rfl, ?_, ⟨_, rfl⟩, hW, hsame.mono (by decide) (by decide)⟩
        · exact retN X0 hx (t := .boolean) Bd.returns (by simp) (hb hby d1_41) hr
        · show Q_own_a Z p0 h0 n0 _ s₁.heap _
          rw [e0]
          exact ⟨by unfold own_a; rw [if_pos c2, if_neg c5, if_neg c20], N0, rfl⟩
  · have P35 := own_step (C := s₁.setTop (mkF m 6 #[.val (.int p0)] [])) P1 (by
      intro tt_ kk_
      refine XS.icmpNo X0.here hx rfl (hb hby d1_3) rfl (flt c2).1 ?_
      exact kk_)
    have P36 := own_step (C := s₁.setTop (mkF m 9 #[.val (.int p0)] [(.int (122 : Int32)), (.int p0)])) P35 (by
      intro tt_ kk_
      refine XS.iloadN X0.here hx rfl (hb hby d1_6) rfl ?_
      show Steps p.tables e below (s₁.setTop (mkF m 7 #[.val (.int p0)] [(.int p0)])) _
      refine XS.bipush X0.here hx rfl (hb hby d1_7) ?_
      exact kk_)
    by_cases c37 : (122 : Int32) < p0
    · have P38 := own_step (C := s₁.setTop (mkF m 12 #[.val (.int p0)] [])) P36 (by
        intro tt_ kk_
        refine XS.icmpNo X0.here hx rfl (hb hby d1_9) rfl (tlt c37).2.2.2 ?_
        exact kk_)
      have P39 := own_step (C := s₁.setTop (mkF m 15 #[.val (.int p0)] [(.int (65 : Int32)), (.int p0)])) P38 (by
        intro tt_ kk_
        refine XS.iloadN X0.here hx rfl (hb hby d1_12) rfl ?_
        show Steps p.tables e below (s₁.setTop (mkF m 13 #[.val (.int p0)] [(.int p0)])) _
        refine XS.bipush X0.here hx rfl (hb hby d1_13) ?_
        exact kk_)
      by_cases c40 : p0 < (65 : Int32)
      · have P41 := own_step (C := s₁.setTop (mkF m 24 #[.val (.int p0)] [])) P39 (by
          intro tt_ kk_
          refine XS.icmpYes X0.here hx rfl (pc0 := 15) (pc' := 24) rfl (hb hby d1_15) rfl (tlt c40).1 (by decide) (by decide) ?_
          exact kk_)
        have P42 := own_step (C := s₁.setTop (mkF m 27 #[.val (.int p0)] [(.int (48 : Int32)), (.int p0)])) P41 (by
          intro tt_ kk_
          refine XS.iloadN X0.here hx rfl (hb hby d1_24) rfl ?_
          show Steps p.tables e below (s₁.setTop (mkF m 25 #[.val (.int p0)] [(.int p0)])) _
          refine XS.bipush X0.here hx rfl (hb hby d1_25) ?_
          exact kk_)
        by_cases c43 : p0 < (48 : Int32)
        · have P44 := own_step (C := s₁.setTop (mkF m 40 #[.val (.int p0)] [])) P42 (by
            intro tt_ kk_
            refine XS.icmpYes X0.here hx rfl (pc0 := 27) (pc' := 40) rfl (hb hby d1_27) rfl (tlt c43).1 (by decide) (by decide) ?_
            exact kk_)
          have P45 := own_step (C := s₁.setTop (mkF m 41 #[.val (.int p0)] [(.int (0 : Int32))])) P44 (by
            intro tt_ kk_
            refine XS.iconst X0.here hx rfl (hb hby d1_40) ?_
            exact kk_)
          obtain ⟨fs, hr, hrun, hended, hW, hsame⟩ := X0.leave (v := some (.int (0 : Int32))) (fun h => by rw [Bd.returns] at h; cases h)
          refine ⟨_, _, P45 _ ?_, hrun, hended, _, _, rfl, ?_, ⟨_, rfl⟩, hW, hsame.mono (by decide) (by decide)⟩
          · exact retN X0 hx (t := .boolean) Bd.returns (by simp) (hb hby d1_41) hr
          · show Q_own_a Z p0 h0 n0 _ s₁.heap _
            rw [e0]
            exact ⟨by unfold own_a; rw [if_neg c2, if_pos c37, if_pos c40, if_pos c43], N0, rfl⟩
        · have P46 := own_step (C := s₁.setTop (mkF m 30 #[.val (.int p0)] [])) P42 (by
            intro tt_ kk_
            refine XS.icmpNo X0.here hx rfl (hb hby d1_27) rfl (flt c43).1 ?_
            exact kk_)
          have P47 := own_step (C := s₁.setTop (mkF m 33 #[.val (.int p0)] [(.int (57 : Int32)), (.int p0)])) P46 (by
            intro tt_ kk_
            refine XS.iloadN X0.here hx rfl (hb hby d1_30) rfl ?_
            show Steps p.tables e below (s₁.setTop (mkF m 31 #[.val (.int p0)] [(.int p0)])) _
            refine XS.bipush X0.here hx rfl (hb hby d1_31) ?_
            exact kk_)
          by_cases c48 : (57 : Int32) < p0
          · have P49 := own_step (C := s₁.setTop (mkF m 40 #[.val (.int p0)] [])) P47 (by
              intro tt_ kk_
              refine XS.icmpYes X0.here hx rfl (pc0 := 33) (pc' := 40) rfl (hb hby d1_33) rfl (tlt c48).2.2.1 (by decide) (by decide) ?_
              exact kk_)
            have P50 := own_step (C := s₁.setTop (mkF m 41 #[.val (.int p0)] [(.int (0 : Int32))])) P49 (by
              intro tt_ kk_
              refine XS.iconst X0.here hx rfl (hb hby d1_40) ?_
              exact kk_)
            obtain ⟨fs, hr, hrun, hended, hW, hsame⟩ := X0.leave (v := some (.int (0 : Int32))) (fun h => by rw [Bd.returns] at h; cases h)
            refine ⟨_, _, P50 _ ?_, hrun, hended, _, _, rfl, ?_, ⟨_, rfl⟩, hW, hsame.mono (by decide) (by decide)⟩
            · exact retN X0 hx (t := .boolean) Bd.returns (by simp) (hb hby d1_41) hr
            · show Q_own_a Z p0 h0 n0 _ s₁.heap _
              rw [e0]
              exact ⟨by unfold own_a; rw [if_neg c2, if_pos c37, if_pos c40, if_neg c43, if_pos c48], N0, rfl⟩
          · have P51 := own_step (C := s₁.setTop (mkF m 36 #[.val (.int p0)] [])) P47 (by
              intro tt_ kk_
              refine XS.icmpNo X0.here hx rfl (hb hby d1_33) rfl (flt c48).2.2.1 ?_
              exact kk_)
            have P52 := own_step (C := s₁.setTop (mkF m 41 #[.val (.int p0)] [(.int (1 : Int32))])) P51 (by
              intro tt_ kk_
              refine XS.iconst X0.here hx rfl (hb hby d1_36) ?_
              show Steps p.tables e below (s₁.setTop (mkF m 37 #[.val (.int p0)] [(.int (1 : Int32))])) _
              refine XS.goto X0.here hx rfl (pc0 := 37) (pc' := 41) rfl (hb hby d1_37) (by decide) (by decide) ?_
              exact kk_)
            obtain ⟨fs, hr, hrun, hended, hW, hsame⟩ := X0.leave (v := some (.int (1 : Int32))) (fun h => by rw [Bd.returns] at h; cases h)
            refine ⟨_, _, P52 _ ?_, hrun, hended, _, _, rfl, ?_, ⟨_, rfl⟩, hW, hsame.mono (by decide) (by decide)⟩
            · exact retN X0 hx (t := .boolean) Bd.returns (by simp) (hb hby d1_41) hr
            · show Q_own_a Z p0 h0 n0 _ s₁.heap _
              rw [e0]
              exact ⟨by unfold own_a; rw [if_neg c2, if_pos c37, if_pos c40, if_neg c43, if_neg c48], N0, rfl⟩
      · have P53 := own_step (C := s₁.setTop (mkF m 18 #[.val (.int p0)] [])) P39 (by
          intro tt_ kk_
          refine XS.icmpNo X0.here hx rfl (hb hby d1_15) rfl (flt c40).1 ?_
          exact kk_)
        have P54 := own_step (C := s₁.setTop (mkF m 21 #[.val (.int p0)] [(.int (90 : Int32)), (.int p0)])) P53 (by
          intro tt_ kk_
          refine XS.iloadN X0.here hx rfl (hb hby d1_18) rfl ?_
          show Steps p.tables e below (s₁.setTop (mkF m 19 #[.val (.int p0)] [(.int p0)])) _
          refine XS.bipush X0.here hx rfl (hb hby d1_19) ?_
          exact kk_)
        by_cases c55 : (90 : Int32) < p0
        · have P56 := own_step (C := s₁.setTop (mkF m 24 #[.val (.int p0)] [])) P54 (by
            intro tt_ kk_
            refine XS.icmpNo X0.here hx rfl (hb hby d1_21) rfl (tlt c55).2.2.2 ?_
            exact kk_)
          have P57 := own_step (C := s₁.setTop (mkF m 27 #[.val (.int p0)] [(.int (48 : Int32)), (.int p0)])) P56 (by
            intro tt_ kk_
            refine XS.iloadN X0.here hx rfl (hb hby d1_24) rfl ?_
            show Steps p.tables e below (s₁.setTop (mkF m 25 #[.val (.int p0)] [(.int p0)])) _
            refine XS.bipush X0.here hx rfl (hb hby d1_25) ?_
            exact kk_)
          by_cases c58 : p0 < (48 : Int32)
          · have P59 := own_step (C := s₁.setTop (mkF m 40 #[.val (.int p0)] [])) P57 (by
              intro tt_ kk_
              refine XS.icmpYes X0.here hx rfl (pc0 := 27) (pc' := 40) rfl (hb hby d1_27) rfl (tlt c58).1 (by decide) (by decide) ?_
              exact kk_)
            have P60 := own_step (C := s₁.setTop (mkF m 41 #[.val (.int p0)] [(.int (0 : Int32))])) P59 (by
              intro tt_ kk_
              refine XS.iconst X0.here hx rfl (hb hby d1_40) ?_
              exact kk_)
            obtain ⟨fs, hr, hrun, hended, hW, hsame⟩ := X0.leave (v := some (.int (0 : Int32))) (fun h => by rw [Bd.returns] at h; cases h)
            refine ⟨_, _, P60 _ ?_, hrun, hended, _, _, rfl, ?_, ⟨_, rfl⟩, hW, hsame.mono (by decide) (by decide)⟩
            · exact retN X0 hx (t := .boolean) Bd.returns (by simp) (hb hby d1_41) hr
            · show Q_own_a Z p0 h0 n0 _ s₁.heap _
              rw [e0]
              exact ⟨by unfold own_a; rw [if_neg c2, if_pos c37, if_neg c40, if_pos c55, if_pos c58], N0, rfl⟩
          · have P61 := own_step (C := s₁.setTop (mkF m 30 #[.val (.int p0)] [])) P57 (by
              intro tt_ kk_
              refine XS.icmpNo X0.here hx rfl (hb hby d1_27) rfl (flt c58).1 ?_
              exact kk_)
            have P62 := own_step (C := s₁.setTop (mkF m 33 #[.val (.int p0)] [(.int (57 : Int32)), (.int p0)])) P61 (by
              intro tt_ kk_
              refine XS.iloadN X0.here hx rfl (hb hby d1_30) rfl ?_
              show Steps p.tables e below (s₁.setTop (mkF m 31 #[.val (.int p0)] [(.int p0)])) _
              refine XS.bipush X0.here hx rfl (hb hby d1_31) ?_
              exact kk_)
            by_cases c63 : (57 : Int32) < p0
            · have P64 := own_step (C := s₁.setTop (mkF m 40 #[.val (.int p0)] [])) P62 (by
                intro tt_ kk_
                refine XS.icmpYes X0.here hx rfl (pc0 := 33) (pc' := 40) rfl (hb hby d1_33) rfl (tlt c63).2.2.1 (by decide) (by decide) ?_
                exact kk_)
              have P65 := own_step (C := s₁.setTop (mkF m 41 #[.val (.int p0)] [(.int (0 : Int32))])) P64 (by
                intro tt_ kk_
                refine XS.iconst X0.here hx rfl (hb hby d1_40) ?_
                exact kk_)
              obtain ⟨fs, hr, hrun, hended, hW, hsame⟩ := X0.leave (v := some (.int (0 : Int32))) (fun h => by rw [Bd.returns] at h; cases h)
              refine ⟨_, _, P65 _ ?_, hrun, hended, _, _, rfl, ?_, ⟨_, rfl⟩, hW, hsame.mono (by decide) (by decide)⟩
              · exact retN X0 hx (t := .boolean) Bd.returns (by simp) (hb hby d1_41) hr
              · show Q_own_a Z p0 h0 n0 _ s₁.heap _
                rw [e0]
                exact ⟨by unfold own_a; rw [if_neg c2, if_pos c37, if_neg c40, if_pos c55, if_neg c58, if_pos c63], N0, rfl⟩
            · have P66 := own_step (C := s₁.setTop (mkF m 36 #[.val (.int p0)] [])) P62 (by
                intro tt_ kk_
                refine XS.icmpNo X0.here hx rfl (hb hby d1_33) rfl (flt c63).2.2.1 ?_
                exact kk_)
              have P67 := own_step (C := s₁.setTop (mkF m 41 #[.val (.int p0)] [(.int (1 : Int32))])) P66 (by
                intro tt_ kk_
                refine XS.iconst X0.here hx rfl (hb hby d1_36) ?_
                show Steps p.tables e below (s₁.setTop (mkF m 37 #[.val (.int p0)] [(.int (1 : Int32))])) _
                refine XS.goto X0.here hx rfl (pc0 := 37) (pc' := 41) rfl (hb hby d1_37) (by decide) (by decide) ?_
                exact kk_)
              obtain ⟨fs, hr, hrun, hended, hW, hsame⟩ := X0.leave (v := some (.int (1 : Int32))) (fun h => by rw [Bd.returns] at h; cases h)
              refine ⟨_, _, P67 _ ?_, hrun, hended, _, _, rfl, ?_, ⟨_, rfl⟩, hW, hsame.mono (by decide) (by decide)⟩
              · exact retN X0 hx (t := .boolean) Bd.returns (by simp) (hb hby d1_41) hr
              · show Q_own_a Z p0 h0 n0 _ s₁.heap _
                rw [e0]
                exact ⟨by unfold own_a; rw [if_neg c2, if_pos c37, if_neg c40, if_pos c55, if_neg c58, if_neg c63], N0, rfl⟩
        · have P68 := own_step (C := s₁.setTop (mkF m 36 #[.val (.int p0)] [])) P54 (by
            intro tt_ kk_
            refine XS.icmpYes X0.here hx rfl (pc0 := 21) (pc' := 36) rfl (hb hby d1_21) rfl (flt c55).2.2.2 (by decide) (by decide) ?_
            exact kk_)
          have P69 := own_step (C := s₁.setTop (mkF m 41 #[.val (.int p0)] [(.int (1 : Int32))])) P68 (by
            intro tt_ kk_
            refine XS.iconst X0.here hx rfl (hb hby d1_36) ?_
            show Steps p.tables e below (s₁.setTop (mkF m 37 #[.val (.int p0)] [(.int (1 : Int32))])) _
            refine XS.goto X0.here hx rfl (pc0 := 37) (pc' := 41) rfl (hb hby d1_37) (by decide) (by decide) ?_
            exact kk_)
          obtain ⟨fs, hr, hrun, hended, hW, hsame⟩ := X0.leave (v := some (.int (1 : Int32))) (fun h => by rw [Bd.returns] at h; cases h)
          refine ⟨_, _, P69 _ ?_, hrun, hended, _, _, rfl, ?_, ⟨_, rfl⟩, hW, hsame.mono (by decide) (by decide)⟩
          · exact retN X0 hx (t := .boolean) Bd.returns (by simp) (hb hby d1_41) hr
          · show Q_own_a Z p0 h0 n0 _ s₁.heap _
            rw [e0]
            exact ⟨by unfold own_a; rw [if_neg c2, if_pos c37, if_neg c40, if_neg c55], N0, rfl⟩
    · have P70 := own_step (C := s₁.setTop (mkF m 36 #[.val (.int p0)] [])) P36 (by
        intro tt_ kk_
        refine XS.icmpYes X0.here hx rfl (pc0 := 9) (pc' := 36) rfl (hb hby d1_9) rfl (flt c37).2.2.2 (by decide) (by decide) ?_
        exact kk_)
      have P71 := own_step (C := s₁.setTop (mkF m 41 #[.val (.int p0)] [(.int (1 : Int32))])) P70 (by
        intro tt_ kk_
        refine XS.iconst X0.here hx rfl (hb hby d1_36) ?_
        show Steps p.tables e below (s₁.setTop (mkF m 37 #[.val (.int p0)] [(.int (1 : Int32))])) _
        refine XS.goto X0.here hx rfl (pc0 := 37) (pc' := 41) rfl (hb hby d1_37) (by decide) (by decide) ?_
        exact kk_)
      obtain ⟨fs, hr, hrun, hended, hW, hsame⟩ := X0.leave (v := some (.int (1 : Int32))) (fun h => by rw [Bd.returns] at h; cases h)
      refine ⟨_, _, P71 _ ?_, hrun, hended, _, _, rfl, ?_, ⟨_, rfl⟩, hW, hsame.mono (by decide) (by decide)⟩
      · exact retN X0 hx (t := .boolean) Bd.returns (by simp) (hb hby d1_41) hr
      · show Q_own_a Z p0 h0 n0 _ s₁.heap _
        rw [e0]
        exact ⟨by unfold own_a; rw [if_neg c2, if_neg c37], N0, rfl⟩
def own_b (p0 : Int32) : Int32 := (if p0 < (48 : Int32) then (if (p0 ||| (32 : Int32)) < (97 : Int32) then (0 : Int32) else (if (122 : Int32) < (p0 ||| (32 : Int32)) then (0 : Int32) else (1 : Int32))) else (if (57 : Int32) < p0 then (if (p0 ||| (32 : Int32)) < (97 : Int32) then (0 : Int32) else (if (122 : Int32) < (p0 ||| (32 : Int32)) then (0 : Int32) else (1 : Int32))) else (if (p0 ||| (32 : Int32)) < (97 : Int32) then (1 : Int32) else (if (122 : Int32) < (p0 ||| (32 : Int32)) then (1 : Int32) else (1 : Int32)))))
theorem d2_0 : decode method_2_code 0 = .ok (.iload_n 0, 1) := by decide +kernel
theorem d2_1 : decode method_2_code 1 = .ok (.bipush 48, 2) := by decide +kernel
theorem d2_3 : decode method_2_code 3 = .ok (.if_icmp .lt 13, 3) := by decide +kernel
theorem d2_6 : decode method_2_code 6 = .ok (.iload_n 0, 1) := by decide +kernel
theorem d2_7 : decode method_2_code 7 = .ok (.bipush 57, 2) := by decide +kernel
theorem d2_9 : decode method_2_code 9 = .ok (.if_icmp .gt 7, 3) := by decide +kernel
theorem d2_12 : decode method_2_code 12 = .ok (.iconst 1, 1) := by decide +kernel
theorem d2_13 : decode method_2_code 13 = .ok (.goto 4, 3) := by decide +kernel
theorem d2_16 : decode method_2_code 16 = .ok (.iconst 0, 1) := by decide +kernel
theorem d2_17 : decode method_2_code 17 = .ok (.istore_n 1, 1) := by decide +kernel
theorem d2_18 : decode method_2_code 18 = .ok (.iload_n 0, 1) := by decide +kernel
theorem d2_19 : decode method_2_code 19 = .ok (.bipush 32, 2) := by decide +kernel
theorem d2_21 : decode method_2_code 21 = .ok (.ior, 1) := by decide +kernel
theorem d2_22 : decode method_2_code 22 = .ok (.istore_n 2, 1) := by decide +kernel
theorem d2_23 : decode method_2_code 23 = .ok (.iload_n 2, 1) := by decide +kernel
theorem d2_24 : decode method_2_code 24 = .ok (.bipush 97, 2) := by decide +kernel
theorem d2_26 : decode method_2_code 26 = .ok (.if_icmp .lt 13, 3) := by decide +kernel
theorem d2_29 : decode method_2_code 29 = .ok (.iload_n 2, 1) := by decide +kernel
theorem d2_30 : decode method_2_code 30 = .ok (.bipush 122, 2) := by decide +kernel
theorem d2_32 : decode method_2_code 32 = .ok (.if_icmp .gt 7, 3) := by decide +kernel
theorem d2_35 : decode method_2_code 35 = .ok (.iconst 1, 1) := by decide +kernel
theorem d2_36 : decode method_2_code 36 = .ok (.goto 4, 3) := by decide +kernel
theorem d2_39 : decode method_2_code 39 = .ok (.iconst 0, 1) := by decide +kernel
theorem d2_40 : decode method_2_code 40 = .ok (.istore_n 3, 1) := by decide +kernel
theorem d2_41 : decode method_2_code 41 = .ok (.iload_n 1, 1) := by decide +kernel
theorem d2_42 : decode method_2_code 42 = .ok (.ifCond .ne 7, 3) := by decide +kernel
theorem d2_45 : decode method_2_code 45 = .ok (.iload_n 3, 1) := by decide +kernel
theorem d2_46 : decode method_2_code 46 = .ok (.ifCond .eq 7, 3) := by decide +kernel
theorem d2_49 : decode method_2_code 49 = .ok (.iconst 1, 1) := by decide +kernel
theorem d2_50 : decode method_2_code 50 = .ok (.goto 4, 3) := by decide +kernel
theorem d2_53 : decode method_2_code 53 = .ok (.iconst 0, 1) := by decide +kernel
theorem d2_54 : decode method_2_code 54 = .ok (.ireturn, 1) := by decide +kernel
theorem ef__own_b (m : MethodId) (x0 : Int32) : entryFrame m #[(.int x0)] 4 = mkF m 0 #[.val (.int x0), .unset, .unset, .unset] [] := by first | (simp [entryFrame, mkF, argsToLocals, Value.category]; done) | rfl
def Q_own_b (Z : State) (p0 : Int32) (h0 : Heap) (n0 : Nat) (v_ : Option Value) (h : Heap) (L_ : List Loc) : Prop := v_ = some (.int (own_b p0)) ∧ Fr n0 L_ ∧ h = h0
theorem pn1 : plainName "com/example/gatehouse/gatehouse/pattern/CharacterClassesIsAsciiLetterOrDigitPinLaw" = true := by first | (simp [plainName, overriddenIn]; done) | decide +kernel
set_option maxRecDepth 65536 in
set_option maxHeartbeats 40000000 in
theorem rm_own_b (l : Launch) (Z : State) (a0 : Array Value) (hw : ∀ d ∈ tables_1, d.before a0 Z = true) (ws : List Jvm.Cond) (p0 : Int32) (h0 : Heap) (n0 : Nat) (Z0 : n0 ≤ h0.size) :
    MetFree l (⟨"com/example/gatehouse/gatehouse/pattern/CharacterClassesIsAsciiLetterOrDigitPinLaw", "reference", "(I)Z"⟩ : MethodName) (head1 (Jvm.Cond.code (⟨"com/example/gatehouse/gatehouse/pattern/CharacterClassesIsAsciiLetterOrDigitPinLaw", "reference", "(I)Z"⟩ : MethodName) method_2_code 4 (some .boolean) :: ws) ({ frames := 0, cells := 0, slots := 0, locals := 0 } : Room)) (fun a_ U_ => a_ = #[(.int p0)] ∧ Z.Warmed39 U_.vm ∧ U_.heap = h0) (fun _ _ _ _ _ => True) (fun _ U_ o_ V_ => ∃ v_ L_, o_ = .returned v_ ∧ Q_own_b Z p0 h0 n0 v_ V_.heap L_ ∧ FrameEnd U_ o_ V_ L_ ({ frames := 0, cells := 0, slots := 0, locals := 0 } : Room).cells ({ frames := 0, cells := 0, slots := 0, locals := 0 } : Room).slots) := by
  refine MetFree.of_bodySF (plainFor_of_name pn1) hisR ?_
  intro p e s m args below meth c s₁ Bd hml0 hP hK
  obtain ⟨rfl, hZ, hh⟩ := hP
  have hx := Bd.exec
  have hby := Bd.bytes
  have hml : c.maxLocals = 4 := hml0
  have hown : s.vm.findClass "com/example/gatehouse/gatehouse/pattern/CharacterClassesIsAsciiLetterOrDigitPinLaw" = some m.cls := findClass_of_methodNamed Bd.named
  have hnm := (name_of_methodNamed Bd.named Bd.method).1
  have X0 : Stand p l e ({ frames := 0, cells := 0, slots := 0, locals := 0 } : Room) s m #[(.int p0)] below meth c s₁ [] 0 0 := Stand.of_body Bd
  have e0 : s₁.heap = h0 := by rw [← hh, Bd.state]; rfl
  have N0 := Fr.nil n0
  have pre0 : own_Go p e below (s₁.setTop (entryFrame m #[(.int p0)] 4)) (s₁.setTop (mkF m 0 #[.val (.int p0), .unset, .unset, .unset] [])) := fun t_ k_ => castTop (ef__own_b m p0) k_
  have P1 := own_step (C := s₁.setTop (mkF m 3 #[.val (.int p0), .unset, .unset, .unset] [(.int (48 : Int32)), (.int p0)])) pre0 (by
    intro tt_ kk_
    refine XS.iloadN X0.here hx rfl (hb hby d2_0) rfl ?_
    show Steps p.tables e below (s₁.setTop (mkF m 1 #[.val (.int p0), .unset, .unset, .unset] [(.int p0)])) _
    refine XS.bipush X0.here hx rfl (hb hby d2_1) ?_
    exact kk_)
  by_cases c2 : p0 < (48 : Int32)
  · have P3 := own_step (C := s₁.setTop (mkF m 16 #[.val (.int p0), .unset, .unset, .unset] [])) P1 (by
      intro tt_ kk_
      refine XS.icmpYes X0.here hx rfl (pc0 := 3) (pc' := 16) rfl (hb hby d2_3) rfl (tlt c2).1 (by decide) (by decide) ?_
      exact kk_)
    have P4 := own_step (C := s₁.setTop (mkF m 26 #[.val (.int p0), .val (.int (0 : Int32)), .val (.int (p0 ||| (32 : Int32))), .unset] [(.int (97 : Int32)), (.int (p0 ||| (32 : Int32)))])) P3 (by
      intro tt_ kk_
      refine XS.iconst X0.here hx rfl (hb hby d2_16) ?_
      show Steps p.tables e below (s₁.setTop (mkF m 17 #[.val (.int p0), .unset, .unset, .unset] [(.int (0 : Int32))])) _
      refine XS.istoreN X0.here hx rfl (hb hby d2_17) rfl (l' := #[.val (.int p0), .val (.int (0 : Int32)), .unset, .unset]) rfl ?_
      show Steps p.tables e below (s₁.setTop (mkF m 18 #[.val (.int p0), .val (.int (0 : Int32)), .unset, .unset] [])) _
      refine XS.iloadN X0.here hx rfl (hb hby d2_18) rfl ?_
      show Steps p.tables e below (s₁.setTop (mkF m 19 #[.val (.int p0), .val (.int (0 : Int32)), .unset, .unset] [(.int p0)])) _
      refine XS.bipush X0.here hx rfl (hb hby d2_19) ?_
      show Steps p.tables e below (s₁.setTop (mkF m 21 #[.val (.int p0), .val (.int (0 : Int32)), .unset, .unset] [(.int (32 : Int32)), (.int p0)])) _
      refine XS.ior X0.here hx rfl (hb hby d2_21) rfl ?_
      show Steps p.tables e below (s₁.setTop (mkF m 22 #[.val (.int p0), .val (.int (0 : Int32)), .unset, .unset] [(.int (p0 ||| (32 : Int32)))])) _
      refine XS.istoreN X0.here hx rfl (hb hby d2_22) rfl (l' := #[.val (.int p0), .val (.int (0 : Int32)), .val (.int (p0 ||| (32 : Int32))), .unset]) rfl ?_
      show Steps p.tables e below (s₁.setTop (mkF m 23 #[.val (.int p0), .val (.int (0 : Int32)), .val (.int (p0 ||| (32 : Int32))), .unset] [])) _
      refine XS.iloadN X0.here hx rfl (hb hby d2_23) rfl ?_
      show Steps p.tables e below (s₁.setTop (mkF m 24 #[.val (.int p0), .val (.int (0 : Int32)), .val (.int (p0 ||| (32 : Int32))), .unset] [(.int (p0 ||| (32 : Int32)))])) _
      refine XS.bipush X0.here hx rfl (hb hby d2_24) ?_
      exact kk_)
    by_cases c5 : (p0 ||| (32 : Int32)) < (97 : Int32)
    · have P6 := own_step (C := s₁.setTop (mkF m 39 #[.val (.int p0), .val (.int (0 : Int32)), .val (.int (p0 ||| (32 : Int32))), .unset] [])) P4 (by
        intro tt_ kk_
        refine XS.icmpYes X0.here hx rfl (pc0 := 26) (pc' := 39) rfl (hb hby d2_26) rfl (tlt c5).1 (by decide) (by decide) ?_
        exact kk_)
      have P7 := own_step (C := s₁.setTop (mkF m 42 #[.val (.int p0), .val (.int (0 : Int32)), .val (.int (p0 ||| (32 : Int32))), .val (.int (0 : Int32))] [(.int (0 : Int32))])) P6 (by
        intro tt_ kk_
        refine XS.iconst X0.here hx rfl (hb hby d2_39) ?_
        show Steps p.tables e below (s₁.setTop (mkF m 40 #[.val (.int p0), .val (.int (0 : Int32)), .val (.int (p0 ||| (32 : Int32))), .unset] [(.int (0 : Int32))])) _
        refine XS.istoreN X0.here hx rfl (hb hby d2_40) rfl (l' := #[.val (.int p0), .val (.int (0 : Int32)), .val (.int (p0 ||| (32 : Int32))), .val (.int (0 : Int32))]) rfl ?_
        show Steps p.tables e below (s₁.setTop (mkF m 41 #[.val (.int p0), .val (.int (0 : Int32)), .val (.int (p0 ||| (32 : Int32))), .val (.int (0 : Int32))] [])) _
        refine XS.iloadN X0.here hx rfl (hb hby d2_41) rfl ?_
        exact kk_)
      have P8 := own_step (C := s₁.setTop (mkF m 45 #[.val (.int p0), .val (.int (0 : Int32)), .val (.int (p0 ||| (32 : Int32))), .val (.int (0 : Int32))] [])) P7 (by
        intro tt_ kk_
        refine XS.ifNo X0.here hx rfl (hb hby d2_42) rfl ((if0 _ _).trans (teq (by decide : (0 : Int32) = (0 : Int32))).2) ?_
        exact kk_)
      have P9 := own_step (C := s₁.setTop (mkF m 46 #[.val (.int p0), .val (.int (0 : Int32)), .val (.int (p0 ||| (32 : Int32))), .val (.int (0 : Int32))] [(.int (0 : Int32))])) P8 (by
        intro tt_ kk_
        refine XS.iloadN X0.here hx rfl (hb hby d2_45) rfl ?_
        exact kk_)
      have P10 := own_step (C := s₁.setTop (mkF m 53 #[.val (.int p0), .val (.int (0 : Int32)), .val (.int (p0 ||| (32 : Int32))), .val (.int (0 : Int32))] [])) P9 (by
        intro tt_ kk_
        refine XS.ifYes X0.here hx rfl (pc0 := 46) (pc' := 53) rfl (hb hby d2_46) rfl ((if0 _ _).trans (teq (by decide : (0 : Int32) = (0 : Int32))).1) (by decide) (by decide) ?_
        exact kk_)
      have P11 := own_step (C := s₁.setTop (mkF m 54 #[.val (.int p0), .val (.int (0 : Int32)), .val (.int (p0 ||| (32 : Int32))), .val (.int (0 : Int32))] [(.int (0 : Int32))])) P10 (by
        intro tt_ kk_
        refine XS.iconst X0.here hx rfl (hb hby d2_53) ?_
        exact kk_)
      obtain ⟨fs, hr, hrun, hended, hW, hsame⟩ := X0.leave (v := some (.int (0 : Int32))) (fun h => by rw [Bd.returns] at h; cases h)
      refine ⟨_, _, P11 _ ?_, hrun, hended, _, _, rfl, ?_, ⟨_, rfl⟩, hW, hsame.mono (by decide) (by decide)⟩
      · exact retN X0 hx (t := .boolean) Bd.returns (by simp) (hb hby d2_54) hr
      · show Q_own_b Z p0 h0 n0 _ s₁.heap _
        rw [e0]
        exact ⟨by unfold own_b; rw [if_pos c2, if_pos c5], N0, rfl⟩
    · have P12 := own_step (C := s₁.setTop (mkF m 29 #[.val (.int p0), .val (.int (0 : Int32)), .val (.int (p0 ||| (32 : Int32))), .unset] [])) P4 (by
        intro tt_ kk_
        refine XS.icmpNo X0.here hx rfl (hb hby d2_26) rfl (flt c5).1 ?_
        exact kk_)
      have P13 := own_step (C := s₁.setTop (mkF m 32 #[.val (.int p0), .val (.int (0 : Int32)), .val (.int (p0 ||| (32 : Int32))), .unset] [(.int (122 : Int32)), (.int (p0 ||| (32 : Int32)))])) P12 (by
        intro tt_ kk_
        refine XS.iloadN X0.here hx rfl (hb hby d2_29) rfl ?_
        show Steps p.tables e below (s₁.setTop (mkF m 30 #[.val (.int p0), .val (.int (0 : Int32)), .val (.int (p0 ||| (32 : Int32))), .unset] [(.int (p0 ||| (32 : Int32)))])) _
        refine XS.bipush X0.here hx rfl (hb hby d2_30) ?_
        exact kk_)
      by_cases c14 : (122 : Int32) < (p0 ||| (32 : Int32))
      · have P15 := own_step (C := s₁.setTop (mkF m 39 #[.val (.int p0), .val (.int (0 : Int32)), .val (.int (p0 ||| (32 : Int32))), .unset] [])) P13 (by
          intro tt_ kk_
          refine XS.icmpYes X0.here hx rfl (pc0 := 32) (pc' := 39) rfl (hb hby d2_32) rfl (tlt c14).2.2.1 (by decide) (by decide) ?_
          exact kk_)
        have P16 := own_step (C := s₁.setTop (mkF m 42 #[.val (.int p0), .val (.int (0 : Int32)), .val (.int (p0 ||| (32 : Int32))), .val (.int (0 : Int32))] [(.int (0 : Int32))])) P15 (by
          intro tt_ kk_
          refine XS.iconst X0.here hx rfl (hb hby d2_39) ?_
          show Steps p.tables e below (s₁.setTop (mkF m 40 #[.val (.int p0), .val (.int (0 : Int32)), .val (.int (p0 ||| (32 : Int32))), .unset] [(.int (0 : Int32))])) _
          refine XS.istoreN X0.here hx rfl (hb hby d2_40) rfl (l' := #[.val (.int p0), .val (.int (0 : Int32)), .val (.int (p0 ||| (32 : Int32))), .val (.int (0 : Int32))]) rfl ?_
          show Steps p.tables e below (s₁.setTop (mkF m 41 #[.val (.int p0), .val (.int (0 : Int32)), .val (.int (p0 ||| (32 : Int32))), .val (.int (0 : Int32))] [])) _
          refine XS.iloadN X0.here hx rfl (hb hby d2_41) rfl ?_
          exact kk_)
        have P17 := own_step (C := s₁.setTop (mkF m 45 #[.val (.int p0), .val (.int (0 : Int32)), .val (.int (p0 ||| (32 : Int32))), .val (.int (0 : Int32))] [])) P16 (by
          intro tt_ kk_
          refine XS.ifNo X0.here hx rfl (hb hby d2_42) rfl ((if0 _ _).trans (teq (by decide : (0 : Int32) = (0 : Int32))).2) ?_
          exact kk_)
        have P18 := own_step (C := s₁.setTop (mkF m 46 #[.val (.int p0), .val (.int (0 : Int32)), .val (.int (p0 ||| (32 : Int32))), .val (.int (0 : Int32))] [(.int (0 : Int32))])) P17 (by
          intro tt_ kk_
          refine XS.iloadN X0.here hx rfl (hb hby d2_45) rfl ?_
          exact kk_)
        have P19 := own_step (C := s₁.setTop (mkF m 53 #[.val (.int p0), .val (.int (0 : Int32)), .val (.int (p0 ||| (32 : Int32))), .val (.int (0 : Int32))] [])) P18 (by
          intro tt_ kk_
          refine XS.ifYes X0.here hx rfl (pc0 := 46) (pc' := 53) rfl (hb hby d2_46) rfl ((if0 _ _).trans (teq (by decide : (0 : Int32) = (0 : Int32))).1) (by decide) (by decide) ?_
          exact kk_)
        have P20 := own_step (C := s₁.setTop (mkF m 54 #[.val (.int p0), .val (.int (0 : Int32)), .val (.int (p0 ||| (32 : Int32))), .val (.int (0 : Int32))] [(.int (0 : Int32))])) P19 (by
          intro tt_ kk_
          refine XS.iconst X0.here hx rfl (hb hby d2_53) ?_
          exact kk_)
        obtain ⟨fs, hr, hrun, hended, hW, hsame⟩ := X0.leave (v := some (.int (0 : Int32))) (fun h => by rw [Bd.returns] at h; cases h)
        refine ⟨_, _, P20 _ ?_, hrun, hended, _, _, rfl, ?_, ⟨_, rfl⟩, hW, hsame.mono (by decide) (by decide)⟩
        · exact retN X0 hx (t := .boolean) Bd.returns (by simp) (hb hby d2_54) hr
        · show Q_own_b Z p0 h0 n0 _ s₁.heap _
          rw [e0]
          exact ⟨by unfold own_b; rw [if_pos c2, if_neg c5, if_pos c14], N0, rfl⟩
      · have P21 := own_step (C := s₁.setTop (mkF m 35 #[.val (.int p0), .val (.int (0 : Int32)), .val (.int (p0 ||| (32 : Int32))), .unset] [])) P13 (by
          intro tt_ kk_
          refine XS.icmpNo X0.here hx rfl (hb hby d2_32) rfl (flt c14).2.2.1 ?_
          exact kk_)
        have P22 := own_step (C := s₁.setTop (mkF m 42 #[.val (.int p0), .val (.int (0 : Int32)), .val (.int (p0 ||| (32 : Int32))), .val (.int (1 : Int32))] [(.int (0 : Int32))])) P21 (by
          intro tt_ kk_
          refine XS.iconst X0.here hx rfl (hb hby d2_35) ?_
          show Steps p.tables e below (s₁.setTop (mkF m 36 #[.val (.int p0), .val (.int (0 : Int32)), .val (.int (p0 ||| (32 : Int32))), .unset] [(.int (1 : Int32))])) _
          refine XS.goto X0.here hx rfl (pc0 := 36) (pc' := 40) rfl (hb hby d2_36) (by decide) (by decide) ?_
          show Steps p.tables e below (s₁.setTop (mkF m 40 #[.val (.int p0), .val (.int (0 : Int32)), .val (.int (p0 ||| (32 : Int32))), .unset] [(.int (1 : Int32))])) _
          refine XS.istoreN X0.here hx rfl (hb hby d2_40) rfl (l' := #[.val (.int p0), .val (.int (0 : Int32)), .val (.int (p0 ||| (32 : Int32))), .val (.int (1 : Int32))]) rfl ?_
          show Steps p.tables e below (s₁.setTop (mkF m 41 #[.val (.int p0), .val (.int (0 : Int32)), .val (.int (p0 ||| (32 : Int32))), .val (.int (1 : Int32))] [])) _
          refine XS.iloadN X0.here hx rfl (hb hby d2_41) rfl ?_
          exact kk_)
        have P23 := own_step (C := s₁.setTop (mkF m 45 #[.val (.int p0), .val (.int (0 : Int32)), .val (.int (p0 ||| (32 : Int32))), .val (.int (1 : Int32))] [])) P22 (by
          intro tt_ kk_
          refine XS.ifNo X0.here hx rfl (hb hby d2_42) rfl ((if0 _ _).trans (teq (by decide : (0 : Int32) = (0 : Int32))).2) ?_
          exact kk_)
        have P24 := own_step (C := s₁.setTop (mkF m 46 #[.val (.int p0), .val (.int (0 : Int32)), .val (.int (p0 ||| (32 : Int32))), .val (.int (1 : Int32))] [(.int (1 : Int32))])) P23 (by
          intro tt_ kk_
          refine XS.iloadN X0.here hx rfl (hb hby d2_45) rfl ?_
          exact kk_)
        have P25 := own_step (C := s₁.setTop (mkF m 49 #[.val (.int p0), .val (.int (0 : Int32)), .val (.int (p0 ||| (32 : Int32))), .val (.int (1 : Int32))] [])) P24 (by
          intro tt_ kk_
          refine XS.ifNo X0.here hx rfl (hb hby d2_46) rfl ((if0 _ _).trans (feq (by decide : ¬ ((1 : Int32) = (0 : Int32)))).1) ?_
          exact kk_)
        have P26 := own_step (C := s₁.setTop (mkF m 54 #[.val (.int p0), .val (.int (0 : Int32)), .val (.int (p0 ||| (32 : Int32))), .val (.int (1 : Int32))] [(.int (1 : Int32))])) P25 (by
          intro tt_ kk_
          refine XS.iconst X0.here hx rfl (hb hby d2_49) ?_
          show Steps p.tables e below (s₁.setTop (mkF m 50 #[.val (.int p0), .val (.int (0 : Int32)), .val (.int (p0 ||| (32 : Int32))), .val (.int (1 : Int32))] [(.int (1 : Int32))])) _
          refine XS.goto X0.here hx rfl (pc0 := 50) (pc' := 54) rfl (hb hby d2_50) (by decide) (by decide) ?_
          exact kk_)
        obtain ⟨fs, hr, hrun, hended, hW, hsame⟩ := X0.leave (v := some (.int (1 : Int32))) (fun h => by rw [Bd.returns] at h; cases h)
        refine ⟨_, _, P26 _ ?_, hrun, hended, _, _, rfl, ?_, ⟨_, rfl⟩, hW, hsame.mono (by decide) (by decide)⟩
        · exact retN X0 hx (t := .boolean) Bd.returns (by simp) (hb hby d2_54) hr
        · show Q_own_b Z p0 h0 n0 _ s₁.heap _
          rw [e0]
          exact ⟨by unfold own_b; rw [if_pos c2, if_neg c5, if_neg c14], N0, rfl⟩
  · have P27 := own_step (C := s₁.setTop (mkF m 6 #[.val (.int p0), .unset, .unset, .unset] [])) P1 (by
      intro tt_ kk_
      refine XS.icmpNo X0.here hx rfl (hb hby d2_3) rfl (flt c2).1 ?_
      exact kk_)
    have P28 := own_step (C := s₁.setTop (mkF m 9 #[.val (.int p0), .unset, .unset, .unset] [(.int (57 : Int32)), (.int p0)])) P27 (by
      intro tt_ kk_
      refine XS.iloadN X0.here hx rfl (hb hby d2_6) rfl ?_
      show Steps p.tables e below (s₁.setTop (mkF m 7 #[.val (.int p0), .unset, .unset, .unset] [(.int p0)])) _
      refine XS.bipush X0.here hx rfl (hb hby d2_7) ?_
      exact kk_)
    by_cases c29 : (57 : Int32) < p0
    · have P30 := own_step (C := s₁.setTop (mkF m 16 #[.val (.int p0), .unset, .unset, .unset] [])) P28 (by
        intro tt_ kk_
        refine XS.icmpYes X0.here hx rfl (pc0 := 9) (pc' := 16) rfl (hb hby d2_9) rfl (tlt c29).2.2.1 (by decide) (by decide) ?_
        exact kk_)
      have P31 := own_step (C := s₁.setTop (mkF m 26 #[.val (.int p0), .val (.int (0 : Int32)), .val (.int (p0 ||| (32 : Int32))), .unset] [(.int (97 : Int32)), (.int (p0 ||| (32 : Int32)))])) P30 (by
        intro tt_ kk_
        refine XS.iconst X0.here hx rfl (hb hby d2_16) ?_
        show Steps p.tables e below (s₁.setTop (mkF m 17 #[.val (.int p0), .unset, .unset, .unset] [(.int (0 : Int32))])) _
        refine XS.istoreN X0.here hx rfl (hb hby d2_17) rfl (l' := #[.val (.int p0), .val (.int (0 : Int32)), .unset, .unset]) rfl ?_
        show Steps p.tables e below (s₁.setTop (mkF m 18 #[.val (.int p0), .val (.int (0 : Int32)), .unset, .unset] [])) _
        refine XS.iloadN X0.here hx rfl (hb hby d2_18) rfl ?_
        show Steps p.tables e below (s₁.setTop (mkF m 19 #[.val (.int p0), .val (.int (0 : Int32)), .unset, .unset] [(.int p0)])) _
        refine XS.bipush X0.here hx rfl (hb hby d2_19) ?_
        show Steps p.tables e below (s₁.setTop (mkF m 21 #[.val (.int p0), .val (.int (0 : Int32)), .unset, .unset] [(.int (32 : Int32)), (.int p0)])) _
        refine XS.ior X0.here hx rfl (hb hby d2_21) rfl ?_
        show Steps p.tables e below (s₁.setTop (mkF m 22 #[.val (.int p0), .val (.int (0 : Int32)), .unset, .unset] [(.int (p0 ||| (32 : Int32)))])) _
        refine XS.istoreN X0.here hx rfl (hb hby d2_22) rfl (l' := #[.val (.int p0), .val (.int (0 : Int32)), .val (.int (p0 ||| (32 : Int32))), .unset]) rfl ?_
        show Steps p.tables e below (s₁.setTop (mkF m 23 #[.val (.int p0), .val (.int (0 : Int32)), .val (.int (p0 ||| (32 : Int32))), .unset] [])) _
        refine XS.iloadN X0.here hx rfl (hb hby d2_23) rfl ?_
        show Steps p.tables e below (s₁.setTop (mkF m 24 #[.val (.int p0), .val (.int (0 : Int32)), .val (.int (p0 ||| (32 : Int32))), .unset] [(.int (p0 ||| (32 : Int32)))])) _
        refine XS.bipush X0.here hx rfl (hb hby d2_24) ?_
        exact kk_)
      by_cases c32 : (p0 ||| (32 : Int32)) < (97 : Int32)
      · have P33 := own_step (C := s₁.setTop (mkF m 39 #[.val (.int p0), .val (.int (0 : Int32)), .val (.int (p0 ||| (32 : Int32))), .unset] [])) P31 (by
          intro tt_ kk_
          refine XS.icmpYes X0.here hx rfl (pc0 := 26) (pc' := 39) rfl (hb hby d2_26) rfl (tlt c32).1 (by decide) (by decide) ?_
          exact kk_)
        have P34 := own_step (C := s₁.setTop (mkF m 42 #[.val (.int p0), .val (.int (0 : Int32)), .val (.int (p0 ||| (32 : Int32))), .val (.int (0 : Int32))] [(.int (0 : Int32))])) P33 (by
          intro tt_ kk_
          refine XS.iconst X0.here hx rfl (hb hby d2_39) ?_
          show Steps p.tables e below (s₁.setTop (mkF m 40 #[.val (.int p0), .val (.int (0 : Int32)), .val (.int (p0 ||| (32 : Int32))), .unset] [(.int (0 : Int32))])) _
          refine XS.istoreN X0.here hx rfl (hb hby d2_40) rfl (l' := #[.val (.int p0), .val (.int (0 : Int32)), .val (.int (p0 ||| (32 : Int32))), .val (.int (0 : Int32))]) rfl ?_
          show Steps p.tables e below (s₁.setTop (mkF m 41 #[.val (.int p0), .val (.int (0 : Int32)), .val (.int (p0 ||| (32 : Int32))), .val (.int (0 : Int32))] [])) _
          refine XS.iloadN X0.here hx rfl (hb hby d2_41) rfl ?_
          exact kk_)
        have P35 := own_step (C := s₁.setTop (mkF m 45 #[.val (.int p0), .val (.int (0 : Int32)), .val (.int (p0 ||| (32 : Int32))), .val (.int (0 : Int32))] [])) P34 (by
          intro tt_ kk_
          refine XS.ifNo X0.here hx rfl (hb hby d2_42) rfl ((if0 _ _).trans (teq (by decide : (0 : Int32) = (0 : Int32))).2) ?_
          exact kk_)
        have P36 := own_step (C := s₁.setTop (mkF m 46 #[.val (.int p0), .val (.int (0 : Int32)), .val (.int (p0 ||| (32 : Int32))), .val (.int (0 : Int32))] [(.int (0 : Int32))])) P35 (by
          intro tt_ kk_
          refine XS.iloadN X0.here hx rfl (hb hby d2_45) rfl ?_
          exact kk_)
        have P37 := own_step (C := s₁.setTop (mkF m 53 #[.val (.int p0), .val (.int (0 : Int32)), .val (.int (p0 ||| (32 : Int32))), .val (.int (0 : Int32))] [])) P36 (by
          intro tt_ kk_
          refine XS.ifYes X0.here hx rfl (pc0 := 46) (pc' := 53) rfl (hb hby d2_46) rfl ((if0 _ _).trans (teq (by decide : (0 : Int32) = (0 : Int32))).1) (by decide) (by decide) ?_
          exact kk_)
        have P38 := own_step (C := s₁.setTop (mkF m 54 #[.val (.int p0), .val (.int (0 : Int32)), .val (.int (p0 ||| (32 : Int32))), .val (.int (0 : Int32))] [(.int (0 : Int32))])) P37 (by
          intro tt_ kk_
          refine XS.iconst X0.here hx rfl (hb hby d2_53) ?_
          exact kk_)
        obtain ⟨fs, hr, hrun, hended, hW, hsame⟩ := X0.leave (v := some (.int (0 : Int32))) (fun h => by rw [Bd.returns] at h; cases h)
        refine ⟨_, _, P38 _ ?_, hrun, hended, _, _, rfl, ?_, ⟨_, rfl⟩, hW, hsame.mono (by decide) (by decide)⟩
        · exact retN X0 hx (t := .boolean) Bd.returns (by simp) (hb hby d2_54) hr
        · show Q_own_b Z p0 h0 n0 _ s₁.heap _
          rw [e0]
          exact ⟨by unfold own_b; rw [if_neg c2, if_pos c29, if_pos c32], N0, rfl⟩
      · have P39 := own_step (C := s₁.setTop (mkF m 29 #[.val (.int p0), .val (.int (0 : Int32)), .val (.int (p0 ||| (32 : Int32))), .unset] [])) P31 (by
          intro tt_ kk_
          refine XS.icmpNo X0.here hx rfl (hb hby d2_26) rfl (flt c32).1 ?_
          exact kk_)
        have P40 := own_step (C := s₁.setTop (mkF m 32 #[.val (.int p0), .val (.int (0 : Int32)), .val (.int (p0 ||| (32 : Int32))), .unset] [(.int (122 : Int32)), (.int (p0 ||| (32 : Int32)))])) P39 (by
          intro tt_ kk_
          refine XS.iloadN X0.here hx rfl (hb hby d2_29) rfl ?_
          show Steps p.tables e below (s₁.setTop (mkF m 30 #[.val (.int p0), .val (.int (0 : Int32)), .val (.int (p0 ||| (32 : Int32))), .unset] [(.int (p0 ||| (32 : Int32)))])) _
          refine XS.bipush X0.here hx rfl (hb hby d2_30) ?_
          exact kk_)
        by_cases c41 : (122 : Int32) < (p0 ||| (32 : Int32))
        · have P42 := own_step (C := s₁.setTop (mkF m 39 #[.val (.int p0), .val (.int (0 : Int32)), .val (.int (p0 ||| (32 : Int32))), .unset] [])) P40 (by
            intro tt_ kk_
            refine XS.icmpYes X0.here hx rfl (pc0 := 32) (pc' := 39) rfl (hb hby d2_32) rfl (tlt c41).2.2.1 (by decide) (by decide) ?_
            exact kk_)
          have P43 := own_step (C := s₁.setTop (mkF m 42 #[.val (.int p0), .val (.int (0 : Int32)), .val (.int (p0 ||| (32 : Int32))), .val (.int (0 : Int32))] [(.int (0 : Int32))])) P42 (by
            intro tt_ kk_
            refine XS.iconst X0.here hx rfl (hb hby d2_39) ?_
            show Steps p.tables e below (s₁.setTop (mkF m 40 #[.val (.int p0), .val (.int (0 : Int32)), .val (.int (p0 ||| (32 : Int32))), .unset] [(.int (0 : Int32))])) _
            refine XS.istoreN X0.here hx rfl (hb hby d2_40) rfl (l' := #[.val (.int p0), .val (.int (0 : Int32)), .val (.int (p0 ||| (32 : Int32))), .val (.int (0 : Int32))]) rfl ?_
            show Steps p.tables e below (s₁.setTop (mkF m 41 #[.val (.int p0), .val (.int (0 : Int32)), .val (.int (p0 ||| (32 : Int32))), .val (.int (0 : Int32))] [])) _
            refine XS.iloadN X0.here hx rfl (hb hby d2_41) rfl ?_
            exact kk_)
          have P44 := own_step (C := s₁.setTop (mkF m 45 #[.val (.int p0), .val (.int (0 : Int32)), .val (.int (p0 ||| (32 : Int32))), .val (.int (0 : Int32))] [])) P43 (by
            intro tt_ kk_
            refine XS.ifNo X0.here hx rfl (hb hby d2_42) rfl ((if0 _ _).trans (teq (by decide : (0 : Int32) = (0 : Int32))).2) ?_
            exact kk_)
          have P45 := own_step (C := s₁.setTop (mkF m 46 #[.val (.int p0), .val (.int (0 : Int32)), .val (.int (p0 ||| (32 : Int32))), .val (.int (0 : Int32))] [(.int (0 : Int32))])) P44 (by
            intro tt_ kk_
            refine XS.iloadN X0.here hx rfl (hb hby d2_45) rfl ?_
            exact kk_)
          have P46 := own_step (C := s₁.setTop (mkF m 53 #[.val (.int p0), .val (.int (0 : Int32)), .val (.int (p0 ||| (32 : Int32))), .val (.int (0 : Int32))] [])) P45 (by
            intro tt_ kk_
            refine XS.ifYes X0.here hx rfl (pc0 := 46) (pc' := 53) rfl (hb hby d2_46) rfl ((if0 _ _).trans (teq (by decide : (0 : Int32) = (0 : Int32))).1) (by decide) (by decide) ?_
            exact kk_)
          have P47 := own_step (C := s₁.setTop (mkF m 54 #[.val (.int p0), .val (.int (0 : Int32)), .val (.int (p0 ||| (32 : Int32))), .val (.int (0 : Int32))] [(.int (0 : Int32))])) P46 (by
            intro tt_ kk_
            refine XS.iconst X0.here hx rfl (hb hby d2_53) ?_
            exact kk_)
          obtain ⟨fs, hr, hrun, hended, hW, hsame⟩ := X0.leave (v := some (.int (0 : Int32))) (fun h => by rw [Bd.returns] at h; cases h)
          refine ⟨_, _, P47 _ ?_, hrun, hended, _, _, rfl, ?_, ⟨_, rfl⟩, hW, hsame.mono (by decide) (by decide)⟩
          · exact retN X0 hx (t := .boolean) Bd.returns (by simp) (hb hby d2_54) hr
          · show Q_own_b Z p0 h0 n0 _ s₁.heap _
            rw [e0]
            exact ⟨by unfold own_b; rw [if_neg c2, if_pos c29, if_neg c32, if_pos c41], N0, rfl⟩
        · have P48 := own_step (C := s₁.setTop (mkF m 35 #[.val (.int p0), .val (.int (0 : Int32)), .val (.int (p0 ||| (32 : Int32))), .unset] [])) P40 (by
            intro tt_ kk_
            refine XS.icmpNo X0.here hx rfl (hb hby d2_32) rfl (flt c41).2.2.1 ?_
            exact kk_)
          have P49 := own_step (C := s₁.setTop (mkF m 42 #[.val (.int p0), .val (.int (0 : Int32)), .val (.int (p0 ||| (32 : Int32))), .val (.int (1 : Int32))] [(.int (0 : Int32))])) P48 (by
            intro tt_ kk_
            refine XS.iconst X0.here hx rfl (hb hby d2_35) ?_
            show Steps p.tables e below (s₁.setTop (mkF m 36 #[.val (.int p0), .val (.int (0 : Int32)), .val (.int (p0 ||| (32 : Int32))), .unset] [(.int (1 : Int32))])) _
            refine XS.goto X0.here hx rfl (pc0 := 36) (pc' := 40) rfl (hb hby d2_36) (by decide) (by decide) ?_
            show Steps p.tables e below (s₁.setTop (mkF m 40 #[.val (.int p0), .val (.int (0 : Int32)), .val (.int (p0 ||| (32 : Int32))), .unset] [(.int (1 : Int32))])) _
            refine XS.istoreN X0.here hx rfl (hb hby d2_40) rfl (l' := #[.val (.int p0), .val (.int (0 : Int32)), .val (.int (p0 ||| (32 : Int32))), .val (.int (1 : Int32))]) rfl ?_
            show Steps p.tables e below (s₁.setTop (mkF m 41 #[.val (.int p0), .val (.int (0 : Int32)), .val (.int (p0 ||| (32 : Int32))), .val (.int (1 : Int32))] [])) _
            refine XS.iloadN X0.here hx rfl (hb hby d2_41) rfl ?_
            exact kk_)
          have P50 := own_step (C := s₁.setTop (mkF m 45 #[.val (.int p0), .val (.int (0 : Int32)), .val (.int (p0 ||| (32 : Int32))), .val (.int (1 : Int32))] [])) P49 (by
            intro tt_ kk_
            refine XS.ifNo X0.here hx rfl (hb hby d2_42) rfl ((if0 _ _).trans (teq (by decide : (0 : Int32) = (0 : Int32))).2) ?_
            exact kk_)
          have P51 := own_step (C := s₁.setTop (mkF m 46 #[.val (.int p0), .val (.int (0 : Int32)), .val (.int (p0 ||| (32 : Int32))), .val (.int (1 : Int32))] [(.int (1 : Int32))])) P50 (by
            intro tt_ kk_
            refine XS.iloadN X0.here hx rfl (hb hby d2_45) rfl ?_
            exact kk_)
          have P52 := own_step (C := s₁.setTop (mkF m 49 #[.val (.int p0), .val (.int (0 : Int32)), .val (.int (p0 ||| (32 : Int32))), .val (.int (1 : Int32))] [])) P51 (by
            intro tt_ kk_
            refine XS.ifNo X0.here hx rfl (hb hby d2_46) rfl ((if0 _ _).trans (feq (by decide : ¬ ((1 : Int32) = (0 : Int32)))).1) ?_
            exact kk_)
          have P53 := own_step (C := s₁.setTop (mkF m 54 #[.val (.int p0), .val (.int (0 : Int32)), .val (.int (p0 ||| (32 : Int32))), .val (.int (1 : Int32))] [(.int (1 : Int32))])) P52 (by
            intro tt_ kk_
            refine XS.iconst X0.here hx rfl (hb hby d2_49) ?_
            show Steps p.tables e below (s₁.setTop (mkF m 50 #[.val (.int p0), .val (.int (0 : Int32)), .val (.int (p0 ||| (32 : Int32))), .val (.int (1 : Int32))] [(.int (1 : Int32))])) _
            refine XS.goto X0.here hx rfl (pc0 := 50) (pc' := 54) rfl (hb hby d2_50) (by decide) (by decide) ?_
            exact kk_)
          obtain ⟨fs, hr, hrun, hended, hW, hsame⟩ := X0.leave (v := some (.int (1 : Int32))) (fun h => by rw [Bd.returns] at h; cases h)
          refine ⟨_, _, P53 _ ?_, hrun, hended, _, _, rfl, ?_, ⟨_, rfl⟩, hW, hsame.mono (by decide) (by decide)⟩
          · exact retN X0 hx (t := .boolean) Bd.returns (by simp) (hb hby d2_54) hr
          · show Q_own_b Z p0 h0 n0 _ s₁.heap _
            rw [e0]
            exact ⟨by unfold own_b; rw [if_neg c2, if_pos c29, if_neg c32, if_neg c41], N0, rfl⟩
    · have P54 := own_step (C := s₁.setTop (mkF m 12 #[.val (.int p0), .unset, .unset, .unset] [])) P28 (by
        intro tt_ kk_
        refine XS.icmpNo X0.here hx rfl (hb hby d2_9) rfl (flt c29).2.2.1 ?_
        exact kk_)
      have P55 := own_step (C := s₁.setTop (mkF m 26 #[.val (.int p0), .val (.int (1 : Int32)), .val (.int (p0 ||| (32 : Int32))), .unset] [(.int (97 : Int32)), (.int (p0 ||| (32 : Int32)))])) P54 (by
        intro tt_ kk_
        refine XS.iconst X0.here hx rfl (hb hby d2_12) ?_
        show Steps p.tables e below (s₁.setTop (mkF m 13 #[.val (.int p0), .unset, .unset, .unset] [(.int (1 : Int32))])) _
        refine XS.goto X0.here hx rfl (pc0 := 13) (pc' := 17) rfl (hb hby d2_13) (by decide) (by decide) ?_
        show Steps p.tables e below (s₁.setTop (mkF m 17 #[.val (.int p0), .unset, .unset, .unset] [(.int (1 : Int32))])) _
        refine XS.istoreN X0.here hx rfl (hb hby d2_17) rfl (l' := #[.val (.int p0), .val (.int (1 : Int32)), .unset, .unset]) rfl ?_
        show Steps p.tables e below (s₁.setTop (mkF m 18 #[.val (.int p0), .val (.int (1 : Int32)), .unset, .unset] [])) _
        refine XS.iloadN X0.here hx rfl (hb hby d2_18) rfl ?_
        show Steps p.tables e below (s₁.setTop (mkF m 19 #[.val (.int p0), .val (.int (1 : Int32)), .unset, .unset] [(.int p0)])) _
        refine XS.bipush X0.here hx rfl (hb hby d2_19) ?_
        show Steps p.tables e below (s₁.setTop (mkF m 21 #[.val (.int p0), .val (.int (1 : Int32)), .unset, .unset] [(.int (32 : Int32)), (.int p0)])) _
        refine XS.ior X0.here hx rfl (hb hby d2_21) rfl ?_
        show Steps p.tables e below (s₁.setTop (mkF m 22 #[.val (.int p0), .val (.int (1 : Int32)), .unset, .unset] [(.int (p0 ||| (32 : Int32)))])) _
        refine XS.istoreN X0.here hx rfl (hb hby d2_22) rfl (l' := #[.val (.int p0), .val (.int (1 : Int32)), .val (.int (p0 ||| (32 : Int32))), .unset]) rfl ?_
        show Steps p.tables e below (s₁.setTop (mkF m 23 #[.val (.int p0), .val (.int (1 : Int32)), .val (.int (p0 ||| (32 : Int32))), .unset] [])) _
        refine XS.iloadN X0.here hx rfl (hb hby d2_23) rfl ?_
        show Steps p.tables e below (s₁.setTop (mkF m 24 #[.val (.int p0), .val (.int (1 : Int32)), .val (.int (p0 ||| (32 : Int32))), .unset] [(.int (p0 ||| (32 : Int32)))])) _
        refine XS.bipush X0.here hx rfl (hb hby d2_24) ?_
        exact kk_)
      by_cases c56 : (p0 ||| (32 : Int32)) < (97 : Int32)
      · have P57 := own_step (C := s₁.setTop (mkF m 39 #[.val (.int p0), .val (.int (1 : Int32)), .val (.int (p0 ||| (32 : Int32))), .unset] [])) P55 (by
          intro tt_ kk_
          refine XS.icmpYes X0.here hx rfl (pc0 := 26) (pc' := 39) rfl (hb hby d2_26) rfl (tlt c56).1 (by decide) (by decide) ?_
          exact kk_)
        have P58 := own_step (C := s₁.setTop (mkF m 42 #[.val (.int p0), .val (.int (1 : Int32)), .val (.int (p0 ||| (32 : Int32))), .val (.int (0 : Int32))] [(.int (1 : Int32))])) P57 (by
          intro tt_ kk_
          refine XS.iconst X0.here hx rfl (hb hby d2_39) ?_
          show Steps p.tables e below (s₁.setTop (mkF m 40 #[.val (.int p0), .val (.int (1 : Int32)), .val (.int (p0 ||| (32 : Int32))), .unset] [(.int (0 : Int32))])) _
          refine XS.istoreN X0.here hx rfl (hb hby d2_40) rfl (l' := #[.val (.int p0), .val (.int (1 : Int32)), .val (.int (p0 ||| (32 : Int32))), .val (.int (0 : Int32))]) rfl ?_
          show Steps p.tables e below (s₁.setTop (mkF m 41 #[.val (.int p0), .val (.int (1 : Int32)), .val (.int (p0 ||| (32 : Int32))), .val (.int (0 : Int32))] [])) _
          refine XS.iloadN X0.here hx rfl (hb hby d2_41) rfl ?_
          exact kk_)
        have P59 := own_step (C := s₁.setTop (mkF m 49 #[.val (.int p0), .val (.int (1 : Int32)), .val (.int (p0 ||| (32 : Int32))), .val (.int (0 : Int32))] [])) P58 (by
          intro tt_ kk_
          refine XS.ifYes X0.here hx rfl (pc0 := 42) (pc' := 49) rfl (hb hby d2_42) rfl ((if0 _ _).trans (feq (by decide : ¬ ((1 : Int32) = (0 : Int32)))).2) (by decide) (by decide) ?_
          exact kk_)
        have P60 := own_step (C := s₁.setTop (mkF m 54 #[.val (.int p0), .val (.int (1 : Int32)), .val (.int (p0 ||| (32 : Int32))), .val (.int (0 : Int32))] [(.int (1 : Int32))])) P59 (by
          intro tt_ kk_
          refine XS.iconst X0.here hx rfl (hb hby d2_49) ?_
          show Steps p.tables e below (s₁.setTop (mkF m 50 #[.val (.int p0), .val (.int (1 : Int32)), .val (.int (p0 ||| (32 : Int32))), .val (.int (0 : Int32))] [(.int (1 : Int32))])) _
          refine XS.goto X0.here hx rfl (pc0 := 50) (pc' := 54) rfl (hb hby d2_50) (by decide) (by decide) ?_
          exact kk_)
        obtain ⟨fs, hr, hrun, hended, hW, hsame⟩ := X0.leave (v := some (.int (1 : Int32))) (fun h => by rw [Bd.returns] at h; cases h)
        refine ⟨_, _, P60 _ ?_, hrun, hended, _, _, rfl, ?_, ⟨_, rfl⟩, hW, hsame.mono (by decide) (by decide)⟩
        · exact retN X0 hx (t := .boolean) Bd.returns (by simp) (hb hby d2_54) hr
        · show Q_own_b Z p0 h0 n0 _ s₁.heap _
          rw [e0]
          exact ⟨by unfold own_b; rw [if_neg c2, if_neg c29, if_pos c56], N0, rfl⟩
      · have P61 := own_step (C := s₁.setTop (mkF m 29 #[.val (.int p0), .val (.int (1 : Int32)), .val (.int (p0 ||| (32 : Int32))), .unset] [])) P55 (by
          intro tt_ kk_
          refine XS.icmpNo X0.here hx rfl (hb hby d2_26) rfl (flt c56).1 ?_
          exact kk_)
        have P62 := own_step (C := s₁.setTop (mkF m 32 #[.val (.int p0), .val (.int (1 : Int32)), .val (.int (p0 ||| (32 : Int32))), .unset] [(.int (122 : Int32)), (.int (p0 ||| (32 : Int32)))])) P61 (by
          intro tt_ kk_
          refine XS.iloadN X0.here hx rfl (hb hby d2_29) rfl ?_
          show Steps p.tables e below (s₁.setTop (mkF m 30 #[.val (.int p0), .val (.int (1 : Int32)), .val (.int (p0 ||| (32 : Int32))), .unset] [(.int (p0 ||| (32 : Int32)))])) _
          refine XS.bipush X0.here hx rfl (hb hby d2_30) ?_
          exact kk_)
        by_cases c63 : (122 : Int32) < (p0 ||| (32 : Int32))
        · have P64 := own_step (C := s₁.setTop (mkF m 39 #[.val (.int p0), .val (.int (1 : Int32)), .val (.int (p0 ||| (32 : Int32))), .unset] [])) P62 (by
            intro tt_ kk_
            refine XS.icmpYes X0.here hx rfl (pc0 := 32) (pc' := 39) rfl (hb hby d2_32) rfl (tlt c63).2.2.1 (by decide) (by decide) ?_
            exact kk_)
          have P65 := own_step (C := s₁.setTop (mkF m 42 #[.val (.int p0), .val (.int (1 : Int32)), .val (.int (p0 ||| (32 : Int32))), .val (.int (0 : Int32))] [(.int (1 : Int32))])) P64 (by
            intro tt_ kk_
            refine XS.iconst X0.here hx rfl (hb hby d2_39) ?_
            show Steps p.tables e below (s₁.setTop (mkF m 40 #[.val (.int p0), .val (.int (1 : Int32)), .val (.int (p0 ||| (32 : Int32))), .unset] [(.int (0 : Int32))])) _
            refine XS.istoreN X0.here hx rfl (hb hby d2_40) rfl (l' := #[.val (.int p0), .val (.int (1 : Int32)), .val (.int (p0 ||| (32 : Int32))), .val (.int (0 : Int32))]) rfl ?_
            show Steps p.tables e below (s₁.setTop (mkF m 41 #[.val (.int p0), .val (.int (1 : Int32)), .val (.int (p0 ||| (32 : Int32))), .val (.int (0 : Int32))] [])) _
            refine XS.iloadN X0.here hx rfl (hb hby d2_41) rfl ?_
            exact kk_)
          have P66 := own_step (C := s₁.setTop (mkF m 49 #[.val (.int p0), .val (.int (1 : Int32)), .val (.int (p0 ||| (32 : Int32))), .val (.int (0 : Int32))] [])) P65 (by
            intro tt_ kk_
            refine XS.ifYes X0.here hx rfl (pc0 := 42) (pc' := 49) rfl (hb hby d2_42) rfl ((if0 _ _).trans (feq (by decide : ¬ ((1 : Int32) = (0 : Int32)))).2) (by decide) (by decide) ?_
            exact kk_)
          have P67 := own_step (C := s₁.setTop (mkF m 54 #[.val (.int p0), .val (.int (1 : Int32)), .val (.int (p0 ||| (32 : Int32))), .val (.int (0 : Int32))] [(.int (1 : Int32))])) P66 (by
            intro tt_ kk_
            refine XS.iconst X0.here hx rfl (hb hby d2_49) ?_
            show Steps p.tables e below (s₁.setTop (mkF m 50 #[.val (.int p0), .val (.int (1 : Int32)), .val (.int (p0 ||| (32 : Int32))), .val (.int (0 : Int32))] [(.int (1 : Int32))])) _
            refine XS.goto X0.here hx rfl (pc0 := 50) (pc' := 54) rfl (hb hby d2_50) (by decide) (by decide) ?_
            exact kk_)
          obtain ⟨fs, hr, hrun, hended, hW, hsame⟩ := X0.leave (v := some (.int (1 : Int32))) (fun h => by rw [Bd.returns] at h; cases h)
          refine ⟨_, _, P67 _ ?_, hrun, hended, _, _, rfl, ?_, ⟨_, rfl⟩, hW, hsame.mono (by decide) (by decide)⟩
          · exact retN X0 hx (t := .boolean) Bd.returns (by simp) (hb hby d2_54) hr
          · show Q_own_b Z p0 h0 n0 _ s₁.heap _
            rw [e0]
            exact ⟨by unfold own_b; rw [if_neg c2, if_neg c29, if_neg c56, if_pos c63], N0, rfl⟩
        · have P68 := own_step (C := s₁.setTop (mkF m 35 #[.val (.int p0), .val (.int (1 : Int32)), .val (.int (p0 ||| (32 : Int32))), .unset] [])) P62 (by
            intro tt_ kk_
            refine XS.icmpNo X0.here hx rfl (hb hby d2_32) rfl (flt c63).2.2.1 ?_
            exact kk_)
          have P69 := own_step (C := s₁.setTop (mkF m 42 #[.val (.int p0), .val (.int (1 : Int32)), .val (.int (p0 ||| (32 : Int32))), .val (.int (1 : Int32))] [(.int (1 : Int32))])) P68 (by
            intro tt_ kk_
            refine XS.iconst X0.here hx rfl (hb hby d2_35) ?_
            show Steps p.tables e below (s₁.setTop (mkF m 36 #[.val (.int p0), .val (.int (1 : Int32)), .val (.int (p0 ||| (32 : Int32))), .unset] [(.int (1 : Int32))])) _
            refine XS.goto X0.here hx rfl (pc0 := 36) (pc' := 40) rfl (hb hby d2_36) (by decide) (by decide) ?_
            show Steps p.tables e below (s₁.setTop (mkF m 40 #[.val (.int p0), .val (.int (1 : Int32)), .val (.int (p0 ||| (32 : Int32))), .unset] [(.int (1 : Int32))])) _
            refine XS.istoreN X0.here hx rfl (hb hby d2_40) rfl (l' := #[.val (.int p0), .val (.int (1 : Int32)), .val (.int (p0 ||| (32 : Int32))), .val (.int (1 : Int32))]) rfl ?_
            show Steps p.tables e below (s₁.setTop (mkF m 41 #[.val (.int p0), .val (.int (1 : Int32)), .val (.int (p0 ||| (32 : Int32))), .val (.int (1 : Int32))] [])) _
            refine XS.iloadN X0.here hx rfl (hb hby d2_41) rfl ?_
            exact kk_)
          have P70 := own_step (C := s₁.setTop (mkF m 49 #[.val (.int p0), .val (.int (1 : Int32)), .val (.int (p0 ||| (32 : Int32))), .val (.int (1 : Int32))] [])) P69 (by
            intro tt_ kk_
            refine XS.ifYes X0.here hx rfl (pc0 := 42) (pc' := 49) rfl (hb hby d2_42) rfl ((if0 _ _).trans (feq (by decide : ¬ ((1 : Int32) = (0 : Int32)))).2) (by decide) (by decide) ?_
            exact kk_)
          have P71 := own_step (C := s₁.setTop (mkF m 54 #[.val (.int p0), .val (.int (1 : Int32)), .val (.int (p0 ||| (32 : Int32))), .val (.int (1 : Int32))] [(.int (1 : Int32))])) P70 (by
            intro tt_ kk_
            refine XS.iconst X0.here hx rfl (hb hby d2_49) ?_
            show Steps p.tables e below (s₁.setTop (mkF m 50 #[.val (.int p0), .val (.int (1 : Int32)), .val (.int (p0 ||| (32 : Int32))), .val (.int (1 : Int32))] [(.int (1 : Int32))])) _
            refine XS.goto X0.here hx rfl (pc0 := 50) (pc' := 54) rfl (hb hby d2_50) (by decide) (by decide) ?_
            exact kk_)
          obtain ⟨fs, hr, hrun, hended, hW, hsame⟩ := X0.leave (v := some (.int (1 : Int32))) (fun h => by rw [Bd.returns] at h; cases h)
          refine ⟨_, _, P71 _ ?_, hrun, hended, _, _, rfl, ?_, ⟨_, rfl⟩, hW, hsame.mono (by decide) (by decide)⟩
          · exact retN X0 hx (t := .boolean) Bd.returns (by simp) (hb hby d2_54) hr
          · show Q_own_b Z p0 h0 n0 _ s₁.heap _
            rw [e0]
            exact ⟨by unfold own_b; rw [if_neg c2, if_neg c29, if_neg c56, if_neg c63], N0, rfl⟩
theorem own_or_nat (n : Nat) (h : n < 128) : (97 ≤ n ||| 32 ∧ n ||| 32 ≤ 122) ↔ ((65 ≤ n ∧ n ≤ 90) ∨ (97 ≤ n ∧ n ≤ 122)) := by
  have : ∀ n : Fin 128, (97 ≤ n.val ||| 32 ∧ n.val ||| 32 ≤ 122) ↔ ((65 ≤ n.val ∧ n.val ≤ 90) ∨ (97 ≤ n.val ∧ n.val ≤ 122)) := by decide +kernel
  exact this ⟨n, h⟩
theorem own_or (x : Int32) : (97 ≤ (x ||| 32).toInt ∧ (x ||| 32).toInt ≤ 122) ↔ ((65 ≤ x.toInt ∧ x.toInt ≤ 90) ∨ (97 ≤ x.toInt ∧ x.toInt ≤ 122)) := by
  have e1 : (x ||| 32).toInt = ((x ||| 32).toBitVec).toInt := rfl
  have e2 : x.toInt = x.toBitVec.toInt := rfl
  have e3 : (x ||| 32).toBitVec.toNat = x.toBitVec.toNat ||| 32 := by rw [Int32.toBitVec_or, BitVec.toNat_or]; rfl
  rw [e1, e2, BitVec.toInt_eq_toNat_cond, BitVec.toInt_eq_toNat_cond, e3]
  have hx := x.toBitVec.isLt
  generalize x.toBitVec.toNat = n at *
  have hl : n ≤ n ||| 32 := Nat.left_le_or
  have hu : n ||| 32 < 2 ^ 32 := Nat.or_lt_two_pow hx (by decide)
  by_cases hn : n < 128
  · have h7 : n ||| 32 < 2 ^ 7 := Nat.or_lt_two_pow (n := 7) hn (by decide)
    have q := own_or_nat n hn
    generalize n ||| 32 = k at *
    split <;> split <;> omega
  · generalize n ||| 32 = k at *
    split <;> split <;> omega
theorem own_same (x : Int32) : own_a x = own_b x := by
  have q := own_or x
  unfold own_a own_b
  simp only [Int32.lt_iff_toInt_lt, show (97 : Int32).toInt = 97 from rfl, show (122 : Int32).toInt = 122 from rfl, show (65 : Int32).toInt = 65 from rfl, show (90 : Int32).toInt = 90 from rfl, show (48 : Int32).toInt = 48 from rfl, show (57 : Int32).toInt = 57 from rfl]
  generalize (x ||| 32).toInt = k at *
  generalize x.toInt = n at *
  repeat' split
  all_goals first | rfl | omega

theorem pd0 : parseMethodDescriptor "(I)Z" = some ⟨[.int], some .boolean⟩ := by decide +kernel
theorem ef_0 (m : MethodId) (x0 : Int32) (x1 : Int32) : entryFrame m #[(.int x0), (.int x1)] maxLocals = mkF m 0 #[.val (.int x0), .val (.int x1), .unset, .unset, .unset] [] := by first | (simp [entryFrame, mkF, argsToLocals, Value.category, maxLocals]; done) | rfl
def Q0 (Z : State) (xx : Int32) (yy : Int32) (h0 : Heap) (n0 : Nat) (v_ : Option Value) (h : Heap) (L_ : List Loc) : Prop := v_ = some (.int 1) ∧ Fr n0 L_
set_option maxRecDepth 65536 in
set_option maxHeartbeats 40000000 in
theorem rm0 (l : Launch) (Z : State) (a0 : Array Value) (hw : ∀ d ∈ tables_1, d.before a0 Z = true) (ws : List Jvm.Cond) (xx : Int32) (yy : Int32) (h0 : Heap) (n0 : Nat) (Z0 : n0 ≤ h0.size) :
    MetFree l x (head1 (Jvm.Cond.code x code maxLocals ret :: ws) room_1) (fun a_ U_ => a_ = #[(.int xx), (.int yy)] ∧ Z.Warmed39 U_.vm ∧ U_.heap = h0) (fun _ _ _ _ _ => True) (fun _ U_ o_ V_ => ∃ v_ L_, o_ = .returned v_ ∧ Q0 Z xx yy h0 n0 v_ V_.heap L_ ∧ FrameEnd U_ o_ V_ L_ room_1.cells room_1.slots) := by
  refine MetFree.of_bodySF (plainFor_of_name pn1) hisR ?_
  intro p e s m args below meth c s₁ Bd hml0 hP hK
  obtain ⟨rfl, hZ, hh⟩ := hP
  have hx := Bd.exec
  have hby := Bd.bytes
  have hml : c.maxLocals = 5 := hml0
  have hown : s.vm.findClass "com/example/gatehouse/gatehouse/pattern/CharacterClassesIsAsciiLetterOrDigitPinLaw" = some m.cls := findClass_of_methodNamed Bd.named
  have hnm := (name_of_methodNamed Bd.named Bd.method).1
  have X0 : Stand p l e room_1 s m #[(.int xx), (.int yy)] below meth c s₁ [] 0 0 := Stand.of_body Bd
  have e0 : s₁.heap = h0 := by rw [← hh, Bd.state]; rfl
  have N0 := Fr.nil n0
  have pre0 : own_Go p e below (s₁.setTop (entryFrame m #[(.int xx), (.int yy)] maxLocals)) (s₁.setTop (mkF m 0 #[.val (.int xx), .val (.int yy), .unset, .unset, .unset] [])) := fun t_ k_ => castTop (ef_0 m xx yy) k_
  have P1 := own_step (C := s₁.setTop (mkF m 6 #[.val (.int xx), .val (.int yy), .val (.int (yy &&& (127 : Int32))), .unset, .unset] [(.int xx)])) pre0 (by
    intro tt_ kk_
    refine XS.iloadN X0.here hx rfl (hb hby at_0) rfl ?_
    show Steps p.tables e below (s₁.setTop (mkF m 1 #[.val (.int xx), .val (.int yy), .unset, .unset, .unset] [(.int yy)])) _
    refine XS.bipush X0.here hx rfl (hb hby at_1) ?_
    show Steps p.tables e below (s₁.setTop (mkF m 3 #[.val (.int xx), .val (.int yy), .unset, .unset, .unset] [(.int (127 : Int32)), (.int yy)])) _
    refine XS.iand X0.here hx rfl (hb hby at_3) rfl ?_
    show Steps p.tables e below (s₁.setTop (mkF m 4 #[.val (.int xx), .val (.int yy), .unset, .unset, .unset] [(.int (yy &&& (127 : Int32)))])) _
    refine XS.istoreN X0.here hx rfl (hb hby at_4) rfl (l' := #[.val (.int xx), .val (.int yy), .val (.int (yy &&& (127 : Int32))), .unset, .unset]) rfl ?_
    show Steps p.tables e below (s₁.setTop (mkF m 5 #[.val (.int xx), .val (.int yy), .val (.int (yy &&& (127 : Int32))), .unset, .unset] [])) _
    refine XS.iloadN X0.here hx rfl (hb hby at_5) rfl ?_
    exact kk_)
  obtain ⟨_, _, ⟨T2, L2, k2, n2⟩, -, X2, ⟨Lc2, hQ2, l2, y2, z2⟩, st2⟩ := Jvm.LawKit.callS X0 hx (y := (⟨"com/example/gatehouse/gatehouse/pattern/CharacterClasses", "isAsciiLetterOrDigit", "(I)Z"⟩ : MethodName)) hown (mvT hZ (hw _ (List.mem_of_getElem? (i := 0) rfl))) (mvT hZ (hw _ (List.mem_of_getElem? (i := 1) rfl))) (mvT hZ (hw _ (List.mem_of_getElem? (i := 2) rfl))) (mvT hZ (hw _ (List.mem_of_getElem? (i := 3) rfl))) (by decide) (backOf (W := 0) (rm_own_a l Z a0 hw [] xx h0 n0 Z0 ) hZ (hw _ (List.mem_of_getElem? (i := 3) rfl)) (hw _ (List.mem_of_getElem? (i := 2) rfl)) (by decide) (by decide)) (g := (mkF m 6 #[.val (.int xx), .val (.int yy), .val (.int (yy &&& (127 : Int32))), .unset, .unset] [(.int xx)])) rfl (by rw [hml]; rfl) (argsL := [(.int xx)]) (rest := []) (lenOf pd0 rfl) rfl (by show 2 * 0 + _ ≤ _; exact Nat.le_of_eq rfl) (hb hby at_6) (fun _ _ => ⟨rfl, e0, (by decide : 0 + 0 ≤ _), (by decide : 0 + 0 ≤ _)⟩)
  dsimp only [Pt.U, Pt.locs, Pt.cells, Pt.slots] at X2 l2 y2 z2 st2 hQ2
  subst l2 y2 z2
  obtain ⟨rfl, N2q, e2⟩ := hQ2
  have N2 := Fr.app N0 N2q
  have P3 := own_step (C := T2.setTop (mkF m 9 #[.val (.int xx), .val (.int yy), .val (.int (yy &&& (127 : Int32))), .unset, .unset] [(.int (own_a xx))])) P1 (fun t_ k_ => st2 t_ k_)
  have P4 := own_step (C := T2.setTop (mkF m 10 #[.val (.int xx), .val (.int yy), .val (.int (yy &&& (127 : Int32))), .unset, .unset] [(.int xx), (.int (own_a xx))])) P3 (by
    intro tt_ kk_
    refine XS.iloadN X2.here hx rfl (hb hby at_9) rfl ?_
    exact kk_)
  obtain ⟨_, _, ⟨T5, L5, k5, n5⟩, -, X5, ⟨Lc5, hQ5, l5, y5, z5⟩, st5⟩ := Jvm.LawKit.callS X2 hx (y := (⟨"com/example/gatehouse/gatehouse/pattern/CharacterClassesIsAsciiLetterOrDigitPinLaw", "reference", "(I)Z"⟩ : MethodName)) hown (mvT hZ (hw _ (List.mem_of_getElem? (i := 4) rfl))) (mvT hZ (hw _ (List.mem_of_getElem? (i := 5) rfl))) (mvT hZ (hw _ (List.mem_of_getElem? (i := 6) rfl))) (mvT hZ (hw _ (List.mem_of_getElem? (i := 7) rfl))) (by decide) (backOf (W := 1) (rm_own_b l Z a0 hw [] xx h0 n0 Z0 ) hZ (hw _ (List.mem_of_getElem? (i := 7) rfl)) (hw _ (List.mem_of_getElem? (i := 6) rfl)) (by decide) (by decide)) (g := (mkF m 10 #[.val (.int xx), .val (.int yy), .val (.int (yy &&& (127 : Int32))), .unset, .unset] [(.int xx), (.int (own_a xx))])) rfl (by rw [hml]; rfl) (argsL := [(.int xx)]) (rest := [(.int (own_a xx))]) (lenOf pd0 rfl) rfl (by show 2 * 0 + _ ≤ _; exact Nat.le_of_eq rfl) (hb hby at_10) (fun _ _ => ⟨rfl, e2, (by decide : 0 + 0 ≤ _), (by decide : 0 + 0 ≤ _)⟩)
  dsimp only [Pt.U, Pt.locs, Pt.cells, Pt.slots] at X5 l5 y5 z5 st5 hQ5
  subst l5 y5 z5
  obtain ⟨rfl, N5q, e5⟩ := hQ5
  have N5 := Fr.app N2 N5q
  have P6 := own_step (C := T5.setTop (mkF m 13 #[.val (.int xx), .val (.int yy), .val (.int (yy &&& (127 : Int32))), .unset, .unset] [(.int (own_b xx)), (.int (own_a xx))])) P4 (fun t_ k_ => st5 t_ k_)
  have P7 := own_step (C := T5.setTop (mkF m 16 #[.val (.int xx), .val (.int yy), .val (.int (yy &&& (127 : Int32))), .unset, .unset] [])) P6 (by
    intro tt_ kk_
    refine XS.icmpNo X5.here hx rfl (hb hby at_13) rfl (teq (own_same xx)).2 ?_
    exact kk_)
  have P8 := own_step (C := T5.setTop (mkF m 23 #[.val (.int xx), .val (.int yy), .val (.int (yy &&& (127 : Int32))), .val (.int (1 : Int32)), .unset] [(.int (yy &&& (127 : Int32)))])) P7 (by
    intro tt_ kk_
    refine XS.iconst X5.here hx rfl (hb hby at_16) ?_
    show Steps p.tables e below (T5.setTop (mkF m 17 #[.val (.int xx), .val (.int yy), .val (.int (yy &&& (127 : Int32))), .unset, .unset] [(.int (1 : Int32))])) _
    refine XS.goto X5.here hx rfl (pc0 := 17) (pc' := 21) rfl (hb hby at_17) (by decide) (by decide) ?_
    show Steps p.tables e below (T5.setTop (mkF m 21 #[.val (.int xx), .val (.int yy), .val (.int (yy &&& (127 : Int32))), .unset, .unset] [(.int (1 : Int32))])) _
    refine XS.istoreN X5.here hx rfl (hb hby at_21) rfl (l' := #[.val (.int xx), .val (.int yy), .val (.int (yy &&& (127 : Int32))), .val (.int (1 : Int32)), .unset]) rfl ?_
    show Steps p.tables e below (T5.setTop (mkF m 22 #[.val (.int xx), .val (.int yy), .val (.int (yy &&& (127 : Int32))), .val (.int (1 : Int32)), .unset] [])) _
    refine XS.iloadN X5.here hx rfl (hb hby at_22) rfl ?_
    exact kk_)
  obtain ⟨_, _, ⟨T9, L9, k9, n9⟩, -, X9, ⟨Lc9, hQ9, l9, y9, z9⟩, st9⟩ := Jvm.LawKit.callS X5 hx (y := (⟨"com/example/gatehouse/gatehouse/pattern/CharacterClasses", "isAsciiLetterOrDigit", "(I)Z"⟩ : MethodName)) hown (mvT hZ (hw _ (List.mem_of_getElem? (i := 0) rfl))) (mvT hZ (hw _ (List.mem_of_getElem? (i := 1) rfl))) (mvT hZ (hw _ (List.mem_of_getElem? (i := 2) rfl))) (mvT hZ (hw _ (List.mem_of_getElem? (i := 3) rfl))) (by decide) (backOf (W := 0) (rm_own_a l Z a0 hw [] (yy &&& (127 : Int32)) h0 n0 Z0 ) hZ (hw _ (List.mem_of_getElem? (i := 3) rfl)) (hw _ (List.mem_of_getElem? (i := 2) rfl)) (by decide) (by decide)) (g := (mkF m 23 #[.val (.int xx), .val (.int yy), .val (.int (yy &&& (127 : Int32))), .val (.int (1 : Int32)), .unset] [(.int (yy &&& (127 : Int32)))])) rfl (by rw [hml]; rfl) (argsL := [(.int (yy &&& (127 : Int32)))]) (rest := []) (lenOf pd0 rfl) rfl (by show 2 * 0 + _ ≤ _; exact Nat.le_of_eq rfl) (hb hby at_23) (fun _ _ => ⟨rfl, e5, (by decide : 0 + 0 ≤ _), (by decide : 0 + 0 ≤ _)⟩)
  dsimp only [Pt.U, Pt.locs, Pt.cells, Pt.slots] at X9 l9 y9 z9 st9 hQ9
  subst l9 y9 z9
  obtain ⟨rfl, N9q, e9⟩ := hQ9
  have N9 := Fr.app N5 N9q
  have P10 := own_step (C := T9.setTop (mkF m 26 #[.val (.int xx), .val (.int yy), .val (.int (yy &&& (127 : Int32))), .val (.int (1 : Int32)), .unset] [(.int (own_a (yy &&& (127 : Int32))))])) P8 (fun t_ k_ => st9 t_ k_)
  have P11 := own_step (C := T9.setTop (mkF m 27 #[.val (.int xx), .val (.int yy), .val (.int (yy &&& (127 : Int32))), .val (.int (1 : Int32)), .unset] [(.int (yy &&& (127 : Int32))), (.int (own_a (yy &&& (127 : Int32))))])) P10 (by
    intro tt_ kk_
    refine XS.iloadN X9.here hx rfl (hb hby at_26) rfl ?_
    exact kk_)
  obtain ⟨_, _, ⟨T12, L12, k12, n12⟩, -, X12, ⟨Lc12, hQ12, l12, y12, z12⟩, st12⟩ := Jvm.LawKit.callS X9 hx (y := (⟨"com/example/gatehouse/gatehouse/pattern/CharacterClassesIsAsciiLetterOrDigitPinLaw", "reference", "(I)Z"⟩ : MethodName)) hown (mvT hZ (hw _ (List.mem_of_getElem? (i := 4) rfl))) (mvT hZ (hw _ (List.mem_of_getElem? (i := 5) rfl))) (mvT hZ (hw _ (List.mem_of_getElem? (i := 6) rfl))) (mvT hZ (hw _ (List.mem_of_getElem? (i := 7) rfl))) (by decide) (backOf (W := 1) (rm_own_b l Z a0 hw [] (yy &&& (127 : Int32)) h0 n0 Z0 ) hZ (hw _ (List.mem_of_getElem? (i := 7) rfl)) (hw _ (List.mem_of_getElem? (i := 6) rfl)) (by decide) (by decide)) (g := (mkF m 27 #[.val (.int xx), .val (.int yy), .val (.int (yy &&& (127 : Int32))), .val (.int (1 : Int32)), .unset] [(.int (yy &&& (127 : Int32))), (.int (own_a (yy &&& (127 : Int32))))])) rfl (by rw [hml]; rfl) (argsL := [(.int (yy &&& (127 : Int32)))]) (rest := [(.int (own_a (yy &&& (127 : Int32))))]) (lenOf pd0 rfl) rfl (by show 2 * 0 + _ ≤ _; exact Nat.le_of_eq rfl) (hb hby at_27) (fun _ _ => ⟨rfl, e9, (by decide : 0 + 0 ≤ _), (by decide : 0 + 0 ≤ _)⟩)
  dsimp only [Pt.U, Pt.locs, Pt.cells, Pt.slots] at X12 l12 y12 z12 st12 hQ12
  subst l12 y12 z12
  obtain ⟨rfl, N12q, e12⟩ := hQ12
  have N12 := Fr.app N9 N12q
  have P13 := own_step (C := T12.setTop (mkF m 30 #[.val (.int xx), .val (.int yy), .val (.int (yy &&& (127 : Int32))), .val (.int (1 : Int32)), .unset] [(.int (own_b (yy &&& (127 : Int32)))), (.int (own_a (yy &&& (127 : Int32))))])) P11 (fun t_ k_ => st12 t_ k_)
  have P14 := own_step (C := T12.setTop (mkF m 33 #[.val (.int xx), .val (.int yy), .val (.int (yy &&& (127 : Int32))), .val (.int (1 : Int32)), .unset] [])) P13 (by
    intro tt_ kk_
    refine XS.icmpNo X12.here hx rfl (hb hby at_30) rfl (teq (own_same (yy &&& (127 : Int32)))).2 ?_
    exact kk_)
  have P15 := own_step (C := T12.setTop (mkF m 41 #[.val (.int xx), .val (.int yy), .val (.int (yy &&& (127 : Int32))), .val (.int (1 : Int32)), .val (.int (1 : Int32))] [(.int (1 : Int32))])) P14 (by
    intro tt_ kk_
    refine XS.iconst X12.here hx rfl (hb hby at_33) ?_
    show Steps p.tables e below (T12.setTop (mkF m 34 #[.val (.int xx), .val (.int yy), .val (.int (yy &&& (127 : Int32))), .val (.int (1 : Int32)), .unset] [(.int (1 : Int32))])) _
    refine XS.goto X12.here hx rfl (pc0 := 34) (pc' := 38) rfl (hb hby at_34) (by decide) (by decide) ?_
    show Steps p.tables e below (T12.setTop (mkF m 38 #[.val (.int xx), .val (.int yy), .val (.int (yy &&& (127 : Int32))), .val (.int (1 : Int32)), .unset] [(.int (1 : Int32))])) _
    refine XS.istore X12.here hx rfl (hb hby at_38) rfl (l' := #[.val (.int xx), .val (.int yy), .val (.int (yy &&& (127 : Int32))), .val (.int (1 : Int32)), .val (.int (1 : Int32))]) rfl ?_
    show Steps p.tables e below (T12.setTop (mkF m 40 #[.val (.int xx), .val (.int yy), .val (.int (yy &&& (127 : Int32))), .val (.int (1 : Int32)), .val (.int (1 : Int32))] [])) _
    refine XS.iloadN X12.here hx rfl (hb hby at_40) rfl ?_
    exact kk_)
  have P16 := own_step (C := T12.setTop (mkF m 44 #[.val (.int xx), .val (.int yy), .val (.int (yy &&& (127 : Int32))), .val (.int (1 : Int32)), .val (.int (1 : Int32))] [])) P15 (by
    intro tt_ kk_
    refine XS.ifNo X12.here hx rfl (hb hby at_41) rfl ((if0 _ _).trans (feq (by decide : ¬ ((1 : Int32) = (0 : Int32)))).1) ?_
    exact kk_)
  have P17 := own_step (C := T12.setTop (mkF m 46 #[.val (.int xx), .val (.int yy), .val (.int (yy &&& (127 : Int32))), .val (.int (1 : Int32)), .val (.int (1 : Int32))] [(.int (1 : Int32))])) P16 (by
    intro tt_ kk_
    refine XS.iload X12.here hx rfl (hb hby at_44) rfl ?_
    exact kk_)
  have P18 := own_step (C := T12.setTop (mkF m 49 #[.val (.int xx), .val (.int yy), .val (.int (yy &&& (127 : Int32))), .val (.int (1 : Int32)), .val (.int (1 : Int32))] [])) P17 (by
    intro tt_ kk_
    refine XS.ifNo X12.here hx rfl (hb hby at_46) rfl ((if0 _ _).trans (feq (by decide : ¬ ((1 : Int32) = (0 : Int32)))).1) ?_
    exact kk_)
  have P19 := own_step (C := T12.setTop (mkF m 54 #[.val (.int xx), .val (.int yy), .val (.int (yy &&& (127 : Int32))), .val (.int (1 : Int32)), .val (.int (1 : Int32))] [(.int (1 : Int32))])) P18 (by
    intro tt_ kk_
    refine XS.iconst X12.here hx rfl (hb hby at_49) ?_
    show Steps p.tables e below (T12.setTop (mkF m 50 #[.val (.int xx), .val (.int yy), .val (.int (yy &&& (127 : Int32))), .val (.int (1 : Int32)), .val (.int (1 : Int32))] [(.int (1 : Int32))])) _
    refine XS.goto X12.here hx rfl (pc0 := 50) (pc' := 54) rfl (hb hby at_50) (by decide) (by decide) ?_
    exact kk_)
  obtain ⟨fs, hr, hrun, hended, hW, hsame⟩ := X12.leave (v := some (.int (1 : Int32))) (fun h => by rw [Bd.returns] at h; cases h)
  refine ⟨_, _, P19 _ ?_, hrun, hended, _, _, rfl, ?_, ⟨_, rfl⟩, hW, hsame.mono (by decide) (by decide)⟩
  · exact retN X12 hx (t := .boolean) Bd.returns (by simp) (hb hby at_54) hr
  · show Q0 Z xx yy h0 n0 _ T12.heap _
    rw [e12]
    exact ⟨rfl, N12⟩
set_option maxRecDepth 65536 in
set_option maxHeartbeats 40000000 in
theorem comes_1 {Post : Tables → Env → Array Value → State → Outcome → State → Prop} (hpost : ∀ tb e args s v u, (limb_1_1.after args s (.returned v) u = true ∧ limb_1_2.after args s (.returned v) u = true ∧ True) → FrameEnd s (.returned v) u (Jvm.fieldLocs frame_1_writes args s ++ Jvm.arrayLocs frame_1_arrays args s ++ Jvm.staticLocs frame_1_statics s) 0 0 → Post tb e args s (.returned v) u) :
    ArmFor flags0 classFile x code maxLocals ret World_1 tables_1 room_1 Calls_1 rest_1 Pre_1 Post := by
  intro l hfl _ _ p e ha hc hk s m args below hf hA hF happ hP
  obtain ⟨hcalls, hrest, hpre⟩ := hP
  obtain ⟨-, -, -, hnamed, -, -, -, hat⟩ := (Spec.applies_iff hf).mp happ
  obtain ⟨hg, hn⟩ := and_e (Cond.before_iff.mp (show (Jvm.Cond.and given_1 narrow_1).before args s = true from hpre))
  obtain ⟨hgc, hg0⟩ := and_e hg
  obtain ⟨ha0, hg1⟩ := and_e hg0
  have ha1 := hg1
  obtain ⟨w0, w1, rfl⟩ : ∃ w0 w1 : Value, args = #[w0, w1] := by
    have hs : args.size = 2 := by simpa [Cond.value, given_1] using hgc
    obtain ⟨L⟩ := args
    match L, hs with
    | [w0, w1], _ => exact ⟨w0, w1, rfl⟩
  have hw := fun d (hd : d ∈ tables_1) => atoms_spec (ws := Jvm.Cond.code x code maxLocals ret :: tables_1) hat d (List.mem_cons_of_mem _ hd)
  have hfit : Fit s := fun {y c} hc i hi => by
    obtain ⟨ha, rfl⟩ := Array.getElem?_eq_some_iff.mp hc
    have q := List.all_eq_true.mp ((Array.all_eq_true_iff_forall_mem.mp hF) _ (Array.getElem_mem ha)) i (List.mem_range.mpr hi)
    simpa [Array.getElem?_eq_getElem hi] using q
  obtain ⟨i0, ei0⟩ := is_v ha0
  obtain rfl : w0 = (.int i0) := Option.some.inj ei0
  obtain ⟨i1, ei1⟩ := is_v ha1
  obtain rfl : w1 = (.int i1) := Option.some.inj ei1
  obtain ⟨n, o, h1, h2, h3, _, L, rfl, ⟨rfl, N⟩, hq⟩ := rm0 l s _ hw tables_1 i0 i1 s.heap s.heap.size (Nat.le_refl _)  p e ha hc hk s m _ below hf ((Spec.applies_iff_loose hf).mp happ).1 ⟨rfl, State.Warmed39.refl s, rfl⟩ trivial
  exact ⟨n, _, h1, h2, h3, hpost _ _ _ _ _ _ ⟨Cond.after_iff.mpr rfl, Cond.after_iff.mpr (eq_i res_at (Term.int_eval (1)) rfl), trivial⟩ ⟨hq.1, hq.2.1, (hq.2.2.sift fun y hy => Or.inr (N y hy)).mono (by decide) (by decide)⟩⟩
theorem main_1_1 : Claimed_1_1 := comes_1 fun _ _ _ _ _ _ h hF => ⟨h.1, hF⟩
theorem main_1_2 : Claimed_1_2 := comes_1 fun _ _ _ _ _ _ h hF => ⟨h.2.1, hF⟩
end Jvm.Pilot.@@N@@
namespace Jvm.Pilot.@@N@@
open Jvm Jvm.ClassFile Sem Op Lib Jvm.Free Jvm.Stand Jvm.Pilot.@@N@@.Jvm.D
/-! MADE BY PROGRAM (witnessworld.py) out of the Statement's table words and the real class files: 9 classes; the members and pool entries that the words name. The judged class is class 1, her method 2. -/
namespace start1
open Jvm.ClassFile
def u (s : String) : CpInfo := .utf8 (stringToUtf16 s)
/-- a pool by its gaps: so many unusable entries, then the entry; so many at the end -/
def gap : Nat → List CpInfo → List CpInfo
  | 0, r => r
  | n + 1, r => .unusable :: gap n r
def poolList (es : List (Nat × CpInfo)) (last : Nat) : List CpInfo := es.foldr (fun e r => gap e.1 (e.2 :: r)) (gap last [])
def pool (es : List (Nat × CpInfo)) (last : Nat) : Array CpInfo := ⟨poolList es last⟩
def fileOf (pool : Array CpInfo) (this : Nat) (attrs : Array Attribute := #[]) (ms : Array MethodInfo := #[]) (fl : Nat := 33) (sup : Nat := 0) (ifs : Array Nat := #[]) (fds : Array FieldInfo := #[]) : ClassFile where
  minorVersion := 0
  majorVersion := 65
  constantPool := pool
  accessFlags := fl
  thisClass := this
  superClass := sup
  interfaces := ifs
  fields := fds
  methods := ms
  attributes := attrs
def plain (name : String) (sup : Option ClassId) : Class where
  name := name
  kind := .ordinary
  loader := none
  accessFlags := 33
  super := sup
  interfaces := #[]
  cf := none
  fields := #[]
  methods := #[]
  instanceTypes := #[]
  staticTypes := #[]
  resolved := #[]
  callSites := []
  init := .initialized
  statics := none
  mirror := none

def pool0 : Array CpInfo := pool [(5, u "<init>"), (0, u "()V"), (1, .class_ 10), (1, u "java/lang/Object")] 113

def k0m0 : Method := { name := "<init>", desc := "()V", sig := { parameters := [], returnType := none }, accessFlags := 1, code := none }
/-- java/lang/Object -/
def k0 : Class := { plain "java/lang/Object" none with
  accessFlags := 33
  interfaces := #[]
  cf := some (fileOf pool0 8 #[] #[{ accessFlags := 1, nameIndex := 5, descriptorIndex := 6, attributes := #[] }] 33 0 #[] #[])
  fields := #[]
  methods := #[k0m0]
  instanceTypes := #[]
  staticTypes := #[]
  resolved := Array.replicate 124 none
  statics := none }

def pool1 : Array CpInfo := pool [(2, .class_ 4), (1, u "java/lang/Object"), (0, u "<init>"), (0, u "()V"), (0, .methodref 8 9), (0, .class_ 10), (0, .nameAndType 11 12), (0, u "com/example/gatehouse/gatehouse/pattern/CharacterClasses"), (0, u "isAsciiLetterOrDigit"), (0, u "(I)Z"), (0, .methodref 14 15), (0, .class_ 16), (0, .nameAndType 17 12), (0, u "com/example/gatehouse/gatehouse/pattern/CharacterClassesIsAsciiLetterOrDigitPinLaw"), (0, u "reference"), (3, u "law"), (0, u "(II)Z")] 2

def k1m0 : Method := { name := "<init>", desc := "()V", sig := { parameters := [], returnType := none }, accessFlags := 2, code := none }
def k1c1 : Code := { maxStack := 2, maxLocals := 4, code := method_2_code, exceptionTable := #[], attributes := #[] }
def k1m1 : Method := { name := "reference", desc := "(I)Z", sig := { parameters := [.int], returnType := some .boolean }, accessFlags := 10, code := some k1c1 }
def k1c2 : Code := { maxStack := 2, maxLocals := 5, code := code, exceptionTable := #[], attributes := #[] }
def k1m2 : Method := { name := "law", desc := "(II)Z", sig := { parameters := [.int, .int], returnType := some .boolean }, accessFlags := 9, code := some k1c2 }
/-- com/example/gatehouse/gatehouse/pattern/CharacterClassesIsAsciiLetterOrDigitPinLaw -/
def k1 : Class := { plain "com/example/gatehouse/gatehouse/pattern/CharacterClassesIsAsciiLetterOrDigitPinLaw" (some 0) with
  accessFlags := 49
  interfaces := #[]
  cf := some (fileOf pool1 14 #[] #[{ accessFlags := 2, nameIndex := 5, descriptorIndex := 6, attributes := #[] }, { accessFlags := 10, nameIndex := 17, descriptorIndex := 12, attributes := #[] }, { accessFlags := 9, nameIndex := 21, descriptorIndex := 22, attributes := #[] }] 49 2 #[] #[])
  fields := #[]
  methods := #[k1m0, k1m1, k1m2]
  instanceTypes := #[]
  staticTypes := #[]
  resolved := Array.replicate 25 none
  statics := none }

def pool2 : Array CpInfo := pool [(2, .class_ 4), (1, u "java/lang/Object"), (0, u "<init>"), (0, u "()V"), (216, .class_ 225), (1, u "com/example/gatehouse/gatehouse/pattern/CharacterClasses"), (4, u "isAsciiLetterOrDigit"), (0, u "(I)Z"), (8, u "ASCII_CLASSES"), (0, u "Ljava/util/Map;"), (9, u "KEPT"), (15, u "CATEGORIES"), (5, u "SCRIPTS"), (9, u "ANY"), (2, .class_ 288), (1, u "com/example/gatehouse/gatehouse/pattern/CharacterClasses$Categories"), (3, .class_ 293), (0, u "com/example/gatehouse/gatehouse/pattern/CharacterClasses$Scripts"), (38, u "Ljava/lang/String;")] 63

def k2m0 : Method := { name := "<init>", desc := "()V", sig := { parameters := [], returnType := none }, accessFlags := 2, code := none }
def k2c1 : Code := { maxStack := 2, maxLocals := 1, code := prog_29_method_7_code, exceptionTable := #[], attributes := #[] }
def k2m1 : Method := { name := "isAsciiLetterOrDigit", desc := "(I)Z", sig := { parameters := [.int], returnType := some .boolean }, accessFlags := 8, code := some k2c1 }
/-- com/example/gatehouse/gatehouse/pattern/CharacterClasses -/
def k2 : Class := { plain "com/example/gatehouse/gatehouse/pattern/CharacterClasses" (some 0) with
  accessFlags := 48
  interfaces := #[]
  cf := some (fileOf pool2 223 #[.nestMembers #[292, 286]] #[{ accessFlags := 2, nameIndex := 5, descriptorIndex := 6, attributes := #[] }, { accessFlags := 8, nameIndex := 230, descriptorIndex := 231, attributes := #[] }] 48 2 #[] #[{ accessFlags := 26, nameIndex := 251, descriptorIndex := 241, attributes := #[] }, { accessFlags := 26, nameIndex := 283, descriptorIndex := 332, attributes := #[] }, { accessFlags := 26, nameIndex := 240, descriptorIndex := 241, attributes := #[] }, { accessFlags := 26, nameIndex := 267, descriptorIndex := 241, attributes := #[] }, { accessFlags := 26, nameIndex := 273, descriptorIndex := 241, attributes := #[] }])
  fields := #[{ name := "KEPT", type := (.object "java/util/Map"), accessFlags := 26, slot := 0, constantValue := 0 }, { name := "ANY", type := (.object "java/lang/String"), accessFlags := 26, slot := 1, constantValue := 0 }, { name := "ASCII_CLASSES", type := (.object "java/util/Map"), accessFlags := 26, slot := 2, constantValue := 0 }, { name := "CATEGORIES", type := (.object "java/util/Map"), accessFlags := 26, slot := 3, constantValue := 0 }, { name := "SCRIPTS", type := (.object "java/util/Map"), accessFlags := 26, slot := 4, constantValue := 0 }]
  methods := #[k2m0, k2m1]
  instanceTypes := #[]
  staticTypes := #[(.object "java/util/Map"), (.object "java/lang/String"), (.object "java/util/Map"), (.object "java/util/Map"), (.object "java/util/Map")]
  resolved := Array.replicate 396 none
  statics := none }

def pool3 : Array CpInfo := pool [(1, u "java/lang/Cloneable"), (0, .class_ 1), (0, u "java/lang/Object"), (0, .class_ 3)] 3

/-- java/lang/Cloneable -/
def k3 : Class := { plain "java/lang/Cloneable" (some 0) with
  accessFlags := 1537
  interfaces := #[]
  cf := some (fileOf pool3 2 #[] #[] 1537 4 #[] #[])
  fields := #[]
  methods := #[]
  instanceTypes := #[]
  staticTypes := #[]
  resolved := Array.replicate 8 none
  statics := none }

def pool4 : Array CpInfo := pool [(1, u "java/io/Serializable"), (0, .class_ 1), (0, u "java/lang/Object"), (0, .class_ 3)] 3

/-- java/io/Serializable -/
def k4 : Class := { plain "java/io/Serializable" (some 0) with
  accessFlags := 1537
  interfaces := #[]
  cf := some (fileOf pool4 2 #[] #[] 1537 4 #[] #[])
  fields := #[]
  methods := #[]
  instanceTypes := #[]
  staticTypes := #[]
  resolved := Array.replicate 8 none
  statics := none }

/-- the primitive byte -/
def k5 : Class := { plain "byte" none with kind := .primitive 'B', accessFlags := 0x411 }
/-- [B -/
def k6 : Class := { plain "[B" (some 0) with kind := .array 5 .byte, interfaces := #[3, 4], accessFlags := 1041 }

/-- the primitive int -/
def k7 : Class := { plain "int" none with kind := .primitive 'I', accessFlags := 0x411 }
/-- [I -/
def k8 : Class := { plain "[I" (some 0) with kind := .array 7 .int, interfaces := #[3, 4], accessFlags := 1041 }

def heap : Heap := #[]
def classes : Array Class := #[k0, k1, k2, k3, k4, k5, k6, k7, k8]
def interned : List (Array UInt16 × Addr) := []
def slotsUsed : Nat := 0
def theMethod : MethodId := ⟨1, 2⟩
def args0 : Array Value := #[.int 65, .int 7]
def aboutOver (below : List Frame) : State where
  vm := { classes := classes, interned := interned.toArray }
  heap := heap
  slotsUsed := slotsUsed
  threads := #[{ frames := .invoking theMethod args0 :: below }]
def below0 : List Frame := [.native { method := ⟨0, 0⟩, args := #[] }]
def about1 : State := aboutOver below0
def p0 : Program := .bare "" "" ""
def e0 : Env := launch0.env 0 0 0
theorem w_frames : about1.frames = Frame.invoking theMethod args0 :: below0 := rfl
set_option maxRecDepth 65536 in
theorem w_args : argsFit about1.vm theMethod args0 = true := by decide +kernel
set_option maxRecDepth 65536 in
theorem w_heap : heapFits about1 = true := by decide +kernel
set_option maxRecDepth 65536 in
theorem w_runnable : about1.curStatus? = some .runnable := by decide +kernel
set_option maxRecDepth 65536 in
theorem w_alone : about1.alone = true := by decide +kernel
set_option maxRecDepth 65536 in
theorem w_named : about1.methodNamed? x = some theMethod := by decide +kernel
set_option maxRecDepth 65536 in
theorem w_hears : about1.hears theMethod below0 = true := by decide +kernel
set_option maxRecDepth 65536 in
theorem w_ripe : about1.ripe theMethod args0 below0 = true := by decide +kernel
theorem w_running : about1.status = .running := rfl
set_option maxRecDepth 65536 in
theorem w_room : about1.hasRoom e0.platform room_1 = true :=
  launch0.hasRoom_least _ room_1 (by decide +kernel) (by decide +kernel) (by decide +kernel) (by decide +kernel) (by decide +kernel) (by decide +kernel)
theorem allAtoms_all (ts : List Jvm.Cond) (a : Array Jvm.Value) (st : Jvm.State) : (allAtoms ts).before a st = ts.all (fun c => c.before a st) := by
  induction ts with
  | nil => rfl
  | cons c t ih =>
    show (Jvm.Cond.and c (allAtoms t)).before a st = _
    rw [Jvm.Cond.before_and, ih, List.all_cons]
def words1 : List Jvm.Cond := Jvm.Cond.code x code maxLocals ret :: tables_1
/-- a 'code' word, met by the world's own term for the bytes: nothing is compared byte by byte -/
theorem code_word {y : MethodName} {bytes : ByteArray} {mx : Nat} {rt : Option FieldType} {a : Array Value} {s : State} {m : MethodId} {meth : Method} {c : Code} (h1 : s.methodNamed? y = some m) (h2 : s.vm.method? m = some meth) (h3 : meth.code = some c) (h4 : c.code = bytes)
    (h5 : (c.maxLocals == mx && c.exceptionTable.isEmpty && decide (c.maxStack ≤ mostOperands) && decide (meth.sig.returnType = rt) && !meth.locks && decide (parseMethodDescriptor y.desc = some meth.sig)) = true) : (Jvm.Cond.code y bytes mx rt).before a s = true := by
  simp only [Bool.and_eq_true, beq_iff_eq, Bool.not_eq_true', decide_eq_true_eq] at h5
  obtain ⟨⟨⟨⟨⟨g1, g2⟩, g3⟩, g4⟩, g5⟩, g6⟩ := h5
  simp [Cond.before, Cond.holds, Cond.value, h1, h2, h3, h4, g1, g2, g3, g4, g5, g6]
def isCode : Jvm.Cond → Bool
  | .code _ _ _ _ => true
  | _ => false
theorem all_split {L : List Jvm.Cond} {P : Jvm.Cond → Bool} (h1 : L.all (fun c => isCode c || P c) = true) (h2 : ∀ c ∈ L.filter isCode, P c = true) : L.all P = true := by
  refine List.all_eq_true.mpr fun c hc => ?_
  have h := List.all_eq_true.mp h1 c hc
  rcases Bool.eq_false_or_eq_true (isCode c) with hi | hi
  · exact h2 c (List.mem_filter.mpr ⟨hc, hi⟩)
  · simpa [hi] using h
set_option maxRecDepth 65536 in
theorem w_c0 : (Jvm.Cond.code x code maxLocals ret).before args0 about1 = true := code_word (m := ⟨1, 2⟩) (meth := k1m2) (c := k1c2) (by decide +kernel) rfl rfl rfl (by decide +kernel)
set_option maxRecDepth 65536 in
theorem w_c1 : (Jvm.Cond.code ({ cls := "com/example/gatehouse/gatehouse/pattern/CharacterClasses", name := "isAsciiLetterOrDigit", desc := "(I)Z" } : Jvm.MethodName) prog_29_method_7_code (1 : Nat) (Option.some Jvm.ClassFile.FieldType.boolean)).before args0 about1 = true := code_word (m := ⟨2, 1⟩) (meth := k2m1) (c := k2c1) (by decide +kernel) rfl rfl rfl (by decide +kernel)
set_option maxRecDepth 65536 in
theorem w_c2 : (Jvm.Cond.code ({ cls := "com/example/gatehouse/gatehouse/pattern/CharacterClassesIsAsciiLetterOrDigitPinLaw", name := "reference", desc := "(I)Z" } : Jvm.MethodName) method_2_code (4 : Nat) (Option.some Jvm.ClassFile.FieldType.boolean)).before args0 about1 = true := code_word (m := ⟨1, 1⟩) (meth := k1m1) (c := k1c1) (by decide +kernel) rfl rfl rfl (by decide +kernel)
def codes1 : List Jvm.Cond := [Jvm.Cond.code x code maxLocals ret, Jvm.Cond.code ({ cls := "com/example/gatehouse/gatehouse/pattern/CharacterClasses", name := "isAsciiLetterOrDigit", desc := "(I)Z" } : Jvm.MethodName) prog_29_method_7_code (1 : Nat) (Option.some Jvm.ClassFile.FieldType.boolean), Jvm.Cond.code ({ cls := "com/example/gatehouse/gatehouse/pattern/CharacterClassesIsAsciiLetterOrDigitPinLaw", name := "reference", desc := "(I)Z" } : Jvm.MethodName) method_2_code (4 : Nat) (Option.some Jvm.ClassFile.FieldType.boolean)]
set_option maxRecDepth 65536 in
theorem codes_eq : words1.filter isCode = codes1 := rfl
theorem w_codes : ∀ c ∈ words1.filter isCode, c.before args0 about1 = true := by
  rw [codes_eq]
  intro c hc
  simp only [codes1, List.mem_cons, List.not_mem_nil, or_false] at hc
  rcases hc with rfl | rfl | rfl
  · exact w_c0
  · exact w_c1
  · exact w_c2
set_option maxRecDepth 65536 in
theorem w_t1 : words1.all (fun c => isCode c || c.before args0 about1) = true := by decide +kernel
theorem w_tables : (allAtoms (Jvm.Cond.code x code maxLocals ret :: tables_1)).before args0 about1 = true := by
  rw [allAtoms_all]
  show words1.all (fun c => c.before args0 about1) = true
  refine all_split ?_ w_codes
  rw [w_t1]
set_option maxRecDepth 65536 in
theorem w_case : (Jvm.Cond.and given_1 narrow_1).before args0 about1 = true := by decide +kernel
theorem w_applies : (headSpec (Jvm.Cond.code x code maxLocals ret :: tables_1) room_1).applies x e0.platform about1 = true :=
  (Spec.applies_iff w_frames).mpr ⟨w_running, w_runnable, w_alone, w_named, w_hears, w_ripe, w_room, w_tables⟩
theorem atStart : AtStart classFile x code maxLocals ret World_1 tables_1 room_1 Calls_1 rest_1 Pre_1 launch0 p0 e0 about1 theMethod args0 below0 :=
  ⟨lists_1, trivial, launch0.admits_env _ _ _, launch0.least_env, fairChoices_fair.cas, fairChoices_fair.clock, w_frames, w_args, w_heap, w_applies, trivial, trivial, w_case⟩
end start1
theorem witness_1 : WitnessClaimed_1 := ⟨start1.p0, start1.e0, start1.about1, start1.theMethod, start1.args0, start1.below0, start1.atStart⟩
end Jvm.Pilot.@@N@@
