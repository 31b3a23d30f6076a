import JvmDerived
import JvmDerived.Pilot.@@N@@Statement
import JvmDerived.Pilot.@@N@@Code
set_option linter.unusedVariables false
set_option linter.unusedSimpArgs false
namespace Jvm.RoadKit
open Sem ClassFile Op Lib Jvm.Stand Jvm.Free Jvm.LawKit
abbrev own_Go (p : Program) (e : Env) (below : List Frame) (A B : State) : Prop := ∀ t, Steps p.tables e below B t → Steps p.tables e below A t
theorem own_name {p : Program} {e : Env} {below : List Frame} {A : State} {α : Type} {F : α → State} (x : α) (P : own_Go p e below A (F x)) : ∃ z, z = x ∧ own_Go p e below A (F z) := ⟨x, rfl, P⟩
theorem own_step {p : Program} {e : Env} {below : List Frame} {A B C : State} (P : own_Go p e below A B) (q : own_Go p e below B C) : own_Go p e below A C := fun t_ k_ => P t_ (q t_ k_)
theorem own_IB {Z s U : State} {Ts : List String} (I : IB Z s.vm Ts) (w : s.WarmedH U.vm) : IB Z U.vm Ts := by
  obtain ⟨more, e, hm⟩ := I
  exact ⟨more, w.interned_eq.trans e, hm⟩
theorem own_backI {p : Program} {l : Launch} {e : Env} {R : Room} {s Z : State} {args a0 : Array Value} {below : List Frame} {h : Heap} {y : MethodName} {bytes : ByteArray} {maxL : Nat} {ret : Option FieldType} {rm : Room} {len W : Nat} {as' : Array Value} {Ts : List String} {Q : Option Value → Heap → List Loc → Prop}
    (hM : MetFree l y (head1 [Cond.code y bytes maxL ret] rm) (fun a U => a = as' ∧ Z.Warmed39 U.vm ∧ U.heap = h ∧ IB Z U.vm Ts) (fun _ _ _ _ _ => True) (fun _ U o U' => ∃ v L, o = .returned v ∧ Q v U'.heap L ∧ ReturnedEndW U o U' L rm.cells rm.slots))
    (hZ : Z.Warmed39 s.vm) (hI : IB Z s.vm Ts) (wc : (Cond.code y bytes maxL ret).before a0 Z = true) (wz : (Cond.initialized y.cls).before a0 Z = true) (hf : rm.frames + 1 ≤ R.frames) (hl : W + (maxL + 11) + rm.locals ≤ R.locals) :
    BackS l R p e below s args y len W (fun A a => a = as' ∧ A.U.heap = h ∧ A.cells + rm.cells ≤ R.cells ∧ A.slots + rm.slots ≤ R.slots) (fun A _ v B => ∃ L, Q v B.U.heap L ∧ B.locs = A.locs ++ L ∧ B.cells = A.cells + rm.cells ∧ B.slots = A.slots + rm.slots) := by
  refine BackS.of_freeW (bytes := bytes) (maxL := maxL) (ret := ret) (E := fun _ _ o t L k n => k = rm.cells ∧ n = rm.slots ∧ ∃ v, o = .returned v ∧ Q v t.heap L) hM hf hl ?_ ?_ (fun _ _ _ _ _ _ _ _ _ => trivial) ?_ ?_
  · intro m meth c A a Y hp
    have hU : Z.Warmed39 A.U.vm := wtrans hZ Y.warmed
    refine ⟨?_, mv hU wc, mv hU wz, hp.2.2.1, hp.2.2.2⟩
    show (Cond.and _ .tt).before a A.U = true
    rw [Cond.before_and, mv hU wc]; rfl
  · intro m meth c A a g mk Y hp
    exact ⟨hp.1, wtrans hZ Y.warmed, hp.2.1, own_IB hI Y.warmed⟩
  · rintro _ _ _ _ ⟨v, L, h1, h2, h3⟩
    exact ⟨L, _, _, h3, rfl, rfl, v, h1, h2⟩
  · intro m meth c A a g mk v t L k n Y hp _ _ q
    obtain ⟨e1, e2, v', e3, e4⟩ := q
    cases e3; subst e1 e2; exact ⟨L, e4, rfl, rfl, rfl⟩
section New
variable {p : Program} {l : Launch} {e : Env} {R : Room} {s : State} {m : MethodId} {args : Array Value} {below : List Frame} {meth : Method} {c : Code} {T : State} {locs : List Loc} {cells slots : Nat}
theorem retI (X : Stand p l e R s m args below meth c T locs cells slots) (hx : p.tables.exec = Jvm.exec) {pc : Nat} {Ls : Array Slot} {z : Int32} {rest : List Value} (hret : meth.sig.returnType = some .int) (hd : decode c.code pc = .ok (.ireturn, 1)) {fs : List Frame}
    (hl : ∀ (f : JFrame) (acts : List Action), f.method = m → f.locked = none → f.entered = [] → (doReturn e (T.setTop f) acts (some (.int z))).1 = T.setFrames fs) : Steps p.tables e below (T.setTop (mkF m pc Ls (.int z :: rest))) (T.setFrames fs) := by
  have hm' : T.vm.method? m = some meth := X.method'
  have hn : narrow .int (.int z) = .int z := rfl
  show Steps p.tables e below (T.setTop { method := m, pc := pc, locals := Ls, stack := _ :: rest, locked := none }) _
  jvm_step X.here [X.here.top, hx, hd, hm', hret, hn]
  first | (intro acts; rw [hl _ acts rfl rfl rfl]) | rw [hl _ _ rfl rfl rfl]
  exact Steps.refl _
end New
end Jvm.RoadKit
namespace Jvm.Pilot.@@N@@
open Jvm Jvm.ClassFile Sem Op Lib Jvm.Free Jvm.Stand Jvm.LawKit Jvm.RoadKit Bundle Jvm.Pilot.@@N@@.Jvm.D
theorem own_wS : ∀ d ∈ Bundle.stringAtoms, d ∈ tables_1 := by
  intro d hd
  simp only [Bundle.stringAtoms, Bundle.sN, List.mem_cons, List.not_mem_nil, or_false] at hd
  rcases hd with rfl | rfl | rfl | rfl | rfl | rfl | rfl
  all_goals (simp only [tables_1, List.mem_cons, List.not_mem_nil, or_false]; simp)

theorem own_shr0 (z : Int32) : z >>> ((0 : Int32) &&& 31) = z := by
  rw [← Int32.toInt_inj, c_ishr z 0 0 (by decide)]; simp
theorem own_nc (x : Int32) : nar .char ((x &&& (255 : Int32)).toUInt32.toUInt16.toUInt32.toInt32) = x &&& (255 : Int32) := by
  show (((x &&& (255 : Int32)).toUInt32.toUInt16.toUInt32.toInt32).toUInt32.toUInt16.toUInt32.toInt32) = _
  rw [i2c_mask, i2c_mask]
theorem own_nc1 (x : Int32) : nar .char (x &&& (255 : Int32)) = x &&& (255 : Int32) := i2c_mask x
def own_gi (p0 : Int32) : Int32 := (if (45 : Int32) < p0 then (if (57 : Int32) < p0 then (if (90 : Int32) < p0 then (if p0 < (97 : Int32) then (63 : Int32) else ((p0 - (71 : Int32)) &&& (63 : Int32))) else ((p0 - (65 : Int32)) &&& (63 : Int32))) else ((p0 + (4 : Int32)) &&& (63 : Int32))) else (62 : Int32))
theorem d1_0 : decode method_2_code 0 = .ok (.iload_n 0, 1) := by decide +kernel
theorem d1_1 : decode method_2_code 1 = .ok (.bipush 45, 2) := by decide +kernel
theorem d1_3 : decode method_2_code 3 = .ok (.if_icmp .gt 9, 3) := by decide +kernel
theorem d1_6 : decode method_2_code 6 = .ok (.bipush 62, 2) := by decide +kernel
theorem d1_8 : decode method_2_code 8 = .ok (.istore_n 1, 1) := by decide +kernel
theorem d1_9 : decode method_2_code 9 = .ok (.goto 47, 3) := by decide +kernel
theorem d1_12 : decode method_2_code 12 = .ok (.iload_n 0, 1) := by decide +kernel
theorem d1_13 : decode method_2_code 13 = .ok (.bipush 57, 2) := by decide +kernel
theorem d1_15 : decode method_2_code 15 = .ok (.if_icmp .gt 10, 3) := by decide +kernel
theorem d1_18 : decode method_2_code 18 = .ok (.iload_n 0, 1) := by decide +kernel
theorem d1_19 : decode method_2_code 19 = .ok (.iconst 4, 1) := by decide +kernel
theorem d1_20 : decode method_2_code 20 = .ok (.iadd, 1) := by decide +kernel
theorem d1_21 : decode method_2_code 21 = .ok (.istore_n 1, 1) := by decide +kernel
theorem d1_22 : decode method_2_code 22 = .ok (.goto 34, 3) := by decide +kernel
theorem d1_25 : decode method_2_code 25 = .ok (.iload_n 0, 1) := by decide +kernel
theorem d1_26 : decode method_2_code 26 = .ok (.bipush 90, 2) := by decide +kernel
theorem d1_28 : decode method_2_code 28 = .ok (.if_icmp .gt 11, 3) := by decide +kernel
theorem d1_31 : decode method_2_code 31 = .ok (.iload_n 0, 1) := by decide +kernel
theorem d1_32 : decode method_2_code 32 = .ok (.bipush 65, 2) := by decide +kernel
theorem d1_34 : decode method_2_code 34 = .ok (.isub, 1) := by decide +kernel
theorem d1_35 : decode method_2_code 35 = .ok (.istore_n 1, 1) := by decide +kernel
theorem d1_36 : decode method_2_code 36 = .ok (.goto 20, 3) := by decide +kernel
theorem d1_39 : decode method_2_code 39 = .ok (.iload_n 0, 1) := by decide +kernel
theorem d1_40 : decode method_2_code 40 = .ok (.bipush 97, 2) := by decide +kernel
theorem d1_42 : decode method_2_code 42 = .ok (.if_icmp .ge 9, 3) := by decide +kernel
theorem d1_45 : decode method_2_code 45 = .ok (.bipush 63, 2) := by decide +kernel
theorem d1_47 : decode method_2_code 47 = .ok (.istore_n 1, 1) := by decide +kernel
theorem d1_48 : decode method_2_code 48 = .ok (.goto 8, 3) := by decide +kernel
theorem d1_51 : decode method_2_code 51 = .ok (.iload_n 0, 1) := by decide +kernel
theorem d1_52 : decode method_2_code 52 = .ok (.bipush 71, 2) := by decide +kernel
theorem d1_54 : decode method_2_code 54 = .ok (.isub, 1) := by decide +kernel
theorem d1_55 : decode method_2_code 55 = .ok (.istore_n 1, 1) := by decide +kernel
theorem d1_56 : decode method_2_code 56 = .ok (.iload_n 1, 1) := by decide +kernel
theorem d1_57 : decode method_2_code 57 = .ok (.bipush 63, 2) := by decide +kernel
theorem d1_59 : decode method_2_code 59 = .ok (.iand, 1) := by decide +kernel
theorem d1_60 : decode method_2_code 60 = .ok (.ireturn, 1) := by decide +kernel
theorem ef__own_gi (m : MethodId) (x0 : Int32) : entryFrame m #[(.int x0)] 2 = mkF m 0 #[.val (.int x0), .unset] [] := by first | (simp [entryFrame, mkF, argsToLocals, Value.category]; done) | rfl
def Q_own_gi (Z : State) (p0 : Int32) (h0 : Heap) (n0 : Nat) (v_ : Option Value) (h : Heap) (L_ : List Loc) : Prop := v_ = some (.int (own_gi p0)) ∧ Fr n0 L_ ∧ h = h0
theorem pn0 : plainName "com/example/verified_health_identity/verifiedhealthidentity/jose/Base64urlIsInAlphabetPinLaw" = true := by first | (simp [plainName, overriddenIn]; done) | decide +kernel
set_option maxRecDepth 65536 in
set_option maxHeartbeats 40000000 in
theorem rm_own_gi (l : Launch) (Z : State) (a0 : Array Value) (hw : ∀ d ∈ tables_1, d.before a0 Z = true) (ws : List Jvm.Cond) (p0 : Int32) (h0 : Heap) (n0 : Nat) (Z0 : n0 ≤ h0.size) :
    MetFree l (⟨"com/example/verified_health_identity/verifiedhealthidentity/jose/Base64urlIsInAlphabetPinLaw", "guessIndex", "(I)I"⟩ : MethodName) (head1 (Jvm.Cond.code (⟨"com/example/verified_health_identity/verifiedhealthidentity/jose/Base64urlIsInAlphabetPinLaw", "guessIndex", "(I)I"⟩ : MethodName) method_2_code 2 (some .int) :: ws) ({ frames := 0, cells := 0, slots := 0, locals := 0 } : Room)) (fun a_ U_ => a_ = #[(.int p0)] ∧ Z.Warmed39 U_.vm ∧ U_.heap = h0) (fun _ _ _ _ _ => True) (fun _ U_ o_ V_ => ∃ v_ L_, o_ = .returned v_ ∧ Q_own_gi Z p0 h0 n0 v_ V_.heap L_ ∧ FrameEnd U_ o_ V_ L_ ({ frames := 0, cells := 0, slots := 0, locals := 0 } : Room).cells ({ frames := 0, cells := 0, slots := 0, locals := 0 } : Room).slots) := by
  refine MetFree.of_bodySF (plainFor_of_name pn0) hisR ?_
  intro p e s m args below meth c s₁ Bd hml0 hP hK
  obtain ⟨rfl, hZ, hh⟩ := hP
  have hx := Bd.exec
  have hby := Bd.bytes
  have hml : c.maxLocals = 2 := hml0
  have hown : s.vm.findClass "com/example/verified_health_identity/verifiedhealthidentity/jose/Base64urlIsInAlphabetPinLaw" = some m.cls := findClass_of_methodNamed Bd.named
  have hnm := (name_of_methodNamed Bd.named Bd.method).1
  have X0 : Stand p l e ({ frames := 0, cells := 0, slots := 0, locals := 0 } : Room) s m #[(.int p0)] below meth c s₁ [] 0 0 := Stand.of_body Bd
  have e0 : s₁.heap = h0 := by rw [← hh, Bd.state]; rfl
  have N0 := Fr.nil n0
  have pre0 : own_Go p e below (s₁.setTop (entryFrame m #[(.int p0)] 2)) (s₁.setTop (mkF m 0 #[.val (.int p0), .unset] [])) := fun t_ k_ => castTop (ef__own_gi m p0) k_
  have P1 := own_step (C := s₁.setTop (mkF m 3 #[.val (.int p0), .unset] [(.int (45 : Int32)), (.int p0)])) pre0 (by
    intro tt_ kk_
    refine XS.iloadN X0.here hx rfl (hb hby d1_0) rfl ?_
    show Steps p.tables e below (s₁.setTop (mkF m 1 #[.val (.int p0), .unset] [(.int p0)])) _
    refine XS.bipush X0.here hx rfl (hb hby d1_1) ?_
    exact kk_)
  by_cases c2 : (45 : Int32) < p0
  · have P3 := own_step (C := s₁.setTop (mkF m 12 #[.val (.int p0), .unset] [])) P1 (by
      intro tt_ kk_
      refine XS.icmpYes X0.here hx rfl (pc0 := 3) (pc' := 12) rfl (hb hby d1_3) rfl (tlt c2).2.2.1 (by decide) (by decide) ?_
      exact kk_)
    have P4 := own_step (C := s₁.setTop (mkF m 15 #[.val (.int p0), .unset] [(.int (57 : Int32)), (.int p0)])) P3 (by
      intro tt_ kk_
      refine XS.iloadN X0.here hx rfl (hb hby d1_12) rfl ?_
      show Steps p.tables e below (s₁.setTop (mkF m 13 #[.val (.int p0), .unset] [(.int p0)])) _
      refine XS.bipush X0.here hx rfl (hb hby d1_13) ?_
      exact kk_)
    by_cases c5 : (57 : Int32) < p0
    · have P6 := own_step (C := s₁.setTop (mkF m 25 #[.val (.int p0), .unset] [])) P4 (by
        intro tt_ kk_
        refine XS.icmpYes X0.here hx rfl (pc0 := 15) (pc' := 25) rfl (hb hby d1_15) rfl (tlt c5).2.2.1 (by decide) (by decide) ?_
        exact kk_)
      have P7 := own_step (C := s₁.setTop (mkF m 28 #[.val (.int p0), .unset] [(.int (90 : Int32)), (.int p0)])) P6 (by
        intro tt_ kk_
        refine XS.iloadN X0.here hx rfl (hb hby d1_25) rfl ?_
        show Steps p.tables e below (s₁.setTop (mkF m 26 #[.val (.int p0), .unset] [(.int p0)])) _
        refine XS.bipush X0.here hx rfl (hb hby d1_26) ?_
        exact kk_)
      by_cases c8 : (90 : Int32) < p0
      · have P9 := own_step (C := s₁.setTop (mkF m 39 #[.val (.int p0), .unset] [])) P7 (by
          intro tt_ kk_
          refine XS.icmpYes X0.here hx rfl (pc0 := 28) (pc' := 39) rfl (hb hby d1_28) rfl (tlt c8).2.2.1 (by decide) (by decide) ?_
          exact kk_)
        have P10 := own_step (C := s₁.setTop (mkF m 42 #[.val (.int p0), .unset] [(.int (97 : Int32)), (.int p0)])) P9 (by
          intro tt_ kk_
          refine XS.iloadN X0.here hx rfl (hb hby d1_39) rfl ?_
          show Steps p.tables e below (s₁.setTop (mkF m 40 #[.val (.int p0), .unset] [(.int p0)])) _
          refine XS.bipush X0.here hx rfl (hb hby d1_40) ?_
          exact kk_)
        by_cases c11 : p0 < (97 : Int32)
        · have P12 := own_step (C := s₁.setTop (mkF m 45 #[.val (.int p0), .unset] [])) P10 (by
            intro tt_ kk_
            refine XS.icmpNo X0.here hx rfl (hb hby d1_42) rfl (tlt c11).2.1 ?_
            exact kk_)
          have P13 := own_step (C := s₁.setTop (mkF m 60 #[.val (.int p0), .val (.int (63 : Int32))] [(.int (63 : Int32))])) P12 (by
            intro tt_ kk_
            refine XS.bipush X0.here hx rfl (hb hby d1_45) ?_
            show Steps p.tables e below (s₁.setTop (mkF m 47 #[.val (.int p0), .unset] [(.int (63 : Int32))])) _
            refine XS.istoreN X0.here hx rfl (hb hby d1_47) rfl (l' := #[.val (.int p0), .val (.int (63 : Int32))]) rfl ?_
            show Steps p.tables e below (s₁.setTop (mkF m 48 #[.val (.int p0), .val (.int (63 : Int32))] [])) _
            refine XS.goto X0.here hx rfl (pc0 := 48) (pc' := 56) rfl (hb hby d1_48) (by decide) (by decide) ?_
            show Steps p.tables e below (s₁.setTop (mkF m 56 #[.val (.int p0), .val (.int (63 : Int32))] [])) _
            refine XS.iloadN X0.here hx rfl (hb hby d1_56) rfl ?_
            show Steps p.tables e below (s₁.setTop (mkF m 57 #[.val (.int p0), .val (.int (63 : Int32))] [(.int (63 : Int32))])) _
            refine XS.bipush X0.here hx rfl (hb hby d1_57) ?_
            show Steps p.tables e below (s₁.setTop (mkF m 59 #[.val (.int p0), .val (.int (63 : Int32))] [(.int (63 : Int32)), (.int (63 : Int32))])) _
            refine XS.iand X0.here hx rfl (hb hby d1_59) rfl ?_
            exact kk_)
          obtain ⟨fs, hr, hrun, hended, hW, hsame⟩ := X0.leave (v := some (.int (63 : Int32))) (fun h => by rw [Bd.returns] at h; cases h)
          refine ⟨_, _, P13 _ ?_, hrun, hended, _, _, rfl, ?_, ⟨_, rfl⟩, hW, hsame.mono (by decide) (by decide)⟩
          · exact retI X0 hx Bd.returns (hb hby d1_60) hr
          · show Q_own_gi Z _ h0 n0 _ s₁.heap _
            rw [e0]
            exact ⟨by unfold own_gi; rw [if_pos c2, if_pos c5, if_pos c8, if_pos c11], N0, rfl⟩
        · have P14 := own_step (C := s₁.setTop (mkF m 51 #[.val (.int p0), .unset] [])) P10 (by
            intro tt_ kk_
            refine XS.icmpYes X0.here hx rfl (pc0 := 42) (pc' := 51) rfl (hb hby d1_42) rfl (flt c11).2.1 (by decide) (by decide) ?_
            exact kk_)
          have P15 := own_step (C := s₁.setTop (mkF m 60 #[.val (.int p0), .val (.int (p0 - (71 : Int32)))] [(.int ((p0 - (71 : Int32)) &&& (63 : Int32)))])) P14 (by
            intro tt_ kk_
            refine XS.iloadN X0.here hx rfl (hb hby d1_51) rfl ?_
            show Steps p.tables e below (s₁.setTop (mkF m 52 #[.val (.int p0), .unset] [(.int p0)])) _
            refine XS.bipush X0.here hx rfl (hb hby d1_52) ?_
            show Steps p.tables e below (s₁.setTop (mkF m 54 #[.val (.int p0), .unset] [(.int (71 : Int32)), (.int p0)])) _
            refine XS.isub X0.here hx rfl (hb hby d1_54) rfl ?_
            show Steps p.tables e below (s₁.setTop (mkF m 55 #[.val (.int p0), .unset] [(.int (p0 - (71 : Int32)))])) _
            refine XS.istoreN X0.here hx rfl (hb hby d1_55) rfl (l' := #[.val (.int p0), .val (.int (p0 - (71 : Int32)))]) rfl ?_
            show Steps p.tables e below (s₁.setTop (mkF m 56 #[.val (.int p0), .val (.int (p0 - (71 : Int32)))] [])) _
            refine XS.iloadN X0.here hx rfl (hb hby d1_56) rfl ?_
            show Steps p.tables e below (s₁.setTop (mkF m 57 #[.val (.int p0), .val (.int (p0 - (71 : Int32)))] [(.int (p0 - (71 : Int32)))])) _
            refine XS.bipush X0.here hx rfl (hb hby d1_57) ?_
            show Steps p.tables e below (s₁.setTop (mkF m 59 #[.val (.int p0), .val (.int (p0 - (71 : Int32)))] [(.int (63 : Int32)), (.int (p0 - (71 : Int32)))])) _
            refine XS.iand X0.here hx rfl (hb hby d1_59) rfl ?_
            exact kk_)
          obtain ⟨fs, hr, hrun, hended, hW, hsame⟩ := X0.leave (v := some (.int ((p0 - (71 : Int32)) &&& (63 : Int32)))) (fun h => by rw [Bd.returns] at h; cases h)
          refine ⟨_, _, P15 _ ?_, hrun, hended, _, _, rfl, ?_, ⟨_, rfl⟩, hW, hsame.mono (by decide) (by decide)⟩
          · exact retI X0 hx Bd.returns (hb hby d1_60) hr
          · show Q_own_gi Z _ h0 n0 _ s₁.heap _
            rw [e0]
            exact ⟨by unfold own_gi; rw [if_pos c2, if_pos c5, if_pos c8, if_neg c11], N0, rfl⟩
      · have P16 := own_step (C := s₁.setTop (mkF m 31 #[.val (.int p0), .unset] [])) P7 (by
          intro tt_ kk_
          refine XS.icmpNo X0.here hx rfl (hb hby d1_28) rfl (flt c8).2.2.1 ?_
          exact kk_)
        have P17 := own_step (C := s₁.setTop (mkF m 60 #[.val (.int p0), .val (.int (p0 - (65 : Int32)))] [(.int ((p0 - (65 : Int32)) &&& (63 : Int32)))])) P16 (by
          intro tt_ kk_
          refine XS.iloadN X0.here hx rfl (hb hby d1_31) rfl ?_
          show Steps p.tables e below (s₁.setTop (mkF m 32 #[.val (.int p0), .unset] [(.int p0)])) _
          refine XS.bipush X0.here hx rfl (hb hby d1_32) ?_
          show Steps p.tables e below (s₁.setTop (mkF m 34 #[.val (.int p0), .unset] [(.int (65 : Int32)), (.int p0)])) _
          refine XS.isub X0.here hx rfl (hb hby d1_34) rfl ?_
          show Steps p.tables e below (s₁.setTop (mkF m 35 #[.val (.int p0), .unset] [(.int (p0 - (65 : Int32)))])) _
          refine XS.istoreN X0.here hx rfl (hb hby d1_35) rfl (l' := #[.val (.int p0), .val (.int (p0 - (65 : Int32)))]) rfl ?_
          show Steps p.tables e below (s₁.setTop (mkF m 36 #[.val (.int p0), .val (.int (p0 - (65 : Int32)))] [])) _
          refine XS.goto X0.here hx rfl (pc0 := 36) (pc' := 56) rfl (hb hby d1_36) (by decide) (by decide) ?_
          show Steps p.tables e below (s₁.setTop (mkF m 56 #[.val (.int p0), .val (.int (p0 - (65 : Int32)))] [])) _
          refine XS.iloadN X0.here hx rfl (hb hby d1_56) rfl ?_
          show Steps p.tables e below (s₁.setTop (mkF m 57 #[.val (.int p0), .val (.int (p0 - (65 : Int32)))] [(.int (p0 - (65 : Int32)))])) _
          refine XS.bipush X0.here hx rfl (hb hby d1_57) ?_
          show Steps p.tables e below (s₁.setTop (mkF m 59 #[.val (.int p0), .val (.int (p0 - (65 : Int32)))] [(.int (63 : Int32)), (.int (p0 - (65 : Int32)))])) _
          refine XS.iand X0.here hx rfl (hb hby d1_59) rfl ?_
          exact kk_)
        obtain ⟨fs, hr, hrun, hended, hW, hsame⟩ := X0.leave (v := some (.int ((p0 - (65 : Int32)) &&& (63 : Int32)))) (fun h => by rw [Bd.returns] at h; cases h)
        refine ⟨_, _, P17 _ ?_, hrun, hended, _, _, rfl, ?_, ⟨_, rfl⟩, hW, hsame.mono (by decide) (by decide)⟩
        · exact retI X0 hx Bd.returns (hb hby d1_60) hr
        · show Q_own_gi Z _ h0 n0 _ s₁.heap _
          rw [e0]
          exact ⟨by unfold own_gi; rw [if_pos c2, if_pos c5, if_neg c8], N0, rfl⟩
    · have P18 := own_step (C := s₁.setTop (mkF m 18 #[.val (.int p0), .unset] [])) P4 (by
        intro tt_ kk_
        refine XS.icmpNo X0.here hx rfl (hb hby d1_15) rfl (flt c5).2.2.1 ?_
        exact kk_)
      have P19 := own_step (C := s₁.setTop (mkF m 60 #[.val (.int p0), .val (.int (p0 + (4 : Int32)))] [(.int ((p0 + (4 : Int32)) &&& (63 : Int32)))])) P18 (by
        intro tt_ kk_
        refine XS.iloadN X0.here hx rfl (hb hby d1_18) rfl ?_
        show Steps p.tables e below (s₁.setTop (mkF m 19 #[.val (.int p0), .unset] [(.int p0)])) _
        refine XS.iconst X0.here hx rfl (hb hby d1_19) ?_
        show Steps p.tables e below (s₁.setTop (mkF m 20 #[.val (.int p0), .unset] [(.int (4 : Int32)), (.int p0)])) _
        refine XS.iadd X0.here hx rfl (hb hby d1_20) rfl ?_
        show Steps p.tables e below (s₁.setTop (mkF m 21 #[.val (.int p0), .unset] [(.int (p0 + (4 : Int32)))])) _
        refine XS.istoreN X0.here hx rfl (hb hby d1_21) rfl (l' := #[.val (.int p0), .val (.int (p0 + (4 : Int32)))]) rfl ?_
        show Steps p.tables e below (s₁.setTop (mkF m 22 #[.val (.int p0), .val (.int (p0 + (4 : Int32)))] [])) _
        refine XS.goto X0.here hx rfl (pc0 := 22) (pc' := 56) rfl (hb hby d1_22) (by decide) (by decide) ?_
        show Steps p.tables e below (s₁.setTop (mkF m 56 #[.val (.int p0), .val (.int (p0 + (4 : Int32)))] [])) _
        refine XS.iloadN X0.here hx rfl (hb hby d1_56) rfl ?_
        show Steps p.tables e below (s₁.setTop (mkF m 57 #[.val (.int p0), .val (.int (p0 + (4 : Int32)))] [(.int (p0 + (4 : Int32)))])) _
        refine XS.bipush X0.here hx rfl (hb hby d1_57) ?_
        show Steps p.tables e below (s₁.setTop (mkF m 59 #[.val (.int p0), .val (.int (p0 + (4 : Int32)))] [(.int (63 : Int32)), (.int (p0 + (4 : Int32)))])) _
        refine XS.iand X0.here hx rfl (hb hby d1_59) rfl ?_
        exact kk_)
      obtain ⟨fs, hr, hrun, hended, hW, hsame⟩ := X0.leave (v := some (.int ((p0 + (4 : Int32)) &&& (63 : Int32)))) (fun h => by rw [Bd.returns] at h; cases h)
      refine ⟨_, _, P19 _ ?_, hrun, hended, _, _, rfl, ?_, ⟨_, rfl⟩, hW, hsame.mono (by decide) (by decide)⟩
      · exact retI X0 hx Bd.returns (hb hby d1_60) hr
      · show Q_own_gi Z _ h0 n0 _ s₁.heap _
        rw [e0]
        exact ⟨by unfold own_gi; rw [if_pos c2, if_neg c5], N0, rfl⟩
  · have P20 := own_step (C := s₁.setTop (mkF m 6 #[.val (.int p0), .unset] [])) P1 (by
      intro tt_ kk_
      refine XS.icmpNo X0.here hx rfl (hb hby d1_3) rfl (flt c2).2.2.1 ?_
      exact kk_)
    have P21 := own_step (C := s₁.setTop (mkF m 60 #[.val (.int p0), .val (.int (62 : Int32))] [(.int (62 : Int32))])) P20 (by
      intro tt_ kk_
      refine XS.bipush X0.here hx rfl (hb hby d1_6) ?_
      show Steps p.tables e below (s₁.setTop (mkF m 8 #[.val (.int p0), .unset] [(.int (62 : Int32))])) _
      refine XS.istoreN X0.here hx rfl (hb hby d1_8) rfl (l' := #[.val (.int p0), .val (.int (62 : Int32))]) rfl ?_
      show Steps p.tables e below (s₁.setTop (mkF m 9 #[.val (.int p0), .val (.int (62 : Int32))] [])) _
      refine XS.goto X0.here hx rfl (pc0 := 9) (pc' := 56) rfl (hb hby d1_9) (by decide) (by decide) ?_
      show Steps p.tables e below (s₁.setTop (mkF m 56 #[.val (.int p0), .val (.int (62 : Int32))] [])) _
      refine XS.iloadN X0.here hx rfl (hb hby d1_56) rfl ?_
      show Steps p.tables e below (s₁.setTop (mkF m 57 #[.val (.int p0), .val (.int (62 : Int32))] [(.int (62 : Int32))])) _
      refine XS.bipush X0.here hx rfl (hb hby d1_57) ?_
      show Steps p.tables e below (s₁.setTop (mkF m 59 #[.val (.int p0), .val (.int (62 : Int32))] [(.int (63 : Int32)), (.int (62 : Int32))])) _
      refine XS.iand X0.here hx rfl (hb hby d1_59) rfl ?_
      exact kk_)
    obtain ⟨fs, hr, hrun, hended, hW, hsame⟩ := X0.leave (v := some (.int (62 : Int32))) (fun h => by rw [Bd.returns] at h; cases h)
    refine ⟨_, _, P21 _ ?_, hrun, hended, _, _, rfl, ?_, ⟨_, rfl⟩, hW, hsame.mono (by decide) (by decide)⟩
    · exact retI X0 hx Bd.returns (hb hby d1_60) hr
    · show Q_own_gi Z _ h0 n0 _ s₁.heap _
      rw [e0]
      exact ⟨by unfold own_gi; rw [if_neg c2], N0, rfl⟩
def own_in (p0 : Int32) : Int32 := (if p0 < (65 : Int32) then (if p0 < (97 : Int32) then (if p0 < (48 : Int32) then (if p0 = (45 : Int32) then (1 : Int32) else (if p0 = (95 : Int32) then (1 : Int32) else (0 : Int32))) else (if (57 : Int32) < p0 then (if p0 = (45 : Int32) then (1 : Int32) else (if p0 = (95 : Int32) then (1 : Int32) else (0 : Int32))) else (1 : Int32))) else (if (122 : Int32) < p0 then (if p0 < (48 : Int32) then (if p0 = (45 : Int32) then (1 : Int32) else (if p0 = (95 : Int32) then (1 : Int32) else (0 : Int32))) else (if (57 : Int32) < p0 then (if p0 = (45 : Int32) then (1 : Int32) else (if p0 = (95 : Int32) then (1 : Int32) else (0 : Int32))) else (1 : Int32))) else (1 : Int32))) else (if (90 : Int32) < p0 then (if p0 < (97 : Int32) then (if p0 < (48 : Int32) then (if p0 = (45 : Int32) then (1 : Int32) else (if p0 = (95 : Int32) then (1 : Int32) else (0 : Int32))) else (if (57 : Int32) < p0 then (if p0 = (45 : Int32) then (1 : Int32) else (if p0 = (95 : Int32) then (1 : Int32) else (0 : Int32))) else (1 : Int32))) else (if (122 : Int32) < p0 then (if p0 < (48 : Int32) then (if p0 = (45 : Int32) then (1 : Int32) else (if p0 = (95 : Int32) then (1 : Int32) else (0 : Int32))) else (if (57 : Int32) < p0 then (if p0 = (45 : Int32) then (1 : Int32) else (if p0 = (95 : Int32) then (1 : Int32) else (0 : Int32))) else (1 : Int32))) else (1 : Int32))) else (1 : Int32)))
theorem d7_0 : decode prog_16_method_5_code 0 = .ok (.iload_n 0, 1) := by decide +kernel
theorem d7_1 : decode prog_16_method_5_code 1 = .ok (.bipush 65, 2) := by decide +kernel
theorem d7_3 : decode prog_16_method_5_code 3 = .ok (.if_icmp .lt 9, 3) := by decide +kernel
theorem d7_6 : decode prog_16_method_5_code 6 = .ok (.iload_n 0, 1) := by decide +kernel
theorem d7_7 : decode prog_16_method_5_code 7 = .ok (.bipush 90, 2) := by decide +kernel
theorem d7_9 : decode prog_16_method_5_code 9 = .ok (.if_icmp .le 39, 3) := by decide +kernel
theorem d7_12 : decode prog_16_method_5_code 12 = .ok (.iload_n 0, 1) := by decide +kernel
theorem d7_13 : decode prog_16_method_5_code 13 = .ok (.bipush 97, 2) := by decide +kernel
theorem d7_15 : decode prog_16_method_5_code 15 = .ok (.if_icmp .lt 9, 3) := by decide +kernel
theorem d7_18 : decode prog_16_method_5_code 18 = .ok (.iload_n 0, 1) := by decide +kernel
theorem d7_19 : decode prog_16_method_5_code 19 = .ok (.bipush 122, 2) := by decide +kernel
theorem d7_21 : decode prog_16_method_5_code 21 = .ok (.if_icmp .le 27, 3) := by decide +kernel
theorem d7_24 : decode prog_16_method_5_code 24 = .ok (.iload_n 0, 1) := by decide +kernel
theorem d7_25 : decode prog_16_method_5_code 25 = .ok (.bipush 48, 2) := by decide +kernel
theorem d7_27 : decode prog_16_method_5_code 27 = .ok (.if_icmp .lt 9, 3) := by decide +kernel
theorem d7_30 : decode prog_16_method_5_code 30 = .ok (.iload_n 0, 1) := by decide +kernel
theorem d7_31 : decode prog_16_method_5_code 31 = .ok (.bipush 57, 2) := by decide +kernel
theorem d7_33 : decode prog_16_method_5_code 33 = .ok (.if_icmp .le 15, 3) := by decide +kernel
theorem d7_36 : decode prog_16_method_5_code 36 = .ok (.iload_n 0, 1) := by decide +kernel
theorem d7_37 : decode prog_16_method_5_code 37 = .ok (.bipush 45, 2) := by decide +kernel
theorem d7_39 : decode prog_16_method_5_code 39 = .ok (.if_icmp .eq 9, 3) := by decide +kernel
theorem d7_42 : decode prog_16_method_5_code 42 = .ok (.iload_n 0, 1) := by decide +kernel
theorem d7_43 : decode prog_16_method_5_code 43 = .ok (.bipush 95, 2) := by decide +kernel
theorem d7_45 : decode prog_16_method_5_code 45 = .ok (.if_icmp .ne 7, 3) := by decide +kernel
theorem d7_48 : decode prog_16_method_5_code 48 = .ok (.iconst 1, 1) := by decide +kernel
theorem d7_49 : decode prog_16_method_5_code 49 = .ok (.goto 4, 3) := by decide +kernel
theorem d7_52 : decode prog_16_method_5_code 52 = .ok (.iconst 0, 1) := by decide +kernel
theorem d7_53 : decode prog_16_method_5_code 53 = .ok (.ireturn, 1) := by decide +kernel
theorem ef__own_in (m : MethodId) (x0 : Int32) : entryFrame m #[(.int x0)] 1 = mkF m 0 #[.val (.int x0)] [] := by first | (simp [entryFrame, mkF, argsToLocals, Value.category]; done) | rfl
def Q_own_in (Z : State) (p0 : Int32) (h0 : Heap) (n0 : Nat) (v_ : Option Value) (h : Heap) (L_ : List Loc) : Prop := v_ = some (.int (own_in p0)) ∧ Fr n0 L_ ∧ h = h0
theorem pn1 : plainName "com/example/verified_health_identity/verifiedhealthidentity/jose/Base64url" = true := by first | (simp [plainName, overriddenIn]; done) | decide +kernel
set_option maxRecDepth 65536 in
set_option maxHeartbeats 40000000 in
theorem rm_own_in (l : Launch) (Z : State) (a0 : Array Value) (hw : ∀ d ∈ tables_1, d.before a0 Z = true) (ws : List Jvm.Cond) (p0 : Int32) (h0 : Heap) (n0 : Nat) (Z0 : n0 ≤ h0.size) :
    MetFree l (⟨"com/example/verified_health_identity/verifiedhealthidentity/jose/Base64url", "isInAlphabet", "(C)Z"⟩ : MethodName) (head1 (Jvm.Cond.code (⟨"com/example/verified_health_identity/verifiedhealthidentity/jose/Base64url", "isInAlphabet", "(C)Z"⟩ : MethodName) prog_16_method_5_code 1 (some .boolean) :: ws) ({ frames := 0, cells := 0, slots := 0, locals := 0 } : Room)) (fun a_ U_ => a_ = #[(.int p0)] ∧ Z.Warmed39 U_.vm ∧ U_.heap = h0) (fun _ _ _ _ _ => True) (fun _ U_ o_ V_ => ∃ v_ L_, o_ = .returned v_ ∧ Q_own_in Z p0 h0 n0 v_ V_.heap L_ ∧ FrameEnd U_ o_ V_ L_ ({ frames := 0, cells := 0, slots := 0, locals := 0 } : Room).cells ({ frames := 0, cells := 0, slots := 0, locals := 0 } : Room).slots) := by
  refine MetFree.of_bodySF (plainFor_of_name pn1) hisR ?_
  intro p e s m args below meth c s₁ Bd hml0 hP hK
  obtain ⟨rfl, hZ, hh⟩ := hP
  have hx := Bd.exec
  have hby := Bd.bytes
  have hml : c.maxLocals = 1 := hml0
  have hown : s.vm.findClass "com/example/verified_health_identity/verifiedhealthidentity/jose/Base64url" = some m.cls := findClass_of_methodNamed Bd.named
  have hnm := (name_of_methodNamed Bd.named Bd.method).1
  have X0 : Stand p l e ({ frames := 0, cells := 0, slots := 0, locals := 0 } : Room) s m #[(.int p0)] below meth c s₁ [] 0 0 := Stand.of_body Bd
  have e0 : s₁.heap = h0 := by rw [← hh, Bd.state]; rfl
  have N0 := Fr.nil n0
  have pre0 : own_Go p e below (s₁.setTop (entryFrame m #[(.int p0)] 1)) (s₁.setTop (mkF m 0 #[.val (.int p0)] [])) := fun t_ k_ => castTop (ef__own_in m p0) k_
  have P1 := own_step (C := s₁.setTop (mkF m 3 #[.val (.int p0)] [(.int (65 : Int32)), (.int p0)])) pre0 (by
    intro tt_ kk_
    refine XS.iloadN X0.here hx rfl (hb hby d7_0) rfl ?_
    show Steps p.tables e below (s₁.setTop (mkF m 1 #[.val (.int p0)] [(.int p0)])) _
    refine XS.bipush X0.here hx rfl (hb hby d7_1) ?_
    exact kk_)
  by_cases c2 : p0 < (65 : Int32)
  · have P3 := own_step (C := s₁.setTop (mkF m 12 #[.val (.int p0)] [])) P1 (by
      intro tt_ kk_
      refine XS.icmpYes X0.here hx rfl (pc0 := 3) (pc' := 12) rfl (hb hby d7_3) rfl (tlt c2).1 (by decide) (by decide) ?_
      exact kk_)
    have P4 := own_step (C := s₁.setTop (mkF m 15 #[.val (.int p0)] [(.int (97 : Int32)), (.int p0)])) P3 (by
      intro tt_ kk_
      refine XS.iloadN X0.here hx rfl (hb hby d7_12) rfl ?_
      show Steps p.tables e below (s₁.setTop (mkF m 13 #[.val (.int p0)] [(.int p0)])) _
      refine XS.bipush X0.here hx rfl (hb hby d7_13) ?_
      exact kk_)
    by_cases c5 : p0 < (97 : Int32)
    · have P6 := own_step (C := s₁.setTop (mkF m 24 #[.val (.int p0)] [])) P4 (by
        intro tt_ kk_
        refine XS.icmpYes X0.here hx rfl (pc0 := 15) (pc' := 24) rfl (hb hby d7_15) rfl (tlt c5).1 (by decide) (by decide) ?_
        exact kk_)
      have P7 := own_step (C := s₁.setTop (mkF m 27 #[.val (.int p0)] [(.int (48 : Int32)), (.int p0)])) P6 (by
        intro tt_ kk_
        refine XS.iloadN X0.here hx rfl (hb hby d7_24) rfl ?_
        show Steps p.tables e below (s₁.setTop (mkF m 25 #[.val (.int p0)] [(.int p0)])) _
        refine XS.bipush X0.here hx rfl (hb hby d7_25) ?_
        exact kk_)
      by_cases c8 : p0 < (48 : Int32)
      · have P9 := own_step (C := s₁.setTop (mkF m 36 #[.val (.int p0)] [])) P7 (by
          intro tt_ kk_
          refine XS.icmpYes X0.here hx rfl (pc0 := 27) (pc' := 36) rfl (hb hby d7_27) rfl (tlt c8).1 (by decide) (by decide) ?_
          exact kk_)
        have P10 := own_step (C := s₁.setTop (mkF m 39 #[.val (.int p0)] [(.int (45 : Int32)), (.int p0)])) P9 (by
          intro tt_ kk_
          refine XS.iloadN X0.here hx rfl (hb hby d7_36) rfl ?_
          show Steps p.tables e below (s₁.setTop (mkF m 37 #[.val (.int p0)] [(.int p0)])) _
          refine XS.bipush X0.here hx rfl (hb hby d7_37) ?_
          exact kk_)
        by_cases c11 : p0 = (45 : Int32)
        · have P12 := own_step (C := s₁.setTop (mkF m 48 #[.val (.int p0)] [])) P10 (by
            intro tt_ kk_
            refine XS.icmpYes X0.here hx rfl (pc0 := 39) (pc' := 48) rfl (hb hby d7_39) rfl (teq c11).1 (by decide) (by decide) ?_
            exact kk_)
          have P13 := own_step (C := s₁.setTop (mkF m 53 #[.val (.int p0)] [(.int (1 : Int32))])) P12 (by
            intro tt_ kk_
            refine XS.iconst X0.here hx rfl (hb hby d7_48) ?_
            show Steps p.tables e below (s₁.setTop (mkF m 49 #[.val (.int p0)] [(.int (1 : Int32))])) _
            refine XS.goto X0.here hx rfl (pc0 := 49) (pc' := 53) rfl (hb hby d7_49) (by decide) (by decide) ?_
            exact kk_)
          obtain ⟨fs, hr, hrun, hended, hW, hsame⟩ := X0.leave (v := some (.int (1 : Int32))) (fun h => by rw [Bd.returns] at h; cases h)
          refine ⟨_, _, P13 _ ?_, hrun, hended, _, _, rfl, ?_, ⟨_, rfl⟩, hW, hsame.mono (by decide) (by decide)⟩
          · exact retN X0 hx (t := .boolean) Bd.returns (by simp) (hb hby d7_53) hr
          · show Q_own_in Z _ h0 n0 _ s₁.heap _
            rw [e0]
            exact ⟨by unfold own_in; rw [if_pos c2, if_pos c5, if_pos c8, if_pos c11], N0, rfl⟩
        · have P14 := own_step (C := s₁.setTop (mkF m 42 #[.val (.int p0)] [])) P10 (by
            intro tt_ kk_
            refine XS.icmpNo X0.here hx rfl (hb hby d7_39) rfl (feq c11).1 ?_
            exact kk_)
          have P15 := own_step (C := s₁.setTop (mkF m 45 #[.val (.int p0)] [(.int (95 : Int32)), (.int p0)])) P14 (by
            intro tt_ kk_
            refine XS.iloadN X0.here hx rfl (hb hby d7_42) rfl ?_
            show Steps p.tables e below (s₁.setTop (mkF m 43 #[.val (.int p0)] [(.int p0)])) _
            refine XS.bipush X0.here hx rfl (hb hby d7_43) ?_
            exact kk_)
          by_cases c16 : p0 = (95 : Int32)
          · have P17 := own_step (C := s₁.setTop (mkF m 48 #[.val (.int p0)] [])) P15 (by
              intro tt_ kk_
              refine XS.icmpNo X0.here hx rfl (hb hby d7_45) rfl (teq c16).2 ?_
              exact kk_)
            have P18 := own_step (C := s₁.setTop (mkF m 53 #[.val (.int p0)] [(.int (1 : Int32))])) P17 (by
              intro tt_ kk_
              refine XS.iconst X0.here hx rfl (hb hby d7_48) ?_
              show Steps p.tables e below (s₁.setTop (mkF m 49 #[.val (.int p0)] [(.int (1 : Int32))])) _
              refine XS.goto X0.here hx rfl (pc0 := 49) (pc' := 53) rfl (hb hby d7_49) (by decide) (by decide) ?_
              exact kk_)
            obtain ⟨fs, hr, hrun, hended, hW, hsame⟩ := X0.leave (v := some (.int (1 : Int32))) (fun h => by rw [Bd.returns] at h; cases h)
            refine ⟨_, _, P18 _ ?_, hrun, hended, _, _, rfl, ?_, ⟨_, rfl⟩, hW, hsame.mono (by decide) (by decide)⟩
            · exact retN X0 hx (t := .boolean) Bd.returns (by simp) (hb hby d7_53) hr
            · show Q_own_in Z _ h0 n0 _ s₁.heap _
              rw [e0]
              exact ⟨by unfold own_in; rw [if_pos c2, if_pos c5, if_pos c8, if_neg c11, if_pos c16], N0, rfl⟩
          · have P19 := own_step (C := s₁.setTop (mkF m 52 #[.val (.int p0)] [])) P15 (by
              intro tt_ kk_
              refine XS.icmpYes X0.here hx rfl (pc0 := 45) (pc' := 52) rfl (hb hby d7_45) rfl (feq c16).2 (by decide) (by decide) ?_
              exact kk_)
            have P20 := own_step (C := s₁.setTop (mkF m 53 #[.val (.int p0)] [(.int (0 : Int32))])) P19 (by
              intro tt_ kk_
              refine XS.iconst X0.here hx rfl (hb hby d7_52) ?_
              exact kk_)
            obtain ⟨fs, hr, hrun, hended, hW, hsame⟩ := X0.leave (v := some (.int (0 : Int32))) (fun h => by rw [Bd.returns] at h; cases h)
            refine ⟨_, _, P20 _ ?_, hrun, hended, _, _, rfl, ?_, ⟨_, rfl⟩, hW, hsame.mono (by decide) (by decide)⟩
            · exact retN X0 hx (t := .boolean) Bd.returns (by simp) (hb hby d7_53) hr
            · show Q_own_in Z _ h0 n0 _ s₁.heap _
              rw [e0]
              exact ⟨by unfold own_in; rw [if_pos c2, if_pos c5, if_pos c8, if_neg c11, if_neg c16], N0, rfl⟩
      · have P21 := own_step (C := s₁.setTop (mkF m 30 #[.val (.int p0)] [])) P7 (by
          intro tt_ kk_
          refine XS.icmpNo X0.here hx rfl (hb hby d7_27) rfl (flt c8).1 ?_
          exact kk_)
        have P22 := own_step (C := s₁.setTop (mkF m 33 #[.val (.int p0)] [(.int (57 : Int32)), (.int p0)])) P21 (by
          intro tt_ kk_
          refine XS.iloadN X0.here hx rfl (hb hby d7_30) rfl ?_
          show Steps p.tables e below (s₁.setTop (mkF m 31 #[.val (.int p0)] [(.int p0)])) _
          refine XS.bipush X0.here hx rfl (hb hby d7_31) ?_
          exact kk_)
        by_cases c23 : (57 : Int32) < p0
        · have P24 := own_step (C := s₁.setTop (mkF m 36 #[.val (.int p0)] [])) P22 (by
            intro tt_ kk_
            refine XS.icmpNo X0.here hx rfl (hb hby d7_33) rfl (tlt c23).2.2.2 ?_
            exact kk_)
          have P25 := own_step (C := s₁.setTop (mkF m 39 #[.val (.int p0)] [(.int (45 : Int32)), (.int p0)])) P24 (by
            intro tt_ kk_
            refine XS.iloadN X0.here hx rfl (hb hby d7_36) rfl ?_
            show Steps p.tables e below (s₁.setTop (mkF m 37 #[.val (.int p0)] [(.int p0)])) _
            refine XS.bipush X0.here hx rfl (hb hby d7_37) ?_
            exact kk_)
          by_cases c26 : p0 = (45 : Int32)
          · have P27 := own_step (C := s₁.setTop (mkF m 48 #[.val (.int p0)] [])) P25 (by
              intro tt_ kk_
              refine XS.icmpYes X0.here hx rfl (pc0 := 39) (pc' := 48) rfl (hb hby d7_39) rfl (teq c26).1 (by decide) (by decide) ?_
              exact kk_)
            have P28 := own_step (C := s₁.setTop (mkF m 53 #[.val (.int p0)] [(.int (1 : Int32))])) P27 (by
              intro tt_ kk_
              refine XS.iconst X0.here hx rfl (hb hby d7_48) ?_
              show Steps p.tables e below (s₁.setTop (mkF m 49 #[.val (.int p0)] [(.int (1 : Int32))])) _
              refine XS.goto X0.here hx rfl (pc0 := 49) (pc' := 53) rfl (hb hby d7_49) (by decide) (by decide) ?_
              exact kk_)
            obtain ⟨fs, hr, hrun, hended, hW, hsame⟩ := X0.leave (v := some (.int (1 : Int32))) (fun h => by rw [Bd.returns] at h; cases h)
            refine ⟨_, _, P28 _ ?_, hrun, hended, _, _, rfl, ?_, ⟨_, rfl⟩, hW, hsame.mono (by decide) (by decide)⟩
            · exact retN X0 hx (t := .boolean) Bd.returns (by simp) (hb hby d7_53) hr
            · show Q_own_in Z _ h0 n0 _ s₁.heap _
              rw [e0]
              exact ⟨by unfold own_in; rw [if_pos c2, if_pos c5, if_neg c8, if_pos c23, if_pos c26], N0, rfl⟩
          · have P29 := own_step (C := s₁.setTop (mkF m 42 #[.val (.int p0)] [])) P25 (by
              intro tt_ kk_
              refine XS.icmpNo X0.here hx rfl (hb hby d7_39) rfl (feq c26).1 ?_
              exact kk_)
            have P30 := own_step (C := s₁.setTop (mkF m 45 #[.val (.int p0)] [(.int (95 : Int32)), (.int p0)])) P29 (by
              intro tt_ kk_
              refine XS.iloadN X0.here hx rfl (hb hby d7_42) rfl ?_
              show Steps p.tables e below (s₁.setTop (mkF m 43 #[.val (.int p0)] [(.int p0)])) _
              refine XS.bipush X0.here hx rfl (hb hby d7_43) ?_
              exact kk_)
            by_cases c31 : p0 = (95 : Int32)
            · have P32 := own_step (C := s₁.setTop (mkF m 48 #[.val (.int p0)] [])) P30 (by
                intro tt_ kk_
                refine XS.icmpNo X0.here hx rfl (hb hby d7_45) rfl (teq c31).2 ?_
                exact kk_)
              have P33 := own_step (C := s₁.setTop (mkF m 53 #[.val (.int p0)] [(.int (1 : Int32))])) P32 (by
                intro tt_ kk_
                refine XS.iconst X0.here hx rfl (hb hby d7_48) ?_
                show Steps p.tables e below (s₁.setTop (mkF m 49 #[.val (.int p0)] [(.int (1 : Int32))])) _
                refine XS.goto X0.here hx rfl (pc0 := 49) (pc' := 53) rfl (hb hby d7_49) (by decide) (by decide) ?_
                exact kk_)
              obtain ⟨fs, hr, hrun, hended, hW, hsame⟩ := X0.leave (v := some (.int (1 : Int32))) (fun h => by rw [Bd.returns] at h; cases h)
              refine ⟨_, _, P33 _ ?_, hrun, hended, _, _, rfl, ?_, ⟨_, rfl⟩, hW, hsame.mono (by decide) (by decide)⟩
              · exact retN X0 hx (t := .boolean) Bd.returns (by simp) (hb hby d7_53) hr
              · show Q_own_in Z _ h0 n0 _ s₁.heap _
                rw [e0]
                exact ⟨by unfold own_in; rw [if_pos c2, if_pos c5, if_neg c8, if_pos c23, if_neg c26, if_pos c31], N0, rfl⟩
            · have P34 := own_step (C := s₁.setTop (mkF m 52 #[.val (.int p0)] [])) P30 (by
                intro tt_ kk_
                refine XS.icmpYes X0.here hx rfl (pc0 := 45) (pc' := 52) rfl (hb hby d7_45) rfl (feq c31).2 (by decide) (by decide) ?_
                exact kk_)
              have P35 := own_step (C := s₁.setTop (mkF m 53 #[.val (.int p0)] [(.int (0 : Int32))])) P34 (by
                intro tt_ kk_
                refine XS.iconst X0.here hx rfl (hb hby d7_52) ?_
                exact kk_)
              obtain ⟨fs, hr, hrun, hended, hW, hsame⟩ := X0.leave (v := some (.int (0 : Int32))) (fun h => by rw [Bd.returns] at h; cases h)
              refine ⟨_, _, P35 _ ?_, hrun, hended, _, _, rfl, ?_, ⟨_, rfl⟩, hW, hsame.mono (by decide) (by decide)⟩
              · exact retN X0 hx (t := .boolean) Bd.returns (by simp) (hb hby d7_53) hr
              · show Q_own_in Z _ h0 n0 _ s₁.heap _
                rw [e0]
                exact ⟨by unfold own_in; rw [if_pos c2, if_pos c5, if_neg c8, if_pos c23, if_neg c26, if_neg c31], N0, rfl⟩
        · have P36 := own_step (C := s₁.setTop (mkF m 48 #[.val (.int p0)] [])) P22 (by
            intro tt_ kk_
            refine XS.icmpYes X0.here hx rfl (pc0 := 33) (pc' := 48) rfl (hb hby d7_33) rfl (flt c23).2.2.2 (by decide) (by decide) ?_
            exact kk_)
          have P37 := own_step (C := s₁.setTop (mkF m 53 #[.val (.int p0)] [(.int (1 : Int32))])) P36 (by
            intro tt_ kk_
            refine XS.iconst X0.here hx rfl (hb hby d7_48) ?_
            show Steps p.tables e below (s₁.setTop (mkF m 49 #[.val (.int p0)] [(.int (1 : Int32))])) _
            refine XS.goto X0.here hx rfl (pc0 := 49) (pc' := 53) rfl (hb hby d7_49) (by decide) (by decide) ?_
            exact kk_)
          obtain ⟨fs, hr, hrun, hended, hW, hsame⟩ := X0.leave (v := some (.int (1 : Int32))) (fun h => by rw [Bd.returns] at h; cases h)
          refine ⟨_, _, P37 _ ?_, hrun, hended, _, _, rfl, ?_, ⟨_, rfl⟩, hW, hsame.mono (by decide) (by decide)⟩
          · exact retN X0 hx (t := .boolean) Bd.returns (by simp) (hb hby d7_53) hr
          · show Q_own_in Z _ h0 n0 _ s₁.heap _
            rw [e0]
            exact ⟨by unfold own_in; rw [if_pos c2, if_pos c5, if_neg c8, if_neg c23], N0, rfl⟩
    · have P38 := own_step (C := s₁.setTop (mkF m 18 #[.val (.int p0)] [])) P4 (by
        intro tt_ kk_
        refine XS.icmpNo X0.here hx rfl (hb hby d7_15) rfl (flt c5).1 ?_
        exact kk_)
      have P39 := own_step (C := s₁.setTop (mkF m 21 #[.val (.int p0)] [(.int (122 : Int32)), (.int p0)])) P38 (by
        intro tt_ kk_
        refine XS.iloadN X0.here hx rfl (hb hby d7_18) rfl ?_
        show Steps p.tables e below (s₁.setTop (mkF m 19 #[.val (.int p0)] [(.int p0)])) _
        refine XS.bipush X0.here hx rfl (hb hby d7_19) ?_
        exact kk_)
      by_cases c40 : (122 : Int32) < p0
      · have P41 := own_step (C := s₁.setTop (mkF m 24 #[.val (.int p0)] [])) P39 (by
          intro tt_ kk_
          refine XS.icmpNo X0.here hx rfl (hb hby d7_21) rfl (tlt c40).2.2.2 ?_
          exact kk_)
        have P42 := own_step (C := s₁.setTop (mkF m 27 #[.val (.int p0)] [(.int (48 : Int32)), (.int p0)])) P41 (by
          intro tt_ kk_
          refine XS.iloadN X0.here hx rfl (hb hby d7_24) rfl ?_
          show Steps p.tables e below (s₁.setTop (mkF m 25 #[.val (.int p0)] [(.int p0)])) _
          refine XS.bipush X0.here hx rfl (hb hby d7_25) ?_
          exact kk_)
        by_cases c43 : p0 < (48 : Int32)
        · have P44 := own_step (C := s₁.setTop (mkF m 36 #[.val (.int p0)] [])) P42 (by
            intro tt_ kk_
            refine XS.icmpYes X0.here hx rfl (pc0 := 27) (pc' := 36) rfl (hb hby d7_27) rfl (tlt c43).1 (by decide) (by decide) ?_
            exact kk_)
          have P45 := own_step (C := s₁.setTop (mkF m 39 #[.val (.int p0)] [(.int (45 : Int32)), (.int p0)])) P44 (by
            intro tt_ kk_
            refine XS.iloadN X0.here hx rfl (hb hby d7_36) rfl ?_
            show Steps p.tables e below (s₁.setTop (mkF m 37 #[.val (.int p0)] [(.int p0)])) _
            refine XS.bipush X0.here hx rfl (hb hby d7_37) ?_
            exact kk_)
          by_cases c46 : p0 = (45 : Int32)
          · have P47 := own_step (C := s₁.setTop (mkF m 48 #[.val (.int p0)] [])) P45 (by
              intro tt_ kk_
              refine XS.icmpYes X0.here hx rfl (pc0 := 39) (pc' := 48) rfl (hb hby d7_39) rfl (teq c46).1 (by decide) (by decide) ?_
              exact kk_)
            have P48 := own_step (C := s₁.setTop (mkF m 53 #[.val (.int p0)] [(.int (1 : Int32))])) P47 (by
              intro tt_ kk_
              refine XS.iconst X0.here hx rfl (hb hby d7_48) ?_
              show Steps p.tables e below (s₁.setTop (mkF m 49 #[.val (.int p0)] [(.int (1 : Int32))])) _
              refine XS.goto X0.here hx rfl (pc0 := 49) (pc' := 53) rfl (hb hby d7_49) (by decide) (by decide) ?_
              exact kk_)
            obtain ⟨fs, hr, hrun, hended, hW, hsame⟩ := X0.leave (v := some (.int (1 : Int32))) (fun h => by rw [Bd.returns] at h; cases h)
            refine ⟨_, _, P48 _ ?_, hrun, hended, _, _, rfl, ?_, ⟨_, rfl⟩, hW, hsame.mono (by decide) (by decide)⟩
            · exact retN X0 hx (t := .boolean) Bd.returns (by simp) (hb hby d7_53) hr
            · show Q_own_in Z _ h0 n0 _ s₁.heap _
              rw [e0]
              exact ⟨by unfold own_in; rw [if_pos c2, if_neg c5, if_pos c40, if_pos c43, if_pos c46], N0, rfl⟩
          · have P49 := own_step (C := s₁.setTop (mkF m 42 #[.val (.int p0)] [])) P45 (by
              intro tt_ kk_
              refine XS.icmpNo X0.here hx rfl (hb hby d7_39) rfl (feq c46).1 ?_
              exact kk_)
            have P50 := own_step (C := s₁.setTop (mkF m 45 #[.val (.int p0)] [(.int (95 : Int32)), (.int p0)])) P49 (by
              intro tt_ kk_
              refine XS.iloadN X0.here hx rfl (hb hby d7_42) rfl ?_
              show Steps p.tables e below (s₁.setTop (mkF m 43 #[.val (.int p0)] [(.int p0)])) _
              refine XS.bipush X0.here hx rfl (hb hby d7_43) ?_
              exact kk_)
            by_cases c51 : p0 = (95 : Int32)
            · have P52 := own_step (C := s₁.setTop (mkF m 48 #[.val (.int p0)] [])) P50 (by
                intro tt_ kk_
                refine XS.icmpNo X0.here hx rfl (hb hby d7_45) rfl (teq c51).2 ?_
                exact kk_)
              have P53 := own_step (C := s₁.setTop (mkF m 53 #[.val (.int p0)] [(.int (1 : Int32))])) P52 (by
                intro tt_ kk_
                refine XS.iconst X0.here hx rfl (hb hby d7_48) ?_
                show Steps p.tables e below (s₁.setTop (mkF m 49 #[.val (.int p0)] [(.int (1 : Int32))])) _
                refine XS.goto X0.here hx rfl (pc0 := 49) (pc' := 53) rfl (hb hby d7_49) (by decide) (by decide) ?_
                exact kk_)
              obtain ⟨fs, hr, hrun, hended, hW, hsame⟩ := X0.leave (v := some (.int (1 : Int32))) (fun h => by rw [Bd.returns] at h; cases h)
              refine ⟨_, _, P53 _ ?_, hrun, hended, _, _, rfl, ?_, ⟨_, rfl⟩, hW, hsame.mono (by decide) (by decide)⟩
              · exact retN X0 hx (t := .boolean) Bd.returns (by simp) (hb hby d7_53) hr
              · show Q_own_in Z _ h0 n0 _ s₁.heap _
                rw [e0]
                exact ⟨by unfold own_in; rw [if_pos c2, if_neg c5, if_pos c40, if_pos c43, if_neg c46, if_pos c51], N0, rfl⟩
            · have P54 := own_step (C := s₁.setTop (mkF m 52 #[.val (.int p0)] [])) P50 (by
                intro tt_ kk_
                refine XS.icmpYes X0.here hx rfl (pc0 := 45) (pc' := 52) rfl (hb hby d7_45) rfl (feq c51).2 (by decide) (by decide) ?_
                exact kk_)
              have P55 := own_step (C := s₁.setTop (mkF m 53 #[.val (.int p0)] [(.int (0 : Int32))])) P54 (by
                intro tt_ kk_
                refine XS.iconst X0.here hx rfl (hb hby d7_52) ?_
                exact kk_)
              obtain ⟨fs, hr, hrun, hended, hW, hsame⟩ := X0.leave (v := some (.int (0 : Int32))) (fun h => by rw [Bd.returns] at h; cases h)
              refine ⟨_, _, P55 _ ?_, hrun, hended, _, _, rfl, ?_, ⟨_, rfl⟩, hW, hsame.mono (by decide) (by decide)⟩
              · exact retN X0 hx (t := .boolean) Bd.returns (by simp) (hb hby d7_53) hr
              · show Q_own_in Z _ h0 n0 _ s₁.heap _
                rw [e0]
                exact ⟨by unfold own_in; rw [if_pos c2, if_neg c5, if_pos c40, if_pos c43, if_neg c46, if_neg c51], N0, rfl⟩
        · have P56 := own_step (C := s₁.setTop (mkF m 30 #[.val (.int p0)] [])) P42 (by
            intro tt_ kk_
            refine XS.icmpNo X0.here hx rfl (hb hby d7_27) rfl (flt c43).1 ?_
            exact kk_)
          have P57 := own_step (C := s₁.setTop (mkF m 33 #[.val (.int p0)] [(.int (57 : Int32)), (.int p0)])) P56 (by
            intro tt_ kk_
            refine XS.iloadN X0.here hx rfl (hb hby d7_30) rfl ?_
            show Steps p.tables e below (s₁.setTop (mkF m 31 #[.val (.int p0)] [(.int p0)])) _
            refine XS.bipush X0.here hx rfl (hb hby d7_31) ?_
            exact kk_)
          by_cases c58 : (57 : Int32) < p0
          · have P59 := own_step (C := s₁.setTop (mkF m 36 #[.val (.int p0)] [])) P57 (by
              intro tt_ kk_
              refine XS.icmpNo X0.here hx rfl (hb hby d7_33) rfl (tlt c58).2.2.2 ?_
              exact kk_)
            have P60 := own_step (C := s₁.setTop (mkF m 39 #[.val (.int p0)] [(.int (45 : Int32)), (.int p0)])) P59 (by
              intro tt_ kk_
              refine XS.iloadN X0.here hx rfl (hb hby d7_36) rfl ?_
              show Steps p.tables e below (s₁.setTop (mkF m 37 #[.val (.int p0)] [(.int p0)])) _
              refine XS.bipush X0.here hx rfl (hb hby d7_37) ?_
              exact kk_)
            by_cases c61 : p0 = (45 : Int32)
            · have P62 := own_step (C := s₁.setTop (mkF m 48 #[.val (.int p0)] [])) P60 (by
                intro tt_ kk_
                refine XS.icmpYes X0.here hx rfl (pc0 := 39) (pc' := 48) rfl (hb hby d7_39) rfl (teq c61).1 (by decide) (by decide) ?_
                exact kk_)
              have P63 := own_step (C := s₁.setTop (mkF m 53 #[.val (.int p0)] [(.int (1 : Int32))])) P62 (by
                intro tt_ kk_
                refine XS.iconst X0.here hx rfl (hb hby d7_48) ?_
                show Steps p.tables e below (s₁.setTop (mkF m 49 #[.val (.int p0)] [(.int (1 : Int32))])) _
                refine XS.goto X0.here hx rfl (pc0 := 49) (pc' := 53) rfl (hb hby d7_49) (by decide) (by decide) ?_
                exact kk_)
              obtain ⟨fs, hr, hrun, hended, hW, hsame⟩ := X0.leave (v := some (.int (1 : Int32))) (fun h => by rw [Bd.returns] at h; cases h)
              refine ⟨_, _, P63 _ ?_, hrun, hended, _, _, rfl, ?_, ⟨_, rfl⟩, hW, hsame.mono (by decide) (by decide)⟩
              · exact retN X0 hx (t := .boolean) Bd.returns (by simp) (hb hby d7_53) hr
              · show Q_own_in Z _ h0 n0 _ s₁.heap _
                rw [e0]
                exact ⟨by unfold own_in; rw [if_pos c2, if_neg c5, if_pos c40, if_neg c43, if_pos c58, if_pos c61], N0, rfl⟩
            · have P64 := own_step (C := s₁.setTop (mkF m 42 #[.val (.int p0)] [])) P60 (by
                intro tt_ kk_
                refine XS.icmpNo X0.here hx rfl (hb hby d7_39) rfl (feq c61).1 ?_
                exact kk_)
              have P65 := own_step (C := s₁.setTop (mkF m 45 #[.val (.int p0)] [(.int (95 : Int32)), (.int p0)])) P64 (by
                intro tt_ kk_
                refine XS.iloadN X0.here hx rfl (hb hby d7_42) rfl ?_
                show Steps p.tables e below (s₁.setTop (mkF m 43 #[.val (.int p0)] [(.int p0)])) _
                refine XS.bipush X0.here hx rfl (hb hby d7_43) ?_
                exact kk_)
              by_cases c66 : p0 = (95 : Int32)
              · have P67 := own_step (C := s₁.setTop (mkF m 48 #[.val (.int p0)] [])) P65 (by
                  intro tt_ kk_
                  refine XS.icmpNo X0.here hx rfl (hb hby d7_45) rfl (teq c66).2 ?_
                  exact kk_)
                have P68 := own_step (C := s₁.setTop (mkF m 53 #[.val (.int p0)] [(.int (1 : Int32))])) P67 (by
                  intro tt_ kk_
                  refine XS.iconst X0.here hx rfl (hb hby d7_48) ?_
                  show Steps p.tables e below (s₁.setTop (mkF m 49 #[.val (.int p0)] [(.int (1 : Int32))])) _
                  refine XS.goto X0.here hx rfl (pc0 := 49) (pc' := 53) rfl (hb hby d7_49) (by decide) (by decide) ?_
                  exact kk_)
                obtain ⟨fs, hr, hrun, hended, hW, hsame⟩ := X0.leave (v := some (.int (1 : Int32))) (fun h => by rw [Bd.returns] at h; cases h)
                refine ⟨_, _, P68 _ ?_, hrun, hended, _, _, rfl, ?_, ⟨_, rfl⟩, hW, hsame.mono (by decide) (by decide)⟩
                · exact retN X0 hx (t := .boolean) Bd.returns (by simp) (hb hby d7_53) hr
                · show Q_own_in Z _ h0 n0 _ s₁.heap _
                  rw [e0]
                  exact ⟨by unfold own_in; rw [if_pos c2, if_neg c5, if_pos c40, if_neg c43, if_pos c58, if_neg c61, if_pos c66], N0, rfl⟩
              · have P69 := own_step (C := s₁.setTop (mkF m 52 #[.val (.int p0)] [])) P65 (by
                  intro tt_ kk_
                  refine XS.icmpYes X0.here hx rfl (pc0 := 45) (pc' := 52) rfl (hb hby d7_45) rfl (feq c66).2 (by decide) (by decide) ?_
                  exact kk_)
                have P70 := own_step (C := s₁.setTop (mkF m 53 #[.val (.int p0)] [(.int (0 : Int32))])) P69 (by
                  intro tt_ kk_
                  refine XS.iconst X0.here hx rfl (hb hby d7_52) ?_
                  exact kk_)
                obtain ⟨fs, hr, hrun, hended, hW, hsame⟩ := X0.leave (v := some (.int (0 : Int32))) (fun h => by rw [Bd.returns] at h; cases h)
                refine ⟨_, _, P70 _ ?_, hrun, hended, _, _, rfl, ?_, ⟨_, rfl⟩, hW, hsame.mono (by decide) (by decide)⟩
                · exact retN X0 hx (t := .boolean) Bd.returns (by simp) (hb hby d7_53) hr
                · show Q_own_in Z _ h0 n0 _ s₁.heap _
                  rw [e0]
                  exact ⟨by unfold own_in; rw [if_pos c2, if_neg c5, if_pos c40, if_neg c43, if_pos c58, if_neg c61, if_neg c66], N0, rfl⟩
          · have P71 := own_step (C := s₁.setTop (mkF m 48 #[.val (.int p0)] [])) P57 (by
              intro tt_ kk_
              refine XS.icmpYes X0.here hx rfl (pc0 := 33) (pc' := 48) rfl (hb hby d7_33) rfl (flt c58).2.2.2 (by decide) (by decide) ?_
              exact kk_)
            have P72 := own_step (C := s₁.setTop (mkF m 53 #[.val (.int p0)] [(.int (1 : Int32))])) P71 (by
              intro tt_ kk_
              refine XS.iconst X0.here hx rfl (hb hby d7_48) ?_
              show Steps p.tables e below (s₁.setTop (mkF m 49 #[.val (.int p0)] [(.int (1 : Int32))])) _
              refine XS.goto X0.here hx rfl (pc0 := 49) (pc' := 53) rfl (hb hby d7_49) (by decide) (by decide) ?_
              exact kk_)
            obtain ⟨fs, hr, hrun, hended, hW, hsame⟩ := X0.leave (v := some (.int (1 : Int32))) (fun h => by rw [Bd.returns] at h; cases h)
            refine ⟨_, _, P72 _ ?_, hrun, hended, _, _, rfl, ?_, ⟨_, rfl⟩, hW, hsame.mono (by decide) (by decide)⟩
            · exact retN X0 hx (t := .boolean) Bd.returns (by simp) (hb hby d7_53) hr
            · show Q_own_in Z _ h0 n0 _ s₁.heap _
              rw [e0]
              exact ⟨by unfold own_in; rw [if_pos c2, if_neg c5, if_pos c40, if_neg c43, if_neg c58], N0, rfl⟩
      · have P73 := own_step (C := s₁.setTop (mkF m 48 #[.val (.int p0)] [])) P39 (by
          intro tt_ kk_
          refine XS.icmpYes X0.here hx rfl (pc0 := 21) (pc' := 48) rfl (hb hby d7_21) rfl (flt c40).2.2.2 (by decide) (by decide) ?_
          exact kk_)
        have P74 := own_step (C := s₁.setTop (mkF m 53 #[.val (.int p0)] [(.int (1 : Int32))])) P73 (by
          intro tt_ kk_
          refine XS.iconst X0.here hx rfl (hb hby d7_48) ?_
          show Steps p.tables e below (s₁.setTop (mkF m 49 #[.val (.int p0)] [(.int (1 : Int32))])) _
          refine XS.goto X0.here hx rfl (pc0 := 49) (pc' := 53) rfl (hb hby d7_49) (by decide) (by decide) ?_
          exact kk_)
        obtain ⟨fs, hr, hrun, hended, hW, hsame⟩ := X0.leave (v := some (.int (1 : Int32))) (fun h => by rw [Bd.returns] at h; cases h)
        refine ⟨_, _, P74 _ ?_, hrun, hended, _, _, rfl, ?_, ⟨_, rfl⟩, hW, hsame.mono (by decide) (by decide)⟩
        · exact retN X0 hx (t := .boolean) Bd.returns (by simp) (hb hby d7_53) hr
        · show Q_own_in Z _ h0 n0 _ s₁.heap _
          rw [e0]
          exact ⟨by unfold own_in; rw [if_pos c2, if_neg c5, if_neg c40], N0, rfl⟩
  · have P75 := own_step (C := s₁.setTop (mkF m 6 #[.val (.int p0)] [])) P1 (by
      intro tt_ kk_
      refine XS.icmpNo X0.here hx rfl (hb hby d7_3) rfl (flt c2).1 ?_
      exact kk_)
    have P76 := own_step (C := s₁.setTop (mkF m 9 #[.val (.int p0)] [(.int (90 : Int32)), (.int p0)])) P75 (by
      intro tt_ kk_
      refine XS.iloadN X0.here hx rfl (hb hby d7_6) rfl ?_
      show Steps p.tables e below (s₁.setTop (mkF m 7 #[.val (.int p0)] [(.int p0)])) _
      refine XS.bipush X0.here hx rfl (hb hby d7_7) ?_
      exact kk_)
    by_cases c77 : (90 : Int32) < p0
    · have P78 := own_step (C := s₁.setTop (mkF m 12 #[.val (.int p0)] [])) P76 (by
        intro tt_ kk_
        refine XS.icmpNo X0.here hx rfl (hb hby d7_9) rfl (tlt c77).2.2.2 ?_
        exact kk_)
      have P79 := own_step (C := s₁.setTop (mkF m 15 #[.val (.int p0)] [(.int (97 : Int32)), (.int p0)])) P78 (by
        intro tt_ kk_
        refine XS.iloadN X0.here hx rfl (hb hby d7_12) rfl ?_
        show Steps p.tables e below (s₁.setTop (mkF m 13 #[.val (.int p0)] [(.int p0)])) _
        refine XS.bipush X0.here hx rfl (hb hby d7_13) ?_
        exact kk_)
      by_cases c80 : p0 < (97 : Int32)
      · have P81 := own_step (C := s₁.setTop (mkF m 24 #[.val (.int p0)] [])) P79 (by
          intro tt_ kk_
          refine XS.icmpYes X0.here hx rfl (pc0 := 15) (pc' := 24) rfl (hb hby d7_15) rfl (tlt c80).1 (by decide) (by decide) ?_
          exact kk_)
        have P82 := own_step (C := s₁.setTop (mkF m 27 #[.val (.int p0)] [(.int (48 : Int32)), (.int p0)])) P81 (by
          intro tt_ kk_
          refine XS.iloadN X0.here hx rfl (hb hby d7_24) rfl ?_
          show Steps p.tables e below (s₁.setTop (mkF m 25 #[.val (.int p0)] [(.int p0)])) _
          refine XS.bipush X0.here hx rfl (hb hby d7_25) ?_
          exact kk_)
        by_cases c83 : p0 < (48 : Int32)
        · have P84 := own_step (C := s₁.setTop (mkF m 36 #[.val (.int p0)] [])) P82 (by
            intro tt_ kk_
            refine XS.icmpYes X0.here hx rfl (pc0 := 27) (pc' := 36) rfl (hb hby d7_27) rfl (tlt c83).1 (by decide) (by decide) ?_
            exact kk_)
          have P85 := own_step (C := s₁.setTop (mkF m 39 #[.val (.int p0)] [(.int (45 : Int32)), (.int p0)])) P84 (by
            intro tt_ kk_
            refine XS.iloadN X0.here hx rfl (hb hby d7_36) rfl ?_
            show Steps p.tables e below (s₁.setTop (mkF m 37 #[.val (.int p0)] [(.int p0)])) _
            refine XS.bipush X0.here hx rfl (hb hby d7_37) ?_
            exact kk_)
          by_cases c86 : p0 = (45 : Int32)
          · have P87 := own_step (C := s₁.setTop (mkF m 48 #[.val (.int p0)] [])) P85 (by
              intro tt_ kk_
              refine XS.icmpYes X0.here hx rfl (pc0 := 39) (pc' := 48) rfl (hb hby d7_39) rfl (teq c86).1 (by decide) (by decide) ?_
              exact kk_)
            have P88 := own_step (C := s₁.setTop (mkF m 53 #[.val (.int p0)] [(.int (1 : Int32))])) P87 (by
              intro tt_ kk_
              refine XS.iconst X0.here hx rfl (hb hby d7_48) ?_
              show Steps p.tables e below (s₁.setTop (mkF m 49 #[.val (.int p0)] [(.int (1 : Int32))])) _
              refine XS.goto X0.here hx rfl (pc0 := 49) (pc' := 53) rfl (hb hby d7_49) (by decide) (by decide) ?_
              exact kk_)
            obtain ⟨fs, hr, hrun, hended, hW, hsame⟩ := X0.leave (v := some (.int (1 : Int32))) (fun h => by rw [Bd.returns] at h; cases h)
            refine ⟨_, _, P88 _ ?_, hrun, hended, _, _, rfl, ?_, ⟨_, rfl⟩, hW, hsame.mono (by decide) (by decide)⟩
            · exact retN X0 hx (t := .boolean) Bd.returns (by simp) (hb hby d7_53) hr
            · show Q_own_in Z _ h0 n0 _ s₁.heap _
              rw [e0]
              exact ⟨by unfold own_in; rw [if_neg c2, if_pos c77, if_pos c80, if_pos c83, if_pos c86], N0, rfl⟩
          · have P89 := own_step (C := s₁.setTop (mkF m 42 #[.val (.int p0)] [])) P85 (by
              intro tt_ kk_
              refine XS.icmpNo X0.here hx rfl (hb hby d7_39) rfl (feq c86).1 ?_
              exact kk_)
            have P90 := own_step (C := s₁.setTop (mkF m 45 #[.val (.int p0)] [(.int (95 : Int32)), (.int p0)])) P89 (by
              intro tt_ kk_
              refine XS.iloadN X0.here hx rfl (hb hby d7_42) rfl ?_
              show Steps p.tables e below (s₁.setTop (mkF m 43 #[.val (.int p0)] [(.int p0)])) _
              refine XS.bipush X0.here hx rfl (hb hby d7_43) ?_
              exact kk_)
            by_cases c91 : p0 = (95 : Int32)
            · have P92 := own_step (C := s₁.setTop (mkF m 48 #[.val (.int p0)] [])) P90 (by
                intro tt_ kk_
                refine XS.icmpNo X0.here hx rfl (hb hby d7_45) rfl (teq c91).2 ?_
                exact kk_)
              have P93 := own_step (C := s₁.setTop (mkF m 53 #[.val (.int p0)] [(.int (1 : Int32))])) P92 (by
                intro tt_ kk_
                refine XS.iconst X0.here hx rfl (hb hby d7_48) ?_
                show Steps p.tables e below (s₁.setTop (mkF m 49 #[.val (.int p0)] [(.int (1 : Int32))])) _
                refine XS.goto X0.here hx rfl (pc0 := 49) (pc' := 53) rfl (hb hby d7_49) (by decide) (by decide) ?_
                exact kk_)
              obtain ⟨fs, hr, hrun, hended, hW, hsame⟩ := X0.leave (v := some (.int (1 : Int32))) (fun h => by rw [Bd.returns] at h; cases h)
              refine ⟨_, _, P93 _ ?_, hrun, hended, _, _, rfl, ?_, ⟨_, rfl⟩, hW, hsame.mono (by decide) (by decide)⟩
              · exact retN X0 hx (t := .boolean) Bd.returns (by simp) (hb hby d7_53) hr
              · show Q_own_in Z _ h0 n0 _ s₁.heap _
                rw [e0]
                exact ⟨by unfold own_in; rw [if_neg c2, if_pos c77, if_pos c80, if_pos c83, if_neg c86, if_pos c91], N0, rfl⟩
            · have P94 := own_step (C := s₁.setTop (mkF m 52 #[.val (.int p0)] [])) P90 (by
                intro tt_ kk_
                refine XS.icmpYes X0.here hx rfl (pc0 := 45) (pc' := 52) rfl (hb hby d7_45) rfl (feq c91).2 (by decide) (by decide) ?_
                exact kk_)
              have P95 := own_step (C := s₁.setTop (mkF m 53 #[.val (.int p0)] [(.int (0 : Int32))])) P94 (by
                intro tt_ kk_
                refine XS.iconst X0.here hx rfl (hb hby d7_52) ?_
                exact kk_)
              obtain ⟨fs, hr, hrun, hended, hW, hsame⟩ := X0.leave (v := some (.int (0 : Int32))) (fun h => by rw [Bd.returns] at h; cases h)
              refine ⟨_, _, P95 _ ?_, hrun, hended, _, _, rfl, ?_, ⟨_, rfl⟩, hW, hsame.mono (by decide) (by decide)⟩
              · exact retN X0 hx (t := .boolean) Bd.returns (by simp) (hb hby d7_53) hr
              · show Q_own_in Z _ h0 n0 _ s₁.heap _
                rw [e0]
                exact ⟨by unfold own_in; rw [if_neg c2, if_pos c77, if_pos c80, if_pos c83, if_neg c86, if_neg c91], N0, rfl⟩
        · have P96 := own_step (C := s₁.setTop (mkF m 30 #[.val (.int p0)] [])) P82 (by
            intro tt_ kk_
            refine XS.icmpNo X0.here hx rfl (hb hby d7_27) rfl (flt c83).1 ?_
            exact kk_)
          have P97 := own_step (C := s₁.setTop (mkF m 33 #[.val (.int p0)] [(.int (57 : Int32)), (.int p0)])) P96 (by
            intro tt_ kk_
            refine XS.iloadN X0.here hx rfl (hb hby d7_30) rfl ?_
            show Steps p.tables e below (s₁.setTop (mkF m 31 #[.val (.int p0)] [(.int p0)])) _
            refine XS.bipush X0.here hx rfl (hb hby d7_31) ?_
            exact kk_)
          by_cases c98 : (57 : Int32) < p0
          · have P99 := own_step (C := s₁.setTop (mkF m 36 #[.val (.int p0)] [])) P97 (by
              intro tt_ kk_
              refine XS.icmpNo X0.here hx rfl (hb hby d7_33) rfl (tlt c98).2.2.2 ?_
              exact kk_)
            have P100 := own_step (C := s₁.setTop (mkF m 39 #[.val (.int p0)] [(.int (45 : Int32)), (.int p0)])) P99 (by
              intro tt_ kk_
              refine XS.iloadN X0.here hx rfl (hb hby d7_36) rfl ?_
              show Steps p.tables e below (s₁.setTop (mkF m 37 #[.val (.int p0)] [(.int p0)])) _
              refine XS.bipush X0.here hx rfl (hb hby d7_37) ?_
              exact kk_)
            by_cases c101 : p0 = (45 : Int32)
            · have P102 := own_step (C := s₁.setTop (mkF m 48 #[.val (.int p0)] [])) P100 (by
                intro tt_ kk_
                refine XS.icmpYes X0.here hx rfl (pc0 := 39) (pc' := 48) rfl (hb hby d7_39) rfl (teq c101).1 (by decide) (by decide) ?_
                exact kk_)
              have P103 := own_step (C := s₁.setTop (mkF m 53 #[.val (.int p0)] [(.int (1 : Int32))])) P102 (by
                intro tt_ kk_
                refine XS.iconst X0.here hx rfl (hb hby d7_48) ?_
                show Steps p.tables e below (s₁.setTop (mkF m 49 #[.val (.int p0)] [(.int (1 : Int32))])) _
                refine XS.goto X0.here hx rfl (pc0 := 49) (pc' := 53) rfl (hb hby d7_49) (by decide) (by decide) ?_
                exact kk_)
              obtain ⟨fs, hr, hrun, hended, hW, hsame⟩ := X0.leave (v := some (.int (1 : Int32))) (fun h => by rw [Bd.returns] at h; cases h)
              refine ⟨_, _, P103 _ ?_, hrun, hended, _, _, rfl, ?_, ⟨_, rfl⟩, hW, hsame.mono (by decide) (by decide)⟩
              · exact retN X0 hx (t := .boolean) Bd.returns (by simp) (hb hby d7_53) hr
              · show Q_own_in Z _ h0 n0 _ s₁.heap _
                rw [e0]
                exact ⟨by unfold own_in; rw [if_neg c2, if_pos c77, if_pos c80, if_neg c83, if_pos c98, if_pos c101], N0, rfl⟩
            · have P104 := own_step (C := s₁.setTop (mkF m 42 #[.val (.int p0)] [])) P100 (by
                intro tt_ kk_
                refine XS.icmpNo X0.here hx rfl (hb hby d7_39) rfl (feq c101).1 ?_
                exact kk_)
              have P105 := own_step (C := s₁.setTop (mkF m 45 #[.val (.int p0)] [(.int (95 : Int32)), (.int p0)])) P104 (by
                intro tt_ kk_
                refine XS.iloadN X0.here hx rfl (hb hby d7_42) rfl ?_
                show Steps p.tables e below (s₁.setTop (mkF m 43 #[.val (.int p0)] [(.int p0)])) _
                refine XS.bipush X0.here hx rfl (hb hby d7_43) ?_
                exact kk_)
              by_cases c106 : p0 = (95 : Int32)
              · have P107 := own_step (C := s₁.setTop (mkF m 48 #[.val (.int p0)] [])) P105 (by
                  intro tt_ kk_
                  refine XS.icmpNo X0.here hx rfl (hb hby d7_45) rfl (teq c106).2 ?_
                  exact kk_)
                have P108 := own_step (C := s₁.setTop (mkF m 53 #[.val (.int p0)] [(.int (1 : Int32))])) P107 (by
                  intro tt_ kk_
                  refine XS.iconst X0.here hx rfl (hb hby d7_48) ?_
                  show Steps p.tables e below (s₁.setTop (mkF m 49 #[.val (.int p0)] [(.int (1 : Int32))])) _
                  refine XS.goto X0.here hx rfl (pc0 := 49) (pc' := 53) rfl (hb hby d7_49) (by decide) (by decide) ?_
                  exact kk_)
                obtain ⟨fs, hr, hrun, hended, hW, hsame⟩ := X0.leave (v := some (.int (1 : Int32))) (fun h => by rw [Bd.returns] at h; cases h)
                refine ⟨_, _, P108 _ ?_, hrun, hended, _, _, rfl, ?_, ⟨_, rfl⟩, hW, hsame.mono (by decide) (by decide)⟩
                · exact retN X0 hx (t := .boolean) Bd.returns (by simp) (hb hby d7_53) hr
                · show Q_own_in Z _ h0 n0 _ s₁.heap _
                  rw [e0]
                  exact ⟨by unfold own_in; rw [if_neg c2, if_pos c77, if_pos c80, if_neg c83, if_pos c98, if_neg c101, if_pos c106], N0, rfl⟩
              · have P109 := own_step (C := s₁.setTop (mkF m 52 #[.val (.int p0)] [])) P105 (by
                  intro tt_ kk_
                  refine XS.icmpYes X0.here hx rfl (pc0 := 45) (pc' := 52) rfl (hb hby d7_45) rfl (feq c106).2 (by decide) (by decide) ?_
                  exact kk_)
                have P110 := own_step (C := s₁.setTop (mkF m 53 #[.val (.int p0)] [(.int (0 : Int32))])) P109 (by
                  intro tt_ kk_
                  refine XS.iconst X0.here hx rfl (hb hby d7_52) ?_
                  exact kk_)
                obtain ⟨fs, hr, hrun, hended, hW, hsame⟩ := X0.leave (v := some (.int (0 : Int32))) (fun h => by rw [Bd.returns] at h; cases h)
                refine ⟨_, _, P110 _ ?_, hrun, hended, _, _, rfl, ?_, ⟨_, rfl⟩, hW, hsame.mono (by decide) (by decide)⟩
                · exact retN X0 hx (t := .boolean) Bd.returns (by simp) (hb hby d7_53) hr
                · show Q_own_in Z _ h0 n0 _ s₁.heap _
                  rw [e0]
                  exact ⟨by unfold own_in; rw [if_neg c2, if_pos c77, if_pos c80, if_neg c83, if_pos c98, if_neg c101, if_neg c106], N0, rfl⟩
          · have P111 := own_step (C := s₁.setTop (mkF m 48 #[.val (.int p0)] [])) P97 (by
              intro tt_ kk_
              refine XS.icmpYes X0.here hx rfl (pc0 := 33) (pc' := 48) rfl (hb hby d7_33) rfl (flt c98).2.2.2 (by decide) (by decide) ?_
              exact kk_)
            have P112 := own_step (C := s₁.setTop (mkF m 53 #[.val (.int p0)] [(.int (1 : Int32))])) P111 (by
              intro tt_ kk_
              refine XS.iconst X0.here hx rfl (hb hby d7_48) ?_
              show Steps p.tables e below (s₁.setTop (mkF m 49 #[.val (.int p0)] [(.int (1 : Int32))])) _
              refine XS.goto X0.here hx rfl (pc0 := 49) (pc' := 53) rfl (hb hby d7_49) (by decide) (by decide) ?_
              exact kk_)
            obtain ⟨fs, hr, hrun, hended, hW, hsame⟩ := X0.leave (v := some (.int (1 : Int32))) (fun h => by rw [Bd.returns] at h; cases h)
            refine ⟨_, _, P112 _ ?_, hrun, hended, _, _, rfl, ?_, ⟨_, rfl⟩, hW, hsame.mono (by decide) (by decide)⟩
            · exact retN X0 hx (t := .boolean) Bd.returns (by simp) (hb hby d7_53) hr
            · show Q_own_in Z _ h0 n0 _ s₁.heap _
              rw [e0]
              exact ⟨by unfold own_in; rw [if_neg c2, if_pos c77, if_pos c80, if_neg c83, if_neg c98], N0, rfl⟩
      · have P113 := own_step (C := s₁.setTop (mkF m 18 #[.val (.int p0)] [])) P79 (by
          intro tt_ kk_
          refine XS.icmpNo X0.here hx rfl (hb hby d7_15) rfl (flt c80).1 ?_
          exact kk_)
        have P114 := own_step (C := s₁.setTop (mkF m 21 #[.val (.int p0)] [(.int (122 : Int32)), (.int p0)])) P113 (by
          intro tt_ kk_
          refine XS.iloadN X0.here hx rfl (hb hby d7_18) rfl ?_
          show Steps p.tables e below (s₁.setTop (mkF m 19 #[.val (.int p0)] [(.int p0)])) _
          refine XS.bipush X0.here hx rfl (hb hby d7_19) ?_
          exact kk_)
        by_cases c115 : (122 : Int32) < p0
        · have P116 := own_step (C := s₁.setTop (mkF m 24 #[.val (.int p0)] [])) P114 (by
            intro tt_ kk_
            refine XS.icmpNo X0.here hx rfl (hb hby d7_21) rfl (tlt c115).2.2.2 ?_
            exact kk_)
          have P117 := own_step (C := s₁.setTop (mkF m 27 #[.val (.int p0)] [(.int (48 : Int32)), (.int p0)])) P116 (by
            intro tt_ kk_
            refine XS.iloadN X0.here hx rfl (hb hby d7_24) rfl ?_
            show Steps p.tables e below (s₁.setTop (mkF m 25 #[.val (.int p0)] [(.int p0)])) _
            refine XS.bipush X0.here hx rfl (hb hby d7_25) ?_
            exact kk_)
          by_cases c118 : p0 < (48 : Int32)
          · have P119 := own_step (C := s₁.setTop (mkF m 36 #[.val (.int p0)] [])) P117 (by
              intro tt_ kk_
              refine XS.icmpYes X0.here hx rfl (pc0 := 27) (pc' := 36) rfl (hb hby d7_27) rfl (tlt c118).1 (by decide) (by decide) ?_
              exact kk_)
            have P120 := own_step (C := s₁.setTop (mkF m 39 #[.val (.int p0)] [(.int (45 : Int32)), (.int p0)])) P119 (by
              intro tt_ kk_
              refine XS.iloadN X0.here hx rfl (hb hby d7_36) rfl ?_
              show Steps p.tables e below (s₁.setTop (mkF m 37 #[.val (.int p0)] [(.int p0)])) _
              refine XS.bipush X0.here hx rfl (hb hby d7_37) ?_
              exact kk_)
            by_cases c121 : p0 = (45 : Int32)
            · have P122 := own_step (C := s₁.setTop (mkF m 48 #[.val (.int p0)] [])) P120 (by
                intro tt_ kk_
                refine XS.icmpYes X0.here hx rfl (pc0 := 39) (pc' := 48) rfl (hb hby d7_39) rfl (teq c121).1 (by decide) (by decide) ?_
                exact kk_)
              have P123 := own_step (C := s₁.setTop (mkF m 53 #[.val (.int p0)] [(.int (1 : Int32))])) P122 (by
                intro tt_ kk_
                refine XS.iconst X0.here hx rfl (hb hby d7_48) ?_
                show Steps p.tables e below (s₁.setTop (mkF m 49 #[.val (.int p0)] [(.int (1 : Int32))])) _
                refine XS.goto X0.here hx rfl (pc0 := 49) (pc' := 53) rfl (hb hby d7_49) (by decide) (by decide) ?_
                exact kk_)
              obtain ⟨fs, hr, hrun, hended, hW, hsame⟩ := X0.leave (v := some (.int (1 : Int32))) (fun h => by rw [Bd.returns] at h; cases h)
              refine ⟨_, _, P123 _ ?_, hrun, hended, _, _, rfl, ?_, ⟨_, rfl⟩, hW, hsame.mono (by decide) (by decide)⟩
              · exact retN X0 hx (t := .boolean) Bd.returns (by simp) (hb hby d7_53) hr
              · show Q_own_in Z _ h0 n0 _ s₁.heap _
                rw [e0]
                exact ⟨by unfold own_in; rw [if_neg c2, if_pos c77, if_neg c80, if_pos c115, if_pos c118, if_pos c121], N0, rfl⟩
            · have P124 := own_step (C := s₁.setTop (mkF m 42 #[.val (.int p0)] [])) P120 (by
                intro tt_ kk_
                refine XS.icmpNo X0.here hx rfl (hb hby d7_39) rfl (feq c121).1 ?_
                exact kk_)
              have P125 := own_step (C := s₁.setTop (mkF m 45 #[.val (.int p0)] [(.int (95 : Int32)), (.int p0)])) P124 (by
                intro tt_ kk_
                refine XS.iloadN X0.here hx rfl (hb hby d7_42) rfl ?_
                show Steps p.tables e below (s₁.setTop (mkF m 43 #[.val (.int p0)] [(.int p0)])) _
                refine XS.bipush X0.here hx rfl (hb hby d7_43) ?_
                exact kk_)
              by_cases c126 : p0 = (95 : Int32)
              · have P127 := own_step (C := s₁.setTop (mkF m 48 #[.val (.int p0)] [])) P125 (by
                  intro tt_ kk_
                  refine XS.icmpNo X0.here hx rfl (hb hby d7_45) rfl (teq c126).2 ?_
                  exact kk_)
                have P128 := own_step (C := s₁.setTop (mkF m 53 #[.val (.int p0)] [(.int (1 : Int32))])) P127 (by
                  intro tt_ kk_
                  refine XS.iconst X0.here hx rfl (hb hby d7_48) ?_
                  show Steps p.tables e below (s₁.setTop (mkF m 49 #[.val (.int p0)] [(.int (1 : Int32))])) _
                  refine XS.goto X0.here hx rfl (pc0 := 49) (pc' := 53) rfl (hb hby d7_49) (by decide) (by decide) ?_
                  exact kk_)
                obtain ⟨fs, hr, hrun, hended, hW, hsame⟩ := X0.leave (v := some (.int (1 : Int32))) (fun h => by rw [Bd.returns] at h; cases h)
                refine ⟨_, _, P128 _ ?_, hrun, hended, _, _, rfl, ?_, ⟨_, rfl⟩, hW, hsame.mono (by decide) (by decide)⟩
                · exact retN X0 hx (t := .boolean) Bd.returns (by simp) (hb hby d7_53) hr
                · show Q_own_in Z _ h0 n0 _ s₁.heap _
                  rw [e0]
                  exact ⟨by unfold own_in; rw [if_neg c2, if_pos c77, if_neg c80, if_pos c115, if_pos c118, if_neg c121, if_pos c126], N0, rfl⟩
              · have P129 := own_step (C := s₁.setTop (mkF m 52 #[.val (.int p0)] [])) P125 (by
                  intro tt_ kk_
                  refine XS.icmpYes X0.here hx rfl (pc0 := 45) (pc' := 52) rfl (hb hby d7_45) rfl (feq c126).2 (by decide) (by decide) ?_
                  exact kk_)
                have P130 := own_step (C := s₁.setTop (mkF m 53 #[.val (.int p0)] [(.int (0 : Int32))])) P129 (by
                  intro tt_ kk_
                  refine XS.iconst X0.here hx rfl (hb hby d7_52) ?_
                  exact kk_)
                obtain ⟨fs, hr, hrun, hended, hW, hsame⟩ := X0.leave (v := some (.int (0 : Int32))) (fun h => by rw [Bd.returns] at h; cases h)
                refine ⟨_, _, P130 _ ?_, hrun, hended, _, _, rfl, ?_, ⟨_, rfl⟩, hW, hsame.mono (by decide) (by decide)⟩
                · exact retN X0 hx (t := .boolean) Bd.returns (by simp) (hb hby d7_53) hr
                · show Q_own_in Z _ h0 n0 _ s₁.heap _
                  rw [e0]
                  exact ⟨by unfold own_in; rw [if_neg c2, if_pos c77, if_neg c80, if_pos c115, if_pos c118, if_neg c121, if_neg c126], N0, rfl⟩
          · have P131 := own_step (C := s₁.setTop (mkF m 30 #[.val (.int p0)] [])) P117 (by
              intro tt_ kk_
              refine XS.icmpNo X0.here hx rfl (hb hby d7_27) rfl (flt c118).1 ?_
              exact kk_)
            have P132 := own_step (C := s₁.setTop (mkF m 33 #[.val (.int p0)] [(.int (57 : Int32)), (.int p0)])) P131 (by
              intro tt_ kk_
              refine XS.iloadN X0.here hx rfl (hb hby d7_30) rfl ?_
              show Steps p.tables e below (s₁.setTop (mkF m 31 #[.val (.int p0)] [(.int p0)])) _
              refine XS.bipush X0.here hx rfl (hb hby d7_31) ?_
              exact kk_)
            by_cases c133 : (57 : Int32) < p0
            · have P134 := own_step (C := s₁.setTop (mkF m 36 #[.val (.int p0)] [])) P132 (by
                intro tt_ kk_
                refine XS.icmpNo X0.here hx rfl (hb hby d7_33) rfl (tlt c133).2.2.2 ?_
                exact kk_)
              have P135 := own_step (C := s₁.setTop (mkF m 39 #[.val (.int p0)] [(.int (45 : Int32)), (.int p0)])) P134 (by
                intro tt_ kk_
                refine XS.iloadN X0.here hx rfl (hb hby d7_36) rfl ?_
                show Steps p.tables e below (s₁.setTop (mkF m 37 #[.val (.int p0)] [(.int p0)])) _
                refine XS.bipush X0.here hx rfl (hb hby d7_37) ?_
                exact kk_)
              by_cases c136 : p0 = (45 : Int32)
              · have P137 := own_step (C := s₁.setTop (mkF m 48 #[.val (.int p0)] [])) P135 (by
                  intro tt_ kk_
                  refine XS.icmpYes X0.here hx rfl (pc0 := 39) (pc' := 48) rfl (hb hby d7_39) rfl (teq c136).1 (by decide) (by decide) ?_
                  exact kk_)
                have P138 := own_step (C := s₁.setTop (mkF m 53 #[.val (.int p0)] [(.int (1 : Int32))])) P137 (by
                  intro tt_ kk_
                  refine XS.iconst X0.here hx rfl (hb hby d7_48) ?_
                  show Steps p.tables e below (s₁.setTop (mkF m 49 #[.val (.int p0)] [(.int (1 : Int32))])) _
                  refine XS.goto X0.here hx rfl (pc0 := 49) (pc' := 53) rfl (hb hby d7_49) (by decide) (by decide) ?_
                  exact kk_)
                obtain ⟨fs, hr, hrun, hended, hW, hsame⟩ := X0.leave (v := some (.int (1 : Int32))) (fun h => by rw [Bd.returns] at h; cases h)
                refine ⟨_, _, P138 _ ?_, hrun, hended, _, _, rfl, ?_, ⟨_, rfl⟩, hW, hsame.mono (by decide) (by decide)⟩
                · exact retN X0 hx (t := .boolean) Bd.returns (by simp) (hb hby d7_53) hr
                · show Q_own_in Z _ h0 n0 _ s₁.heap _
                  rw [e0]
                  exact ⟨by unfold own_in; rw [if_neg c2, if_pos c77, if_neg c80, if_pos c115, if_neg c118, if_pos c133, if_pos c136], N0, rfl⟩
              · have P139 := own_step (C := s₁.setTop (mkF m 42 #[.val (.int p0)] [])) P135 (by
                  intro tt_ kk_
                  refine XS.icmpNo X0.here hx rfl (hb hby d7_39) rfl (feq c136).1 ?_
                  exact kk_)
                have P140 := own_step (C := s₁.setTop (mkF m 45 #[.val (.int p0)] [(.int (95 : Int32)), (.int p0)])) P139 (by
                  intro tt_ kk_
                  refine XS.iloadN X0.here hx rfl (hb hby d7_42) rfl ?_
                  show Steps p.tables e below (s₁.setTop (mkF m 43 #[.val (.int p0)] [(.int p0)])) _
                  refine XS.bipush X0.here hx rfl (hb hby d7_43) ?_
                  exact kk_)
                by_cases c141 : p0 = (95 : Int32)
                · have P142 := own_step (C := s₁.setTop (mkF m 48 #[.val (.int p0)] [])) P140 (by
                    intro tt_ kk_
                    refine XS.icmpNo X0.here hx rfl (hb hby d7_45) rfl (teq c141).2 ?_
                    exact kk_)
                  have P143 := own_step (C := s₁.setTop (mkF m 53 #[.val (.int p0)] [(.int (1 : Int32))])) P142 (by
                    intro tt_ kk_
                    refine XS.iconst X0.here hx rfl (hb hby d7_48) ?_
                    show Steps p.tables e below (s₁.setTop (mkF m 49 #[.val (.int p0)] [(.int (1 : Int32))])) _
                    refine XS.goto X0.here hx rfl (pc0 := 49) (pc' := 53) rfl (hb hby d7_49) (by decide) (by decide) ?_
                    exact kk_)
                  obtain ⟨fs, hr, hrun, hended, hW, hsame⟩ := X0.leave (v := some (.int (1 : Int32))) (fun h => by rw [Bd.returns] at h; cases h)
                  refine ⟨_, _, P143 _ ?_, hrun, hended, _, _, rfl, ?_, ⟨_, rfl⟩, hW, hsame.mono (by decide) (by decide)⟩
                  · exact retN X0 hx (t := .boolean) Bd.returns (by simp) (hb hby d7_53) hr
                  · show Q_own_in Z _ h0 n0 _ s₁.heap _
                    rw [e0]
                    exact ⟨by unfold own_in; rw [if_neg c2, if_pos c77, if_neg c80, if_pos c115, if_neg c118, if_pos c133, if_neg c136, if_pos c141], N0, rfl⟩
                · have P144 := own_step (C := s₁.setTop (mkF m 52 #[.val (.int p0)] [])) P140 (by
                    intro tt_ kk_
                    refine XS.icmpYes X0.here hx rfl (pc0 := 45) (pc' := 52) rfl (hb hby d7_45) rfl (feq c141).2 (by decide) (by decide) ?_
                    exact kk_)
                  have P145 := own_step (C := s₁.setTop (mkF m 53 #[.val (.int p0)] [(.int (0 : Int32))])) P144 (by
                    intro tt_ kk_
                    refine XS.iconst X0.here hx rfl (hb hby d7_52) ?_
                    exact kk_)
                  obtain ⟨fs, hr, hrun, hended, hW, hsame⟩ := X0.leave (v := some (.int (0 : Int32))) (fun h => by rw [Bd.returns] at h; cases h)
                  refine ⟨_, _, P145 _ ?_, hrun, hended, _, _, rfl, ?_, ⟨_, rfl⟩, hW, hsame.mono (by decide) (by decide)⟩
                  · exact retN X0 hx (t := .boolean) Bd.returns (by simp) (hb hby d7_53) hr
                  · show Q_own_in Z _ h0 n0 _ s₁.heap _
                    rw [e0]
                    exact ⟨by unfold own_in; rw [if_neg c2, if_pos c77, if_neg c80, if_pos c115, if_neg c118, if_pos c133, if_neg c136, if_neg c141], N0, rfl⟩
            · have P146 := own_step (C := s₁.setTop (mkF m 48 #[.val (.int p0)] [])) P132 (by
                intro tt_ kk_
                refine XS.icmpYes X0.here hx rfl (pc0 := 33) (pc' := 48) rfl (hb hby d7_33) rfl (flt c133).2.2.2 (by decide) (by decide) ?_
                exact kk_)
              have P147 := own_step (C := s₁.setTop (mkF m 53 #[.val (.int p0)] [(.int (1 : Int32))])) P146 (by
                intro tt_ kk_
                refine XS.iconst X0.here hx rfl (hb hby d7_48) ?_
                show Steps p.tables e below (s₁.setTop (mkF m 49 #[.val (.int p0)] [(.int (1 : Int32))])) _
                refine XS.goto X0.here hx rfl (pc0 := 49) (pc' := 53) rfl (hb hby d7_49) (by decide) (by decide) ?_
                exact kk_)
              obtain ⟨fs, hr, hrun, hended, hW, hsame⟩ := X0.leave (v := some (.int (1 : Int32))) (fun h => by rw [Bd.returns] at h; cases h)
              refine ⟨_, _, P147 _ ?_, hrun, hended, _, _, rfl, ?_, ⟨_, rfl⟩, hW, hsame.mono (by decide) (by decide)⟩
              · exact retN X0 hx (t := .boolean) Bd.returns (by simp) (hb hby d7_53) hr
              · show Q_own_in Z _ h0 n0 _ s₁.heap _
                rw [e0]
                exact ⟨by unfold own_in; rw [if_neg c2, if_pos c77, if_neg c80, if_pos c115, if_neg c118, if_neg c133], N0, rfl⟩
        · have P148 := own_step (C := s₁.setTop (mkF m 48 #[.val (.int p0)] [])) P114 (by
            intro tt_ kk_
            refine XS.icmpYes X0.here hx rfl (pc0 := 21) (pc' := 48) rfl (hb hby d7_21) rfl (flt c115).2.2.2 (by decide) (by decide) ?_
            exact kk_)
          have P149 := own_step (C := s₁.setTop (mkF m 53 #[.val (.int p0)] [(.int (1 : Int32))])) P148 (by
            intro tt_ kk_
            refine XS.iconst X0.here hx rfl (hb hby d7_48) ?_
            show Steps p.tables e below (s₁.setTop (mkF m 49 #[.val (.int p0)] [(.int (1 : Int32))])) _
            refine XS.goto X0.here hx rfl (pc0 := 49) (pc' := 53) rfl (hb hby d7_49) (by decide) (by decide) ?_
            exact kk_)
          obtain ⟨fs, hr, hrun, hended, hW, hsame⟩ := X0.leave (v := some (.int (1 : Int32))) (fun h => by rw [Bd.returns] at h; cases h)
          refine ⟨_, _, P149 _ ?_, hrun, hended, _, _, rfl, ?_, ⟨_, rfl⟩, hW, hsame.mono (by decide) (by decide)⟩
          · exact retN X0 hx (t := .boolean) Bd.returns (by simp) (hb hby d7_53) hr
          · show Q_own_in Z _ h0 n0 _ s₁.heap _
            rw [e0]
            exact ⟨by unfold own_in; rw [if_neg c2, if_pos c77, if_neg c80, if_neg c115], N0, rfl⟩
    · have P150 := own_step (C := s₁.setTop (mkF m 48 #[.val (.int p0)] [])) P76 (by
        intro tt_ kk_
        refine XS.icmpYes X0.here hx rfl (pc0 := 9) (pc' := 48) rfl (hb hby d7_9) rfl (flt c77).2.2.2 (by decide) (by decide) ?_
        exact kk_)
      have P151 := own_step (C := s₁.setTop (mkF m 53 #[.val (.int p0)] [(.int (1 : Int32))])) P150 (by
        intro tt_ kk_
        refine XS.iconst X0.here hx rfl (hb hby d7_48) ?_
        show Steps p.tables e below (s₁.setTop (mkF m 49 #[.val (.int p0)] [(.int (1 : Int32))])) _
        refine XS.goto X0.here hx rfl (pc0 := 49) (pc' := 53) rfl (hb hby d7_49) (by decide) (by decide) ?_
        exact kk_)
      obtain ⟨fs, hr, hrun, hended, hW, hsame⟩ := X0.leave (v := some (.int (1 : Int32))) (fun h => by rw [Bd.returns] at h; cases h)
      refine ⟨_, _, P151 _ ?_, hrun, hended, _, _, rfl, ?_, ⟨_, rfl⟩, hW, hsame.mono (by decide) (by decide)⟩
      · exact retN X0 hx (t := .boolean) Bd.returns (by simp) (hb hby d7_53) hr
      · show Q_own_in Z _ h0 n0 _ s₁.heap _
        rw [e0]
        exact ⟨by unfold own_in; rw [if_neg c2, if_neg c77], N0, rfl⟩
theorem d3_0 : decode jdk_42_method_154_code 0 = .ok (.getstatic 38, 3) := by decide +kernel
theorem d3_3 : decode jdk_42_method_154_code 3 = .ok (.ifCond .eq 14, 3) := by decide +kernel
theorem d3_6 : decode jdk_42_method_154_code 6 = .ok (.aload_n 0, 1) := by decide +kernel
theorem d3_7 : decode jdk_42_method_154_code 7 = .ok (.getfield 15, 3) := by decide +kernel
theorem d3_10 : decode jdk_42_method_154_code 10 = .ok (.ifCond .ne 7, 3) := by decide +kernel
theorem d3_13 : decode jdk_42_method_154_code 13 = .ok (.iconst 1, 1) := by decide +kernel
theorem d3_14 : decode jdk_42_method_154_code 14 = .ok (.goto 4, 3) := by decide +kernel
theorem d3_18 : decode jdk_42_method_154_code 18 = .ok (.ireturn, 1) := by decide +kernel
theorem ef__lat0 (m : MethodId) (x0 : Addr) : entryFrame m #[(.ref x0)] 1 = mkF m 0 #[.val (.ref x0)] [] := by first | (simp [entryFrame, mkF, argsToLocals, Value.category]; done) | rfl
def Q_lat0 (Z : State) (a : Addr) (cs : Int32) (h0 : Heap) (n0 : Nat) (v_ : Option Value) (h : Heap) (L_ : List Loc) : Prop := v_ = some (.int (1 : Int32)) ∧ Fr n0 L_ ∧ h = h0
theorem pn2 : plainName "java/lang/String" = true := by first | (simp [plainName, overriddenIn]; done) | decide +kernel
set_option maxRecDepth 65536 in
set_option maxHeartbeats 40000000 in
theorem rm_lat0 (l : Launch) (Z : State) (a0 : Array Value) (hw : ∀ d ∈ tables_1, d.before a0 Z = true) (ws : List Jvm.Cond) (a : Addr) (cs : Int32) (h0 : Heap) (n0 : Nat) (Z0 : n0 ≤ h0.size) (O : Old Z n0 h0) (Scs : Sta Z Z.heap "java/lang/String" "COMPACT_STRINGS" "Z" (.int cs)) (hcs : ¬ (cs = (0 : Int32))) (Fc : Fld Z h0 a "java/lang/String" "coder" "B" (.int (0 : Int32))) :
    MetFree l (⟨"java/lang/String", "isLatin1", "()Z"⟩ : MethodName) (head1 (Jvm.Cond.code (⟨"java/lang/String", "isLatin1", "()Z"⟩ : MethodName) jdk_42_method_154_code 1 (some .boolean) :: ws) ({ frames := 0, cells := 0, slots := 0, locals := 0 } : Room)) (fun a_ U_ => a_ = #[(.ref a)] ∧ Z.Warmed39 U_.vm ∧ U_.heap = h0) (fun _ _ _ _ _ => True) (fun _ U_ o_ V_ => ∃ v_ L_, o_ = .returned v_ ∧ Q_lat0 Z a cs h0 n0 v_ V_.heap L_ ∧ FrameEnd U_ o_ V_ L_ ({ frames := 0, cells := 0, slots := 0, locals := 0 } : Room).cells ({ frames := 0, cells := 0, slots := 0, locals := 0 } : Room).slots) := by
  refine MetFree.of_bodySF (plainFor_of_name pn2) hisR ?_
  intro p e s m args below meth c s₁ Bd hml0 hP hK
  obtain ⟨rfl, hZ, hh⟩ := hP
  have hx := Bd.exec
  have hby := Bd.bytes
  have hml : c.maxLocals = 1 := hml0
  have hown : s.vm.findClass "java/lang/String" = some m.cls := findClass_of_methodNamed Bd.named
  have hnm := (name_of_methodNamed Bd.named Bd.method).1
  have X0 : Stand p l e ({ frames := 0, cells := 0, slots := 0, locals := 0 } : Room) s m #[(.ref a)] below meth c s₁ [] 0 0 := Stand.of_body Bd
  have e0 : s₁.heap = h0 := by rw [← hh, Bd.state]; rfl
  have N0 := Fr.nil n0
  have pre0 : own_Go p e below (s₁.setTop (entryFrame m #[(.ref a)] 1)) (s₁.setTop (mkF m 0 #[.val (.ref a)] [])) := fun t_ k_ => castTop (ef__lat0 m a) k_
  obtain ⟨T1, X1, e1, st1⟩ := getS2 X0 hx hZ hown (host := "") (Or.inl (hw _ (List.mem_of_getElem? (i := 22) rfl))) Via.refl e0 (Scs.ext O.2) (g := (mkF m 0 #[.val (.ref a)] [])) rfl (hb hby d3_0)
  have P2 := own_step (C := T1.setTop (mkF m 3 #[.val (.ref a)] [(.int cs)])) pre0 (fun t_ k_ => st1 t_ k_)
  have P3 := own_step (C := T1.setTop (mkF m 6 #[.val (.ref a)] [])) P2 (by
    intro tt_ kk_
    refine XS.ifNo X1.here hx rfl (hb hby d3_3) rfl ((if0 _ _).trans (feq hcs).1) ?_
    exact kk_)
  have P4 := own_step (C := T1.setTop (mkF m 7 #[.val (.ref a)] [(.ref a)])) P3 (by
    intro tt_ kk_
    refine XS.aloadN X1.here hx rfl (hb hby d3_6) rfl rfl ?_
    exact kk_)
  obtain ⟨T5, X5, e5, st5⟩ := getF X1 hx hZ hown (host := "") (Or.inl (hw _ (List.mem_of_getElem? (i := 23) rfl))) Via.refl e1 Fc (g := (mkF m 7 #[.val (.ref a)] [(.ref a)])) rfl rfl (hb hby d3_7)
  have P6 := own_step (C := T5.setTop (mkF m 10 #[.val (.ref a)] [(.int (0 : Int32))])) P4 (fun t_ k_ => st5 t_ k_)
  have P7 := own_step (C := T5.setTop (mkF m 13 #[.val (.ref a)] [])) P6 (by
    intro tt_ kk_
    refine XS.ifNo X5.here hx rfl (hb hby d3_10) rfl ((if0 _ _).trans (teq (by decide : (0 : Int32) = (0 : Int32))).2) ?_
    exact kk_)
  have P8 := own_step (C := T5.setTop (mkF m 18 #[.val (.ref a)] [(.int (1 : Int32))])) P7 (by
    intro tt_ kk_
    refine XS.iconst X5.here hx rfl (hb hby d3_13) ?_
    show Steps p.tables e below (T5.setTop (mkF m 14 #[.val (.ref a)] [(.int (1 : Int32))])) _
    refine XS.goto X5.here hx rfl (pc0 := 14) (pc' := 18) rfl (hb hby d3_14) (by decide) (by decide) ?_
    exact kk_)
  obtain ⟨fs, hr, hrun, hended, hW, hsame⟩ := X5.leave (v := some (.int (1 : Int32))) (fun h => by rw [Bd.returns] at h; cases h)
  refine ⟨_, _, P8 _ ?_, hrun, hended, _, _, rfl, ?_, ⟨_, rfl⟩, hW, hsame.mono (by decide) (by decide)⟩
  · exact retN X5 hx (t := .boolean) Bd.returns (by simp) (hb hby d3_18) hr
  · show Q_lat0 Z _ _ h0 n0 _ T5.heap _
    rw [e5]
    exact ⟨rfl, N0, rfl⟩
theorem d6_0 : decode jdk_41_method_11_code 0 = .ok (.iload_n 0, 1) := by decide +kernel
theorem d6_1 : decode jdk_41_method_11_code 1 = .ok (.ifCond .lt 8, 3) := by decide +kernel
theorem d6_4 : decode jdk_41_method_11_code 4 = .ok (.iload_n 0, 1) := by decide +kernel
theorem d6_5 : decode jdk_41_method_11_code 5 = .ok (.iload_n 1, 1) := by decide +kernel
theorem d6_6 : decode jdk_41_method_11_code 6 = .ok (.if_icmp .lt 10, 3) := by decide +kernel
theorem d6_16 : decode jdk_41_method_11_code 16 = .ok (.iload_n 0, 1) := by decide +kernel
theorem d6_17 : decode jdk_41_method_11_code 17 = .ok (.ireturn, 1) := by decide +kernel
theorem ef__chk0 (m : MethodId) (x0 : Int32) (x1 : Int32) (x2 : Value) (hx2 : x2.category = 1) : entryFrame m #[(.int x0), (.int x1), x2] 3 = mkF m 0 #[.val (.int x0), .val (.int x1), .val x2] [] := by cases x2 <;> first | (exfalso; simp [Value.category] at hx2; done) | (first | (simp [entryFrame, mkF, argsToLocals, Value.category]; done) | rfl)
def Q_chk0 (Z : State) (j : Int32) (n : Int32) (fm : Value) (h0 : Heap) (n0 : Nat) (v_ : Option Value) (h : Heap) (L_ : List Loc) : Prop := v_ = some (.int j) ∧ Fr n0 L_ ∧ h = h0
theorem pn3 : plainName "jdk/internal/util/Preconditions" = true := by first | (simp [plainName, overriddenIn]; done) | decide +kernel
set_option maxRecDepth 65536 in
set_option maxHeartbeats 40000000 in
theorem rm_chk0 (l : Launch) (Z : State) (a0 : Array Value) (hw : ∀ d ∈ tables_1, d.before a0 Z = true) (ws : List Jvm.Cond) (j : Int32) (n : Int32) (fm : Value) (h0 : Heap) (n0 : Nat) (Z0 : n0 ≤ h0.size) (hfm : fm.category = 1) (hj0 : ¬ (j < (0 : Int32))) (hjn : j < n) :
    MetFree l (⟨"jdk/internal/util/Preconditions", "checkIndex", "(IILjava/util/function/BiFunction;)I"⟩ : MethodName) (head1 (Jvm.Cond.code (⟨"jdk/internal/util/Preconditions", "checkIndex", "(IILjava/util/function/BiFunction;)I"⟩ : MethodName) jdk_41_method_11_code 3 (some .int) :: ws) ({ frames := 0, cells := 0, slots := 0, locals := 0 } : Room)) (fun a_ U_ => a_ = #[(.int j), (.int n), fm] ∧ Z.Warmed39 U_.vm ∧ U_.heap = h0) (fun _ _ _ _ _ => True) (fun _ U_ o_ V_ => ∃ v_ L_, o_ = .returned v_ ∧ Q_chk0 Z j n fm h0 n0 v_ V_.heap L_ ∧ FrameEnd U_ o_ V_ L_ ({ frames := 0, cells := 0, slots := 0, locals := 0 } : Room).cells ({ frames := 0, cells := 0, slots := 0, locals := 0 } : Room).slots) := by
  refine MetFree.of_bodySF (plainFor_of_name pn3) hisR ?_
  intro p e s m args below meth c s₁ Bd hml0 hP hK
  obtain ⟨rfl, hZ, hh⟩ := hP
  have hx := Bd.exec
  have hby := Bd.bytes
  have hml : c.maxLocals = 3 := hml0
  have hown : s.vm.findClass "jdk/internal/util/Preconditions" = some m.cls := findClass_of_methodNamed Bd.named
  have hnm := (name_of_methodNamed Bd.named Bd.method).1
  have X0 : Stand p l e ({ frames := 0, cells := 0, slots := 0, locals := 0 } : Room) s m #[(.int j), (.int n), fm] below meth c s₁ [] 0 0 := Stand.of_body Bd
  have e0 : s₁.heap = h0 := by rw [← hh, Bd.state]; rfl
  have N0 := Fr.nil n0
  have pre0 : own_Go p e below (s₁.setTop (entryFrame m #[(.int j), (.int n), fm] 3)) (s₁.setTop (mkF m 0 #[.val (.int j), .val (.int n), .val fm] [])) := fun t_ k_ => castTop (ef__chk0 m j n fm hfm) k_
  have P1 := own_step (C := s₁.setTop (mkF m 1 #[.val (.int j), .val (.int n), .val fm] [(.int j)])) pre0 (by
    intro tt_ kk_
    refine XS.iloadN X0.here hx rfl (hb hby d6_0) rfl ?_
    exact kk_)
  have P2 := own_step (C := s₁.setTop (mkF m 4 #[.val (.int j), .val (.int n), .val fm] [])) P1 (by
    intro tt_ kk_
    refine XS.ifNo X0.here hx rfl (hb hby d6_1) rfl ((if0 _ _).trans (flt hj0).1) ?_
    exact kk_)
  have P3 := own_step (C := s₁.setTop (mkF m 6 #[.val (.int j), .val (.int n), .val fm] [(.int n), (.int j)])) P2 (by
    intro tt_ kk_
    refine XS.iloadN X0.here hx rfl (hb hby d6_4) rfl ?_
    show Steps p.tables e below (s₁.setTop (mkF m 5 #[.val (.int j), .val (.int n), .val fm] [(.int j)])) _
    refine XS.iloadN X0.here hx rfl (hb hby d6_5) rfl ?_
    exact kk_)
  have P4 := own_step (C := s₁.setTop (mkF m 16 #[.val (.int j), .val (.int n), .val fm] [])) P3 (by
    intro tt_ kk_
    refine XS.icmpYes X0.here hx rfl (pc0 := 6) (pc' := 16) rfl (hb hby d6_6) rfl (tlt hjn).1 (by decide) (by decide) ?_
    exact kk_)
  have P5 := own_step (C := s₁.setTop (mkF m 17 #[.val (.int j), .val (.int n), .val fm] [(.int j)])) P4 (by
    intro tt_ kk_
    refine XS.iloadN X0.here hx rfl (hb hby d6_16) rfl ?_
    exact kk_)
  obtain ⟨fs, hr, hrun, hended, hW, hsame⟩ := X0.leave (v := some (.int j)) (fun h => by rw [Bd.returns] at h; cases h)
  refine ⟨_, _, P5 _ ?_, hrun, hended, _, _, rfl, ?_, ⟨_, rfl⟩, hW, hsame.mono (by decide) (by decide)⟩
  · exact retI X0 hx Bd.returns (hb hby d6_17) hr
  · show Q_chk0 Z _ _ _ h0 n0 _ s₁.heap _
    rw [e0]
    exact ⟨rfl, N0, rfl⟩
theorem pd0 : parseMethodDescriptor "(IILjava/util/function/BiFunction;)I" = some ⟨[.int, .int, (.object "java/util/function/BiFunction")], some .int⟩ := by decide +kernel
theorem d5_0 : decode jdk_42_method_155_code 0 = .ok (.iload_n 0, 1) := by decide +kernel
theorem d5_1 : decode jdk_42_method_155_code 1 = .ok (.iload_n 1, 1) := by decide +kernel
theorem d5_2 : decode jdk_42_method_155_code 2 = .ok (.getstatic 1053, 3) := by decide +kernel
theorem d5_5 : decode jdk_42_method_155_code 5 = .ok (.invokestatic 1059, 3) := by decide +kernel
theorem d5_8 : decode jdk_42_method_155_code 8 = .ok (.pop, 1) := by decide +kernel
theorem d5_9 : decode jdk_42_method_155_code 9 = .ok (.return_, 1) := by decide +kernel
theorem ef__chk (m : MethodId) (x0 : Int32) (x1 : Int32) : entryFrame m #[(.int x0), (.int x1)] 2 = mkF m 0 #[.val (.int x0), .val (.int x1)] [] := by first | (simp [entryFrame, mkF, argsToLocals, Value.category]; done) | rfl
def Q_chk (Z : State) (j : Int32) (n : Int32) (fm : Value) (h0 : Heap) (n0 : Nat) (v_ : Option Value) (h : Heap) (L_ : List Loc) : Prop := v_ = none ∧ Fr n0 L_ ∧ h = h0
set_option maxRecDepth 65536 in
set_option maxHeartbeats 40000000 in
theorem rm_chk (l : Launch) (Z : State) (a0 : Array Value) (hw : ∀ d ∈ tables_1, d.before a0 Z = true) (ws : List Jvm.Cond) (j : Int32) (n : Int32) (fm : Value) (h0 : Heap) (n0 : Nat) (Z0 : n0 ≤ h0.size) (O : Old Z n0 h0) (Sfm : Sta Z Z.heap "jdk/internal/util/Preconditions" "SIOOBE_FORMATTER" "Ljava/util/function/BiFunction;" fm) (hfm : fm.category = 1) (hj0 : ¬ (j < (0 : Int32))) (hjn : j < n) :
    MetFree l (⟨"java/lang/String", "checkIndex", "(II)V"⟩ : MethodName) (head1 (Jvm.Cond.code (⟨"java/lang/String", "checkIndex", "(II)V"⟩ : MethodName) jdk_42_method_155_code 2 none :: ws) ({ frames := 1, cells := 0, slots := 0, locals := 14 } : Room)) (fun a_ U_ => a_ = #[(.int j), (.int n)] ∧ Z.Warmed39 U_.vm ∧ U_.heap = h0) (fun _ _ _ _ _ => True) (fun _ U_ o_ V_ => ∃ v_ L_, o_ = .returned v_ ∧ Q_chk Z j n fm h0 n0 v_ V_.heap L_ ∧ FrameEnd U_ o_ V_ L_ ({ frames := 1, cells := 0, slots := 0, locals := 14 } : Room).cells ({ frames := 1, cells := 0, slots := 0, locals := 14 } : Room).slots) := by
  refine MetFree.of_bodySF (plainFor_of_name pn2) hisR ?_
  intro p e s m args below meth c s₁ Bd hml0 hP hK
  obtain ⟨rfl, hZ, hh⟩ := hP
  have hx := Bd.exec
  have hby := Bd.bytes
  have hml : c.maxLocals = 2 := hml0
  have hown : s.vm.findClass "java/lang/String" = some m.cls := findClass_of_methodNamed Bd.named
  have hnm := (name_of_methodNamed Bd.named Bd.method).1
  have X0 : Stand p l e ({ frames := 1, cells := 0, slots := 0, locals := 14 } : Room) s m #[(.int j), (.int n)] below meth c s₁ [] 0 0 := Stand.of_body Bd
  have e0 : s₁.heap = h0 := by rw [← hh, Bd.state]; rfl
  have N0 := Fr.nil n0
  have pre0 : own_Go p e below (s₁.setTop (entryFrame m #[(.int j), (.int n)] 2)) (s₁.setTop (mkF m 0 #[.val (.int j), .val (.int n)] [])) := fun t_ k_ => castTop (ef__chk m j n) k_
  have P1 := own_step (C := s₁.setTop (mkF m 2 #[.val (.int j), .val (.int n)] [(.int n), (.int j)])) pre0 (by
    intro tt_ kk_
    refine XS.iloadN X0.here hx rfl (hb hby d5_0) rfl ?_
    show Steps p.tables e below (s₁.setTop (mkF m 1 #[.val (.int j), .val (.int n)] [(.int j)])) _
    refine XS.iloadN X0.here hx rfl (hb hby d5_1) rfl ?_
    exact kk_)
  obtain ⟨T2, X2, e2, st2⟩ := getS2 X0 hx hZ hown (host := "") (Or.inl (hw _ (List.mem_of_getElem? (i := 32) rfl))) Via.refl e0 (Sfm.ext O.2) (g := (mkF m 2 #[.val (.int j), .val (.int n)] [(.int n), (.int j)])) rfl (hb hby d5_2)
  have P3 := own_step (C := T2.setTop (mkF m 5 #[.val (.int j), .val (.int n)] [fm, (.int n), (.int j)])) P1 (fun t_ k_ => st2 t_ k_)
  obtain ⟨_, _, ⟨T4, L4, k4, n4⟩, -, X4, ⟨Lc4, hQ4, l4, y4, z4⟩, st4⟩ := Jvm.LawKit.callS X2 hx (y := (⟨"jdk/internal/util/Preconditions", "checkIndex", "(IILjava/util/function/BiFunction;)I"⟩ : MethodName)) hown (mvT hZ (hw _ (List.mem_of_getElem? (i := 34) rfl))) (mvT hZ (hw _ (List.mem_of_getElem? (i := 35) rfl))) (mvT hZ (hw _ (List.mem_of_getElem? (i := 33) rfl))) (mvT hZ (hw _ (List.mem_of_getElem? (i := 36) rfl))) (by decide) (backOf (W := 0) (rm_chk0 l Z a0 hw [] j n fm h0 n0 Z0 hfm hj0 hjn) hZ (hw _ (List.mem_of_getElem? (i := 36) rfl)) (hw _ (List.mem_of_getElem? (i := 33) rfl)) (by decide) (by decide)) (g := (mkF m 5 #[.val (.int j), .val (.int n)] [fm, (.int n), (.int j)])) rfl (by rw [hml]; rfl) (argsL := [(.int j), (.int n), fm]) (rest := []) (lenOf pd0 rfl) rfl (by show 2 * 0 + _ ≤ _; exact Nat.le_of_eq rfl) (hb hby d5_5) (fun _ _ => ⟨rfl, e2, (by decide : 0 + 0 ≤ _), (by decide : 0 + 0 ≤ _)⟩)
  dsimp only [Pt.U, Pt.locs, Pt.cells, Pt.slots] at X4 l4 y4 z4 st4 hQ4
  subst l4 y4 z4
  obtain ⟨rfl, N4q, e4⟩ := hQ4
  have N4 := Fr.app N0 N4q
  have P5 := own_step (C := T4.setTop (mkF m 8 #[.val (.int j), .val (.int n)] [(.int j)])) P3 (fun t_ k_ => st4 t_ k_)
  have P6 := own_step (C := T4.setTop (mkF m 9 #[.val (.int j), .val (.int n)] [])) P5 (by
    intro tt_ kk_
    refine XS.pop X4.here hx rfl (hb hby d5_8) rfl rfl ?_
    exact kk_)
  obtain ⟨fs, hr, hrun, hended, hW, hsame⟩ := X4.leave (v := none) (fun _ => rfl)
  refine ⟨_, _, P6 _ ?_, hrun, hended, _, _, rfl, ?_, ⟨_, rfl⟩, hW, hsame.mono (by decide) (by decide)⟩
  · exact X4.returnOut hx Bd.returns (hb hby d5_9) hr
  · show Q_chk Z _ _ _ h0 n0 _ T4.heap _
    rw [e4]
    exact ⟨rfl, N4, rfl⟩
theorem pd1 : parseMethodDescriptor "(II)V" = some ⟨[.int, .int], none⟩ := by decide +kernel
theorem d4_0 : decode jdk_43_method_2_code 0 = .ok (.iload_n 1, 1) := by decide +kernel
theorem d4_1 : decode jdk_43_method_2_code 1 = .ok (.aload_n 0, 1) := by decide +kernel
theorem d4_2 : decode jdk_43_method_2_code 2 = .ok (.arraylength, 1) := by decide +kernel
theorem d4_3 : decode jdk_43_method_2_code 3 = .ok (.invokestatic 9, 3) := by decide +kernel
theorem d4_6 : decode jdk_43_method_2_code 6 = .ok (.aload_n 0, 1) := by decide +kernel
theorem d4_7 : decode jdk_43_method_2_code 7 = .ok (.iload_n 1, 1) := by decide +kernel
theorem d4_8 : decode jdk_43_method_2_code 8 = .ok (.baload, 1) := by decide +kernel
theorem d4_9 : decode jdk_43_method_2_code 9 = .ok (.sipush 255, 3) := by decide +kernel
theorem d4_12 : decode jdk_43_method_2_code 12 = .ok (.iand, 1) := by decide +kernel
theorem d4_13 : decode jdk_43_method_2_code 13 = .ok (.i2c, 1) := by decide +kernel
theorem d4_14 : decode jdk_43_method_2_code 14 = .ok (.ireturn, 1) := by decide +kernel
theorem ef__chL (m : MethodId) (x0 : Addr) (x1 : Int32) : entryFrame m #[(.ref x0), (.int x1)] 2 = mkF m 0 #[.val (.ref x0), .val (.int x1)] [] := by first | (simp [entryFrame, mkF, argsToLocals, Value.category]; done) | rfl
def Q_chL (Z : State) (b : Addr) (k : ClassId) (z : Int32) (vs : List Value) (j : Int32) (x : Int32) (fm : Value) (h0 : Heap) (n0 : Nat) (v_ : Option Value) (h : Heap) (L_ : List Loc) : Prop := v_ = some (.int (x &&& (255 : Int32))) ∧ Fr n0 L_ ∧ h = h0
theorem pn4 : plainName "java/lang/StringLatin1" = true := by first | (simp [plainName, overriddenIn]; done) | decide +kernel
set_option maxRecDepth 65536 in
set_option maxHeartbeats 40000000 in
theorem rm_chL (l : Launch) (Z : State) (a0 : Array Value) (hw : ∀ d ∈ tables_1, d.before a0 Z = true) (ws : List Jvm.Cond) (b : Addr) (k : ClassId) (z : Int32) (vs : List Value) (j : Int32) (x : Int32) (fm : Value) (h0 : Heap) (n0 : Nat) (Z0 : n0 ≤ h0.size) (O : Old Z n0 h0) (Vb : Arv Z h0 b k .byte z vs (.int 0)) (Sfm : Sta Z Z.heap "jdk/internal/util/Preconditions" "SIOOBE_FORMATTER" "Ljava/util/function/BiFunction;" fm) (hfm : fm.category = 1) (hin : ¬ (j < (0 : Int32)) ∧ j < z) (hu : vs.getD j.toNatClampNeg (.int 0) = .int x) :
    MetFree l (⟨"java/lang/StringLatin1", "charAt", "([BI)C"⟩ : MethodName) (head1 (Jvm.Cond.code (⟨"java/lang/StringLatin1", "charAt", "([BI)C"⟩ : MethodName) jdk_43_method_2_code 2 (some .char) :: ws) ({ frames := 2, cells := 0, slots := 0, locals := 27 } : Room)) (fun a_ U_ => a_ = #[(.ref b), (.int j)] ∧ Z.Warmed39 U_.vm ∧ U_.heap = h0) (fun _ _ _ _ _ => True) (fun _ U_ o_ V_ => ∃ v_ L_, o_ = .returned v_ ∧ Q_chL Z b k z vs j x fm h0 n0 v_ V_.heap L_ ∧ FrameEnd U_ o_ V_ L_ ({ frames := 2, cells := 0, slots := 0, locals := 27 } : Room).cells ({ frames := 2, cells := 0, slots := 0, locals := 27 } : Room).slots) := by
  refine MetFree.of_bodySF (plainFor_of_name pn4) hisR ?_
  intro p e s m args below meth c s₁ Bd hml0 hP hK
  obtain ⟨rfl, hZ, hh⟩ := hP
  have hx := Bd.exec
  have hby := Bd.bytes
  have hml : c.maxLocals = 2 := hml0
  have hown : s.vm.findClass "java/lang/StringLatin1" = some m.cls := findClass_of_methodNamed Bd.named
  have hnm := (name_of_methodNamed Bd.named Bd.method).1
  have X0 : Stand p l e ({ frames := 2, cells := 0, slots := 0, locals := 27 } : Room) s m #[(.ref b), (.int j)] below meth c s₁ [] 0 0 := Stand.of_body Bd
  have e0 : s₁.heap = h0 := by rw [← hh, Bd.state]; rfl
  have N0 := Fr.nil n0
  have pre0 : own_Go p e below (s₁.setTop (entryFrame m #[(.ref b), (.int j)] 2)) (s₁.setTop (mkF m 0 #[.val (.ref b), .val (.int j)] [])) := fun t_ k_ => castTop (ef__chL m b j) k_
  have P1 := own_step (C := s₁.setTop (mkF m 2 #[.val (.ref b), .val (.int j)] [(.ref b), (.int j)])) pre0 (by
    intro tt_ kk_
    refine XS.iloadN X0.here hx rfl (hb hby d4_0) rfl ?_
    show Steps p.tables e below (s₁.setTop (mkF m 1 #[.val (.ref b), .val (.int j)] [(.int j)])) _
    refine XS.aloadN X0.here hx rfl (hb hby d4_1) rfl rfl ?_
    exact kk_)
  obtain ⟨cl2, Ar2, q2, S2, M2, H2, G2⟩ := id Vb
  have P3 := own_step (C := s₁.setTop (mkF m 3 #[.val (.ref b), .val (.int j)] [(.int z), (.int j)])) P1 (by
    intro tt_ kk_
    refine X0.arraylength hx (by rw [e0]; exact Ar2.1) (State.isArrayOf_alike hZ.alike Ar2.2.1) (g := (mkF m 2 #[.val (.ref b), .val (.int j)] [(.ref b), (.int j)])) rfl rfl (hb hby d4_2) _ ?_
    rw [len_of S2 M2]
    exact kk_)
  obtain ⟨_, _, ⟨T4, L4, k4, n4⟩, -, X4, ⟨Lc4, hQ4, l4, y4, z4⟩, st4⟩ := Jvm.LawKit.callS X0 hx (y := (⟨"java/lang/String", "checkIndex", "(II)V"⟩ : MethodName)) hown (mvT hZ (hw _ (List.mem_of_getElem? (i := 29) rfl))) (mvT hZ (hw _ (List.mem_of_getElem? (i := 30) rfl))) (mvT hZ (hw _ (List.mem_of_getElem? (i := 1) rfl))) (mvT hZ (hw _ (List.mem_of_getElem? (i := 31) rfl))) (by decide) (backOf (W := 0) (rm_chk l Z a0 hw [] j z fm h0 n0 Z0 O Sfm hfm hin.1 hin.2) hZ (hw _ (List.mem_of_getElem? (i := 31) rfl)) (hw _ (List.mem_of_getElem? (i := 1) rfl)) (by decide) (by decide)) (g := (mkF m 3 #[.val (.ref b), .val (.int j)] [(.int z), (.int j)])) rfl (by rw [hml]; rfl) (argsL := [(.int j), (.int z)]) (rest := []) (lenOf pd1 rfl) rfl (by show 2 * 0 + _ ≤ _; exact Nat.le_of_eq rfl) (hb hby d4_3) (fun _ _ => ⟨rfl, e0, (by decide : 0 + 0 ≤ _), (by decide : 0 + 0 ≤ _)⟩)
  dsimp only [Pt.U, Pt.locs, Pt.cells, Pt.slots] at X4 l4 y4 z4 st4 hQ4
  subst l4 y4 z4
  obtain ⟨rfl, N4q, e4⟩ := hQ4
  have N4 := Fr.app N0 N4q
  have P5 := own_step (C := T4.setTop (mkF m 6 #[.val (.ref b), .val (.int j)] [])) P3 (fun t_ k_ => st4 t_ k_)
  have P6 := own_step (C := T4.setTop (mkF m 8 #[.val (.ref b), .val (.int j)] [(.int j), (.ref b)])) P5 (by
    intro tt_ kk_
    refine XS.aloadN X4.here hx rfl (hb hby d4_6) rfl rfl ?_
    show Steps p.tables e below (T4.setTop (mkF m 7 #[.val (.ref b), .val (.int j)] [(.ref b)])) _
    refine XS.iloadN X4.here hx rfl (hb hby d4_7) rfl ?_
    exact kk_)
  obtain ⟨cl7, Ar7, q7, S7, M7, H7, G7⟩ := id Vb
  have hin7 := inb_of S7 hin
  have hat7 := Has.at H7 hin7 hu
  have P8 := own_step (C := T4.setTop (mkF m 9 #[.val (.ref b), .val (.int j)] [(.int x)])) P6 (by
    intro tt_ kk_
    refine X4.baloadBytes hx (j := j) (v := (.int x)) (by rw [e4]; exact Ar7.1) (State.isArrayOf_alike hZ.alike Ar7.2.1) Ar7.2.2 hin7 hat7 (g := (mkF m 8 #[.val (.ref b), .val (.int j)] [(.int j), (.ref b)])) rfl rfl (hb hby d4_8) _ ?_
    exact kk_)
  have P9 := own_step (C := T4.setTop (mkF m 14 #[.val (.ref b), .val (.int j)] [(.int ((x &&& (255 : Int32)).toUInt32.toUInt16.toUInt32.toInt32))])) P8 (by
    intro tt_ kk_
    refine XS.sipush X4.here hx rfl (hb hby d4_9) ?_
    show Steps p.tables e below (T4.setTop (mkF m 12 #[.val (.ref b), .val (.int j)] [(.int (255 : Int32)), (.int x)])) _
    refine XS.iand X4.here hx rfl (hb hby d4_12) rfl ?_
    show Steps p.tables e below (T4.setTop (mkF m 13 #[.val (.ref b), .val (.int j)] [(.int (x &&& (255 : Int32)))])) _
    refine XS.i2c X4.here hx rfl (hb hby d4_13) rfl ?_
    exact kk_)
  obtain ⟨fs, hr, hrun, hended, hW, hsame⟩ := X4.leave (v := some (.int (nar .char ((x &&& (255 : Int32)).toUInt32.toUInt16.toUInt32.toInt32)))) (fun h => by rw [Bd.returns] at h; cases h)
  refine ⟨_, _, P9 _ ?_, hrun, hended, _, _, rfl, ?_, ⟨_, rfl⟩, hW, hsame.mono (by decide) (by decide)⟩
  · exact retN X4 hx (t := .char) Bd.returns (by simp) (hb hby d4_14) hr
  · show Q_chL Z _ _ _ _ _ _ _ h0 n0 _ T4.heap _
    rw [e4]
    exact ⟨by rw [own_nc], N4, rfl⟩
theorem pd2 : parseMethodDescriptor "()Z" = some ⟨[], some .boolean⟩ := by decide +kernel
theorem pd3 : parseMethodDescriptor "([BI)C" = some ⟨[(.array .byte), .int], some .char⟩ := by decide +kernel
theorem d2_0 : decode jdk_42_method_56_code 0 = .ok (.aload_n 0, 1) := by decide +kernel
theorem d2_1 : decode jdk_42_method_56_code 1 = .ok (.invokevirtual 492, 3) := by decide +kernel
theorem d2_4 : decode jdk_42_method_56_code 4 = .ok (.ifCond .eq 12, 3) := by decide +kernel
theorem d2_7 : decode jdk_42_method_56_code 7 = .ok (.aload_n 0, 1) := by decide +kernel
theorem d2_8 : decode jdk_42_method_56_code 8 = .ok (.getfield 9, 3) := by decide +kernel
theorem d2_11 : decode jdk_42_method_56_code 11 = .ok (.iload_n 1, 1) := by decide +kernel
theorem d2_12 : decode jdk_42_method_56_code 12 = .ok (.invokestatic 495, 3) := by decide +kernel
theorem d2_15 : decode jdk_42_method_56_code 15 = .ok (.ireturn, 1) := by decide +kernel
theorem ef__charAt (m : MethodId) (x0 : Addr) (x1 : Int32) : entryFrame m #[(.ref x0), (.int x1)] 2 = mkF m 0 #[.val (.ref x0), .val (.int x1)] [] := by first | (simp [entryFrame, mkF, argsToLocals, Value.category]; done) | rfl
def Q_charAt (Z : State) (a : Addr) (b : Addr) (k : ClassId) (z : Int32) (vs : List Value) (j : Int32) (x : Int32) (fm : Value) (cs : Int32) (h0 : Heap) (n0 : Nat) (v_ : Option Value) (h : Heap) (L_ : List Loc) : Prop := v_ = some (.int (x &&& (255 : Int32))) ∧ Fr n0 L_ ∧ h = h0
set_option maxRecDepth 65536 in
set_option maxHeartbeats 40000000 in
theorem rm_charAt (l : Launch) (Z : State) (a0 : Array Value) (hw : ∀ d ∈ tables_1, d.before a0 Z = true) (ws : List Jvm.Cond) (a : Addr) (b : Addr) (k : ClassId) (z : Int32) (vs : List Value) (j : Int32) (x : Int32) (fm : Value) (cs : Int32) (h0 : Heap) (n0 : Nat) (Z0 : n0 ≤ h0.size) (O : Old Z n0 h0) (Scs : Sta Z Z.heap "java/lang/String" "COMPACT_STRINGS" "Z" (.int cs)) (hcs : ¬ (cs = (0 : Int32))) (Ea : Exa Z h0 a "java/lang/String") (Fc : Fld Z h0 a "java/lang/String" "coder" "B" (.int (0 : Int32))) (Fv : Fld Z h0 a "java/lang/String" "value" "[B" (.ref b)) (Vb : Arv Z h0 b k .byte z vs (.int 0)) (Sfm : Sta Z Z.heap "jdk/internal/util/Preconditions" "SIOOBE_FORMATTER" "Ljava/util/function/BiFunction;" fm) (hfm : fm.category = 1) (hin : ¬ (j < (0 : Int32)) ∧ j < z) (hu : vs.getD j.toNatClampNeg (.int 0) = .int x) :
    MetFree l (⟨"java/lang/String", "charAt", "(I)C"⟩ : MethodName) (head1 (Jvm.Cond.code (⟨"java/lang/String", "charAt", "(I)C"⟩ : MethodName) jdk_42_method_56_code 2 (some .char) :: ws) ({ frames := 3, cells := 0, slots := 0, locals := 40 } : Room)) (fun a_ U_ => a_ = #[(.ref a), (.int j)] ∧ Z.Warmed39 U_.vm ∧ U_.heap = h0) (fun _ _ _ _ _ => True) (fun _ U_ o_ V_ => ∃ v_ L_, o_ = .returned v_ ∧ Q_charAt Z a b k z vs j x fm cs h0 n0 v_ V_.heap L_ ∧ FrameEnd U_ o_ V_ L_ ({ frames := 3, cells := 0, slots := 0, locals := 40 } : Room).cells ({ frames := 3, cells := 0, slots := 0, locals := 40 } : Room).slots) := by
  refine MetFree.of_bodySF (plainFor_of_name pn2) hisR ?_
  intro p e s m args below meth c s₁ Bd hml0 hP hK
  obtain ⟨rfl, hZ, hh⟩ := hP
  have hx := Bd.exec
  have hby := Bd.bytes
  have hml : c.maxLocals = 2 := hml0
  have hown : s.vm.findClass "java/lang/String" = some m.cls := findClass_of_methodNamed Bd.named
  have hnm := (name_of_methodNamed Bd.named Bd.method).1
  have X0 : Stand p l e ({ frames := 3, cells := 0, slots := 0, locals := 40 } : Room) s m #[(.ref a), (.int j)] below meth c s₁ [] 0 0 := Stand.of_body Bd
  have e0 : s₁.heap = h0 := by rw [← hh, Bd.state]; rfl
  have N0 := Fr.nil n0
  have pre0 : own_Go p e below (s₁.setTop (entryFrame m #[(.ref a), (.int j)] 2)) (s₁.setTop (mkF m 0 #[.val (.ref a), .val (.int j)] [])) := fun t_ k_ => castTop (ef__charAt m a j) k_
  have P1 := own_step (C := s₁.setTop (mkF m 1 #[.val (.ref a), .val (.int j)] [(.ref a)])) pre0 (by
    intro tt_ kk_
    refine XS.aloadN X0.here hx rfl (hb hby d2_0) rfl rfl ?_
    exact kk_)
  obtain ⟨cq2, kq2, q2a, q2b, q2c⟩ := isOf hZ e0 Ea
  obtain ⟨_, _, ⟨T2, L2, k2, n2⟩, -, X2, ⟨Lc2, hQ2, l2, y2, z2⟩, st2⟩ := X0.virtualBack hx (y := (⟨"java/lang/String", "isLatin1", "()Z"⟩ : MethodName)) (z := (⟨"java/lang/String", "isLatin1", "()Z"⟩ : MethodName)) hown (mvT hZ (hw _ (List.mem_of_getElem? (i := 17) rfl))) (mvT hZ (hw _ (List.mem_of_getElem? (i := 18) rfl))) (notFace_of_selects (args := #[]) (mvT hZ (hw _ (List.mem_of_getElem? (i := 20) rfl)))) (mvT hZ (hw _ (List.mem_of_getElem? (i := 20) rfl))) (mvT hZ (hw _ (List.mem_of_getElem? (i := 19) rfl))) (by decide) (backOf (W := 0) (rm_lat0 l Z a0 hw [] a cs h0 n0 Z0 O Scs hcs Fc) hZ (hw _ (List.mem_of_getElem? (i := 21) rfl)) (hw _ (List.mem_of_getElem? (i := 1) rfl)) (by decide) (by decide)) q2a q2c (g := (mkF m 1 #[.val (.ref a), .val (.int j)] [(.ref a)])) rfl (by rw [hml]; rfl) (Steps.refl _) (argsL := []) (rest := []) (lenOf pd2 rfl) rfl (by show 2 * 0 + _ ≤ _; exact Nat.le_of_eq rfl) (hb hby d2_1) (fun _ _ => ⟨rfl, e0, (by decide : 0 + 0 ≤ _), (by decide : 0 + 0 ≤ _)⟩)
  dsimp only [Pt.U, Pt.locs, Pt.cells, Pt.slots] at X2 l2 y2 z2 st2 hQ2
  subst l2 y2 z2
  obtain ⟨rfl, N2q, e2⟩ := hQ2
  have N2 := Fr.app N0 N2q
  have P3 := own_step (C := T2.setTop (mkF m 4 #[.val (.ref a), .val (.int j)] [(.int (1 : Int32))])) P1 (fun t_ k_ => st2.trans k_)
  have P4 := own_step (C := T2.setTop (mkF m 7 #[.val (.ref a), .val (.int j)] [])) P3 (by
    intro tt_ kk_
    refine XS.ifNo X2.here hx rfl (hb hby d2_4) rfl ((if0 _ _).trans (feq (by decide : ¬ ((1 : Int32) = (0 : Int32)))).1) ?_
    exact kk_)
  have P5 := own_step (C := T2.setTop (mkF m 8 #[.val (.ref a), .val (.int j)] [(.ref a)])) P4 (by
    intro tt_ kk_
    refine XS.aloadN X2.here hx rfl (hb hby d2_7) rfl rfl ?_
    exact kk_)
  obtain ⟨T6, X6, e6, st6⟩ := getF X2 hx hZ hown (host := "") (Or.inl (hw _ (List.mem_of_getElem? (i := 24) rfl))) Via.refl e2 Fv (g := (mkF m 8 #[.val (.ref a), .val (.int j)] [(.ref a)])) rfl rfl (hb hby d2_8)
  have P7 := own_step (C := T6.setTop (mkF m 11 #[.val (.ref a), .val (.int j)] [(.ref b)])) P5 (fun t_ k_ => st6 t_ k_)
  have P8 := own_step (C := T6.setTop (mkF m 12 #[.val (.ref a), .val (.int j)] [(.int j), (.ref b)])) P7 (by
    intro tt_ kk_
    refine XS.iloadN X6.here hx rfl (hb hby d2_11) rfl ?_
    exact kk_)
  obtain ⟨_, _, ⟨T9, L9, k9, n9⟩, -, X9, ⟨Lc9, hQ9, l9, y9, z9⟩, st9⟩ := Jvm.LawKit.callS X6 hx (y := (⟨"java/lang/StringLatin1", "charAt", "([BI)C"⟩ : MethodName)) hown (mvT hZ (hw _ (List.mem_of_getElem? (i := 25) rfl))) (mvT hZ (hw _ (List.mem_of_getElem? (i := 26) rfl))) (mvT hZ (hw _ (List.mem_of_getElem? (i := 27) rfl))) (mvT hZ (hw _ (List.mem_of_getElem? (i := 28) rfl))) (by decide) (backOf (W := 0) (rm_chL l Z a0 hw [] b k z vs j x fm h0 n0 Z0 O Vb Sfm hfm hin hu) hZ (hw _ (List.mem_of_getElem? (i := 28) rfl)) (hw _ (List.mem_of_getElem? (i := 27) rfl)) (by decide) (by decide)) (g := (mkF m 12 #[.val (.ref a), .val (.int j)] [(.int j), (.ref b)])) rfl (by rw [hml]; rfl) (argsL := [(.ref b), (.int j)]) (rest := []) (lenOf pd3 rfl) rfl (by show 2 * 0 + _ ≤ _; exact Nat.le_of_eq rfl) (hb hby d2_12) (fun _ _ => ⟨rfl, e6, (by decide : 0 + 0 ≤ _), (by decide : 0 + 0 ≤ _)⟩)
  dsimp only [Pt.U, Pt.locs, Pt.cells, Pt.slots] at X9 l9 y9 z9 st9 hQ9
  subst l9 y9 z9
  obtain ⟨rfl, N9q, e9⟩ := hQ9
  have N9 := Fr.app N2 N9q
  have P10 := own_step (C := T9.setTop (mkF m 15 #[.val (.ref a), .val (.int j)] [(.int (x &&& (255 : Int32)))])) P8 (fun t_ k_ => st9 t_ k_)
  obtain ⟨fs, hr, hrun, hended, hW, hsame⟩ := X9.leave (v := some (.int (nar .char (x &&& (255 : Int32))))) (fun h => by rw [Bd.returns] at h; cases h)
  refine ⟨_, _, P10 _ ?_, hrun, hended, _, _, rfl, ?_, ⟨_, rfl⟩, hW, hsame.mono (by decide) (by decide)⟩
  · exact retN X9 hx (t := .char) Bd.returns (by simp) (hb hby d2_15) hr
  · show Q_charAt Z _ _ _ _ _ _ _ _ _ h0 n0 _ T9.heap _
    rw [e9]
    exact ⟨by rw [own_nc1], N9, rfl⟩
def own_tabI : List Int32 := [65, 66, 67, 68, 69, 70, 71, 72, 73, 74, 75, 76, 77, 78, 79, 80, 81, 82, 83, 84, 85, 86, 87, 88, 89, 90, 97, 98, 99, 100, 101, 102, 103, 104, 105, 106, 107, 108, 109, 110, 111, 112, 113, 114, 115, 116, 117, 118, 119, 120, 121, 122, 48, 49, 50, 51, 52, 53, 54, 55, 56, 57, 45, 95]
def own_tab : List Value := own_tabI.map Value.int
theorem own_cs {args : Array Value} {s : State} {cs : Int32} (e : (Term.static "java/lang/String" "COMPACT_STRINGS" "Z").eval args s none [] s = some (.int cs)) (h : Jvm.Lit.compactW.before args s = true) : ¬ (cs = (0 : Int32)) := by
  have a1 := not_v (Cond.before_iff.mp (show (Cond.not (.eq (.static "java/lang/String" "COMPACT_STRINGS" "Z") (.int 0))).before args s = true from h))
  intro q; subst q
  have b1 := eq_i e (Term.int_eval (0)) rfl
  rw [b1] at a1; cases a1

def own_C (c : Int32) : Prop := 0 ≤ c.toInt ∧ c.toInt < 65536
theorem own_i2c (x : Int32) : own_C (x.toUInt32.toUInt16.toUInt32.toInt32) := by have a := c_i2c x; exact ⟨a.2.1, a.2.2⟩
def own_tbv (c : Int32) : Int32 := own_tabI.getD (own_gi c).toNatClampNeg 0
theorem own_gi63 (c : Int32) : 0 ≤ (own_gi c).toInt ∧ (own_gi c).toInt < 64 := by
  have m : ∀ x : Int32, 0 ≤ (x &&& (63 : Int32)).toInt ∧ (x &&& (63 : Int32)).toInt < 64 := fun x => by rw [c_mask x 63 6 (by decide) (by decide +kernel)]; omega
  unfold own_gi
  repeat' split
  all_goals first | exact m _ | decide
theorem own_hin (c : Int32) : ¬ (own_gi c < (0 : Int32)) ∧ own_gi c < (64 : Int32) := by
  have h := own_gi63 c
  rw [Int32.lt_iff_toInt_lt, Int32.lt_iff_toInt_lt, show (0 : Int32).toInt = 0 from rfl, show (64 : Int32).toInt = 64 from rfl]; omega
theorem own_getD (k : Nat) (h : k < 64) : own_tab.getD k (.int 0) = .int (own_tabI.getD k 0) := by
  have : ∀ k : Fin 64, own_tab.getD k.val (.int 0) = .int (own_tabI.getD k.val 0) := by decide +kernel
  exact this ⟨k, h⟩
theorem own_clamp (c : Int32) : (own_gi c).toNatClampNeg < 64 := by
  have h := own_gi63 c
  have q := nat_of (j := own_gi c) (by rw [Int32.lt_iff_toInt_lt, show (0 : Int32).toInt = 0 from rfl]; omega)
  omega
theorem own_hu (c : Int32) : own_tab.getD (own_gi c).toNatClampNeg (.int 0) = .int (own_tbv c) := own_getD _ (own_clamp c)
theorem own_small (k : Nat) (h : k < 64) : (own_tabI.getD k 0 &&& (255 : Int32)).toInt < 128 := by
  have : ∀ k : Fin 64, (own_tabI.getD k.val 0 &&& (255 : Int32)).toInt < 128 := by decide +kernel
  exact this ⟨k, h⟩
theorem own_low : ∀ m : Fin 128, own_in (Int32.ofNat m.val) = if (own_tbv (Int32.ofNat m.val) &&& (255 : Int32)) = Int32.ofNat m.val then 1 else 0 := by decide +kernel
theorem own_high {c : Int32} (h : 128 ≤ c.toInt) : own_in c = 0 := by
  unfold own_in
  simp only [Int32.lt_iff_toInt_lt, ← Int32.toInt_inj (x := c), show (65 : Int32).toInt = 65 from rfl, show (90 : Int32).toInt = 90 from rfl, show (97 : Int32).toInt = 97 from rfl, show (122 : Int32).toInt = 122 from rfl, show (48 : Int32).toInt = 48 from rfl, show (57 : Int32).toInt = 57 from rfl, show (45 : Int32).toInt = 45 from rfl, show (95 : Int32).toInt = 95 from rfl]
  repeat' split
  all_goals first | rfl | omega
theorem own_fin {c ve : Int32} (g : own_C c) (h : ((own_tbv c &&& (255 : Int32)) = c ∧ ve = (1 : Int32)) ∨ (¬ ((own_tbv c &&& (255 : Int32)) = c) ∧ ve = (0 : Int32))) : own_in c = ve := by
  unfold own_C at g
  by_cases q : c.toInt < 128
  · have e : c = Int32.ofNat c.toInt.toNat := by rw [← Int32.toInt_inj, Int32.toInt_ofNat_of_lt (by omega)]; omega
    have l := own_low ⟨c.toInt.toNat, by omega⟩
    rw [← e] at l; rw [l]
    rcases h with ⟨h1, rfl⟩ | ⟨h1, rfl⟩
    · rw [if_pos h1]
    · rw [if_neg h1]
  · rw [own_high (by omega)]
    rcases h with ⟨h1, -⟩ | ⟨-, rfl⟩
    · have s := own_small _ (own_clamp c)
      have : (own_tbv c &&& (255 : Int32)).toInt < 128 := s
      rw [h1] at this; omega
    · rfl

theorem pd4 : parseMethodDescriptor "(I)I" = some ⟨[.int], some .int⟩ := by decide +kernel
theorem pd5 : parseMethodDescriptor "(I)C" = some ⟨[.int], some .char⟩ := by decide +kernel
theorem pd6 : parseMethodDescriptor "(C)Z" = some ⟨[.char], some .boolean⟩ := by decide +kernel
theorem ef_0 (m : MethodId) (x0 : Int32) : entryFrame m #[(.int x0)] maxLocals = mkF m 0 #[.val (.int x0), .unset, .unset, .unset] [] := by first | (simp [entryFrame, mkF, argsToLocals, Value.category, maxLocals]; done) | rfl
def Q0 (Z : State) (px : Int32) (fm : Value) (cs : Int32) (h0 : Heap) (n0 : Nat) (v_ : Option Value) (h : Heap) (L_ : List Loc) : Prop := v_ = some (.int 1) ∧ Fr n0 L_
set_option maxRecDepth 65536 in
set_option maxHeartbeats 40000000 in
theorem rm0 (l : Launch) (Z : State) (a0 : Array Value) (hw : ∀ d ∈ tables_1, d.before a0 Z = true) (ws : List Jvm.Cond) (px : Int32) (fm : Value) (cs : Int32) (h0 : Heap) (n0 : Nat) (Z0 : n0 ≤ h0.size) (O : Old Z n0 h0) (Scs : Sta Z Z.heap "java/lang/String" "COMPACT_STRINGS" "Z" (.int cs)) (hcs : ¬ (cs = (0 : Int32))) (Sfm : Sta Z Z.heap "jdk/internal/util/Preconditions" "SIOOBE_FORMATTER" "Ljava/util/function/BiFunction;" fm) (hfm : fm.category = 1) (hheld : Jvm.Lit.constHeld Z "com/example/verified_health_identity/verifiedhealthidentity/jose/Base64urlIsInAlphabetPinLaw" 7) (hcw : Jvm.Lit.compactW.before a0 Z = true) :
    MetFree l x (head1 (Jvm.Cond.code x code maxLocals ret :: ws) room_1) (fun a_ U_ => a_ = #[(.int px)] ∧ Z.Warmed39 U_.vm ∧ U_.heap = h0 ∧ IB Z U_.vm []) (fun _ _ _ _ _ => True) (fun _ U_ o_ V_ => ∃ v_ L_, o_ = .returned v_ ∧ Q0 Z px fm cs h0 n0 v_ V_.heap L_ ∧ ReturnedEndW U_ o_ V_ L_ room_1.cells room_1.slots) := by
  refine MetFree.of_bodySF (plainFor_of_name pn0) hisR ?_
  intro p e s m args below meth c s₁ Bd hml0 hP hK
  obtain ⟨rfl, hZ, hh, hIB⟩ := hP
  have hx := Bd.exec
  have hby := Bd.bytes
  have hml : c.maxLocals = 4 := hml0
  have hown : s.vm.findClass "com/example/verified_health_identity/verifiedhealthidentity/jose/Base64urlIsInAlphabetPinLaw" = some m.cls := findClass_of_methodNamed Bd.named
  have hnm := (name_of_methodNamed Bd.named Bd.method).1
  have X0 : Stand p l e room_1 s m #[(.int px)] below meth c s₁ [] 0 0 := Stand.of_body Bd
  have e0 : s₁.heap = h0 := by rw [← hh, Bd.state]; rfl
  have N0 := Fr.nil n0
  have pre0 : own_Go p e below (s₁.setTop (entryFrame m #[(.int px)] maxLocals)) (s₁.setTop (mkF m 0 #[.val (.int px), .unset, .unset, .unset] [])) := fun t_ k_ => castTop (ef_0 m px) k_
  obtain ⟨b1, T1, h1, k1, bv1, kc1, X1, e1, E1, S1, kz1, hZ1, hown1, A1, Fc1, Fv1, V1, -, -, I1, Lt1, st1⟩ := ldcSVL (s := s) (vm0 := s.vm) X0 hx hZ hown (hw _ (List.mem_of_getElem? (i := 0) rfl)) (fun d hd => hw d (own_wS d hd)) e0 ((State.WarmedH.refl s).since 0) (Nat.zero_le _) (Fr.nil _) (fun b cl q => by rw [hh]; exact O.2.2 b cl q) hIB (by decide) hheld hcw (vs := own_tab) (z := (64 : Int32)) ⟨by decide +kernel, by rfl⟩ (by decide) rfl (g := (mkF m 0 #[.val (.int px), .unset, .unset, .unset] [])) rfl (hb hby at_0) (n := 256) (by decide +kernel) (by decide) (by decide) (by decide)
  have f2 := O.ext E1
  have Z3 : n0 ≤ h1.size := Nat.le_trans Z0 E1.1
  have P4 := own_step (C := T1.setTop (mkF m 2 #[.val (.int px), .unset, .unset, .unset] [(.ref b1)])) pre0 (fun t_ k_ => st1 t_ k_)
  have P5 := own_step (C := T1.setTop (mkF m 6 #[.val (.int px), .val (.ref b1), .val (.int (px.toUInt32.toUInt16.toUInt32.toInt32)), .unset] [])) P4 (by
    intro tt_ kk_
    refine XS.astoreN X1.here hx rfl (hb hby at_2) rfl rfl (l' := #[.val (.int px), .val (.ref b1), .unset, .unset]) rfl ?_
    show Steps p.tables e below (T1.setTop (mkF m 3 #[.val (.int px), .val (.ref b1), .unset, .unset] [])) _
    refine XS.iloadN X1.here hx rfl (hb hby at_3) rfl ?_
    show Steps p.tables e below (T1.setTop (mkF m 4 #[.val (.int px), .val (.ref b1), .unset, .unset] [(.int px)])) _
    refine XS.i2c X1.here hx rfl (hb hby at_4) rfl ?_
    show Steps p.tables e below (T1.setTop (mkF m 5 #[.val (.int px), .val (.ref b1), .unset, .unset] [(.int (px.toUInt32.toUInt16.toUInt32.toInt32))])) _
    refine XS.istoreN X1.here hx rfl (hb hby at_5) rfl (l' := #[.val (.int px), .val (.ref b1), .val (.int (px.toUInt32.toUInt16.toUInt32.toInt32)), .unset]) rfl ?_
    exact kk_)
  obtain ⟨cc0, hcc0, P6⟩ := own_name (F := fun z => T1.setTop (mkF m 6 #[.val (.int px), .val (.ref b1), .val (.int z), .unset] [])) (px.toUInt32.toUInt16.toUInt32.toInt32) P5
  have gc : own_C cc0 := by rw [hcc0]; exact own_i2c _
  have P7 := own_step (C := T1.setTop (mkF m 8 #[.val (.int px), .val (.ref b1), .val (.int cc0), .unset] [(.int cc0), (.ref b1)])) P6 (by
    intro tt_ kk_
    refine XS.aloadN X1.here hx rfl (hb hby at_6) rfl rfl ?_
    show Steps p.tables e below (T1.setTop (mkF m 7 #[.val (.int px), .val (.ref b1), .val (.int cc0), .unset] [(.ref b1)])) _
    refine XS.iloadN X1.here hx rfl (hb hby at_7) rfl ?_
    exact kk_)
  obtain ⟨_, _, ⟨T8, L8, k8, n8⟩, -, X8, ⟨Lc8, hQ8, l8, y8, z8⟩, st8⟩ := Jvm.LawKit.callS X1 hx (y := (⟨"com/example/verified_health_identity/verifiedhealthidentity/jose/Base64urlIsInAlphabetPinLaw", "guessIndex", "(I)I"⟩ : MethodName)) hown1 (mvT hZ1 (hw _ (List.mem_of_getElem? (i := 8) rfl))) (mvT hZ1 (hw _ (List.mem_of_getElem? (i := 9) rfl))) (mvT hZ1 (hw _ (List.mem_of_getElem? (i := 10) rfl))) (mvT hZ1 (hw _ (List.mem_of_getElem? (i := 11) rfl))) (by decide) (backOf (W := 1) (rm_own_gi l Z a0 hw [] cc0 h1 n0 Z3 ) hZ1 (hw _ (List.mem_of_getElem? (i := 11) rfl)) (hw _ (List.mem_of_getElem? (i := 10) rfl)) (by decide) (by decide)) (g := (mkF m 8 #[.val (.int px), .val (.ref b1), .val (.int cc0), .unset] [(.int cc0), (.ref b1)])) rfl (by rw [hml]; rfl) (argsL := [(.int cc0)]) (rest := [(.ref b1)]) (lenOf pd4 rfl) rfl (by show 2 * 0 + _ ≤ _; exact Nat.le_of_eq rfl) (hb hby at_8) (fun _ _ => ⟨rfl, e1, (by decide : 2 + 0 ≤ _), (by decide : 260 + 0 ≤ _)⟩)
  dsimp only [Pt.U, Pt.locs, Pt.cells, Pt.slots] at X8 l8 y8 z8 st8 hQ8
  subst l8 y8 z8
  obtain ⟨rfl, N8q, e8⟩ := hQ8
  have N8 := Fr.app N0 N8q
  have P9 := own_step (C := T8.setTop (mkF m 11 #[.val (.int px), .val (.ref b1), .val (.int cc0), .unset] [(.int (own_gi cc0)), (.ref b1)])) P7 (fun t_ k_ => st8 t_ k_)
  obtain ⟨cq10, kq10, q10a, q10b, q10c⟩ := isOf hZ1 e8 A1
  obtain ⟨_, _, ⟨T10, L10, k10, n10⟩, -, X10, ⟨Lc10, hQ10, l10, y10, z10⟩, st10⟩ := X8.virtualBack hx (y := (⟨"java/lang/String", "charAt", "(I)C"⟩ : MethodName)) (z := (⟨"java/lang/String", "charAt", "(I)C"⟩ : MethodName)) hown1 (mvT hZ1 (hw _ (List.mem_of_getElem? (i := 12) rfl))) (mvT hZ1 (hw _ (List.mem_of_getElem? (i := 13) rfl))) (notFace_of_selects (args := #[]) (mvT hZ1 (hw _ (List.mem_of_getElem? (i := 15) rfl)))) (mvT hZ1 (hw _ (List.mem_of_getElem? (i := 15) rfl))) (mvT hZ1 (hw _ (List.mem_of_getElem? (i := 14) rfl))) (by decide) (backOf (W := 0) (rm_charAt l Z a0 hw [] b1 bv1 kc1 (64 : Int32) own_tab (own_gi cc0) (own_tbv cc0) fm cs h1 n0 Z3 f2 Scs hcs A1 Fc1 Fv1 V1 Sfm hfm (own_hin cc0) (own_hu cc0)) hZ1 (hw _ (List.mem_of_getElem? (i := 16) rfl)) (hw _ (List.mem_of_getElem? (i := 1) rfl)) (by decide) (by decide)) q10a q10c (g := (mkF m 11 #[.val (.int px), .val (.ref b1), .val (.int cc0), .unset] [(.int (own_gi cc0)), (.ref b1)])) rfl (by rw [hml]; rfl) (Steps.refl _) (argsL := [(.int (own_gi cc0))]) (rest := []) (lenOf pd5 rfl) rfl (by show 2 * 0 + _ ≤ _; exact Nat.le_of_eq rfl) (hb hby at_11) (fun _ _ => ⟨rfl, e8, (by decide : 2 + 0 ≤ _), (by decide : 260 + 0 ≤ _)⟩)
  dsimp only [Pt.U, Pt.locs, Pt.cells, Pt.slots] at X10 l10 y10 z10 st10 hQ10
  subst l10 y10 z10
  obtain ⟨rfl, N10q, e10⟩ := hQ10
  have N10 := Fr.app N8 N10q
  have P11 := own_step (C := T10.setTop (mkF m 14 #[.val (.int px), .val (.ref b1), .val (.int cc0), .unset] [(.int (own_tbv cc0 &&& (255 : Int32)))])) P9 (fun t_ k_ => st10.trans k_)
  have P12 := own_step (C := T10.setTop (mkF m 15 #[.val (.int px), .val (.ref b1), .val (.int cc0), .unset] [(.int cc0), (.int (own_tbv cc0 &&& (255 : Int32)))])) P11 (by
    intro tt_ kk_
    refine XS.iloadN X10.here hx rfl (hb hby at_14) rfl ?_
    exact kk_)
  obtain ⟨ve, hv13, J13⟩ : ∃ (ve : Int32), (((own_tbv cc0 &&& (255 : Int32)) = cc0 ∧ ve = (1 : Int32)) ∨ (¬ ((own_tbv cc0 &&& (255 : Int32)) = cc0) ∧ ve = (0 : Int32))) ∧ own_Go p e below (T10.setTop (mkF m 15 #[.val (.int px), .val (.ref b1), .val (.int cc0), .unset] [(.int cc0), (.int (own_tbv cc0 &&& (255 : Int32)))])) (T10.setTop (mkF m 23 #[.val (.int px), .val (.ref b1), .val (.int cc0), .unset] [(.int ve)])) := by
    have P14 : own_Go p e below (T10.setTop (mkF m 15 #[.val (.int px), .val (.ref b1), .val (.int cc0), .unset] [(.int cc0), (.int (own_tbv cc0 &&& (255 : Int32)))])) (T10.setTop (mkF m 15 #[.val (.int px), .val (.ref b1), .val (.int cc0), .unset] [(.int cc0), (.int (own_tbv cc0 &&& (255 : Int32)))])) := fun t_ k_ => k_
    by_cases c15 : (own_tbv cc0 &&& (255 : Int32)) = cc0
    · have P16 := own_step (C := T10.setTop (mkF m 18 #[.val (.int px), .val (.ref b1), .val (.int cc0), .unset] [])) P14 (by
        intro tt_ kk_
        refine XS.icmpNo X10.here hx rfl (hb hby at_15) rfl (teq c15).2 ?_
        exact kk_)
      have P17 := own_step (C := T10.setTop (mkF m 23 #[.val (.int px), .val (.ref b1), .val (.int cc0), .unset] [(.int (1 : Int32))])) P16 (by
        intro tt_ kk_
        refine XS.iconst X10.here hx rfl (hb hby at_18) ?_
        show Steps p.tables e below (T10.setTop (mkF m 19 #[.val (.int px), .val (.ref b1), .val (.int cc0), .unset] [(.int (1 : Int32))])) _
        refine XS.goto X10.here hx rfl (pc0 := 19) (pc' := 23) rfl (hb hby at_19) (by decide) (by decide) ?_
        exact kk_)
      exact ⟨(1 : Int32), Or.inl ⟨c15, rfl⟩, P17⟩
    · have P18 := own_step (C := T10.setTop (mkF m 22 #[.val (.int px), .val (.ref b1), .val (.int cc0), .unset] [])) P14 (by
        intro tt_ kk_
        refine XS.icmpYes X10.here hx rfl (pc0 := 15) (pc' := 22) rfl (hb hby at_15) rfl (feq c15).2 (by decide) (by decide) ?_
        exact kk_)
      have P19 := own_step (C := T10.setTop (mkF m 23 #[.val (.int px), .val (.ref b1), .val (.int cc0), .unset] [(.int (0 : Int32))])) P18 (by
        intro tt_ kk_
        refine XS.iconst X10.here hx rfl (hb hby at_22) ?_
        exact kk_)
      exact ⟨(0 : Int32), Or.inr (⟨c15, rfl⟩), P19⟩
  have P20 := own_step P12 J13
  have P21 := own_step (C := T10.setTop (mkF m 25 #[.val (.int px), .val (.ref b1), .val (.int cc0), .val (.int ve)] [(.int cc0)])) P20 (by
    intro tt_ kk_
    refine XS.istoreN X10.here hx rfl (hb hby at_23) rfl (l' := #[.val (.int px), .val (.ref b1), .val (.int cc0), .val (.int ve)]) rfl ?_
    show Steps p.tables e below (T10.setTop (mkF m 24 #[.val (.int px), .val (.ref b1), .val (.int cc0), .val (.int ve)] [])) _
    refine XS.iloadN X10.here hx rfl (hb hby at_24) rfl ?_
    exact kk_)
  obtain ⟨_, _, ⟨T22, L22, k22, n22⟩, -, X22, ⟨Lc22, hQ22, l22, y22, z22⟩, st22⟩ := Jvm.LawKit.callS X10 hx (y := (⟨"com/example/verified_health_identity/verifiedhealthidentity/jose/Base64url", "isInAlphabet", "(C)Z"⟩ : MethodName)) hown1 (mvT hZ1 (hw _ (List.mem_of_getElem? (i := 37) rfl))) (mvT hZ1 (hw _ (List.mem_of_getElem? (i := 38) rfl))) (mvT hZ1 (hw _ (List.mem_of_getElem? (i := 39) rfl))) (mvT hZ1 (hw _ (List.mem_of_getElem? (i := 40) rfl))) (by decide) (backOf (W := 0) (rm_own_in l Z a0 hw [] cc0 h1 n0 Z3 ) hZ1 (hw _ (List.mem_of_getElem? (i := 40) rfl)) (hw _ (List.mem_of_getElem? (i := 39) rfl)) (by decide) (by decide)) (g := (mkF m 25 #[.val (.int px), .val (.ref b1), .val (.int cc0), .val (.int ve)] [(.int cc0)])) rfl (by rw [hml]; rfl) (argsL := [(.int cc0)]) (rest := []) (lenOf pd6 rfl) rfl (by show 2 * 0 + _ ≤ _; exact Nat.le_of_eq rfl) (hb hby at_25) (fun _ _ => ⟨rfl, e10, (by decide : 2 + 0 ≤ _), (by decide : 260 + 0 ≤ _)⟩)
  dsimp only [Pt.U, Pt.locs, Pt.cells, Pt.slots] at X22 l22 y22 z22 st22 hQ22
  subst l22 y22 z22
  obtain ⟨rfl, N22q, e22⟩ := hQ22
  have N22 := Fr.app N10 N22q
  have P23 := own_step (C := T22.setTop (mkF m 28 #[.val (.int px), .val (.ref b1), .val (.int cc0), .val (.int ve)] [(.int (own_in cc0))])) P21 (fun t_ k_ => st22 t_ k_)
  have P24 := own_step (C := T22.setTop (mkF m 29 #[.val (.int px), .val (.ref b1), .val (.int cc0), .val (.int ve)] [(.int ve), (.int (own_in cc0))])) P23 (by
    intro tt_ kk_
    refine XS.iloadN X22.here hx rfl (hb hby at_28) rfl ?_
    exact kk_)
  have P25 := own_step (C := T22.setTop (mkF m 32 #[.val (.int px), .val (.ref b1), .val (.int cc0), .val (.int ve)] [])) P24 (by
    intro tt_ kk_
    refine XS.icmpNo X22.here hx rfl (hb hby at_29) rfl (teq (own_fin gc hv13)).2 ?_
    exact kk_)
  have P26 := own_step (C := T22.setTop (mkF m 37 #[.val (.int px), .val (.ref b1), .val (.int cc0), .val (.int ve)] [(.int (1 : Int32))])) P25 (by
    intro tt_ kk_
    refine XS.iconst X22.here hx rfl (hb hby at_32) ?_
    show Steps p.tables e below (T22.setTop (mkF m 33 #[.val (.int px), .val (.ref b1), .val (.int cc0), .val (.int ve)] [(.int (1 : Int32))])) _
    refine XS.goto X22.here hx rfl (pc0 := 33) (pc' := 37) rfl (hb hby at_33) (by decide) (by decide) ?_
    exact kk_)
  obtain ⟨fs, hr, hrun, hended, hW⟩ := X22.leaveW S1 (by rw [e22]; exact kz1) (v := some (.int (1 : Int32))) (fun h => by rw [Bd.returns] at h; cases h)
  refine ⟨_, _, P26 _ ?_, hrun, hended, _, _, rfl, ?_, ⟨hW.1, hW.2.1, hW.2.2.1, hW.2.2.2.mono (by decide) (by decide)⟩⟩
  · exact retN X22 hx (t := .boolean) Bd.returns (by simp) (hb hby at_37) hr
  · show Q0 Z _ _ _ h0 n0 _ T22.heap _
    rw [e22]
    exact ⟨rfl, N22⟩
set_option maxRecDepth 65536 in
set_option maxHeartbeats 40000000 in
theorem comes_1 {Post : Tables → Env → Array Value → State → Outcome → State → Prop} (hpost : ∀ tb e args s v u, (limb_1_1.after args s (.returned v) u = true ∧ limb_1_2.after args s (.returned v) u = true ∧ True) → ReturnedEndW s (.returned v) u (Jvm.fieldLocs frame_1_writes args s ++ Jvm.arrayLocs frame_1_arrays args s ++ Jvm.staticLocs frame_1_statics s) 8 1088 → Post tb e args s (.returned v) u) :
    ArmFor flags0 classFile x code maxLocals ret World_1 tables_1 room_1 Calls_1 rest_1 Pre_1 Post := by
  intro l hfl _ _ p e ha hc hk s m args below hf hA hF happ hP
  obtain ⟨hcalls, hrest, hpre⟩ := hP
  obtain ⟨-, -, -, hnamed, -, -, -, hat⟩ := (Spec.applies_iff hf).mp happ
  obtain ⟨hg, hn⟩ := and_e (Cond.before_iff.mp (show (Jvm.Cond.and given_1 narrow_1).before args s = true from hpre))
  obtain ⟨hgc, hg0⟩ := and_e hg
  have ha0 := hg0
  obtain ⟨w0, rfl⟩ : ∃ w0 : Value, args = #[w0] := by
    have hs : args.size = 1 := by simpa [Cond.value, given_1] using hgc
    obtain ⟨L⟩ := args
    match L, hs with
    | [w0], _ => exact ⟨w0, rfl⟩
  have hw := fun d (hd : d ∈ tables_1) => atoms_spec (ws := Jvm.Cond.code x code maxLocals ret :: tables_1) hat d (List.mem_cons_of_mem _ hd)
  have hfit : Fit s := fun {y c} hc i hi => by
    obtain ⟨ha, rfl⟩ := Array.getElem?_eq_some_iff.mp hc
    have q := List.all_eq_true.mp ((Array.all_eq_true_iff_forall_mem.mp hF) _ (Array.getElem_mem ha)) i (List.mem_range.mpr hi)
    simpa [Array.getElem?_eq_getElem hi] using q
  obtain ⟨hsets, hown0⟩ := atoms_of _ (rest_1_c_eq ▸ (show rest_1_c.before _ s = true from hrest))
  obtain ⟨i0, ei0⟩ := is_v ha0
  obtain rfl : w0 = (.int i0) := Option.some.inj ei0
  have hheld : Jvm.Lit.constHeld s "com/example/verified_health_identity/verifiedhealthidentity/jose/Base64urlIsInAlphabetPinLaw" 7 := hcalls.1 _ (List.mem_of_getElem? (i := 0) rfl)
  have hcw : Jvm.Lit.compactW.before _ s = true := hsets _ (List.mem_of_getElem? (i := 2) rfl)
  obtain ⟨cs, ecs⟩ := is_v (Cond.before_iff.mp (hsets _ (List.mem_of_getElem? (i := 1) rfl)))
  have Scs := Sta.start ecs (Or.inl (hsets _ (List.mem_of_getElem? (i := 0) rfl)))
  have hcs : ¬ (cs = (0 : Int32)) := own_cs ecs hcw
  obtain ⟨fm, efm, rfm⟩ := isR_v (Cond.before_iff.mp (hsets _ (List.mem_of_getElem? (i := 8) rfl)))
  have Sfm := Sta.start efm (Or.inl (hsets _ (List.mem_of_getElem? (i := 7) rfl)))
  have hfm : fm.category = 1 := by rcases ref_cases rfm with rfl | ⟨_, rfl⟩ <;> rfl
  obtain ⟨n, o, h1, h2, h3, _, L, rfl, ⟨rfl, N⟩, hq⟩ := rm0 l s _ hw tables_1 i0 fm cs s.heap s.heap.size (Nat.le_refl _) (Old.start s) Scs hcs Sfm hfm hheld hcw p e ha hc hk s m _ below hf ((Spec.applies_iff_loose hf).mp happ).1 ⟨rfl, State.Warmed39.refl s, rfl, IB.start⟩ trivial
  exact ⟨n, _, h1, h2, h3, hpost _ _ _ _ _ _ ⟨Cond.after_iff.mpr rfl, Cond.after_iff.mpr (eq_i res_at (Term.int_eval (1)) rfl), trivial⟩ ⟨hq.1, hq.2.1, hq.2.2.1, (hq.2.2.2.sift fun y hy => Or.inr (N y hy)).mono (by decide) (by decide)⟩⟩
theorem main_1_1 : Claimed_1_1 := comes_1 fun _ _ _ _ _ _ h hF => ⟨h.1, hF⟩
theorem main_1_2 : Claimed_1_2 := comes_1 fun _ _ _ _ _ _ h hF => ⟨h.2.1, hF⟩
end Jvm.Pilot.@@N@@
namespace Jvm.Pilot.@@N@@
open Jvm Jvm.ClassFile Sem Op Lib Jvm.Free Jvm.Stand Jvm.Pilot.@@N@@.Jvm.D
/-! MADE BY PROGRAM (witnessworld.py) out of the Statement's table words and the real class files: 17 classes; the members and pool entries that the words name. The judged class is class 1, her method 2. -/
namespace start1
open Jvm.ClassFile
def u (s : String) : CpInfo := .utf8 (stringToUtf16 s)
/-- a pool by its gaps: so many unusable entries, then the entry; so many at the end -/
def gap : Nat → List CpInfo → List CpInfo
  | 0, r => r
  | n + 1, r => .unusable :: gap n r
def poolList (es : List (Nat × CpInfo)) (last : Nat) : List CpInfo := es.foldr (fun e r => gap e.1 (e.2 :: r)) (gap last [])
def pool (es : List (Nat × CpInfo)) (last : Nat) : Array CpInfo := ⟨poolList es last⟩
def fileOf (pool : Array CpInfo) (this : Nat) (attrs : Array Attribute := #[]) (ms : Array MethodInfo := #[]) (fl : Nat := 33) (sup : Nat := 0) (ifs : Array Nat := #[]) (fds : Array FieldInfo := #[]) : ClassFile where
  minorVersion := 0
  majorVersion := 65
  constantPool := pool
  accessFlags := fl
  thisClass := this
  superClass := sup
  interfaces := ifs
  fields := fds
  methods := ms
  attributes := attrs
def plain (name : String) (sup : Option ClassId) : Class where
  name := name
  kind := .ordinary
  loader := none
  accessFlags := 33
  super := sup
  interfaces := #[]
  cf := none
  fields := #[]
  methods := #[]
  instanceTypes := #[]
  staticTypes := #[]
  resolved := #[]
  callSites := []
  init := .initialized
  statics := none
  mirror := none

def pool0 : Array CpInfo := pool [(5, u "<init>"), (0, u "()V"), (1, .class_ 10), (1, u "java/lang/Object")] 113

def k0m0 : Method := { name := "<init>", desc := "()V", sig := { parameters := [], returnType := none }, accessFlags := 1, code := none }
/-- java/lang/Object -/
def k0 : Class := { plain "java/lang/Object" none with
  accessFlags := 33
  interfaces := #[]
  cf := some (fileOf pool0 8 #[] #[{ accessFlags := 1, nameIndex := 5, descriptorIndex := 6, attributes := #[] }] 33 0 #[] #[])
  fields := #[]
  methods := #[k0m0]
  instanceTypes := #[]
  staticTypes := #[]
  resolved := Array.replicate 124 none
  statics := none }

def pool1 : Array CpInfo := pool [(2, .class_ 4), (1, u "java/lang/Object"), (0, u "<init>"), (0, u "()V"), (0, .string 8), (0, u "ABCDEFGHIJKLMNOPQRSTUVWXYZabcdefghijklmnopqrstuvwxyz0123456789-_"), (0, .methodref 10 11), (0, .class_ 12), (0, .nameAndType 13 14), (0, u "com/example/verified_health_identity/verifiedhealthidentity/jose/Base64urlIsInAlphabetPinLaw"), (0, u "guessIndex"), (0, u "(I)I"), (0, .methodref 16 17), (0, .class_ 18), (0, .nameAndType 19 20), (0, u "java/lang/String"), (0, u "charAt"), (0, u "(I)C"), (0, .methodref 22 23), (0, .class_ 24), (0, .nameAndType 25 26), (0, u "com/example/verified_health_identity/verifiedhealthidentity/jose/Base64url"), (0, u "isInAlphabet"), (0, u "(C)Z"), (3, u "law"), (0, u "(I)Z")] 2

def k1m0 : Method := { name := "<init>", desc := "()V", sig := { parameters := [], returnType := none }, accessFlags := 2, code := none }
def k1c1 : Code := { maxStack := 2, maxLocals := 2, code := method_2_code, exceptionTable := #[], attributes := #[] }
def k1m1 : Method := { name := "guessIndex", desc := "(I)I", sig := { parameters := [.int], returnType := some .int }, accessFlags := 10, code := some k1c1 }
def k1c2 : Code := { maxStack := 2, maxLocals := 4, code := code, exceptionTable := #[], attributes := #[] }
def k1m2 : Method := { name := "law", desc := "(I)Z", sig := { parameters := [.int], returnType := some .boolean }, accessFlags := 9, code := some k1c2 }
/-- com/example/verified_health_identity/verifiedhealthidentity/jose/Base64urlIsInAlphabetPinLaw -/
def k1 : Class := { plain "com/example/verified_health_identity/verifiedhealthidentity/jose/Base64urlIsInAlphabetPinLaw" (some 0) with
  accessFlags := 49
  interfaces := #[]
  cf := some (fileOf pool1 10 #[] #[{ accessFlags := 2, nameIndex := 5, descriptorIndex := 6, attributes := #[] }, { accessFlags := 10, nameIndex := 13, descriptorIndex := 14, attributes := #[] }, { accessFlags := 9, nameIndex := 30, descriptorIndex := 31, attributes := #[] }] 49 2 #[] #[])
  fields := #[]
  methods := #[k1m0, k1m1, k1m2]
  instanceTypes := #[]
  staticTypes := #[]
  resolved := Array.replicate 34 none
  statics := none }

def pool2 : Array CpInfo := pool [(1, .class_ 2), (0, u "java/io/Serializable"), (0, .class_ 4), (0, u "java/lang/Object")] 2

/-- java/io/Serializable -/
def k2 : Class := { plain "java/io/Serializable" (some 0) with
  accessFlags := 1537
  interfaces := #[]
  cf := some (fileOf pool2 1 #[] #[] 1537 3 #[] #[])
  fields := #[]
  methods := #[]
  instanceTypes := #[]
  staticTypes := #[]
  resolved := Array.replicate 7 none
  statics := none }

def pool3 : Array CpInfo := pool [(1, .class_ 2), (0, u "java/lang/Comparable"), (0, .class_ 4), (0, u "java/lang/Object")] 7

/-- java/lang/Comparable -/
def k3 : Class := { plain "java/lang/Comparable" (some 0) with
  accessFlags := 1537
  interfaces := #[]
  cf := some (fileOf pool3 1 #[] #[] 1537 3 #[] #[])
  fields := #[]
  methods := #[]
  instanceTypes := #[]
  staticTypes := #[]
  resolved := Array.replicate 12 none
  statics := none }

def pool4 : Array CpInfo := pool [(2, .class_ 4), (1, u "java/lang/CharSequence"), (42, .class_ 48), (0, u "java/lang/CharSequence$1CodePointIterator"), (10, .class_ 60), (0, u "java/lang/CharSequence$1CharIterator"), (5, .class_ 67), (0, u "java/lang/Object")] 63

/-- java/lang/CharSequence -/
def k4 : Class := { plain "java/lang/CharSequence" (some 0) with
  accessFlags := 1537
  interfaces := #[]
  cf := some (fileOf pool4 2 #[.nestMembers #[47, 59]] #[] 1537 66 #[] #[])
  fields := #[]
  methods := #[]
  instanceTypes := #[]
  staticTypes := #[]
  resolved := Array.replicate 131 none
  statics := none }

def pool5 : Array CpInfo := pool [(1, .class_ 2), (0, u "java/lang/constant/Constable"), (0, .class_ 4), (0, u "java/lang/Object")] 6

/-- java/lang/constant/Constable -/
def k5 : Class := { plain "java/lang/constant/Constable" (some 0) with
  accessFlags := 1537
  interfaces := #[]
  cf := some (fileOf pool5 1 #[] #[] 1537 3 #[] #[])
  fields := #[]
  methods := #[]
  instanceTypes := #[]
  staticTypes := #[]
  resolved := Array.replicate 11 none
  statics := none }

def pool6 : Array CpInfo := pool [(1, .class_ 2), (0, u "java/lang/constant/ConstantDesc"), (0, .class_ 4), (0, u "java/lang/Object")] 32

/-- java/lang/constant/ConstantDesc -/
def k6 : Class := { plain "java/lang/constant/ConstantDesc" (some 0) with
  accessFlags := 1537
  interfaces := #[]
  cf := some (fileOf pool6 1 #[] #[] 1537 3 #[] #[])
  fields := #[]
  methods := #[]
  instanceTypes := #[]
  staticTypes := #[]
  resolved := Array.replicate 37 none
  statics := none }

def pool7 : Array CpInfo := pool [(2, .class_ 4), (1, u "java/lang/Object"), (0, u "<init>"), (0, u "()V"), (2, .fieldref 10 11), (0, .class_ 12), (0, .nameAndType 13 14), (0, u "java/lang/String"), (0, u "value"), (0, u "[B"), (0, .fieldref 10 16), (0, .nameAndType 17 18), (0, u "coder"), (0, u "B"), (2, u "hash"), (0, u "I"), (2, u "hashIsZero"), (0, u "Z"), (11, .fieldref 10 39), (0, .nameAndType 40 26), (0, u "COMPACT_STRINGS"), (66, .class_ 109), (1, u "java/lang/StringLatin1"), (32, u "()Z"), (220, u "([BI)C"), (27, u "(II)V"), (35, u "(I)C"), (64, .methodref 10 493), (0, .nameAndType 494 142), (0, u "isLatin1"), (0, .methodref 107 496), (0, .nameAndType 497 363), (0, u "charAt"), (3, u "checkIndex"), (73, .class_ 576), (0, u "java/lang/CharSequence"), (22, u "CASE_INSENSITIVE_ORDER"), (0, u "Ljava/util/Comparator;"), (452, .fieldref 1054 1055), (0, .class_ 1056), (0, .nameAndType 1057 1058), (0, u "jdk/internal/util/Preconditions"), (0, u "SIOOBE_FORMATTER"), (0, u "Ljava/util/function/BiFunction;"), (0, .methodref 1054 1060), (0, .nameAndType 501 1061), (0, u "(IILjava/util/function/BiFunction;)I"), (39, u "serialPersistentFields"), (0, u "[Ljava/io/ObjectStreamField;"), (0, .class_ 1104), (0, u "java/lang/String$CaseInsensitiveComparator"), (1, .class_ 1107), (0, u "java/io/Serializable"), (0, .class_ 1109), (0, u "java/lang/Comparable"), (0, .class_ 1111), (0, u "java/lang/constant/Constable"), (0, .class_ 1113), (0, u "java/lang/constant/ConstantDesc"), (2, u "serialVersionUID"), (0, u "J"), (3, u "REPL"), (0, u "C"), (2, u "LATIN1"), (1, u "UTF16")] 323

def k7m0 : Method := { name := "<init>", desc := "()V", sig := { parameters := [], returnType := none }, accessFlags := 1, code := none }
def k7c1 : Code := { maxStack := 2, maxLocals := 2, code := jdk_42_method_56_code, exceptionTable := #[], attributes := #[] }
def k7m1 : Method := { name := "charAt", desc := "(I)C", sig := { parameters := [.int], returnType := some .char }, accessFlags := 1, code := some k7c1 }
def k7c2 : Code := { maxStack := 1, maxLocals := 1, code := jdk_42_method_154_code, exceptionTable := #[], attributes := #[] }
def k7m2 : Method := { name := "isLatin1", desc := "()Z", sig := { parameters := [], returnType := some .boolean }, accessFlags := 0, code := some k7c2 }
def k7c3 : Code := { maxStack := 3, maxLocals := 2, code := jdk_42_method_155_code, exceptionTable := #[], attributes := #[] }
def k7m3 : Method := { name := "checkIndex", desc := "(II)V", sig := { parameters := [.int, .int], returnType := none }, accessFlags := 8, code := some k7c3 }
/-- java/lang/String -/
def k7 : Class := { plain "java/lang/String" (some 0) with
  accessFlags := 49
  interfaces := #[2, 3, 4, 5, 6]
  cf := some (fileOf pool7 10 #[.nestMembers #[1103]] #[{ accessFlags := 1, nameIndex := 5, descriptorIndex := 6, attributes := #[] }, { accessFlags := 1, nameIndex := 497, descriptorIndex := 427, attributes := #[] }, { accessFlags := 0, nameIndex := 494, descriptorIndex := 142, attributes := #[] }, { accessFlags := 8, nameIndex := 501, descriptorIndex := 391, attributes := #[] }] 49 2 #[1106, 1108, 575, 1110, 1112] #[{ accessFlags := 18, nameIndex := 13, descriptorIndex := 14, attributes := #[] }, { accessFlags := 18, nameIndex := 17, descriptorIndex := 18, attributes := #[] }, { accessFlags := 2, nameIndex := 21, descriptorIndex := 22, attributes := #[] }, { accessFlags := 2, nameIndex := 25, descriptorIndex := 26, attributes := #[] }, { accessFlags := 26, nameIndex := 1116, descriptorIndex := 1117, attributes := #[] }, { accessFlags := 24, nameIndex := 40, descriptorIndex := 26, attributes := #[] }, { accessFlags := 26, nameIndex := 1101, descriptorIndex := 1102, attributes := #[] }, { accessFlags := 26, nameIndex := 1121, descriptorIndex := 1122, attributes := #[] }, { accessFlags := 25, nameIndex := 599, descriptorIndex := 600, attributes := #[] }, { accessFlags := 24, nameIndex := 1125, descriptorIndex := 18, attributes := #[] }, { accessFlags := 24, nameIndex := 1127, descriptorIndex := 18, attributes := #[] }])
  fields := #[{ name := "value", type := (.array .byte), accessFlags := 18, slot := 0, constantValue := 0 }, { name := "coder", type := .byte, accessFlags := 18, slot := 1, constantValue := 0 }, { name := "hash", type := .int, accessFlags := 2, slot := 2, constantValue := 0 }, { name := "hashIsZero", type := .boolean, accessFlags := 2, slot := 3, constantValue := 0 }, { name := "serialVersionUID", type := .long, accessFlags := 26, slot := 0, constantValue := 0 }, { name := "COMPACT_STRINGS", type := .boolean, accessFlags := 24, slot := 1, constantValue := 0 }, { name := "serialPersistentFields", type := (.array (.object "java/io/ObjectStreamField")), accessFlags := 26, slot := 2, constantValue := 0 }, { name := "REPL", type := .char, accessFlags := 26, slot := 3, constantValue := 0 }, { name := "CASE_INSENSITIVE_ORDER", type := (.object "java/util/Comparator"), accessFlags := 25, slot := 4, constantValue := 0 }, { name := "LATIN1", type := .byte, accessFlags := 24, slot := 5, constantValue := 0 }, { name := "UTF16", type := .byte, accessFlags := 24, slot := 6, constantValue := 0 }]
  methods := #[k7m0, k7m1, k7m2, k7m3]
  instanceTypes := #[(.array .byte), .byte, .int, .boolean]
  staticTypes := #[.long, .boolean, (.array (.object "java/io/ObjectStreamField")), .char, (.object "java/util/Comparator"), .byte, .byte]
  resolved := Array.replicate 1451 none
  statics := some 0 }

def pool8 : Array CpInfo := pool [(1, .class_ 2), (0, u "java/lang/String"), (1, .class_ 6), (1, u "java/lang/Object"), (0, u "<init>"), (0, u "()V"), (0, .methodref 1 10), (0, .nameAndType 11 12), (0, u "checkIndex"), (0, u "(II)V"), (1, .class_ 16), (1, u "java/lang/StringLatin1"), (36, u "([BI)C"), (67, u "$assertionsDisabled"), (0, u "Z"), (98, .class_ 223), (1, u "java/lang/StringLatin1$LinesSpliterator"), (28, u "charAt"), (137, .class_ 391), (0, u "java/lang/StringLatin1$CharsSpliterator")] 3

def k8m0 : Method := { name := "<init>", desc := "()V", sig := { parameters := [], returnType := none }, accessFlags := 0, code := none }
def k8c1 : Code := { maxStack := 2, maxLocals := 2, code := jdk_43_method_2_code, exceptionTable := #[], attributes := #[] }
def k8m1 : Method := { name := "charAt", desc := "([BI)C", sig := { parameters := [(.array .byte), .int], returnType := some .char }, accessFlags := 9, code := some k8c1 }
/-- java/lang/StringLatin1 -/
def k8 : Class := { plain "java/lang/StringLatin1" (some 0) with
  accessFlags := 48
  interfaces := #[]
  cf := some (fileOf pool8 14 #[.nestMembers #[390, 221]] #[{ accessFlags := 0, nameIndex := 7, descriptorIndex := 8, attributes := #[] }, { accessFlags := 9, nameIndex := 252, descriptorIndex := 53, attributes := #[] }] 48 4 #[] #[{ accessFlags := 4120, nameIndex := 121, descriptorIndex := 122, attributes := #[] }])
  fields := #[{ name := "$assertionsDisabled", type := .boolean, accessFlags := 4120, slot := 0, constantValue := 0 }]
  methods := #[k8m0, k8m1]
  instanceTypes := #[]
  staticTypes := #[.boolean]
  resolved := Array.replicate 395 none
  statics := none }

def pool9 : Array CpInfo := pool [(2, .class_ 4), (1, u "java/lang/Object"), (0, u "<init>"), (0, u "()V"), (17, .class_ 26), (1, u "jdk/internal/util/Preconditions"), (6, u "checkIndex"), (21, .class_ 56), (0, u "jdk/internal/util/Preconditions$4"), (57, .class_ 115), (0, u "jdk/internal/util/Preconditions$1"), (7, u "SIOOBE_FORMATTER"), (0, u "Ljava/util/function/BiFunction;"), (0, .class_ 126), (0, u "jdk/internal/util/Preconditions$2"), (3, u "AIOOBE_FORMATTER"), (0, .class_ 132), (0, u "jdk/internal/util/Preconditions$3"), (3, u "IOOBE_FORMATTER"), (41, u "(IILjava/util/function/BiFunction;)I")] 15

def k9m0 : Method := { name := "<init>", desc := "()V", sig := { parameters := [], returnType := none }, accessFlags := 1, code := none }
def k9c1 : Code := { maxStack := 3, maxLocals := 3, code := jdk_41_method_11_code, exceptionTable := #[], attributes := #[] }
def k9m1 : Method := { name := "checkIndex", desc := "(IILjava/util/function/BiFunction;)I", sig := { parameters := [.int, .int, (.object "java/util/function/BiFunction")], returnType := some .int }, accessFlags := 9, code := some k9c1 }
/-- jdk/internal/util/Preconditions -/
def k9 : Class := { plain "jdk/internal/util/Preconditions" (some 0) with
  accessFlags := 33
  interfaces := #[]
  cf := some (fileOf pool9 24 #[.nestMembers #[55, 131, 125, 114]] #[{ accessFlags := 1, nameIndex := 5, descriptorIndex := 6, attributes := #[] }, { accessFlags := 9, nameIndex := 33, descriptorIndex := 178, attributes := #[] }] 33 2 #[] #[{ accessFlags := 25, nameIndex := 123, descriptorIndex := 124, attributes := #[] }, { accessFlags := 25, nameIndex := 130, descriptorIndex := 124, attributes := #[] }, { accessFlags := 25, nameIndex := 136, descriptorIndex := 124, attributes := #[] }])
  fields := #[{ name := "SIOOBE_FORMATTER", type := (.object "java/util/function/BiFunction"), accessFlags := 25, slot := 0, constantValue := 0 }, { name := "AIOOBE_FORMATTER", type := (.object "java/util/function/BiFunction"), accessFlags := 25, slot := 1, constantValue := 0 }, { name := "IOOBE_FORMATTER", type := (.object "java/util/function/BiFunction"), accessFlags := 25, slot := 2, constantValue := 0 }]
  methods := #[k9m0, k9m1]
  instanceTypes := #[]
  staticTypes := #[(.object "java/util/function/BiFunction"), (.object "java/util/function/BiFunction"), (.object "java/util/function/BiFunction")]
  resolved := Array.replicate 194 none
  statics := some 1 }

def pool10 : Array CpInfo := pool [(2, .class_ 4), (1, u "java/lang/Object"), (0, u "<init>"), (0, u "()V"), (1, .class_ 10), (1, u "com/example/verified_health_identity/verifiedhealthidentity/jose/Base64url"), (0, u "ENCODER"), (0, u "Ljava/util/Base64$Encoder;"), (8, u "DECODER"), (0, u "Ljava/util/Base64$Decoder;"), (49, u "NOT_BASE64URL"), (0, u "Ljava/lang/String;"), (8, u "isInAlphabet"), (0, u "(C)Z")] 20

def k10m0 : Method := { name := "<init>", desc := "()V", sig := { parameters := [], returnType := none }, accessFlags := 2, code := none }
def k10c1 : Code := { maxStack := 2, maxLocals := 1, code := prog_16_method_5_code, exceptionTable := #[], attributes := #[] }
def k10m1 : Method := { name := "isInAlphabet", desc := "(C)Z", sig := { parameters := [.char], returnType := some .boolean }, accessFlags := 8, code := some k10c1 }
/-- com/example/verified_health_identity/verifiedhealthidentity/jose/Base64url -/
def k10 : Class := { plain "com/example/verified_health_identity/verifiedhealthidentity/jose/Base64url" (some 0) with
  accessFlags := 49
  interfaces := #[]
  cf := some (fileOf pool10 8 #[] #[{ accessFlags := 2, nameIndex := 5, descriptorIndex := 6, attributes := #[] }, { accessFlags := 8, nameIndex := 82, descriptorIndex := 83, attributes := #[] }] 49 2 #[] #[{ accessFlags := 26, nameIndex := 11, descriptorIndex := 12, attributes := #[] }, { accessFlags := 26, nameIndex := 21, descriptorIndex := 22, attributes := #[] }, { accessFlags := 26, nameIndex := 72, descriptorIndex := 73, attributes := #[] }])
  fields := #[{ name := "ENCODER", type := (.object "java/util/Base64$Encoder"), accessFlags := 26, slot := 0, constantValue := 0 }, { name := "DECODER", type := (.object "java/util/Base64$Decoder"), accessFlags := 26, slot := 1, constantValue := 0 }, { name := "NOT_BASE64URL", type := (.object "java/lang/String"), accessFlags := 26, slot := 2, constantValue := 0 }]
  methods := #[k10m0, k10m1]
  instanceTypes := #[]
  staticTypes := #[(.object "java/util/Base64$Encoder"), (.object "java/util/Base64$Decoder"), (.object "java/lang/String")]
  resolved := Array.replicate 104 none
  statics := none }

def pool11 : Array CpInfo := pool [(9, u "<init>"), (6, .class_ 18), (1, u "java/lang/Object"), (0, u "()V"), (1, .class_ 23), (1, u "jdk/internal/util/ArraysSupport"), (0, u "LOG2_ARRAY_LONG_INDEX_SCALE"), (0, u "I"), (2, u "U"), (0, u "Ljdk/internal/misc/Unsafe;"), (8, u "BIG_ENDIAN"), (0, u "Z"), (8, u "LOG2_BYTE_BIT_SIZE"), (4, u "LOG2_ARRAY_INT_INDEX_SCALE"), (54, u "JLA"), (0, u "Ljdk/internal/access/JavaLangAccess;"), (11, u "LOG2_ARRAY_BOOLEAN_INDEX_SCALE"), (9, u "LOG2_ARRAY_BYTE_INDEX_SCALE"), (5, u "LOG2_ARRAY_CHAR_INDEX_SCALE"), (5, u "LOG2_ARRAY_SHORT_INDEX_SCALE"), (18, u "LOG2_ARRAY_FLOAT_INDEX_SCALE"), (24, u "LOG2_ARRAY_DOUBLE_INDEX_SCALE"), (89, u "T_BOOLEAN"), (2, u "T_CHAR"), (1, u "T_FLOAT"), (1, u "T_DOUBLE"), (1, u "T_BYTE"), (1, u "T_SHORT"), (1, u "T_INT"), (1, u "T_LONG"), (1, u "SOFT_MAX_ARRAY_LENGTH")] 83

def k11m0 : Method := { name := "<init>", desc := "()V", sig := { parameters := [], returnType := none }, accessFlags := 2, code := none }
/-- jdk/internal/util/ArraysSupport -/
def k11 : Class := { plain "jdk/internal/util/ArraysSupport" (some 0) with
  accessFlags := 33
  interfaces := #[]
  cf := some (fileOf pool11 21 #[] #[{ accessFlags := 2, nameIndex := 9, descriptorIndex := 19, attributes := #[] }] 33 16 #[] #[{ accessFlags := 24, nameIndex := 28, descriptorIndex := 29, attributes := #[] }, { accessFlags := 26, nameIndex := 38, descriptorIndex := 39, attributes := #[] }, { accessFlags := 25, nameIndex := 121, descriptorIndex := 25, attributes := #[] }, { accessFlags := 25, nameIndex := 131, descriptorIndex := 25, attributes := #[] }, { accessFlags := 25, nameIndex := 137, descriptorIndex := 25, attributes := #[] }, { accessFlags := 25, nameIndex := 143, descriptorIndex := 25, attributes := #[] }, { accessFlags := 25, nameIndex := 53, descriptorIndex := 25, attributes := #[] }, { accessFlags := 25, nameIndex := 24, descriptorIndex := 25, attributes := #[] }, { accessFlags := 25, nameIndex := 162, descriptorIndex := 25, attributes := #[] }, { accessFlags := 25, nameIndex := 187, descriptorIndex := 25, attributes := #[] }, { accessFlags := 26, nameIndex := 48, descriptorIndex := 25, attributes := #[] }, { accessFlags := 25, nameIndex := 277, descriptorIndex := 25, attributes := #[] }, { accessFlags := 25, nameIndex := 280, descriptorIndex := 25, attributes := #[] }, { accessFlags := 25, nameIndex := 282, descriptorIndex := 25, attributes := #[] }, { accessFlags := 25, nameIndex := 284, descriptorIndex := 25, attributes := #[] }, { accessFlags := 25, nameIndex := 286, descriptorIndex := 25, attributes := #[] }, { accessFlags := 25, nameIndex := 288, descriptorIndex := 25, attributes := #[] }, { accessFlags := 25, nameIndex := 290, descriptorIndex := 25, attributes := #[] }, { accessFlags := 25, nameIndex := 292, descriptorIndex := 25, attributes := #[] }, { accessFlags := 26, nameIndex := 108, descriptorIndex := 109, attributes := #[] }, { accessFlags := 25, nameIndex := 294, descriptorIndex := 25, attributes := #[] }])
  fields := #[{ name := "U", type := (.object "jdk/internal/misc/Unsafe"), accessFlags := 24, slot := 0, constantValue := 0 }, { name := "BIG_ENDIAN", type := .boolean, accessFlags := 26, slot := 1, constantValue := 0 }, { name := "LOG2_ARRAY_BOOLEAN_INDEX_SCALE", type := .int, accessFlags := 25, slot := 2, constantValue := 0 }, { name := "LOG2_ARRAY_BYTE_INDEX_SCALE", type := .int, accessFlags := 25, slot := 3, constantValue := 0 }, { name := "LOG2_ARRAY_CHAR_INDEX_SCALE", type := .int, accessFlags := 25, slot := 4, constantValue := 0 }, { name := "LOG2_ARRAY_SHORT_INDEX_SCALE", type := .int, accessFlags := 25, slot := 5, constantValue := 0 }, { name := "LOG2_ARRAY_INT_INDEX_SCALE", type := .int, accessFlags := 25, slot := 6, constantValue := 0 }, { name := "LOG2_ARRAY_LONG_INDEX_SCALE", type := .int, accessFlags := 25, slot := 7, constantValue := 0 }, { name := "LOG2_ARRAY_FLOAT_INDEX_SCALE", type := .int, accessFlags := 25, slot := 8, constantValue := 0 }, { name := "LOG2_ARRAY_DOUBLE_INDEX_SCALE", type := .int, accessFlags := 25, slot := 9, constantValue := 0 }, { name := "LOG2_BYTE_BIT_SIZE", type := .int, accessFlags := 26, slot := 10, constantValue := 0 }, { name := "T_BOOLEAN", type := .int, accessFlags := 25, slot := 11, constantValue := 0 }, { name := "T_CHAR", type := .int, accessFlags := 25, slot := 12, constantValue := 0 }, { name := "T_FLOAT", type := .int, accessFlags := 25, slot := 13, constantValue := 0 }, { name := "T_DOUBLE", type := .int, accessFlags := 25, slot := 14, constantValue := 0 }, { name := "T_BYTE", type := .int, accessFlags := 25, slot := 15, constantValue := 0 }, { name := "T_SHORT", type := .int, accessFlags := 25, slot := 16, constantValue := 0 }, { name := "T_INT", type := .int, accessFlags := 25, slot := 17, constantValue := 0 }, { name := "T_LONG", type := .int, accessFlags := 25, slot := 18, constantValue := 0 }, { name := "JLA", type := (.object "jdk/internal/access/JavaLangAccess"), accessFlags := 26, slot := 19, constantValue := 0 }, { name := "SOFT_MAX_ARRAY_LENGTH", type := .int, accessFlags := 25, slot := 20, constantValue := 0 }]
  methods := #[k11m0]
  instanceTypes := #[]
  staticTypes := #[(.object "jdk/internal/misc/Unsafe"), .boolean, .int, .int, .int, .int, .int, .int, .int, .int, .int, .int, .int, .int, .int, .int, .int, .int, .int, (.object "jdk/internal/access/JavaLangAccess"), .int]
  resolved := Array.replicate 378 none
  statics := none }

def pool12 : Array CpInfo := pool [(1, u "java/lang/Cloneable"), (0, .class_ 1), (0, u "java/lang/Object"), (0, .class_ 3)] 3

/-- java/lang/Cloneable -/
def k12 : Class := { plain "java/lang/Cloneable" (some 0) with
  accessFlags := 1537
  interfaces := #[]
  cf := some (fileOf pool12 2 #[] #[] 1537 4 #[] #[])
  fields := #[]
  methods := #[]
  instanceTypes := #[]
  staticTypes := #[]
  resolved := Array.replicate 8 none
  statics := none }

/-- the primitive byte -/
def k13 : Class := { plain "byte" none with kind := .primitive 'B', accessFlags := 0x411 }
/-- [B -/
def k14 : Class := { plain "[B" (some 0) with kind := .array 13 .byte, interfaces := #[12, 2], accessFlags := 1041 }

/-- the primitive int -/
def k15 : Class := { plain "int" none with kind := .primitive 'I', accessFlags := 0x411 }
/-- [I -/
def k16 : Class := { plain "[I" (some 0) with kind := .array 15 .int, interfaces := #[12, 2], accessFlags := 1041 }

def heap : Heap := #[{ cls := 7, slots := #[.long 0, .int 1, .null, .int 0, .null, .int 0, .int 0], vm := .statics 7 },
  { cls := 9, slots := #[.null, .null, .null], vm := .statics 9 }]
def classes : Array Class := #[k0, k1, k2, k3, k4, k5, k6, k7, k8, k9, k10, k11, k12, k13, k14, k15, k16]
def interned : List (Array UInt16 × Addr) := []
def slotsUsed : Nat := 10
def theMethod : MethodId := ⟨1, 2⟩
def args0 : Array Value := #[.int 65]
def aboutOver (below : List Frame) : State where
  vm := { classes := classes, interned := interned.toArray }
  heap := heap
  slotsUsed := slotsUsed
  threads := #[{ frames := .invoking theMethod args0 :: below }]
def below0 : List Frame := [.native { method := ⟨0, 0⟩, args := #[] }]
def about1 : State := aboutOver below0
def p0 : Program := .bare "" "" ""
def e0 : Env := launch0.env 0 0 0
theorem w_frames : about1.frames = Frame.invoking theMethod args0 :: below0 := rfl
set_option maxRecDepth 65536 in
theorem w_args : argsFit about1.vm theMethod args0 = true := by decide +kernel
set_option maxRecDepth 65536 in
theorem w_heap : heapFits about1 = true := by decide +kernel
set_option maxRecDepth 65536 in
theorem w_runnable : about1.curStatus? = some .runnable := by decide +kernel
set_option maxRecDepth 65536 in
theorem w_alone : about1.alone = true := by decide +kernel
set_option maxRecDepth 65536 in
theorem w_named : about1.methodNamed? x = some theMethod := by decide +kernel
set_option maxRecDepth 65536 in
theorem w_hears : about1.hears theMethod below0 = true := by decide +kernel
set_option maxRecDepth 65536 in
theorem w_ripe : about1.ripe theMethod args0 below0 = true := by decide +kernel
theorem w_running : about1.status = .running := rfl
set_option maxRecDepth 65536 in
theorem w_room : about1.hasRoom e0.platform room_1 = true :=
  launch0.hasRoom_least _ room_1 (by decide +kernel) (by decide +kernel) (by decide +kernel) (by decide +kernel) (by decide +kernel) (by decide +kernel)
theorem allAtoms_all (ts : List Jvm.Cond) (a : Array Jvm.Value) (st : Jvm.State) : (allAtoms ts).before a st = ts.all (fun c => c.before a st) := by
  induction ts with
  | nil => rfl
  | cons c t ih =>
    show (Jvm.Cond.and c (allAtoms t)).before a st = _
    rw [Jvm.Cond.before_and, ih, List.all_cons]
def words1 : List Jvm.Cond := Jvm.Cond.code x code maxLocals ret :: tables_1
/-- a 'code' word, met by the world's own term for the bytes: nothing is compared byte by byte -/
theorem code_word {y : MethodName} {bytes : ByteArray} {mx : Nat} {rt : Option FieldType} {a : Array Value} {s : State} {m : MethodId} {meth : Method} {c : Code} (h1 : s.methodNamed? y = some m) (h2 : s.vm.method? m = some meth) (h3 : meth.code = some c) (h4 : c.code = bytes)
    (h5 : (c.maxLocals == mx && c.exceptionTable.isEmpty && decide (c.maxStack ≤ mostOperands) && decide (meth.sig.returnType = rt) && !meth.locks && decide (parseMethodDescriptor y.desc = some meth.sig)) = true) : (Jvm.Cond.code y bytes mx rt).before a s = true := by
  simp only [Bool.and_eq_true, beq_iff_eq, Bool.not_eq_true', decide_eq_true_eq] at h5
  obtain ⟨⟨⟨⟨⟨g1, g2⟩, g3⟩, g4⟩, g5⟩, g6⟩ := h5
  simp [Cond.before, Cond.holds, Cond.value, h1, h2, h3, h4, g1, g2, g3, g4, g5, g6]
def isCode : Jvm.Cond → Bool
  | .code _ _ _ _ => true
  | _ => false
theorem all_split {L : List Jvm.Cond} {P : Jvm.Cond → Bool} (h1 : L.all (fun c => isCode c || P c) = true) (h2 : ∀ c ∈ L.filter isCode, P c = true) : L.all P = true := by
  refine List.all_eq_true.mpr fun c hc => ?_
  have h := List.all_eq_true.mp h1 c hc
  rcases Bool.eq_false_or_eq_true (isCode c) with hi | hi
  · exact h2 c (List.mem_filter.mpr ⟨hc, hi⟩)
  · simpa [hi] using h
set_option maxRecDepth 65536 in
theorem w_c0 : (Jvm.Cond.code x code maxLocals ret).before args0 about1 = true := code_word (m := ⟨1, 2⟩) (meth := k1m2) (c := k1c2) (by decide +kernel) rfl rfl rfl (by decide +kernel)
set_option maxRecDepth 65536 in
theorem w_c1 : (Jvm.Cond.code ({ cls := "com/example/verified_health_identity/verifiedhealthidentity/jose/Base64urlIsInAlphabetPinLaw", name := "guessIndex", desc := "(I)I" } : Jvm.MethodName) method_2_code (2 : Nat) (Option.some Jvm.ClassFile.FieldType.int)).before args0 about1 = true := code_word (m := ⟨1, 1⟩) (meth := k1m1) (c := k1c1) (by decide +kernel) rfl rfl rfl (by decide +kernel)
set_option maxRecDepth 65536 in
theorem w_c2 : (Jvm.Cond.code ({ cls := "java/lang/String", name := "charAt", desc := "(I)C" } : Jvm.MethodName) jdk_42_method_56_code (2 : Nat) (Option.some Jvm.ClassFile.FieldType.char)).before args0 about1 = true := code_word (m := ⟨7, 1⟩) (meth := k7m1) (c := k7c1) (by decide +kernel) rfl rfl rfl (by decide +kernel)
set_option maxRecDepth 65536 in
theorem w_c3 : (Jvm.Cond.code ({ cls := "java/lang/String", name := "isLatin1", desc := "()Z" } : Jvm.MethodName) jdk_42_method_154_code (1 : Nat) (Option.some Jvm.ClassFile.FieldType.boolean)).before args0 about1 = true := code_word (m := ⟨7, 2⟩) (meth := k7m2) (c := k7c2) (by decide +kernel) rfl rfl rfl (by decide +kernel)
set_option maxRecDepth 65536 in
theorem w_c4 : (Jvm.Cond.code ({ cls := "java/lang/StringLatin1", name := "charAt", desc := "([BI)C" } : Jvm.MethodName) jdk_43_method_2_code (2 : Nat) (Option.some Jvm.ClassFile.FieldType.char)).before args0 about1 = true := code_word (m := ⟨8, 1⟩) (meth := k8m1) (c := k8c1) (by decide +kernel) rfl rfl rfl (by decide +kernel)
set_option maxRecDepth 65536 in
theorem w_c5 : (Jvm.Cond.code ({ cls := "java/lang/String", name := "checkIndex", desc := "(II)V" } : Jvm.MethodName) jdk_42_method_155_code (2 : Nat) (Option.none : Option Jvm.ClassFile.FieldType)).before args0 about1 = true := code_word (m := ⟨7, 3⟩) (meth := k7m3) (c := k7c3) (by decide +kernel) rfl rfl rfl (by decide +kernel)
set_option maxRecDepth 65536 in
theorem w_c6 : (Jvm.Cond.code ({ cls := "jdk/internal/util/Preconditions", name := "checkIndex", desc := "(IILjava/util/function/BiFunction;)I" } : Jvm.MethodName) jdk_41_method_11_code (3 : Nat) (Option.some Jvm.ClassFile.FieldType.int)).before args0 about1 = true := code_word (m := ⟨9, 1⟩) (meth := k9m1) (c := k9c1) (by decide +kernel) rfl rfl rfl (by decide +kernel)
set_option maxRecDepth 65536 in
theorem w_c7 : (Jvm.Cond.code ({ cls := "com/example/verified_health_identity/verifiedhealthidentity/jose/Base64url", name := "isInAlphabet", desc := "(C)Z" } : Jvm.MethodName) prog_16_method_5_code (1 : Nat) (Option.some Jvm.ClassFile.FieldType.boolean)).before args0 about1 = true := code_word (m := ⟨10, 1⟩) (meth := k10m1) (c := k10c1) (by decide +kernel) rfl rfl rfl (by decide +kernel)
def codes1 : List Jvm.Cond := [Jvm.Cond.code x code maxLocals ret, Jvm.Cond.code ({ cls := "com/example/verified_health_identity/verifiedhealthidentity/jose/Base64urlIsInAlphabetPinLaw", name := "guessIndex", desc := "(I)I" } : Jvm.MethodName) method_2_code (2 : Nat) (Option.some Jvm.ClassFile.FieldType.int), Jvm.Cond.code ({ cls := "java/lang/String", name := "charAt", desc := "(I)C" } : Jvm.MethodName) jdk_42_method_56_code (2 : Nat) (Option.some Jvm.ClassFile.FieldType.char), Jvm.Cond.code ({ cls := "java/lang/String", name := "isLatin1", desc := "()Z" } : Jvm.MethodName) jdk_42_method_154_code (1 : Nat) (Option.some Jvm.ClassFile.FieldType.boolean), Jvm.Cond.code ({ cls := "java/lang/StringLatin1", name := "charAt", desc := "([BI)C" } : Jvm.MethodName) jdk_43_method_2_code (2 : Nat) (Option.some Jvm.ClassFile.FieldType.char), Jvm.Cond.code ({ cls := "java/lang/String", name := "checkIndex", desc := "(II)V" } : Jvm.MethodName) jdk_42_method_155_code (2 : Nat) (Option.none : Option Jvm.ClassFile.FieldType), Jvm.Cond.code ({ cls := "jdk/internal/util/Preconditions", name := "checkIndex", desc := "(IILjava/util/function/BiFunction;)I" } : Jvm.MethodName) jdk_41_method_11_code (3 : Nat) (Option.some Jvm.ClassFile.FieldType.int), Jvm.Cond.code ({ cls := "com/example/verified_health_identity/verifiedhealthidentity/jose/Base64url", name := "isInAlphabet", desc := "(C)Z" } : Jvm.MethodName) prog_16_method_5_code (1 : Nat) (Option.some Jvm.ClassFile.FieldType.boolean)]
set_option maxRecDepth 65536 in
theorem codes_eq : words1.filter isCode = codes1 := rfl
theorem w_codes : ∀ c ∈ words1.filter isCode, c.before args0 about1 = true := by
  rw [codes_eq]
  intro c hc
  simp only [codes1, List.mem_cons, List.not_mem_nil, or_false] at hc
  rcases hc with rfl | rfl | rfl | rfl | rfl | rfl | rfl | rfl
  · exact w_c0
  · exact w_c1
  · exact w_c2
  · exact w_c3
  · exact w_c4
  · exact w_c5
  · exact w_c6
  · exact w_c7
set_option maxRecDepth 65536 in
theorem w_t1 : (words1.take 24).all (fun c => isCode c || c.before args0 about1) = true := by decide +kernel
set_option maxRecDepth 65536 in
theorem w_t2 : (words1.drop 24).all (fun c => isCode c || c.before args0 about1) = true := by decide +kernel
theorem w_tables : (allAtoms (Jvm.Cond.code x code maxLocals ret :: tables_1)).before args0 about1 = true := by
  rw [allAtoms_all]
  show words1.all (fun c => c.before args0 about1) = true
  refine all_split ?_ w_codes
  rw [← List.take_append_drop 24 words1, List.all_append, w_t1, w_t2]
  rfl
set_option maxRecDepth 65536 in
theorem w_rest : rest_1_c.before args0 about1 = true := by decide +kernel
set_option maxRecDepth 65536 in
theorem w_case : (Jvm.Cond.and given_1 narrow_1).before args0 about1 = true := by decide +kernel
set_option maxRecDepth 65536 in
theorem w_consts : constsHeld consts_1 about1 := Jvm.Lit.constsHeldB_iff.mp (by decide +kernel)
theorem w_applies : (headSpec (Jvm.Cond.code x code maxLocals ret :: tables_1) room_1).applies x e0.platform about1 = true :=
  (Spec.applies_iff w_frames).mpr ⟨w_running, w_runnable, w_alone, w_named, w_hears, w_ripe, w_room, w_tables⟩
theorem atStart : AtStart classFile x code maxLocals ret World_1 tables_1 room_1 Calls_1 rest_1 Pre_1 launch0 p0 e0 about1 theMethod args0 below0 :=
  ⟨lists_1, trivial, launch0.admits_env _ _ _, launch0.least_env, fairChoices_fair.cas, fairChoices_fair.clock, w_frames, w_args, w_heap, w_applies, ⟨w_consts, trivial⟩, w_rest, w_case⟩
end start1
theorem witness_1 : WitnessClaimed_1 := ⟨start1.p0, start1.e0, start1.about1, start1.theMethod, start1.args0, start1.below0, start1.atStart⟩
end Jvm.Pilot.@@N@@
