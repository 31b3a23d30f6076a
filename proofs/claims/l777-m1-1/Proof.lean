import JvmDerived
import JvmDerived.Pilot.@@N@@Statement
import JvmDerived.Pilot.@@N@@Code
set_option linter.unusedVariables false
set_option linter.unusedSimpArgs false
namespace Jvm.RoadKit
open Sem ClassFile Op Lib Jvm.Stand Jvm.Free Jvm.LawKit
abbrev own_Go (p : Program) (e : Env) (below : List Frame) (A B : State) : Prop := ∀ t, Steps p.tables e below B t → Steps p.tables e below A t
theorem own_name {p : Program} {e : Env} {below : List Frame} {A : State} {α : Type} {F : α → State} (x : α) (P : own_Go p e below A (F x)) : ∃ z, z = x ∧ own_Go p e below A (F z) := ⟨x, rfl, P⟩
theorem own_step {p : Program} {e : Env} {below : List Frame} {A B C : State} (P : own_Go p e below A B) (q : own_Go p e below B C) : own_Go p e below A C := fun t_ k_ => P t_ (q t_ k_)
theorem own_IB {Z s U : State} {Ts : List String} (I : IB Z s.vm Ts) (w : s.WarmedH U.vm) : IB Z U.vm Ts := by
  obtain ⟨more, e, hm⟩ := I
  exact ⟨more, w.interned_eq.trans e, hm⟩
theorem own_backI {p : Program} {l : Launch} {e : Env} {R : Room} {s Z : State} {args a0 : Array Value} {below : List Frame} {h : Heap} {y : MethodName} {bytes : ByteArray} {maxL : Nat} {ret : Option FieldType} {rm : Room} {len W : Nat} {as' : Array Value} {Ts : List String} {Q : Option Value → Heap → List Loc → Prop}
    (hM : MetFree l y (head1 [Cond.code y bytes maxL ret] rm) (fun a U => a = as' ∧ Z.Warmed39 U.vm ∧ U.heap = h ∧ IB Z U.vm Ts) (fun _ _ _ _ _ => True) (fun _ U o U' => ∃ v L, o = .returned v ∧ Q v U'.heap L ∧ ReturnedEndW U o U' L rm.cells rm.slots))
    (hZ : Z.Warmed39 s.vm) (hI : IB Z s.vm Ts) (wc : (Cond.code y bytes maxL ret).before a0 Z = true) (wz : (Cond.initialized y.cls).before a0 Z = true) (hf : rm.frames + 1 ≤ R.frames) (hl : W + (maxL + 11) + rm.locals ≤ R.locals) :
    BackS l R p e below s args y len W (fun A a => a = as' ∧ A.U.heap = h ∧ A.cells + rm.cells ≤ R.cells ∧ A.slots + rm.slots ≤ R.slots) (fun A _ v B => ∃ L, Q v B.U.heap L ∧ B.locs = A.locs ++ L ∧ B.cells = A.cells + rm.cells ∧ B.slots = A.slots + rm.slots) := by
  refine BackS.of_freeW (bytes := bytes) (maxL := maxL) (ret := ret) (E := fun _ _ o t L k n => k = rm.cells ∧ n = rm.slots ∧ ∃ v, o = .returned v ∧ Q v t.heap L) hM hf hl ?_ ?_ (fun _ _ _ _ _ _ _ _ _ => trivial) ?_ ?_
  · intro m meth c A a Y hp
    have hU : Z.Warmed39 A.U.vm := wtrans hZ Y.warmed
    refine ⟨?_, mv hU wc, mv hU wz, hp.2.2.1, hp.2.2.2⟩
    show (Cond.and _ .tt).before a A.U = true
    rw [Cond.before_and, mv hU wc]; rfl
  · intro m meth c A a g mk Y hp
    exact ⟨hp.1, wtrans hZ Y.warmed, hp.2.1, own_IB hI Y.warmed⟩
  · rintro _ _ _ _ ⟨v, L, h1, h2, h3⟩
    exact ⟨L, _, _, h3, rfl, rfl, v, h1, h2⟩
  · intro m meth c A a g mk v t L k n Y hp _ _ q
    obtain ⟨e1, e2, v', e3, e4⟩ := q
    cases e3; subst e1 e2; exact ⟨L, e4, rfl, rfl, rfl⟩
section New
variable {p : Program} {l : Launch} {e : Env} {R : Room} {s : State} {m : MethodId} {args : Array Value} {below : List Frame} {meth : Method} {c : Code} {T : State} {locs : List Loc} {cells slots : Nat}
theorem retI (X : Stand p l e R s m args below meth c T locs cells slots) (hx : p.tables.exec = Jvm.exec) {pc : Nat} {Ls : Array Slot} {z : Int32} {rest : List Value} (hret : meth.sig.returnType = some .int) (hd : decode c.code pc = .ok (.ireturn, 1)) {fs : List Frame}
    (hl : ∀ (f : JFrame) (acts : List Action), f.method = m → f.locked = none → f.entered = [] → (doReturn e (T.setTop f) acts (some (.int z))).1 = T.setFrames fs) : Steps p.tables e below (T.setTop (mkF m pc Ls (.int z :: rest))) (T.setFrames fs) := by
  have hm' : T.vm.method? m = some meth := X.method'
  have hn : narrow .int (.int z) = .int z := rfl
  show Steps p.tables e below (T.setTop { method := m, pc := pc, locals := Ls, stack := _ :: rest, locked := none }) _
  jvm_step X.here [X.here.top, hx, hd, hm', hret, hn]
  first | (intro acts; rw [hl _ acts rfl rfl rfl]) | rw [hl _ _ rfl rfl rfl]
  exact Steps.refl _
end New
end Jvm.RoadKit
namespace Jvm.Pilot.@@N@@
open Jvm Jvm.ClassFile Sem Op Lib Jvm.Free Jvm.Stand Jvm.LawKit Jvm.RoadKit Bundle Jvm.Pilot.@@N@@.Jvm.D
theorem own_wS : ∀ d ∈ Bundle.stringAtoms, d ∈ tables_1 := by
  intro d hd
  simp only [Bundle.stringAtoms, Bundle.sN, List.mem_cons, List.not_mem_nil, or_false] at hd
  rcases hd with rfl | rfl | rfl | rfl | rfl | rfl | rfl
  all_goals (simp only [tables_1, List.mem_cons, List.not_mem_nil, or_false]; simp)

theorem own_shr0 (z : Int32) : z >>> ((0 : Int32) &&& 31) = z := by
  rw [← Int32.toInt_inj, c_ishr z 0 0 (by decide)]; simp
theorem own_nc (x : Int32) : nar .char ((x &&& (255 : Int32)).toUInt32.toUInt16.toUInt32.toInt32) = x &&& (255 : Int32) := by
  show (((x &&& (255 : Int32)).toUInt32.toUInt16.toUInt32.toInt32).toUInt32.toUInt16.toUInt32.toInt32) = _
  rw [i2c_mask, i2c_mask]
theorem own_nc1 (x : Int32) : nar .char (x &&& (255 : Int32)) = x &&& (255 : Int32) := i2c_mask x
def own_bit (B B' c : Int32) (acc : Int64) : Int64 := if c < B then acc else if c < B' then (acc ||| ((1 : Int64) <<< (c &&& 0x3f).toInt64)) else acc
theorem own_bitE {B B' c : Int32} {q acc : Int64} (h : (c < B ∧ q = acc) ∨ (¬ (c < B) ∧ c < B' ∧ q = (acc ||| ((1 : Int64) <<< (c &&& 0x3f).toInt64))) ∨ (¬ (c < B) ∧ ¬ (c < B') ∧ q = acc)) : q = own_bit B B' c acc := by
  unfold own_bit; rcases h with ⟨h1, rfl⟩ | ⟨h1, h2, rfl⟩ | ⟨h1, h2, rfl⟩
  · rw [if_pos h1]
  · rw [if_neg h1, if_pos h2]
  · rw [if_neg h1, if_neg h2]
theorem d9_0 : decode jdk_42_method_152_code 0 = .ok (.getstatic 38, 3) := by decide +kernel
theorem d9_3 : decode jdk_42_method_152_code 3 = .ok (.ifCond .eq 10, 3) := by decide +kernel
theorem d9_6 : decode jdk_42_method_152_code 6 = .ok (.aload_n 0, 1) := by decide +kernel
theorem d9_7 : decode jdk_42_method_152_code 7 = .ok (.getfield 15, 3) := by decide +kernel
theorem d9_10 : decode jdk_42_method_152_code 10 = .ok (.goto 4, 3) := by decide +kernel
theorem d9_14 : decode jdk_42_method_152_code 14 = .ok (.ireturn, 1) := by decide +kernel
theorem ef__coder0 (m : MethodId) (x0 : Addr) : entryFrame m #[(.ref x0)] 1 = mkF m 0 #[.val (.ref x0)] [] := by first | (simp [entryFrame, mkF, argsToLocals, Value.category]; done) | rfl
def Q_coder0 (Z : State) (a : Addr) (cs : Int32) (h0 : Heap) (n0 : Nat) (v_ : Option Value) (h : Heap) (L_ : List Loc) : Prop := v_ = some (.int (0 : Int32)) ∧ Fr n0 L_ ∧ h = h0
theorem pn0 : plainName "java/lang/String" = true := by first | (simp [plainName, overriddenIn]; done) | decide +kernel
set_option maxRecDepth 65536 in
set_option maxHeartbeats 40000000 in
theorem rm_coder0 (l : Launch) (Z : State) (a0 : Array Value) (hw : ∀ d ∈ tables_1, d.before a0 Z = true) (ws : List Jvm.Cond) (a : Addr) (cs : Int32) (h0 : Heap) (n0 : Nat) (Z0 : n0 ≤ h0.size) (O : Old Z n0 h0) (Scs : Sta Z Z.heap "java/lang/String" "COMPACT_STRINGS" "Z" (.int cs)) (hcs : ¬ (cs = (0 : Int32))) (Fc : Fld Z h0 a "java/lang/String" "coder" "B" (.int (0 : Int32))) :
    MetFree l (⟨"java/lang/String", "coder", "()B"⟩ : MethodName) (head1 (Jvm.Cond.code (⟨"java/lang/String", "coder", "()B"⟩ : MethodName) jdk_42_method_152_code 1 (some .byte) :: ws) ({ frames := 0, cells := 0, slots := 0, locals := 0 } : Room)) (fun a_ U_ => a_ = #[(.ref a)] ∧ Z.Warmed39 U_.vm ∧ U_.heap = h0) (fun _ _ _ _ _ => True) (fun _ U_ o_ V_ => ∃ v_ L_, o_ = .returned v_ ∧ Q_coder0 Z a cs h0 n0 v_ V_.heap L_ ∧ FrameEnd U_ o_ V_ L_ ({ frames := 0, cells := 0, slots := 0, locals := 0 } : Room).cells ({ frames := 0, cells := 0, slots := 0, locals := 0 } : Room).slots) := by
  refine MetFree.of_bodySF (plainFor_of_name pn0) hisR ?_
  intro p e s m args below meth c s₁ Bd hml0 hP hK
  obtain ⟨rfl, hZ, hh⟩ := hP
  have hx := Bd.exec
  have hby := Bd.bytes
  have hml : c.maxLocals = 1 := hml0
  have hown : s.vm.findClass "java/lang/String" = some m.cls := findClass_of_methodNamed Bd.named
  have hnm := (name_of_methodNamed Bd.named Bd.method).1
  have X0 : Stand p l e ({ frames := 0, cells := 0, slots := 0, locals := 0 } : Room) s m #[(.ref a)] below meth c s₁ [] 0 0 := Stand.of_body Bd
  have e0 : s₁.heap = h0 := by rw [← hh, Bd.state]; rfl
  have N0 := Fr.nil n0
  have pre0 : own_Go p e below (s₁.setTop (entryFrame m #[(.ref a)] 1)) (s₁.setTop (mkF m 0 #[.val (.ref a)] [])) := fun t_ k_ => castTop (ef__coder0 m a) k_
  obtain ⟨T1, X1, e1, st1⟩ := getS2 X0 hx hZ hown (host := "") (Or.inl (hw _ (List.mem_of_getElem? (i := 11) rfl))) Via.refl e0 (Scs.ext O.2) (g := (mkF m 0 #[.val (.ref a)] [])) rfl (hb hby d9_0)
  have P2 := own_step (C := T1.setTop (mkF m 3 #[.val (.ref a)] [(.int cs)])) pre0 (fun t_ k_ => st1 t_ k_)
  have P3 := own_step (C := T1.setTop (mkF m 6 #[.val (.ref a)] [])) P2 (by
    intro tt_ kk_
    refine XS.ifNo X1.here hx rfl (hb hby d9_3) rfl ((if0 _ _).trans (feq hcs).1) ?_
    exact kk_)
  have P4 := own_step (C := T1.setTop (mkF m 7 #[.val (.ref a)] [(.ref a)])) P3 (by
    intro tt_ kk_
    refine XS.aloadN X1.here hx rfl (hb hby d9_6) rfl rfl ?_
    exact kk_)
  obtain ⟨T5, X5, e5, st5⟩ := getF X1 hx hZ hown (host := "") (Or.inl (hw _ (List.mem_of_getElem? (i := 28) rfl))) Via.refl e1 Fc (g := (mkF m 7 #[.val (.ref a)] [(.ref a)])) rfl rfl (hb hby d9_7)
  have P6 := own_step (C := T5.setTop (mkF m 10 #[.val (.ref a)] [(.int (0 : Int32))])) P4 (fun t_ k_ => st5 t_ k_)
  have P7 := own_step (C := T5.setTop (mkF m 14 #[.val (.ref a)] [(.int (0 : Int32))])) P6 (by
    intro tt_ kk_
    refine XS.goto X5.here hx rfl (pc0 := 10) (pc' := 14) rfl (hb hby d9_10) (by decide) (by decide) ?_
    exact kk_)
  obtain ⟨fs, hr, hrun, hended, hW, hsame⟩ := X5.leave (v := some (.int (0 : Int32))) (fun h => by rw [Bd.returns] at h; cases h)
  refine ⟨_, _, P7 _ ?_, hrun, hended, _, _, rfl, ?_, ⟨_, rfl⟩, hW, hsame.mono (by decide) (by decide)⟩
  · exact retN X5 hx (t := .byte) Bd.returns (by simp) (hb hby d9_14) hr
  · show Q_coder0 Z _ _ h0 n0 _ T5.heap _
    rw [e5]
    exact ⟨rfl, N0, rfl⟩
theorem pd0 : parseMethodDescriptor "()B" = some ⟨[], some .byte⟩ := by decide +kernel
theorem d8_0 : decode jdk_42_method_54_code 0 = .ok (.aload_n 0, 1) := by decide +kernel
theorem d8_1 : decode jdk_42_method_54_code 1 = .ok (.getfield 9, 3) := by decide +kernel
theorem d8_4 : decode jdk_42_method_54_code 4 = .ok (.arraylength, 1) := by decide +kernel
theorem d8_5 : decode jdk_42_method_54_code 5 = .ok (.aload_n 0, 1) := by decide +kernel
theorem d8_6 : decode jdk_42_method_54_code 6 = .ok (.invokevirtual 335, 3) := by decide +kernel
theorem d8_9 : decode jdk_42_method_54_code 9 = .ok (.ishr, 1) := by decide +kernel
theorem d8_10 : decode jdk_42_method_54_code 10 = .ok (.ireturn, 1) := by decide +kernel
theorem ef__length (m : MethodId) (x0 : Addr) : entryFrame m #[(.ref x0)] 1 = mkF m 0 #[.val (.ref x0)] [] := by first | (simp [entryFrame, mkF, argsToLocals, Value.category]; done) | rfl
def Q_length (Z : State) (a : Addr) (b : Addr) (k : ClassId) (z : Int32) (vs : List Value) (cs : Int32) (h0 : Heap) (n0 : Nat) (v_ : Option Value) (h : Heap) (L_ : List Loc) : Prop := v_ = some (.int z) ∧ Fr n0 L_ ∧ h = h0
set_option maxRecDepth 65536 in
set_option maxHeartbeats 40000000 in
theorem rm_length (l : Launch) (Z : State) (a0 : Array Value) (hw : ∀ d ∈ tables_1, d.before a0 Z = true) (ws : List Jvm.Cond) (a : Addr) (b : Addr) (k : ClassId) (z : Int32) (vs : List Value) (cs : Int32) (h0 : Heap) (n0 : Nat) (Z0 : n0 ≤ h0.size) (O : Old Z n0 h0) (Scs : Sta Z Z.heap "java/lang/String" "COMPACT_STRINGS" "Z" (.int cs)) (hcs : ¬ (cs = (0 : Int32))) (Ea : Exa Z h0 a "java/lang/String") (Fc : Fld Z h0 a "java/lang/String" "coder" "B" (.int (0 : Int32))) (Fv : Fld Z h0 a "java/lang/String" "value" "[B" (.ref b)) (Vb : Arv Z h0 b k .byte z vs (.int 0)) :
    MetFree l (⟨"java/lang/String", "length", "()I"⟩ : MethodName) (head1 (Jvm.Cond.code (⟨"java/lang/String", "length", "()I"⟩ : MethodName) jdk_42_method_54_code 1 (some .int) :: ws) ({ frames := 1, cells := 0, slots := 0, locals := 13 } : Room)) (fun a_ U_ => a_ = #[(.ref a)] ∧ Z.Warmed39 U_.vm ∧ U_.heap = h0) (fun _ _ _ _ _ => True) (fun _ U_ o_ V_ => ∃ v_ L_, o_ = .returned v_ ∧ Q_length Z a b k z vs cs h0 n0 v_ V_.heap L_ ∧ FrameEnd U_ o_ V_ L_ ({ frames := 1, cells := 0, slots := 0, locals := 13 } : Room).cells ({ frames := 1, cells := 0, slots := 0, locals := 13 } : Room).slots) := by
  refine MetFree.of_bodySF (plainFor_of_name pn0) hisR ?_
  intro p e s m args below meth c s₁ Bd hml0 hP hK
  obtain ⟨rfl, hZ, hh⟩ := hP
  have hx := Bd.exec
  have hby := Bd.bytes
  have hml : c.maxLocals = 1 := hml0
  have hown : s.vm.findClass "java/lang/String" = some m.cls := findClass_of_methodNamed Bd.named
  have hnm := (name_of_methodNamed Bd.named Bd.method).1
  have X0 : Stand p l e ({ frames := 1, cells := 0, slots := 0, locals := 13 } : Room) s m #[(.ref a)] below meth c s₁ [] 0 0 := Stand.of_body Bd
  have e0 : s₁.heap = h0 := by rw [← hh, Bd.state]; rfl
  have N0 := Fr.nil n0
  have pre0 : own_Go p e below (s₁.setTop (entryFrame m #[(.ref a)] 1)) (s₁.setTop (mkF m 0 #[.val (.ref a)] [])) := fun t_ k_ => castTop (ef__length m a) k_
  have P1 := own_step (C := s₁.setTop (mkF m 1 #[.val (.ref a)] [(.ref a)])) pre0 (by
    intro tt_ kk_
    refine XS.aloadN X0.here hx rfl (hb hby d8_0) rfl rfl ?_
    exact kk_)
  obtain ⟨T2, X2, e2, st2⟩ := getF X0 hx hZ hown (host := "") (Or.inl (hw _ (List.mem_of_getElem? (i := 27) rfl))) Via.refl e0 Fv (g := (mkF m 1 #[.val (.ref a)] [(.ref a)])) rfl rfl (hb hby d8_1)
  have P3 := own_step (C := T2.setTop (mkF m 4 #[.val (.ref a)] [(.ref b)])) P1 (fun t_ k_ => st2 t_ k_)
  obtain ⟨cl4, Ar4, q4, S4, M4, H4, G4⟩ := id Vb
  have P5 := own_step (C := T2.setTop (mkF m 5 #[.val (.ref a)] [(.int z)])) P3 (by
    intro tt_ kk_
    refine X2.arraylength hx (by rw [e2]; exact Ar4.1) (State.isArrayOf_alike hZ.alike Ar4.2.1) (g := (mkF m 4 #[.val (.ref a)] [(.ref b)])) rfl rfl (hb hby d8_4) _ ?_
    rw [len_of S4 M4]
    exact kk_)
  have P6 := own_step (C := T2.setTop (mkF m 6 #[.val (.ref a)] [(.ref a), (.int z)])) P5 (by
    intro tt_ kk_
    refine XS.aloadN X2.here hx rfl (hb hby d8_5) rfl rfl ?_
    exact kk_)
  obtain ⟨cq7, kq7, q7a, q7b, q7c⟩ := isOf hZ e2 Ea
  obtain ⟨_, _, ⟨T7, L7, k7, n7⟩, -, X7, ⟨Lc7, hQ7, l7, y7, z7⟩, st7⟩ := X2.virtualBack hx (y := (⟨"java/lang/String", "coder", "()B"⟩ : MethodName)) (z := (⟨"java/lang/String", "coder", "()B"⟩ : MethodName)) hown (mvT hZ (hw _ (List.mem_of_getElem? (i := 43) rfl))) (mvT hZ (hw _ (List.mem_of_getElem? (i := 44) rfl))) (notFace_of_selects (args := #[]) (mvT hZ (hw _ (List.mem_of_getElem? (i := 46) rfl)))) (mvT hZ (hw _ (List.mem_of_getElem? (i := 46) rfl))) (mvT hZ (hw _ (List.mem_of_getElem? (i := 45) rfl))) (by decide) (backOf (W := 1) (rm_coder0 l Z a0 hw [] a cs h0 n0 Z0 O Scs hcs Fc) hZ (hw _ (List.mem_of_getElem? (i := 47) rfl)) (hw _ (List.mem_of_getElem? (i := 1) rfl)) (by decide) (by decide)) q7a q7c (g := (mkF m 6 #[.val (.ref a)] [(.ref a), (.int z)])) rfl (by rw [hml]; rfl) (Steps.refl _) (argsL := []) (rest := [(.int z)]) (lenOf pd0 rfl) rfl (by show 2 * 0 + _ ≤ _; exact Nat.le_of_eq rfl) (hb hby d8_6) (fun _ _ => ⟨rfl, e2, (by decide : 0 + 0 ≤ _), (by decide : 0 + 0 ≤ _)⟩)
  dsimp only [Pt.U, Pt.locs, Pt.cells, Pt.slots] at X7 l7 y7 z7 st7 hQ7
  subst l7 y7 z7
  obtain ⟨rfl, N7q, e7⟩ := hQ7
  have N7 := Fr.app N0 N7q
  have P8 := own_step (C := T7.setTop (mkF m 9 #[.val (.ref a)] [(.int (0 : Int32)), (.int z)])) P6 (fun t_ k_ => st7.trans k_)
  have P9 := own_step (C := T7.setTop (mkF m 10 #[.val (.ref a)] [(.int (z >>> ((0 : Int32) &&& 31)))])) P8 (by
    intro tt_ kk_
    refine XS.ishr X7.here hx rfl (hb hby d8_9) rfl ?_
    exact kk_)
  obtain ⟨fs, hr, hrun, hended, hW, hsame⟩ := X7.leave (v := some (.int (z >>> ((0 : Int32) &&& 31)))) (fun h => by rw [Bd.returns] at h; cases h)
  refine ⟨_, _, P9 _ ?_, hrun, hended, _, _, rfl, ?_, ⟨_, rfl⟩, hW, hsame.mono (by decide) (by decide)⟩
  · exact retI X7 hx Bd.returns (hb hby d8_10) hr
  · show Q_length Z _ _ _ _ _ _ h0 n0 _ T7.heap _
    rw [e7]
    exact ⟨by rw [own_shr0], N7, rfl⟩
theorem d18_0 : decode jdk_42_method_154_code 0 = .ok (.getstatic 38, 3) := by decide +kernel
theorem d18_3 : decode jdk_42_method_154_code 3 = .ok (.ifCond .eq 14, 3) := by decide +kernel
theorem d18_6 : decode jdk_42_method_154_code 6 = .ok (.aload_n 0, 1) := by decide +kernel
theorem d18_7 : decode jdk_42_method_154_code 7 = .ok (.getfield 15, 3) := by decide +kernel
theorem d18_10 : decode jdk_42_method_154_code 10 = .ok (.ifCond .ne 7, 3) := by decide +kernel
theorem d18_13 : decode jdk_42_method_154_code 13 = .ok (.iconst 1, 1) := by decide +kernel
theorem d18_14 : decode jdk_42_method_154_code 14 = .ok (.goto 4, 3) := by decide +kernel
theorem d18_18 : decode jdk_42_method_154_code 18 = .ok (.ireturn, 1) := by decide +kernel
theorem ef__lat0 (m : MethodId) (x0 : Addr) : entryFrame m #[(.ref x0)] 1 = mkF m 0 #[.val (.ref x0)] [] := by first | (simp [entryFrame, mkF, argsToLocals, Value.category]; done) | rfl
def Q_lat0 (Z : State) (a : Addr) (cs : Int32) (h0 : Heap) (n0 : Nat) (v_ : Option Value) (h : Heap) (L_ : List Loc) : Prop := v_ = some (.int (1 : Int32)) ∧ Fr n0 L_ ∧ h = h0
set_option maxRecDepth 65536 in
set_option maxHeartbeats 40000000 in
theorem rm_lat0 (l : Launch) (Z : State) (a0 : Array Value) (hw : ∀ d ∈ tables_1, d.before a0 Z = true) (ws : List Jvm.Cond) (a : Addr) (cs : Int32) (h0 : Heap) (n0 : Nat) (Z0 : n0 ≤ h0.size) (O : Old Z n0 h0) (Scs : Sta Z Z.heap "java/lang/String" "COMPACT_STRINGS" "Z" (.int cs)) (hcs : ¬ (cs = (0 : Int32))) (Fc : Fld Z h0 a "java/lang/String" "coder" "B" (.int (0 : Int32))) :
    MetFree l (⟨"java/lang/String", "isLatin1", "()Z"⟩ : MethodName) (head1 (Jvm.Cond.code (⟨"java/lang/String", "isLatin1", "()Z"⟩ : MethodName) jdk_42_method_154_code 1 (some .boolean) :: ws) ({ frames := 0, cells := 0, slots := 0, locals := 0 } : Room)) (fun a_ U_ => a_ = #[(.ref a)] ∧ Z.Warmed39 U_.vm ∧ U_.heap = h0) (fun _ _ _ _ _ => True) (fun _ U_ o_ V_ => ∃ v_ L_, o_ = .returned v_ ∧ Q_lat0 Z a cs h0 n0 v_ V_.heap L_ ∧ FrameEnd U_ o_ V_ L_ ({ frames := 0, cells := 0, slots := 0, locals := 0 } : Room).cells ({ frames := 0, cells := 0, slots := 0, locals := 0 } : Room).slots) := by
  refine MetFree.of_bodySF (plainFor_of_name pn0) hisR ?_
  intro p e s m args below meth c s₁ Bd hml0 hP hK
  obtain ⟨rfl, hZ, hh⟩ := hP
  have hx := Bd.exec
  have hby := Bd.bytes
  have hml : c.maxLocals = 1 := hml0
  have hown : s.vm.findClass "java/lang/String" = some m.cls := findClass_of_methodNamed Bd.named
  have hnm := (name_of_methodNamed Bd.named Bd.method).1
  have X0 : Stand p l e ({ frames := 0, cells := 0, slots := 0, locals := 0 } : Room) s m #[(.ref a)] below meth c s₁ [] 0 0 := Stand.of_body Bd
  have e0 : s₁.heap = h0 := by rw [← hh, Bd.state]; rfl
  have N0 := Fr.nil n0
  have pre0 : own_Go p e below (s₁.setTop (entryFrame m #[(.ref a)] 1)) (s₁.setTop (mkF m 0 #[.val (.ref a)] [])) := fun t_ k_ => castTop (ef__lat0 m a) k_
  obtain ⟨T1, X1, e1, st1⟩ := getS2 X0 hx hZ hown (host := "") (Or.inl (hw _ (List.mem_of_getElem? (i := 11) rfl))) Via.refl e0 (Scs.ext O.2) (g := (mkF m 0 #[.val (.ref a)] [])) rfl (hb hby d18_0)
  have P2 := own_step (C := T1.setTop (mkF m 3 #[.val (.ref a)] [(.int cs)])) pre0 (fun t_ k_ => st1 t_ k_)
  have P3 := own_step (C := T1.setTop (mkF m 6 #[.val (.ref a)] [])) P2 (by
    intro tt_ kk_
    refine XS.ifNo X1.here hx rfl (hb hby d18_3) rfl ((if0 _ _).trans (feq hcs).1) ?_
    exact kk_)
  have P4 := own_step (C := T1.setTop (mkF m 7 #[.val (.ref a)] [(.ref a)])) P3 (by
    intro tt_ kk_
    refine XS.aloadN X1.here hx rfl (hb hby d18_6) rfl rfl ?_
    exact kk_)
  obtain ⟨T5, X5, e5, st5⟩ := getF X1 hx hZ hown (host := "") (Or.inl (hw _ (List.mem_of_getElem? (i := 28) rfl))) Via.refl e1 Fc (g := (mkF m 7 #[.val (.ref a)] [(.ref a)])) rfl rfl (hb hby d18_7)
  have P6 := own_step (C := T5.setTop (mkF m 10 #[.val (.ref a)] [(.int (0 : Int32))])) P4 (fun t_ k_ => st5 t_ k_)
  have P7 := own_step (C := T5.setTop (mkF m 13 #[.val (.ref a)] [])) P6 (by
    intro tt_ kk_
    refine XS.ifNo X5.here hx rfl (hb hby d18_10) rfl ((if0 _ _).trans (teq (by decide : (0 : Int32) = (0 : Int32))).2) ?_
    exact kk_)
  have P8 := own_step (C := T5.setTop (mkF m 18 #[.val (.ref a)] [(.int (1 : Int32))])) P7 (by
    intro tt_ kk_
    refine XS.iconst X5.here hx rfl (hb hby d18_13) ?_
    show Steps p.tables e below (T5.setTop (mkF m 14 #[.val (.ref a)] [(.int (1 : Int32))])) _
    refine XS.goto X5.here hx rfl (pc0 := 14) (pc' := 18) rfl (hb hby d18_14) (by decide) (by decide) ?_
    exact kk_)
  obtain ⟨fs, hr, hrun, hended, hW, hsame⟩ := X5.leave (v := some (.int (1 : Int32))) (fun h => by rw [Bd.returns] at h; cases h)
  refine ⟨_, _, P8 _ ?_, hrun, hended, _, _, rfl, ?_, ⟨_, rfl⟩, hW, hsame.mono (by decide) (by decide)⟩
  · exact retN X5 hx (t := .boolean) Bd.returns (by simp) (hb hby d18_18) hr
  · show Q_lat0 Z _ _ h0 n0 _ T5.heap _
    rw [e5]
    exact ⟨rfl, N0, rfl⟩
theorem d21_0 : decode jdk_41_method_11_code 0 = .ok (.iload_n 0, 1) := by decide +kernel
theorem d21_1 : decode jdk_41_method_11_code 1 = .ok (.ifCond .lt 8, 3) := by decide +kernel
theorem d21_4 : decode jdk_41_method_11_code 4 = .ok (.iload_n 0, 1) := by decide +kernel
theorem d21_5 : decode jdk_41_method_11_code 5 = .ok (.iload_n 1, 1) := by decide +kernel
theorem d21_6 : decode jdk_41_method_11_code 6 = .ok (.if_icmp .lt 10, 3) := by decide +kernel
theorem d21_16 : decode jdk_41_method_11_code 16 = .ok (.iload_n 0, 1) := by decide +kernel
theorem d21_17 : decode jdk_41_method_11_code 17 = .ok (.ireturn, 1) := by decide +kernel
theorem ef__chk0 (m : MethodId) (x0 : Int32) (x1 : Int32) (x2 : Value) (hx2 : x2.category = 1) : entryFrame m #[(.int x0), (.int x1), x2] 3 = mkF m 0 #[.val (.int x0), .val (.int x1), .val x2] [] := by cases x2 <;> first | (exfalso; simp [Value.category] at hx2; done) | (first | (simp [entryFrame, mkF, argsToLocals, Value.category]; done) | rfl)
def Q_chk0 (Z : State) (j : Int32) (n : Int32) (fm : Value) (h0 : Heap) (n0 : Nat) (v_ : Option Value) (h : Heap) (L_ : List Loc) : Prop := v_ = some (.int j) ∧ Fr n0 L_ ∧ h = h0
theorem pn1 : plainName "jdk/internal/util/Preconditions" = true := by first | (simp [plainName, overriddenIn]; done) | decide +kernel
set_option maxRecDepth 65536 in
set_option maxHeartbeats 40000000 in
theorem rm_chk0 (l : Launch) (Z : State) (a0 : Array Value) (hw : ∀ d ∈ tables_1, d.before a0 Z = true) (ws : List Jvm.Cond) (j : Int32) (n : Int32) (fm : Value) (h0 : Heap) (n0 : Nat) (Z0 : n0 ≤ h0.size) (hfm : fm.category = 1) (hj0 : ¬ (j < (0 : Int32))) (hjn : j < n) :
    MetFree l (⟨"jdk/internal/util/Preconditions", "checkIndex", "(IILjava/util/function/BiFunction;)I"⟩ : MethodName) (head1 (Jvm.Cond.code (⟨"jdk/internal/util/Preconditions", "checkIndex", "(IILjava/util/function/BiFunction;)I"⟩ : MethodName) jdk_41_method_11_code 3 (some .int) :: ws) ({ frames := 0, cells := 0, slots := 0, locals := 0 } : Room)) (fun a_ U_ => a_ = #[(.int j), (.int n), fm] ∧ Z.Warmed39 U_.vm ∧ U_.heap = h0) (fun _ _ _ _ _ => True) (fun _ U_ o_ V_ => ∃ v_ L_, o_ = .returned v_ ∧ Q_chk0 Z j n fm h0 n0 v_ V_.heap L_ ∧ FrameEnd U_ o_ V_ L_ ({ frames := 0, cells := 0, slots := 0, locals := 0 } : Room).cells ({ frames := 0, cells := 0, slots := 0, locals := 0 } : Room).slots) := by
  refine MetFree.of_bodySF (plainFor_of_name pn1) hisR ?_
  intro p e s m args below meth c s₁ Bd hml0 hP hK
  obtain ⟨rfl, hZ, hh⟩ := hP
  have hx := Bd.exec
  have hby := Bd.bytes
  have hml : c.maxLocals = 3 := hml0
  have hown : s.vm.findClass "jdk/internal/util/Preconditions" = some m.cls := findClass_of_methodNamed Bd.named
  have hnm := (name_of_methodNamed Bd.named Bd.method).1
  have X0 : Stand p l e ({ frames := 0, cells := 0, slots := 0, locals := 0 } : Room) s m #[(.int j), (.int n), fm] below meth c s₁ [] 0 0 := Stand.of_body Bd
  have e0 : s₁.heap = h0 := by rw [← hh, Bd.state]; rfl
  have N0 := Fr.nil n0
  have pre0 : own_Go p e below (s₁.setTop (entryFrame m #[(.int j), (.int n), fm] 3)) (s₁.setTop (mkF m 0 #[.val (.int j), .val (.int n), .val fm] [])) := fun t_ k_ => castTop (ef__chk0 m j n fm hfm) k_
  have P1 := own_step (C := s₁.setTop (mkF m 1 #[.val (.int j), .val (.int n), .val fm] [(.int j)])) pre0 (by
    intro tt_ kk_
    refine XS.iloadN X0.here hx rfl (hb hby d21_0) rfl ?_
    exact kk_)
  have P2 := own_step (C := s₁.setTop (mkF m 4 #[.val (.int j), .val (.int n), .val fm] [])) P1 (by
    intro tt_ kk_
    refine XS.ifNo X0.here hx rfl (hb hby d21_1) rfl ((if0 _ _).trans (flt hj0).1) ?_
    exact kk_)
  have P3 := own_step (C := s₁.setTop (mkF m 6 #[.val (.int j), .val (.int n), .val fm] [(.int n), (.int j)])) P2 (by
    intro tt_ kk_
    refine XS.iloadN X0.here hx rfl (hb hby d21_4) rfl ?_
    show Steps p.tables e below (s₁.setTop (mkF m 5 #[.val (.int j), .val (.int n), .val fm] [(.int j)])) _
    refine XS.iloadN X0.here hx rfl (hb hby d21_5) rfl ?_
    exact kk_)
  have P4 := own_step (C := s₁.setTop (mkF m 16 #[.val (.int j), .val (.int n), .val fm] [])) P3 (by
    intro tt_ kk_
    refine XS.icmpYes X0.here hx rfl (pc0 := 6) (pc' := 16) rfl (hb hby d21_6) rfl (tlt hjn).1 (by decide) (by decide) ?_
    exact kk_)
  have P5 := own_step (C := s₁.setTop (mkF m 17 #[.val (.int j), .val (.int n), .val fm] [(.int j)])) P4 (by
    intro tt_ kk_
    refine XS.iloadN X0.here hx rfl (hb hby d21_16) rfl ?_
    exact kk_)
  obtain ⟨fs, hr, hrun, hended, hW, hsame⟩ := X0.leave (v := some (.int j)) (fun h => by rw [Bd.returns] at h; cases h)
  refine ⟨_, _, P5 _ ?_, hrun, hended, _, _, rfl, ?_, ⟨_, rfl⟩, hW, hsame.mono (by decide) (by decide)⟩
  · exact retI X0 hx Bd.returns (hb hby d21_17) hr
  · show Q_chk0 Z _ _ _ h0 n0 _ s₁.heap _
    rw [e0]
    exact ⟨rfl, N0, rfl⟩
theorem pd1 : parseMethodDescriptor "(IILjava/util/function/BiFunction;)I" = some ⟨[.int, .int, (.object "java/util/function/BiFunction")], some .int⟩ := by decide +kernel
theorem d20_0 : decode jdk_42_method_155_code 0 = .ok (.iload_n 0, 1) := by decide +kernel
theorem d20_1 : decode jdk_42_method_155_code 1 = .ok (.iload_n 1, 1) := by decide +kernel
theorem d20_2 : decode jdk_42_method_155_code 2 = .ok (.getstatic 1053, 3) := by decide +kernel
theorem d20_5 : decode jdk_42_method_155_code 5 = .ok (.invokestatic 1059, 3) := by decide +kernel
theorem d20_8 : decode jdk_42_method_155_code 8 = .ok (.pop, 1) := by decide +kernel
theorem d20_9 : decode jdk_42_method_155_code 9 = .ok (.return_, 1) := by decide +kernel
theorem ef__chk (m : MethodId) (x0 : Int32) (x1 : Int32) : entryFrame m #[(.int x0), (.int x1)] 2 = mkF m 0 #[.val (.int x0), .val (.int x1)] [] := by first | (simp [entryFrame, mkF, argsToLocals, Value.category]; done) | rfl
def Q_chk (Z : State) (j : Int32) (n : Int32) (fm : Value) (h0 : Heap) (n0 : Nat) (v_ : Option Value) (h : Heap) (L_ : List Loc) : Prop := v_ = none ∧ Fr n0 L_ ∧ h = h0
set_option maxRecDepth 65536 in
set_option maxHeartbeats 40000000 in
theorem rm_chk (l : Launch) (Z : State) (a0 : Array Value) (hw : ∀ d ∈ tables_1, d.before a0 Z = true) (ws : List Jvm.Cond) (j : Int32) (n : Int32) (fm : Value) (h0 : Heap) (n0 : Nat) (Z0 : n0 ≤ h0.size) (O : Old Z n0 h0) (Sfm : Sta Z Z.heap "jdk/internal/util/Preconditions" "SIOOBE_FORMATTER" "Ljava/util/function/BiFunction;" fm) (hfm : fm.category = 1) (hj0 : ¬ (j < (0 : Int32))) (hjn : j < n) :
    MetFree l (⟨"java/lang/String", "checkIndex", "(II)V"⟩ : MethodName) (head1 (Jvm.Cond.code (⟨"java/lang/String", "checkIndex", "(II)V"⟩ : MethodName) jdk_42_method_155_code 2 none :: ws) ({ frames := 1, cells := 0, slots := 0, locals := 14 } : Room)) (fun a_ U_ => a_ = #[(.int j), (.int n)] ∧ Z.Warmed39 U_.vm ∧ U_.heap = h0) (fun _ _ _ _ _ => True) (fun _ U_ o_ V_ => ∃ v_ L_, o_ = .returned v_ ∧ Q_chk Z j n fm h0 n0 v_ V_.heap L_ ∧ FrameEnd U_ o_ V_ L_ ({ frames := 1, cells := 0, slots := 0, locals := 14 } : Room).cells ({ frames := 1, cells := 0, slots := 0, locals := 14 } : Room).slots) := by
  refine MetFree.of_bodySF (plainFor_of_name pn0) hisR ?_
  intro p e s m args below meth c s₁ Bd hml0 hP hK
  obtain ⟨rfl, hZ, hh⟩ := hP
  have hx := Bd.exec
  have hby := Bd.bytes
  have hml : c.maxLocals = 2 := hml0
  have hown : s.vm.findClass "java/lang/String" = some m.cls := findClass_of_methodNamed Bd.named
  have hnm := (name_of_methodNamed Bd.named Bd.method).1
  have X0 : Stand p l e ({ frames := 1, cells := 0, slots := 0, locals := 14 } : Room) s m #[(.int j), (.int n)] below meth c s₁ [] 0 0 := Stand.of_body Bd
  have e0 : s₁.heap = h0 := by rw [← hh, Bd.state]; rfl
  have N0 := Fr.nil n0
  have pre0 : own_Go p e below (s₁.setTop (entryFrame m #[(.int j), (.int n)] 2)) (s₁.setTop (mkF m 0 #[.val (.int j), .val (.int n)] [])) := fun t_ k_ => castTop (ef__chk m j n) k_
  have P1 := own_step (C := s₁.setTop (mkF m 2 #[.val (.int j), .val (.int n)] [(.int n), (.int j)])) pre0 (by
    intro tt_ kk_
    refine XS.iloadN X0.here hx rfl (hb hby d20_0) rfl ?_
    show Steps p.tables e below (s₁.setTop (mkF m 1 #[.val (.int j), .val (.int n)] [(.int j)])) _
    refine XS.iloadN X0.here hx rfl (hb hby d20_1) rfl ?_
    exact kk_)
  obtain ⟨T2, X2, e2, st2⟩ := getS2 X0 hx hZ hown (host := "") (Or.inl (hw _ (List.mem_of_getElem? (i := 101) rfl))) Via.refl e0 (Sfm.ext O.2) (g := (mkF m 2 #[.val (.int j), .val (.int n)] [(.int n), (.int j)])) rfl (hb hby d20_2)
  have P3 := own_step (C := T2.setTop (mkF m 5 #[.val (.int j), .val (.int n)] [fm, (.int n), (.int j)])) P1 (fun t_ k_ => st2 t_ k_)
  obtain ⟨_, _, ⟨T4, L4, k4, n4⟩, -, X4, ⟨Lc4, hQ4, l4, y4, z4⟩, st4⟩ := Jvm.LawKit.callS X2 hx (y := (⟨"jdk/internal/util/Preconditions", "checkIndex", "(IILjava/util/function/BiFunction;)I"⟩ : MethodName)) hown (mvT hZ (hw _ (List.mem_of_getElem? (i := 103) rfl))) (mvT hZ (hw _ (List.mem_of_getElem? (i := 104) rfl))) (mvT hZ (hw _ (List.mem_of_getElem? (i := 102) rfl))) (mvT hZ (hw _ (List.mem_of_getElem? (i := 105) rfl))) (by decide) (backOf (W := 0) (rm_chk0 l Z a0 hw [] j n fm h0 n0 Z0 hfm hj0 hjn) hZ (hw _ (List.mem_of_getElem? (i := 105) rfl)) (hw _ (List.mem_of_getElem? (i := 102) rfl)) (by decide) (by decide)) (g := (mkF m 5 #[.val (.int j), .val (.int n)] [fm, (.int n), (.int j)])) rfl (by rw [hml]; rfl) (argsL := [(.int j), (.int n), fm]) (rest := []) (lenOf pd1 rfl) rfl (by show 2 * 0 + _ ≤ _; exact Nat.le_of_eq rfl) (hb hby d20_5) (fun _ _ => ⟨rfl, e2, (by decide : 0 + 0 ≤ _), (by decide : 0 + 0 ≤ _)⟩)
  dsimp only [Pt.U, Pt.locs, Pt.cells, Pt.slots] at X4 l4 y4 z4 st4 hQ4
  subst l4 y4 z4
  obtain ⟨rfl, N4q, e4⟩ := hQ4
  have N4 := Fr.app N0 N4q
  have P5 := own_step (C := T4.setTop (mkF m 8 #[.val (.int j), .val (.int n)] [(.int j)])) P3 (fun t_ k_ => st4 t_ k_)
  have P6 := own_step (C := T4.setTop (mkF m 9 #[.val (.int j), .val (.int n)] [])) P5 (by
    intro tt_ kk_
    refine XS.pop X4.here hx rfl (hb hby d20_8) rfl rfl ?_
    exact kk_)
  obtain ⟨fs, hr, hrun, hended, hW, hsame⟩ := X4.leave (v := none) (fun _ => rfl)
  refine ⟨_, _, P6 _ ?_, hrun, hended, _, _, rfl, ?_, ⟨_, rfl⟩, hW, hsame.mono (by decide) (by decide)⟩
  · exact X4.returnOut hx Bd.returns (hb hby d20_9) hr
  · show Q_chk Z _ _ _ h0 n0 _ T4.heap _
    rw [e4]
    exact ⟨rfl, N4, rfl⟩
theorem pd2 : parseMethodDescriptor "(II)V" = some ⟨[.int, .int], none⟩ := by decide +kernel
theorem d19_0 : decode jdk_43_method_2_code 0 = .ok (.iload_n 1, 1) := by decide +kernel
theorem d19_1 : decode jdk_43_method_2_code 1 = .ok (.aload_n 0, 1) := by decide +kernel
theorem d19_2 : decode jdk_43_method_2_code 2 = .ok (.arraylength, 1) := by decide +kernel
theorem d19_3 : decode jdk_43_method_2_code 3 = .ok (.invokestatic 9, 3) := by decide +kernel
theorem d19_6 : decode jdk_43_method_2_code 6 = .ok (.aload_n 0, 1) := by decide +kernel
theorem d19_7 : decode jdk_43_method_2_code 7 = .ok (.iload_n 1, 1) := by decide +kernel
theorem d19_8 : decode jdk_43_method_2_code 8 = .ok (.baload, 1) := by decide +kernel
theorem d19_9 : decode jdk_43_method_2_code 9 = .ok (.sipush 255, 3) := by decide +kernel
theorem d19_12 : decode jdk_43_method_2_code 12 = .ok (.iand, 1) := by decide +kernel
theorem d19_13 : decode jdk_43_method_2_code 13 = .ok (.i2c, 1) := by decide +kernel
theorem d19_14 : decode jdk_43_method_2_code 14 = .ok (.ireturn, 1) := by decide +kernel
theorem ef__chL (m : MethodId) (x0 : Addr) (x1 : Int32) : entryFrame m #[(.ref x0), (.int x1)] 2 = mkF m 0 #[.val (.ref x0), .val (.int x1)] [] := by first | (simp [entryFrame, mkF, argsToLocals, Value.category]; done) | rfl
def Q_chL (Z : State) (b : Addr) (k : ClassId) (z : Int32) (vs : List Value) (j : Int32) (x : Int32) (fm : Value) (h0 : Heap) (n0 : Nat) (v_ : Option Value) (h : Heap) (L_ : List Loc) : Prop := v_ = some (.int (x &&& (255 : Int32))) ∧ Fr n0 L_ ∧ h = h0
theorem pn2 : plainName "java/lang/StringLatin1" = true := by first | (simp [plainName, overriddenIn]; done) | decide +kernel
set_option maxRecDepth 65536 in
set_option maxHeartbeats 40000000 in
theorem rm_chL (l : Launch) (Z : State) (a0 : Array Value) (hw : ∀ d ∈ tables_1, d.before a0 Z = true) (ws : List Jvm.Cond) (b : Addr) (k : ClassId) (z : Int32) (vs : List Value) (j : Int32) (x : Int32) (fm : Value) (h0 : Heap) (n0 : Nat) (Z0 : n0 ≤ h0.size) (O : Old Z n0 h0) (Vb : Arv Z h0 b k .byte z vs (.int 0)) (Sfm : Sta Z Z.heap "jdk/internal/util/Preconditions" "SIOOBE_FORMATTER" "Ljava/util/function/BiFunction;" fm) (hfm : fm.category = 1) (hin : ¬ (j < (0 : Int32)) ∧ j < z) (hu : vs.getD j.toNatClampNeg (.int 0) = .int x) :
    MetFree l (⟨"java/lang/StringLatin1", "charAt", "([BI)C"⟩ : MethodName) (head1 (Jvm.Cond.code (⟨"java/lang/StringLatin1", "charAt", "([BI)C"⟩ : MethodName) jdk_43_method_2_code 2 (some .char) :: ws) ({ frames := 2, cells := 0, slots := 0, locals := 27 } : Room)) (fun a_ U_ => a_ = #[(.ref b), (.int j)] ∧ Z.Warmed39 U_.vm ∧ U_.heap = h0) (fun _ _ _ _ _ => True) (fun _ U_ o_ V_ => ∃ v_ L_, o_ = .returned v_ ∧ Q_chL Z b k z vs j x fm h0 n0 v_ V_.heap L_ ∧ FrameEnd U_ o_ V_ L_ ({ frames := 2, cells := 0, slots := 0, locals := 27 } : Room).cells ({ frames := 2, cells := 0, slots := 0, locals := 27 } : Room).slots) := by
  refine MetFree.of_bodySF (plainFor_of_name pn2) hisR ?_
  intro p e s m args below meth c s₁ Bd hml0 hP hK
  obtain ⟨rfl, hZ, hh⟩ := hP
  have hx := Bd.exec
  have hby := Bd.bytes
  have hml : c.maxLocals = 2 := hml0
  have hown : s.vm.findClass "java/lang/StringLatin1" = some m.cls := findClass_of_methodNamed Bd.named
  have hnm := (name_of_methodNamed Bd.named Bd.method).1
  have X0 : Stand p l e ({ frames := 2, cells := 0, slots := 0, locals := 27 } : Room) s m #[(.ref b), (.int j)] below meth c s₁ [] 0 0 := Stand.of_body Bd
  have e0 : s₁.heap = h0 := by rw [← hh, Bd.state]; rfl
  have N0 := Fr.nil n0
  have pre0 : own_Go p e below (s₁.setTop (entryFrame m #[(.ref b), (.int j)] 2)) (s₁.setTop (mkF m 0 #[.val (.ref b), .val (.int j)] [])) := fun t_ k_ => castTop (ef__chL m b j) k_
  have P1 := own_step (C := s₁.setTop (mkF m 2 #[.val (.ref b), .val (.int j)] [(.ref b), (.int j)])) pre0 (by
    intro tt_ kk_
    refine XS.iloadN X0.here hx rfl (hb hby d19_0) rfl ?_
    show Steps p.tables e below (s₁.setTop (mkF m 1 #[.val (.ref b), .val (.int j)] [(.int j)])) _
    refine XS.aloadN X0.here hx rfl (hb hby d19_1) rfl rfl ?_
    exact kk_)
  obtain ⟨cl2, Ar2, q2, S2, M2, H2, G2⟩ := id Vb
  have P3 := own_step (C := s₁.setTop (mkF m 3 #[.val (.ref b), .val (.int j)] [(.int z), (.int j)])) P1 (by
    intro tt_ kk_
    refine X0.arraylength hx (by rw [e0]; exact Ar2.1) (State.isArrayOf_alike hZ.alike Ar2.2.1) (g := (mkF m 2 #[.val (.ref b), .val (.int j)] [(.ref b), (.int j)])) rfl rfl (hb hby d19_2) _ ?_
    rw [len_of S2 M2]
    exact kk_)
  obtain ⟨_, _, ⟨T4, L4, k4, n4⟩, -, X4, ⟨Lc4, hQ4, l4, y4, z4⟩, st4⟩ := Jvm.LawKit.callS X0 hx (y := (⟨"java/lang/String", "checkIndex", "(II)V"⟩ : MethodName)) hown (mvT hZ (hw _ (List.mem_of_getElem? (i := 98) rfl))) (mvT hZ (hw _ (List.mem_of_getElem? (i := 99) rfl))) (mvT hZ (hw _ (List.mem_of_getElem? (i := 1) rfl))) (mvT hZ (hw _ (List.mem_of_getElem? (i := 100) rfl))) (by decide) (backOf (W := 0) (rm_chk l Z a0 hw [] j z fm h0 n0 Z0 O Sfm hfm hin.1 hin.2) hZ (hw _ (List.mem_of_getElem? (i := 100) rfl)) (hw _ (List.mem_of_getElem? (i := 1) rfl)) (by decide) (by decide)) (g := (mkF m 3 #[.val (.ref b), .val (.int j)] [(.int z), (.int j)])) rfl (by rw [hml]; rfl) (argsL := [(.int j), (.int z)]) (rest := []) (lenOf pd2 rfl) rfl (by show 2 * 0 + _ ≤ _; exact Nat.le_of_eq rfl) (hb hby d19_3) (fun _ _ => ⟨rfl, e0, (by decide : 0 + 0 ≤ _), (by decide : 0 + 0 ≤ _)⟩)
  dsimp only [Pt.U, Pt.locs, Pt.cells, Pt.slots] at X4 l4 y4 z4 st4 hQ4
  subst l4 y4 z4
  obtain ⟨rfl, N4q, e4⟩ := hQ4
  have N4 := Fr.app N0 N4q
  have P5 := own_step (C := T4.setTop (mkF m 6 #[.val (.ref b), .val (.int j)] [])) P3 (fun t_ k_ => st4 t_ k_)
  have P6 := own_step (C := T4.setTop (mkF m 8 #[.val (.ref b), .val (.int j)] [(.int j), (.ref b)])) P5 (by
    intro tt_ kk_
    refine XS.aloadN X4.here hx rfl (hb hby d19_6) rfl rfl ?_
    show Steps p.tables e below (T4.setTop (mkF m 7 #[.val (.ref b), .val (.int j)] [(.ref b)])) _
    refine XS.iloadN X4.here hx rfl (hb hby d19_7) rfl ?_
    exact kk_)
  obtain ⟨cl7, Ar7, q7, S7, M7, H7, G7⟩ := id Vb
  have hin7 := inb_of S7 hin
  have hat7 := Has.at H7 hin7 hu
  have P8 := own_step (C := T4.setTop (mkF m 9 #[.val (.ref b), .val (.int j)] [(.int x)])) P6 (by
    intro tt_ kk_
    refine X4.baloadBytes hx (j := j) (v := (.int x)) (by rw [e4]; exact Ar7.1) (State.isArrayOf_alike hZ.alike Ar7.2.1) Ar7.2.2 hin7 hat7 (g := (mkF m 8 #[.val (.ref b), .val (.int j)] [(.int j), (.ref b)])) rfl rfl (hb hby d19_8) _ ?_
    exact kk_)
  have P9 := own_step (C := T4.setTop (mkF m 14 #[.val (.ref b), .val (.int j)] [(.int ((x &&& (255 : Int32)).toUInt32.toUInt16.toUInt32.toInt32))])) P8 (by
    intro tt_ kk_
    refine XS.sipush X4.here hx rfl (hb hby d19_9) ?_
    show Steps p.tables e below (T4.setTop (mkF m 12 #[.val (.ref b), .val (.int j)] [(.int (255 : Int32)), (.int x)])) _
    refine XS.iand X4.here hx rfl (hb hby d19_12) rfl ?_
    show Steps p.tables e below (T4.setTop (mkF m 13 #[.val (.ref b), .val (.int j)] [(.int (x &&& (255 : Int32)))])) _
    refine XS.i2c X4.here hx rfl (hb hby d19_13) rfl ?_
    exact kk_)
  obtain ⟨fs, hr, hrun, hended, hW, hsame⟩ := X4.leave (v := some (.int (nar .char ((x &&& (255 : Int32)).toUInt32.toUInt16.toUInt32.toInt32)))) (fun h => by rw [Bd.returns] at h; cases h)
  refine ⟨_, _, P9 _ ?_, hrun, hended, _, _, rfl, ?_, ⟨_, rfl⟩, hW, hsame.mono (by decide) (by decide)⟩
  · exact retN X4 hx (t := .char) Bd.returns (by simp) (hb hby d19_14) hr
  · show Q_chL Z _ _ _ _ _ _ _ h0 n0 _ T4.heap _
    rw [e4]
    exact ⟨by rw [own_nc], N4, rfl⟩
theorem pd3 : parseMethodDescriptor "()Z" = some ⟨[], some .boolean⟩ := by decide +kernel
theorem pd4 : parseMethodDescriptor "([BI)C" = some ⟨[(.array .byte), .int], some .char⟩ := by decide +kernel
theorem d17_0 : decode jdk_42_method_56_code 0 = .ok (.aload_n 0, 1) := by decide +kernel
theorem d17_1 : decode jdk_42_method_56_code 1 = .ok (.invokevirtual 492, 3) := by decide +kernel
theorem d17_4 : decode jdk_42_method_56_code 4 = .ok (.ifCond .eq 12, 3) := by decide +kernel
theorem d17_7 : decode jdk_42_method_56_code 7 = .ok (.aload_n 0, 1) := by decide +kernel
theorem d17_8 : decode jdk_42_method_56_code 8 = .ok (.getfield 9, 3) := by decide +kernel
theorem d17_11 : decode jdk_42_method_56_code 11 = .ok (.iload_n 1, 1) := by decide +kernel
theorem d17_12 : decode jdk_42_method_56_code 12 = .ok (.invokestatic 495, 3) := by decide +kernel
theorem d17_15 : decode jdk_42_method_56_code 15 = .ok (.ireturn, 1) := by decide +kernel
theorem ef__charAt (m : MethodId) (x0 : Addr) (x1 : Int32) : entryFrame m #[(.ref x0), (.int x1)] 2 = mkF m 0 #[.val (.ref x0), .val (.int x1)] [] := by first | (simp [entryFrame, mkF, argsToLocals, Value.category]; done) | rfl
def Q_charAt (Z : State) (a : Addr) (b : Addr) (k : ClassId) (z : Int32) (vs : List Value) (j : Int32) (x : Int32) (fm : Value) (cs : Int32) (h0 : Heap) (n0 : Nat) (v_ : Option Value) (h : Heap) (L_ : List Loc) : Prop := v_ = some (.int (x &&& (255 : Int32))) ∧ Fr n0 L_ ∧ h = h0
set_option maxRecDepth 65536 in
set_option maxHeartbeats 40000000 in
theorem rm_charAt (l : Launch) (Z : State) (a0 : Array Value) (hw : ∀ d ∈ tables_1, d.before a0 Z = true) (ws : List Jvm.Cond) (a : Addr) (b : Addr) (k : ClassId) (z : Int32) (vs : List Value) (j : Int32) (x : Int32) (fm : Value) (cs : Int32) (h0 : Heap) (n0 : Nat) (Z0 : n0 ≤ h0.size) (O : Old Z n0 h0) (Scs : Sta Z Z.heap "java/lang/String" "COMPACT_STRINGS" "Z" (.int cs)) (hcs : ¬ (cs = (0 : Int32))) (Ea : Exa Z h0 a "java/lang/String") (Fc : Fld Z h0 a "java/lang/String" "coder" "B" (.int (0 : Int32))) (Fv : Fld Z h0 a "java/lang/String" "value" "[B" (.ref b)) (Vb : Arv Z h0 b k .byte z vs (.int 0)) (Sfm : Sta Z Z.heap "jdk/internal/util/Preconditions" "SIOOBE_FORMATTER" "Ljava/util/function/BiFunction;" fm) (hfm : fm.category = 1) (hin : ¬ (j < (0 : Int32)) ∧ j < z) (hu : vs.getD j.toNatClampNeg (.int 0) = .int x) :
    MetFree l (⟨"java/lang/String", "charAt", "(I)C"⟩ : MethodName) (head1 (Jvm.Cond.code (⟨"java/lang/String", "charAt", "(I)C"⟩ : MethodName) jdk_42_method_56_code 2 (some .char) :: ws) ({ frames := 3, cells := 0, slots := 0, locals := 40 } : Room)) (fun a_ U_ => a_ = #[(.ref a), (.int j)] ∧ Z.Warmed39 U_.vm ∧ U_.heap = h0) (fun _ _ _ _ _ => True) (fun _ U_ o_ V_ => ∃ v_ L_, o_ = .returned v_ ∧ Q_charAt Z a b k z vs j x fm cs h0 n0 v_ V_.heap L_ ∧ FrameEnd U_ o_ V_ L_ ({ frames := 3, cells := 0, slots := 0, locals := 40 } : Room).cells ({ frames := 3, cells := 0, slots := 0, locals := 40 } : Room).slots) := by
  refine MetFree.of_bodySF (plainFor_of_name pn0) hisR ?_
  intro p e s m args below meth c s₁ Bd hml0 hP hK
  obtain ⟨rfl, hZ, hh⟩ := hP
  have hx := Bd.exec
  have hby := Bd.bytes
  have hml : c.maxLocals = 2 := hml0
  have hown : s.vm.findClass "java/lang/String" = some m.cls := findClass_of_methodNamed Bd.named
  have hnm := (name_of_methodNamed Bd.named Bd.method).1
  have X0 : Stand p l e ({ frames := 3, cells := 0, slots := 0, locals := 40 } : Room) s m #[(.ref a), (.int j)] below meth c s₁ [] 0 0 := Stand.of_body Bd
  have e0 : s₁.heap = h0 := by rw [← hh, Bd.state]; rfl
  have N0 := Fr.nil n0
  have pre0 : own_Go p e below (s₁.setTop (entryFrame m #[(.ref a), (.int j)] 2)) (s₁.setTop (mkF m 0 #[.val (.ref a), .val (.int j)] [])) := fun t_ k_ => castTop (ef__charAt m a j) k_
  have P1 := own_step (C := s₁.setTop (mkF m 1 #[.val (.ref a), .val (.int j)] [(.ref a)])) pre0 (by
    intro tt_ kk_
    refine XS.aloadN X0.here hx rfl (hb hby d17_0) rfl rfl ?_
    exact kk_)
  obtain ⟨cq2, kq2, q2a, q2b, q2c⟩ := isOf hZ e0 Ea
  obtain ⟨_, _, ⟨T2, L2, k2, n2⟩, -, X2, ⟨Lc2, hQ2, l2, y2, z2⟩, st2⟩ := X0.virtualBack hx (y := (⟨"java/lang/String", "isLatin1", "()Z"⟩ : MethodName)) (z := (⟨"java/lang/String", "isLatin1", "()Z"⟩ : MethodName)) hown (mvT hZ (hw _ (List.mem_of_getElem? (i := 90) rfl))) (mvT hZ (hw _ (List.mem_of_getElem? (i := 91) rfl))) (notFace_of_selects (args := #[]) (mvT hZ (hw _ (List.mem_of_getElem? (i := 93) rfl)))) (mvT hZ (hw _ (List.mem_of_getElem? (i := 93) rfl))) (mvT hZ (hw _ (List.mem_of_getElem? (i := 92) rfl))) (by decide) (backOf (W := 0) (rm_lat0 l Z a0 hw [] a cs h0 n0 Z0 O Scs hcs Fc) hZ (hw _ (List.mem_of_getElem? (i := 94) rfl)) (hw _ (List.mem_of_getElem? (i := 1) rfl)) (by decide) (by decide)) q2a q2c (g := (mkF m 1 #[.val (.ref a), .val (.int j)] [(.ref a)])) rfl (by rw [hml]; rfl) (Steps.refl _) (argsL := []) (rest := []) (lenOf pd3 rfl) rfl (by show 2 * 0 + _ ≤ _; exact Nat.le_of_eq rfl) (hb hby d17_1) (fun _ _ => ⟨rfl, e0, (by decide : 0 + 0 ≤ _), (by decide : 0 + 0 ≤ _)⟩)
  dsimp only [Pt.U, Pt.locs, Pt.cells, Pt.slots] at X2 l2 y2 z2 st2 hQ2
  subst l2 y2 z2
  obtain ⟨rfl, N2q, e2⟩ := hQ2
  have N2 := Fr.app N0 N2q
  have P3 := own_step (C := T2.setTop (mkF m 4 #[.val (.ref a), .val (.int j)] [(.int (1 : Int32))])) P1 (fun t_ k_ => st2.trans k_)
  have P4 := own_step (C := T2.setTop (mkF m 7 #[.val (.ref a), .val (.int j)] [])) P3 (by
    intro tt_ kk_
    refine XS.ifNo X2.here hx rfl (hb hby d17_4) rfl ((if0 _ _).trans (feq (by decide : ¬ ((1 : Int32) = (0 : Int32)))).1) ?_
    exact kk_)
  have P5 := own_step (C := T2.setTop (mkF m 8 #[.val (.ref a), .val (.int j)] [(.ref a)])) P4 (by
    intro tt_ kk_
    refine XS.aloadN X2.here hx rfl (hb hby d17_7) rfl rfl ?_
    exact kk_)
  obtain ⟨T6, X6, e6, st6⟩ := getF X2 hx hZ hown (host := "") (Or.inl (hw _ (List.mem_of_getElem? (i := 27) rfl))) Via.refl e2 Fv (g := (mkF m 8 #[.val (.ref a), .val (.int j)] [(.ref a)])) rfl rfl (hb hby d17_8)
  have P7 := own_step (C := T6.setTop (mkF m 11 #[.val (.ref a), .val (.int j)] [(.ref b)])) P5 (fun t_ k_ => st6 t_ k_)
  have P8 := own_step (C := T6.setTop (mkF m 12 #[.val (.ref a), .val (.int j)] [(.int j), (.ref b)])) P7 (by
    intro tt_ kk_
    refine XS.iloadN X6.here hx rfl (hb hby d17_11) rfl ?_
    exact kk_)
  obtain ⟨_, _, ⟨T9, L9, k9, n9⟩, -, X9, ⟨Lc9, hQ9, l9, y9, z9⟩, st9⟩ := Jvm.LawKit.callS X6 hx (y := (⟨"java/lang/StringLatin1", "charAt", "([BI)C"⟩ : MethodName)) hown (mvT hZ (hw _ (List.mem_of_getElem? (i := 95) rfl))) (mvT hZ (hw _ (List.mem_of_getElem? (i := 96) rfl))) (mvT hZ (hw _ (List.mem_of_getElem? (i := 14) rfl))) (mvT hZ (hw _ (List.mem_of_getElem? (i := 97) rfl))) (by decide) (backOf (W := 0) (rm_chL l Z a0 hw [] b k z vs j x fm h0 n0 Z0 O Vb Sfm hfm hin hu) hZ (hw _ (List.mem_of_getElem? (i := 97) rfl)) (hw _ (List.mem_of_getElem? (i := 14) rfl)) (by decide) (by decide)) (g := (mkF m 12 #[.val (.ref a), .val (.int j)] [(.int j), (.ref b)])) rfl (by rw [hml]; rfl) (argsL := [(.ref b), (.int j)]) (rest := []) (lenOf pd4 rfl) rfl (by show 2 * 0 + _ ≤ _; exact Nat.le_of_eq rfl) (hb hby d17_12) (fun _ _ => ⟨rfl, e6, (by decide : 0 + 0 ≤ _), (by decide : 0 + 0 ≤ _)⟩)
  dsimp only [Pt.U, Pt.locs, Pt.cells, Pt.slots] at X9 l9 y9 z9 st9 hQ9
  subst l9 y9 z9
  obtain ⟨rfl, N9q, e9⟩ := hQ9
  have N9 := Fr.app N2 N9q
  have P10 := own_step (C := T9.setTop (mkF m 15 #[.val (.ref a), .val (.int j)] [(.int (x &&& (255 : Int32)))])) P8 (fun t_ k_ => st9 t_ k_)
  obtain ⟨fs, hr, hrun, hended, hW, hsame⟩ := X9.leave (v := some (.int (nar .char (x &&& (255 : Int32))))) (fun h => by rw [Bd.returns] at h; cases h)
  refine ⟨_, _, P10 _ ?_, hrun, hended, _, _, rfl, ?_, ⟨_, rfl⟩, hW, hsame.mono (by decide) (by decide)⟩
  · exact retN X9 hx (t := .char) Bd.returns (by simp) (hb hby d17_15) hr
  · show Q_charAt Z _ _ _ _ _ _ _ _ _ h0 n0 _ T9.heap _
    rw [e9]
    exact ⟨by rw [own_nc1], N9, rfl⟩
theorem pd5 : parseMethodDescriptor "()I" = some ⟨[], some .int⟩ := by decide +kernel
theorem pd6 : parseMethodDescriptor "(I)C" = some ⟨[.int], some .char⟩ := by decide +kernel
theorem d7_0 : decode prog_36_method_3_code 0 = .ok (.lconst 0, 1) := by decide +kernel
theorem d7_1 : decode prog_36_method_3_code 1 = .ok (.lstore_n 2, 1) := by decide +kernel
theorem d7_2 : decode prog_36_method_3_code 2 = .ok (.iconst 0, 1) := by decide +kernel
theorem d7_3 : decode prog_36_method_3_code 3 = .ok (.istore 4, 2) := by decide +kernel
theorem d7_5 : decode prog_36_method_3_code 5 = .ok (.iload 4, 2) := by decide +kernel
theorem d7_7 : decode prog_36_method_3_code 7 = .ok (.aload_n 0, 1) := by decide +kernel
theorem d7_8 : decode prog_36_method_3_code 8 = .ok (.invokevirtual 43, 3) := by decide +kernel
theorem d7_11 : decode prog_36_method_3_code 11 = .ok (.if_icmp .ge 62, 3) := by decide +kernel
theorem d7_14 : decode prog_36_method_3_code 14 = .ok (.aload_n 0, 1) := by decide +kernel
theorem d7_15 : decode prog_36_method_3_code 15 = .ok (.iload 4, 2) := by decide +kernel
theorem d7_17 : decode prog_36_method_3_code 17 = .ok (.invokevirtual 49, 3) := by decide +kernel
theorem d7_20 : decode prog_36_method_3_code 20 = .ok (.istore 5, 2) := by decide +kernel
theorem d7_22 : decode prog_36_method_3_code 22 = .ok (.iload 5, 2) := by decide +kernel
theorem d7_24 : decode prog_36_method_3_code 24 = .ok (.sipush 128, 3) := by decide +kernel
theorem d7_27 : decode prog_36_method_3_code 27 = .ok (.if_icmp .lt 18, 3) := by decide +kernel
theorem d7_45 : decode prog_36_method_3_code 45 = .ok (.iload 5, 2) := by decide +kernel
theorem d7_47 : decode prog_36_method_3_code 47 = .ok (.iload_n 1, 1) := by decide +kernel
theorem d7_48 : decode prog_36_method_3_code 48 = .ok (.if_icmp .lt 19, 3) := by decide +kernel
theorem d7_51 : decode prog_36_method_3_code 51 = .ok (.iload 5, 2) := by decide +kernel
theorem d7_53 : decode prog_36_method_3_code 53 = .ok (.iload_n 1, 1) := by decide +kernel
theorem d7_54 : decode prog_36_method_3_code 54 = .ok (.bipush 64, 2) := by decide +kernel
theorem d7_56 : decode prog_36_method_3_code 56 = .ok (.iadd, 1) := by decide +kernel
theorem d7_57 : decode prog_36_method_3_code 57 = .ok (.if_icmp .ge 10, 3) := by decide +kernel
theorem d7_60 : decode prog_36_method_3_code 60 = .ok (.lload_n 2, 1) := by decide +kernel
theorem d7_61 : decode prog_36_method_3_code 61 = .ok (.lconst 1, 1) := by decide +kernel
theorem d7_62 : decode prog_36_method_3_code 62 = .ok (.iload 5, 2) := by decide +kernel
theorem d7_64 : decode prog_36_method_3_code 64 = .ok (.lshl, 1) := by decide +kernel
theorem d7_65 : decode prog_36_method_3_code 65 = .ok (.lor, 1) := by decide +kernel
theorem d7_66 : decode prog_36_method_3_code 66 = .ok (.lstore_n 2, 1) := by decide +kernel
theorem d7_67 : decode prog_36_method_3_code 67 = .ok (.iinc 4 1, 3) := by decide +kernel
theorem d7_70 : decode prog_36_method_3_code 70 = .ok (.goto (-65), 3) := by decide +kernel
theorem d7_73 : decode prog_36_method_3_code 73 = .ok (.lload_n 2, 1) := by decide +kernel
theorem d7_74 : decode prog_36_method_3_code 74 = .ok (.lreturn, 1) := by decide +kernel
theorem ef__bits3_0 (m : MethodId) (x0 : Addr) (x1 : Int32) : entryFrame m #[(.ref x0), (.int x1)] 6 = mkF m 0 #[.val (.ref x0), .val (.int x1), .unset, .unset, .unset, .unset] [] := by first | (simp [entryFrame, mkF, argsToLocals, Value.category]; done) | rfl
def Q_bits3_0 (Z : State) (sa : Addr) (sb : Addr) (sk : ClassId) (x0 : Int32) (x1 : Int32) (x2 : Int32) (fm : Value) (cs : Int32) (h0 : Heap) (n0 : Nat) (v_ : Option Value) (h : Heap) (L_ : List Loc) : Prop := v_ = some (.long (own_bit (0 : Int32) (64 : Int32) (x2 &&& (255 : Int32)) (own_bit (0 : Int32) (64 : Int32) (x1 &&& (255 : Int32)) (own_bit (0 : Int32) (64 : Int32) (x0 &&& (255 : Int32)) (0 : Int64))))) ∧ Fr n0 L_ ∧ h = h0
theorem pn3 : plainName "com/example/gatehouse/gatehouse/pattern/NameShape" = true := by first | (simp [plainName, overriddenIn]; done) | decide +kernel
set_option maxRecDepth 65536 in
set_option maxHeartbeats 40000000 in
theorem rm_bits3_0 (l : Launch) (Z : State) (a0 : Array Value) (hw : ∀ d ∈ tables_1, d.before a0 Z = true) (ws : List Jvm.Cond) (sa : Addr) (sb : Addr) (sk : ClassId) (x0 : Int32) (x1 : Int32) (x2 : Int32) (fm : Value) (cs : Int32) (h0 : Heap) (n0 : Nat) (Z0 : n0 ≤ h0.size) (O : Old Z n0 h0) (Scs : Sta Z Z.heap "java/lang/String" "COMPACT_STRINGS" "Z" (.int cs)) (hcs : ¬ (cs = (0 : Int32))) (Sfm : Sta Z Z.heap "jdk/internal/util/Preconditions" "SIOOBE_FORMATTER" "Ljava/util/function/BiFunction;" fm) (hfm : fm.category = 1) (Es : Exa Z h0 sa "java/lang/String") (Fsc : Fld Z h0 sa "java/lang/String" "coder" "B" (.int (0 : Int32))) (Fsv : Fld Z h0 sa "java/lang/String" "value" "[B" (.ref sb)) (Vs : Arv Z h0 sb sk .byte (3 : Int32) [(.int x0), (.int x1), (.int x2)] (.int 0)) (hx0 : (x0 &&& (255 : Int32)) < (128 : Int32)) (hx1 : (x1 &&& (255 : Int32)) < (128 : Int32)) (hx2 : (x2 &&& (255 : Int32)) < (128 : Int32)) :
    MetFree l (⟨"com/example/gatehouse/gatehouse/pattern/NameShape", "bits", "(Ljava/lang/String;I)J"⟩ : MethodName) (head1 (Jvm.Cond.code (⟨"com/example/gatehouse/gatehouse/pattern/NameShape", "bits", "(Ljava/lang/String;I)J"⟩ : MethodName) prog_36_method_3_code 6 (some .long) :: ws) ({ frames := 4, cells := 0, slots := 0, locals := 53 } : Room)) (fun a_ U_ => a_ = #[(.ref sa), (.int (0 : Int32))] ∧ Z.Warmed39 U_.vm ∧ U_.heap = h0) (fun _ _ _ _ _ => True) (fun _ U_ o_ V_ => ∃ v_ L_, o_ = .returned v_ ∧ Q_bits3_0 Z sa sb sk x0 x1 x2 fm cs h0 n0 v_ V_.heap L_ ∧ FrameEnd U_ o_ V_ L_ ({ frames := 4, cells := 0, slots := 0, locals := 53 } : Room).cells ({ frames := 4, cells := 0, slots := 0, locals := 53 } : Room).slots) := by
  refine MetFree.of_bodySF (plainFor_of_name pn3) hisR ?_
  intro p e s m args below meth c s₁ Bd hml0 hP hK
  obtain ⟨rfl, hZ, hh⟩ := hP
  have hx := Bd.exec
  have hby := Bd.bytes
  have hml : c.maxLocals = 6 := hml0
  have hown : s.vm.findClass "com/example/gatehouse/gatehouse/pattern/NameShape" = some m.cls := findClass_of_methodNamed Bd.named
  have hnm := (name_of_methodNamed Bd.named Bd.method).1
  have X0 : Stand p l e ({ frames := 4, cells := 0, slots := 0, locals := 53 } : Room) s m #[(.ref sa), (.int (0 : Int32))] below meth c s₁ [] 0 0 := Stand.of_body Bd
  have e0 : s₁.heap = h0 := by rw [← hh, Bd.state]; rfl
  have N0 := Fr.nil n0
  have pre0 : own_Go p e below (s₁.setTop (entryFrame m #[(.ref sa), (.int (0 : Int32))] 6)) (s₁.setTop (mkF m 0 #[.val (.ref sa), .val (.int (0 : Int32)), .unset, .unset, .unset, .unset] [])) := fun t_ k_ => castTop (ef__bits3_0 m sa (0 : Int32)) k_
  have P1 := own_step (C := s₁.setTop (mkF m 8 #[.val (.ref sa), .val (.int (0 : Int32)), .val (.long (0 : Int64)), .second, .val (.int (0 : Int32)), .unset] [(.ref sa), (.int (0 : Int32))])) pre0 (by
    intro tt_ kk_
    refine XS.lconst X0.here hx rfl (hb hby d7_0) ?_
    show Steps p.tables e below (s₁.setTop (mkF m 1 #[.val (.ref sa), .val (.int (0 : Int32)), .unset, .unset, .unset, .unset] [(.long (0 : Int64))])) _
    refine XS.lstoreN X0.here hx rfl (hb hby d7_1) rfl (l' := #[.val (.ref sa), .val (.int (0 : Int32)), .val (.long (0 : Int64)), .second, .unset, .unset]) rfl ?_
    show Steps p.tables e below (s₁.setTop (mkF m 2 #[.val (.ref sa), .val (.int (0 : Int32)), .val (.long (0 : Int64)), .second, .unset, .unset] [])) _
    refine XS.iconst X0.here hx rfl (hb hby d7_2) ?_
    show Steps p.tables e below (s₁.setTop (mkF m 3 #[.val (.ref sa), .val (.int (0 : Int32)), .val (.long (0 : Int64)), .second, .unset, .unset] [(.int (0 : Int32))])) _
    refine XS.istore X0.here hx rfl (hb hby d7_3) rfl (l' := #[.val (.ref sa), .val (.int (0 : Int32)), .val (.long (0 : Int64)), .second, .val (.int (0 : Int32)), .unset]) rfl ?_
    show Steps p.tables e below (s₁.setTop (mkF m 5 #[.val (.ref sa), .val (.int (0 : Int32)), .val (.long (0 : Int64)), .second, .val (.int (0 : Int32)), .unset] [])) _
    refine XS.iload X0.here hx rfl (hb hby d7_5) rfl ?_
    show Steps p.tables e below (s₁.setTop (mkF m 7 #[.val (.ref sa), .val (.int (0 : Int32)), .val (.long (0 : Int64)), .second, .val (.int (0 : Int32)), .unset] [(.int (0 : Int32))])) _
    refine XS.aloadN X0.here hx rfl (hb hby d7_7) rfl rfl ?_
    exact kk_)
  obtain ⟨cq2, kq2, q2a, q2b, q2c⟩ := isOf hZ e0 Es
  obtain ⟨_, _, ⟨T2, L2, k2, n2⟩, -, X2, ⟨Lc2, hQ2, l2, y2, z2⟩, st2⟩ := X0.virtualBack hx (y := (⟨"java/lang/String", "length", "()I"⟩ : MethodName)) (z := (⟨"java/lang/String", "length", "()I"⟩ : MethodName)) hown (mvT hZ (hw _ (List.mem_of_getElem? (i := 38) rfl))) (mvT hZ (hw _ (List.mem_of_getElem? (i := 39) rfl))) (notFace_of_selects (args := #[]) (mvT hZ (hw _ (List.mem_of_getElem? (i := 41) rfl)))) (mvT hZ (hw _ (List.mem_of_getElem? (i := 41) rfl))) (mvT hZ (hw _ (List.mem_of_getElem? (i := 40) rfl))) (by decide) (backOf (W := 1) (rm_length l Z a0 hw [] sa sb sk (3 : Int32) _ cs h0 n0 Z0 O Scs hcs Es Fsc Fsv Vs) hZ (hw _ (List.mem_of_getElem? (i := 42) rfl)) (hw _ (List.mem_of_getElem? (i := 1) rfl)) (by decide) (by decide)) q2a q2c (g := (mkF m 8 #[.val (.ref sa), .val (.int (0 : Int32)), .val (.long (0 : Int64)), .second, .val (.int (0 : Int32)), .unset] [(.ref sa), (.int (0 : Int32))])) rfl (by rw [hml]; rfl) (Steps.refl _) (argsL := []) (rest := [(.int (0 : Int32))]) (lenOf pd5 rfl) rfl (by show 2 * 0 + _ ≤ _; exact Nat.le_of_eq rfl) (hb hby d7_8) (fun _ _ => ⟨rfl, e0, (by decide : 0 + 0 ≤ _), (by decide : 0 + 0 ≤ _)⟩)
  dsimp only [Pt.U, Pt.locs, Pt.cells, Pt.slots] at X2 l2 y2 z2 st2 hQ2
  subst l2 y2 z2
  obtain ⟨rfl, N2q, e2⟩ := hQ2
  have N2 := Fr.app N0 N2q
  have P3 := own_step (C := T2.setTop (mkF m 11 #[.val (.ref sa), .val (.int (0 : Int32)), .val (.long (0 : Int64)), .second, .val (.int (0 : Int32)), .unset] [(.int (3 : Int32)), (.int (0 : Int32))])) P1 (fun t_ k_ => st2.trans k_)
  have P4 := own_step (C := T2.setTop (mkF m 14 #[.val (.ref sa), .val (.int (0 : Int32)), .val (.long (0 : Int64)), .second, .val (.int (0 : Int32)), .unset] [])) P3 (by
    intro tt_ kk_
    refine XS.icmpNo X2.here hx rfl (hb hby d7_11) rfl (tlt (by decide : (0 : Int32) < (3 : Int32))).2.1 ?_
    exact kk_)
  have P5 := own_step (C := T2.setTop (mkF m 17 #[.val (.ref sa), .val (.int (0 : Int32)), .val (.long (0 : Int64)), .second, .val (.int (0 : Int32)), .unset] [(.int (0 : Int32)), (.ref sa)])) P4 (by
    intro tt_ kk_
    refine XS.aloadN X2.here hx rfl (hb hby d7_14) rfl rfl ?_
    show Steps p.tables e below (T2.setTop (mkF m 15 #[.val (.ref sa), .val (.int (0 : Int32)), .val (.long (0 : Int64)), .second, .val (.int (0 : Int32)), .unset] [(.ref sa)])) _
    refine XS.iload X2.here hx rfl (hb hby d7_15) rfl ?_
    exact kk_)
  obtain ⟨cq6, kq6, q6a, q6b, q6c⟩ := isOf hZ e2 Es
  obtain ⟨_, _, ⟨T6, L6, k6, n6⟩, -, X6, ⟨Lc6, hQ6, l6, y6, z6⟩, st6⟩ := X2.virtualBack hx (y := (⟨"java/lang/String", "charAt", "(I)C"⟩ : MethodName)) (z := (⟨"java/lang/String", "charAt", "(I)C"⟩ : MethodName)) hown (mvT hZ (hw _ (List.mem_of_getElem? (i := 85) rfl))) (mvT hZ (hw _ (List.mem_of_getElem? (i := 86) rfl))) (notFace_of_selects (args := #[]) (mvT hZ (hw _ (List.mem_of_getElem? (i := 88) rfl)))) (mvT hZ (hw _ (List.mem_of_getElem? (i := 88) rfl))) (mvT hZ (hw _ (List.mem_of_getElem? (i := 87) rfl))) (by decide) (backOf (W := 0) (rm_charAt l Z a0 hw [] sa sb sk (3 : Int32) _ (0 : Int32) x0 fm cs h0 n0 Z0 O Scs hcs Es Fsc Fsv Vs Sfm hfm (by decide : ¬ (0 : Int32) < (0 : Int32) ∧ (0 : Int32) < (3 : Int32)) rfl) hZ (hw _ (List.mem_of_getElem? (i := 89) rfl)) (hw _ (List.mem_of_getElem? (i := 1) rfl)) (by decide) (by decide)) q6a q6c (g := (mkF m 17 #[.val (.ref sa), .val (.int (0 : Int32)), .val (.long (0 : Int64)), .second, .val (.int (0 : Int32)), .unset] [(.int (0 : Int32)), (.ref sa)])) rfl (by rw [hml]; rfl) (Steps.refl _) (argsL := [(.int (0 : Int32))]) (rest := []) (lenOf pd6 rfl) rfl (by show 2 * 0 + _ ≤ _; exact Nat.le_of_eq rfl) (hb hby d7_17) (fun _ _ => ⟨rfl, e2, (by decide : 0 + 0 ≤ _), (by decide : 0 + 0 ≤ _)⟩)
  dsimp only [Pt.U, Pt.locs, Pt.cells, Pt.slots] at X6 l6 y6 z6 st6 hQ6
  subst l6 y6 z6
  obtain ⟨rfl, N6q, e6⟩ := hQ6
  have N6 := Fr.app N2 N6q
  have P7 := own_step (C := T6.setTop (mkF m 20 #[.val (.ref sa), .val (.int (0 : Int32)), .val (.long (0 : Int64)), .second, .val (.int (0 : Int32)), .unset] [(.int (x0 &&& (255 : Int32)))])) P5 (fun t_ k_ => st6.trans k_)
  have P8 := own_step (C := T6.setTop (mkF m 27 #[.val (.ref sa), .val (.int (0 : Int32)), .val (.long (0 : Int64)), .second, .val (.int (0 : Int32)), .val (.int (x0 &&& (255 : Int32)))] [(.int (128 : Int32)), (.int (x0 &&& (255 : Int32)))])) P7 (by
    intro tt_ kk_
    refine XS.istore X6.here hx rfl (hb hby d7_20) rfl (l' := #[.val (.ref sa), .val (.int (0 : Int32)), .val (.long (0 : Int64)), .second, .val (.int (0 : Int32)), .val (.int (x0 &&& (255 : Int32)))]) rfl ?_
    show Steps p.tables e below (T6.setTop (mkF m 22 #[.val (.ref sa), .val (.int (0 : Int32)), .val (.long (0 : Int64)), .second, .val (.int (0 : Int32)), .val (.int (x0 &&& (255 : Int32)))] [])) _
    refine XS.iload X6.here hx rfl (hb hby d7_22) rfl ?_
    show Steps p.tables e below (T6.setTop (mkF m 24 #[.val (.ref sa), .val (.int (0 : Int32)), .val (.long (0 : Int64)), .second, .val (.int (0 : Int32)), .val (.int (x0 &&& (255 : Int32)))] [(.int (x0 &&& (255 : Int32)))])) _
    refine XS.sipush X6.here hx rfl (hb hby d7_24) ?_
    exact kk_)
  have P9 := own_step (C := T6.setTop (mkF m 45 #[.val (.ref sa), .val (.int (0 : Int32)), .val (.long (0 : Int64)), .second, .val (.int (0 : Int32)), .val (.int (x0 &&& (255 : Int32)))] [])) P8 (by
    intro tt_ kk_
    refine XS.icmpYes X6.here hx rfl (pc0 := 27) (pc' := 45) rfl (hb hby d7_27) rfl (tlt hx0).1 (by decide) (by decide) ?_
    exact kk_)
  obtain ⟨q0, hv10, J10⟩ : ∃ (q0 : Int64), (((x0 &&& (255 : Int32)) < (0 : Int32) ∧ q0 = (0 : Int64)) ∨ (¬ ((x0 &&& (255 : Int32)) < (0 : Int32)) ∧ (x0 &&& (255 : Int32)) < (64 : Int32) ∧ q0 = ((0 : Int64) ||| ((1 : Int64) <<< ((x0 &&& (255 : Int32)) &&& 0x3f).toInt64))) ∨ (¬ ((x0 &&& (255 : Int32)) < (0 : Int32)) ∧ ¬ ((x0 &&& (255 : Int32)) < (64 : Int32)) ∧ q0 = (0 : Int64))) ∧ own_Go p e below (T6.setTop (mkF m 45 #[.val (.ref sa), .val (.int (0 : Int32)), .val (.long (0 : Int64)), .second, .val (.int (0 : Int32)), .val (.int (x0 &&& (255 : Int32)))] [])) (T6.setTop (mkF m 67 #[.val (.ref sa), .val (.int (0 : Int32)), .val (.long q0), .second, .val (.int (0 : Int32)), .val (.int (x0 &&& (255 : Int32)))] [])) := by
    have P11 : own_Go p e below (T6.setTop (mkF m 45 #[.val (.ref sa), .val (.int (0 : Int32)), .val (.long (0 : Int64)), .second, .val (.int (0 : Int32)), .val (.int (x0 &&& (255 : Int32)))] [])) (T6.setTop (mkF m 45 #[.val (.ref sa), .val (.int (0 : Int32)), .val (.long (0 : Int64)), .second, .val (.int (0 : Int32)), .val (.int (x0 &&& (255 : Int32)))] [])) := fun t_ k_ => k_
    have P12 := own_step (C := T6.setTop (mkF m 48 #[.val (.ref sa), .val (.int (0 : Int32)), .val (.long (0 : Int64)), .second, .val (.int (0 : Int32)), .val (.int (x0 &&& (255 : Int32)))] [(.int (0 : Int32)), (.int (x0 &&& (255 : Int32)))])) P11 (by
      intro tt_ kk_
      refine XS.iload X6.here hx rfl (hb hby d7_45) rfl ?_
      show Steps p.tables e below (T6.setTop (mkF m 47 #[.val (.ref sa), .val (.int (0 : Int32)), .val (.long (0 : Int64)), .second, .val (.int (0 : Int32)), .val (.int (x0 &&& (255 : Int32)))] [(.int (x0 &&& (255 : Int32)))])) _
      refine XS.iloadN X6.here hx rfl (hb hby d7_47) rfl ?_
      exact kk_)
    by_cases c13 : (x0 &&& (255 : Int32)) < (0 : Int32)
    · have P14 := own_step (C := T6.setTop (mkF m 67 #[.val (.ref sa), .val (.int (0 : Int32)), .val (.long (0 : Int64)), .second, .val (.int (0 : Int32)), .val (.int (x0 &&& (255 : Int32)))] [])) P12 (by
        intro tt_ kk_
        refine XS.icmpYes X6.here hx rfl (pc0 := 48) (pc' := 67) rfl (hb hby d7_48) rfl (tlt c13).1 (by decide) (by decide) ?_
        exact kk_)
      exact ⟨(0 : Int64), Or.inl ⟨c13, rfl⟩, P14⟩
    · have P15 := own_step (C := T6.setTop (mkF m 51 #[.val (.ref sa), .val (.int (0 : Int32)), .val (.long (0 : Int64)), .second, .val (.int (0 : Int32)), .val (.int (x0 &&& (255 : Int32)))] [])) P12 (by
        intro tt_ kk_
        refine XS.icmpNo X6.here hx rfl (hb hby d7_48) rfl (flt c13).1 ?_
        exact kk_)
      have P16 := own_step (C := T6.setTop (mkF m 57 #[.val (.ref sa), .val (.int (0 : Int32)), .val (.long (0 : Int64)), .second, .val (.int (0 : Int32)), .val (.int (x0 &&& (255 : Int32)))] [(.int (64 : Int32)), (.int (x0 &&& (255 : Int32)))])) P15 (by
        intro tt_ kk_
        refine XS.iload X6.here hx rfl (hb hby d7_51) rfl ?_
        show Steps p.tables e below (T6.setTop (mkF m 53 #[.val (.ref sa), .val (.int (0 : Int32)), .val (.long (0 : Int64)), .second, .val (.int (0 : Int32)), .val (.int (x0 &&& (255 : Int32)))] [(.int (x0 &&& (255 : Int32)))])) _
        refine XS.iloadN X6.here hx rfl (hb hby d7_53) rfl ?_
        show Steps p.tables e below (T6.setTop (mkF m 54 #[.val (.ref sa), .val (.int (0 : Int32)), .val (.long (0 : Int64)), .second, .val (.int (0 : Int32)), .val (.int (x0 &&& (255 : Int32)))] [(.int (0 : Int32)), (.int (x0 &&& (255 : Int32)))])) _
        refine XS.bipush X6.here hx rfl (hb hby d7_54) ?_
        show Steps p.tables e below (T6.setTop (mkF m 56 #[.val (.ref sa), .val (.int (0 : Int32)), .val (.long (0 : Int64)), .second, .val (.int (0 : Int32)), .val (.int (x0 &&& (255 : Int32)))] [(.int (64 : Int32)), (.int (0 : Int32)), (.int (x0 &&& (255 : Int32)))])) _
        refine XS.iadd X6.here hx rfl (hb hby d7_56) rfl ?_
        exact kk_)
      by_cases c17 : (x0 &&& (255 : Int32)) < (64 : Int32)
      · have P18 := own_step (C := T6.setTop (mkF m 60 #[.val (.ref sa), .val (.int (0 : Int32)), .val (.long (0 : Int64)), .second, .val (.int (0 : Int32)), .val (.int (x0 &&& (255 : Int32)))] [])) P16 (by
          intro tt_ kk_
          refine XS.icmpNo X6.here hx rfl (hb hby d7_57) rfl (tlt c17).2.1 ?_
          exact kk_)
        have P19 := own_step (C := T6.setTop (mkF m 67 #[.val (.ref sa), .val (.int (0 : Int32)), .val (.long ((0 : Int64) ||| ((1 : Int64) <<< ((x0 &&& (255 : Int32)) &&& 0x3f).toInt64))), .second, .val (.int (0 : Int32)), .val (.int (x0 &&& (255 : Int32)))] [])) P18 (by
          intro tt_ kk_
          refine XS.lloadN X6.here hx rfl (hb hby d7_60) rfl ?_
          show Steps p.tables e below (T6.setTop (mkF m 61 #[.val (.ref sa), .val (.int (0 : Int32)), .val (.long (0 : Int64)), .second, .val (.int (0 : Int32)), .val (.int (x0 &&& (255 : Int32)))] [(.long (0 : Int64))])) _
          refine XS.lconst X6.here hx rfl (hb hby d7_61) ?_
          show Steps p.tables e below (T6.setTop (mkF m 62 #[.val (.ref sa), .val (.int (0 : Int32)), .val (.long (0 : Int64)), .second, .val (.int (0 : Int32)), .val (.int (x0 &&& (255 : Int32)))] [(.long (1 : Int64)), (.long (0 : Int64))])) _
          refine XS.iload X6.here hx rfl (hb hby d7_62) rfl ?_
          show Steps p.tables e below (T6.setTop (mkF m 64 #[.val (.ref sa), .val (.int (0 : Int32)), .val (.long (0 : Int64)), .second, .val (.int (0 : Int32)), .val (.int (x0 &&& (255 : Int32)))] [(.int (x0 &&& (255 : Int32))), (.long (1 : Int64)), (.long (0 : Int64))])) _
          refine XS.lshl X6.here hx rfl (hb hby d7_64) rfl ?_
          show Steps p.tables e below (T6.setTop (mkF m 65 #[.val (.ref sa), .val (.int (0 : Int32)), .val (.long (0 : Int64)), .second, .val (.int (0 : Int32)), .val (.int (x0 &&& (255 : Int32)))] [(.long ((1 : Int64) <<< ((x0 &&& (255 : Int32)) &&& 0x3f).toInt64)), (.long (0 : Int64))])) _
          refine XS.lor X6.here hx rfl (hb hby d7_65) rfl ?_
          show Steps p.tables e below (T6.setTop (mkF m 66 #[.val (.ref sa), .val (.int (0 : Int32)), .val (.long (0 : Int64)), .second, .val (.int (0 : Int32)), .val (.int (x0 &&& (255 : Int32)))] [(.long ((0 : Int64) ||| ((1 : Int64) <<< ((x0 &&& (255 : Int32)) &&& 0x3f).toInt64)))])) _
          refine XS.lstoreN X6.here hx rfl (hb hby d7_66) rfl (l' := #[.val (.ref sa), .val (.int (0 : Int32)), .val (.long ((0 : Int64) ||| ((1 : Int64) <<< ((x0 &&& (255 : Int32)) &&& 0x3f).toInt64))), .second, .val (.int (0 : Int32)), .val (.int (x0 &&& (255 : Int32)))]) rfl ?_
          exact kk_)
        exact ⟨((0 : Int64) ||| ((1 : Int64) <<< ((x0 &&& (255 : Int32)) &&& 0x3f).toInt64)), Or.inr (Or.inl ⟨c13, c17, rfl⟩), P19⟩
      · have P20 := own_step (C := T6.setTop (mkF m 67 #[.val (.ref sa), .val (.int (0 : Int32)), .val (.long (0 : Int64)), .second, .val (.int (0 : Int32)), .val (.int (x0 &&& (255 : Int32)))] [])) P16 (by
          intro tt_ kk_
          refine XS.icmpYes X6.here hx rfl (pc0 := 57) (pc' := 67) rfl (hb hby d7_57) rfl (flt c17).2.1 (by decide) (by decide) ?_
          exact kk_)
        exact ⟨(0 : Int64), Or.inr (Or.inr (⟨c13, c17, rfl⟩)), P20⟩
  have P21 := own_step P9 J10
  have P22 := own_step (C := T6.setTop (mkF m 8 #[.val (.ref sa), .val (.int (0 : Int32)), .val (.long q0), .second, .val (.int (1 : Int32)), .val (.int (x0 &&& (255 : Int32)))] [(.ref sa), (.int (1 : Int32))])) P21 (by
    intro tt_ kk_
    refine XS.iinc X6.here hx rfl (hb hby d7_67) rfl (l' := #[.val (.ref sa), .val (.int (0 : Int32)), .val (.long q0), .second, .val (.int (1 : Int32)), .val (.int (x0 &&& (255 : Int32)))]) rfl ?_
    show Steps p.tables e below (T6.setTop (mkF m 70 #[.val (.ref sa), .val (.int (0 : Int32)), .val (.long q0), .second, .val (.int (1 : Int32)), .val (.int (x0 &&& (255 : Int32)))] [])) _
    refine XS.goto X6.here hx rfl (pc0 := 70) (pc' := 5) rfl (hb hby d7_70) (by decide) (by decide) ?_
    show Steps p.tables e below (T6.setTop (mkF m 5 #[.val (.ref sa), .val (.int (0 : Int32)), .val (.long q0), .second, .val (.int (1 : Int32)), .val (.int (x0 &&& (255 : Int32)))] [])) _
    refine XS.iload X6.here hx rfl (hb hby d7_5) rfl ?_
    show Steps p.tables e below (T6.setTop (mkF m 7 #[.val (.ref sa), .val (.int (0 : Int32)), .val (.long q0), .second, .val (.int (1 : Int32)), .val (.int (x0 &&& (255 : Int32)))] [(.int (1 : Int32))])) _
    refine XS.aloadN X6.here hx rfl (hb hby d7_7) rfl rfl ?_
    exact kk_)
  obtain ⟨cq23, kq23, q23a, q23b, q23c⟩ := isOf hZ e6 Es
  obtain ⟨_, _, ⟨T23, L23, k23, n23⟩, -, X23, ⟨Lc23, hQ23, l23, y23, z23⟩, st23⟩ := X6.virtualBack hx (y := (⟨"java/lang/String", "length", "()I"⟩ : MethodName)) (z := (⟨"java/lang/String", "length", "()I"⟩ : MethodName)) hown (mvT hZ (hw _ (List.mem_of_getElem? (i := 38) rfl))) (mvT hZ (hw _ (List.mem_of_getElem? (i := 39) rfl))) (notFace_of_selects (args := #[]) (mvT hZ (hw _ (List.mem_of_getElem? (i := 41) rfl)))) (mvT hZ (hw _ (List.mem_of_getElem? (i := 41) rfl))) (mvT hZ (hw _ (List.mem_of_getElem? (i := 40) rfl))) (by decide) (backOf (W := 1) (rm_length l Z a0 hw [] sa sb sk (3 : Int32) _ cs h0 n0 Z0 O Scs hcs Es Fsc Fsv Vs) hZ (hw _ (List.mem_of_getElem? (i := 42) rfl)) (hw _ (List.mem_of_getElem? (i := 1) rfl)) (by decide) (by decide)) q23a q23c (g := (mkF m 8 #[.val (.ref sa), .val (.int (0 : Int32)), .val (.long q0), .second, .val (.int (1 : Int32)), .val (.int (x0 &&& (255 : Int32)))] [(.ref sa), (.int (1 : Int32))])) rfl (by rw [hml]; rfl) (Steps.refl _) (argsL := []) (rest := [(.int (1 : Int32))]) (lenOf pd5 rfl) rfl (by show 2 * 0 + _ ≤ _; exact Nat.le_of_eq rfl) (hb hby d7_8) (fun _ _ => ⟨rfl, e6, (by decide : 0 + 0 ≤ _), (by decide : 0 + 0 ≤ _)⟩)
  dsimp only [Pt.U, Pt.locs, Pt.cells, Pt.slots] at X23 l23 y23 z23 st23 hQ23
  subst l23 y23 z23
  obtain ⟨rfl, N23q, e23⟩ := hQ23
  have N23 := Fr.app N6 N23q
  have P24 := own_step (C := T23.setTop (mkF m 11 #[.val (.ref sa), .val (.int (0 : Int32)), .val (.long q0), .second, .val (.int (1 : Int32)), .val (.int (x0 &&& (255 : Int32)))] [(.int (3 : Int32)), (.int (1 : Int32))])) P22 (fun t_ k_ => st23.trans k_)
  have P25 := own_step (C := T23.setTop (mkF m 14 #[.val (.ref sa), .val (.int (0 : Int32)), .val (.long q0), .second, .val (.int (1 : Int32)), .val (.int (x0 &&& (255 : Int32)))] [])) P24 (by
    intro tt_ kk_
    refine XS.icmpNo X23.here hx rfl (hb hby d7_11) rfl (tlt (by decide : (1 : Int32) < (3 : Int32))).2.1 ?_
    exact kk_)
  have P26 := own_step (C := T23.setTop (mkF m 17 #[.val (.ref sa), .val (.int (0 : Int32)), .val (.long q0), .second, .val (.int (1 : Int32)), .val (.int (x0 &&& (255 : Int32)))] [(.int (1 : Int32)), (.ref sa)])) P25 (by
    intro tt_ kk_
    refine XS.aloadN X23.here hx rfl (hb hby d7_14) rfl rfl ?_
    show Steps p.tables e below (T23.setTop (mkF m 15 #[.val (.ref sa), .val (.int (0 : Int32)), .val (.long q0), .second, .val (.int (1 : Int32)), .val (.int (x0 &&& (255 : Int32)))] [(.ref sa)])) _
    refine XS.iload X23.here hx rfl (hb hby d7_15) rfl ?_
    exact kk_)
  obtain ⟨cq27, kq27, q27a, q27b, q27c⟩ := isOf hZ e23 Es
  obtain ⟨_, _, ⟨T27, L27, k27, n27⟩, -, X27, ⟨Lc27, hQ27, l27, y27, z27⟩, st27⟩ := X23.virtualBack hx (y := (⟨"java/lang/String", "charAt", "(I)C"⟩ : MethodName)) (z := (⟨"java/lang/String", "charAt", "(I)C"⟩ : MethodName)) hown (mvT hZ (hw _ (List.mem_of_getElem? (i := 85) rfl))) (mvT hZ (hw _ (List.mem_of_getElem? (i := 86) rfl))) (notFace_of_selects (args := #[]) (mvT hZ (hw _ (List.mem_of_getElem? (i := 88) rfl)))) (mvT hZ (hw _ (List.mem_of_getElem? (i := 88) rfl))) (mvT hZ (hw _ (List.mem_of_getElem? (i := 87) rfl))) (by decide) (backOf (W := 0) (rm_charAt l Z a0 hw [] sa sb sk (3 : Int32) _ (1 : Int32) x1 fm cs h0 n0 Z0 O Scs hcs Es Fsc Fsv Vs Sfm hfm (by decide : ¬ (1 : Int32) < (0 : Int32) ∧ (1 : Int32) < (3 : Int32)) rfl) hZ (hw _ (List.mem_of_getElem? (i := 89) rfl)) (hw _ (List.mem_of_getElem? (i := 1) rfl)) (by decide) (by decide)) q27a q27c (g := (mkF m 17 #[.val (.ref sa), .val (.int (0 : Int32)), .val (.long q0), .second, .val (.int (1 : Int32)), .val (.int (x0 &&& (255 : Int32)))] [(.int (1 : Int32)), (.ref sa)])) rfl (by rw [hml]; rfl) (Steps.refl _) (argsL := [(.int (1 : Int32))]) (rest := []) (lenOf pd6 rfl) rfl (by show 2 * 0 + _ ≤ _; exact Nat.le_of_eq rfl) (hb hby d7_17) (fun _ _ => ⟨rfl, e23, (by decide : 0 + 0 ≤ _), (by decide : 0 + 0 ≤ _)⟩)
  dsimp only [Pt.U, Pt.locs, Pt.cells, Pt.slots] at X27 l27 y27 z27 st27 hQ27
  subst l27 y27 z27
  obtain ⟨rfl, N27q, e27⟩ := hQ27
  have N27 := Fr.app N23 N27q
  have P28 := own_step (C := T27.setTop (mkF m 20 #[.val (.ref sa), .val (.int (0 : Int32)), .val (.long q0), .second, .val (.int (1 : Int32)), .val (.int (x0 &&& (255 : Int32)))] [(.int (x1 &&& (255 : Int32)))])) P26 (fun t_ k_ => st27.trans k_)
  have P29 := own_step (C := T27.setTop (mkF m 27 #[.val (.ref sa), .val (.int (0 : Int32)), .val (.long q0), .second, .val (.int (1 : Int32)), .val (.int (x1 &&& (255 : Int32)))] [(.int (128 : Int32)), (.int (x1 &&& (255 : Int32)))])) P28 (by
    intro tt_ kk_
    refine XS.istore X27.here hx rfl (hb hby d7_20) rfl (l' := #[.val (.ref sa), .val (.int (0 : Int32)), .val (.long q0), .second, .val (.int (1 : Int32)), .val (.int (x1 &&& (255 : Int32)))]) rfl ?_
    show Steps p.tables e below (T27.setTop (mkF m 22 #[.val (.ref sa), .val (.int (0 : Int32)), .val (.long q0), .second, .val (.int (1 : Int32)), .val (.int (x1 &&& (255 : Int32)))] [])) _
    refine XS.iload X27.here hx rfl (hb hby d7_22) rfl ?_
    show Steps p.tables e below (T27.setTop (mkF m 24 #[.val (.ref sa), .val (.int (0 : Int32)), .val (.long q0), .second, .val (.int (1 : Int32)), .val (.int (x1 &&& (255 : Int32)))] [(.int (x1 &&& (255 : Int32)))])) _
    refine XS.sipush X27.here hx rfl (hb hby d7_24) ?_
    exact kk_)
  have P30 := own_step (C := T27.setTop (mkF m 45 #[.val (.ref sa), .val (.int (0 : Int32)), .val (.long q0), .second, .val (.int (1 : Int32)), .val (.int (x1 &&& (255 : Int32)))] [])) P29 (by
    intro tt_ kk_
    refine XS.icmpYes X27.here hx rfl (pc0 := 27) (pc' := 45) rfl (hb hby d7_27) rfl (tlt hx1).1 (by decide) (by decide) ?_
    exact kk_)
  obtain ⟨q1, hv31, J31⟩ : ∃ (q1 : Int64), (((x1 &&& (255 : Int32)) < (0 : Int32) ∧ q1 = q0) ∨ (¬ ((x1 &&& (255 : Int32)) < (0 : Int32)) ∧ (x1 &&& (255 : Int32)) < (64 : Int32) ∧ q1 = (q0 ||| ((1 : Int64) <<< ((x1 &&& (255 : Int32)) &&& 0x3f).toInt64))) ∨ (¬ ((x1 &&& (255 : Int32)) < (0 : Int32)) ∧ ¬ ((x1 &&& (255 : Int32)) < (64 : Int32)) ∧ q1 = q0)) ∧ own_Go p e below (T27.setTop (mkF m 45 #[.val (.ref sa), .val (.int (0 : Int32)), .val (.long q0), .second, .val (.int (1 : Int32)), .val (.int (x1 &&& (255 : Int32)))] [])) (T27.setTop (mkF m 67 #[.val (.ref sa), .val (.int (0 : Int32)), .val (.long q1), .second, .val (.int (1 : Int32)), .val (.int (x1 &&& (255 : Int32)))] [])) := by
    have P32 : own_Go p e below (T27.setTop (mkF m 45 #[.val (.ref sa), .val (.int (0 : Int32)), .val (.long q0), .second, .val (.int (1 : Int32)), .val (.int (x1 &&& (255 : Int32)))] [])) (T27.setTop (mkF m 45 #[.val (.ref sa), .val (.int (0 : Int32)), .val (.long q0), .second, .val (.int (1 : Int32)), .val (.int (x1 &&& (255 : Int32)))] [])) := fun t_ k_ => k_
    have P33 := own_step (C := T27.setTop (mkF m 48 #[.val (.ref sa), .val (.int (0 : Int32)), .val (.long q0), .second, .val (.int (1 : Int32)), .val (.int (x1 &&& (255 : Int32)))] [(.int (0 : Int32)), (.int (x1 &&& (255 : Int32)))])) P32 (by
      intro tt_ kk_
      refine XS.iload X27.here hx rfl (hb hby d7_45) rfl ?_
      show Steps p.tables e below (T27.setTop (mkF m 47 #[.val (.ref sa), .val (.int (0 : Int32)), .val (.long q0), .second, .val (.int (1 : Int32)), .val (.int (x1 &&& (255 : Int32)))] [(.int (x1 &&& (255 : Int32)))])) _
      refine XS.iloadN X27.here hx rfl (hb hby d7_47) rfl ?_
      exact kk_)
    by_cases c34 : (x1 &&& (255 : Int32)) < (0 : Int32)
    · have P35 := own_step (C := T27.setTop (mkF m 67 #[.val (.ref sa), .val (.int (0 : Int32)), .val (.long q0), .second, .val (.int (1 : Int32)), .val (.int (x1 &&& (255 : Int32)))] [])) P33 (by
        intro tt_ kk_
        refine XS.icmpYes X27.here hx rfl (pc0 := 48) (pc' := 67) rfl (hb hby d7_48) rfl (tlt c34).1 (by decide) (by decide) ?_
        exact kk_)
      exact ⟨q0, Or.inl ⟨c34, rfl⟩, P35⟩
    · have P36 := own_step (C := T27.setTop (mkF m 51 #[.val (.ref sa), .val (.int (0 : Int32)), .val (.long q0), .second, .val (.int (1 : Int32)), .val (.int (x1 &&& (255 : Int32)))] [])) P33 (by
        intro tt_ kk_
        refine XS.icmpNo X27.here hx rfl (hb hby d7_48) rfl (flt c34).1 ?_
        exact kk_)
      have P37 := own_step (C := T27.setTop (mkF m 57 #[.val (.ref sa), .val (.int (0 : Int32)), .val (.long q0), .second, .val (.int (1 : Int32)), .val (.int (x1 &&& (255 : Int32)))] [(.int (64 : Int32)), (.int (x1 &&& (255 : Int32)))])) P36 (by
        intro tt_ kk_
        refine XS.iload X27.here hx rfl (hb hby d7_51) rfl ?_
        show Steps p.tables e below (T27.setTop (mkF m 53 #[.val (.ref sa), .val (.int (0 : Int32)), .val (.long q0), .second, .val (.int (1 : Int32)), .val (.int (x1 &&& (255 : Int32)))] [(.int (x1 &&& (255 : Int32)))])) _
        refine XS.iloadN X27.here hx rfl (hb hby d7_53) rfl ?_
        show Steps p.tables e below (T27.setTop (mkF m 54 #[.val (.ref sa), .val (.int (0 : Int32)), .val (.long q0), .second, .val (.int (1 : Int32)), .val (.int (x1 &&& (255 : Int32)))] [(.int (0 : Int32)), (.int (x1 &&& (255 : Int32)))])) _
        refine XS.bipush X27.here hx rfl (hb hby d7_54) ?_
        show Steps p.tables e below (T27.setTop (mkF m 56 #[.val (.ref sa), .val (.int (0 : Int32)), .val (.long q0), .second, .val (.int (1 : Int32)), .val (.int (x1 &&& (255 : Int32)))] [(.int (64 : Int32)), (.int (0 : Int32)), (.int (x1 &&& (255 : Int32)))])) _
        refine XS.iadd X27.here hx rfl (hb hby d7_56) rfl ?_
        exact kk_)
      by_cases c38 : (x1 &&& (255 : Int32)) < (64 : Int32)
      · have P39 := own_step (C := T27.setTop (mkF m 60 #[.val (.ref sa), .val (.int (0 : Int32)), .val (.long q0), .second, .val (.int (1 : Int32)), .val (.int (x1 &&& (255 : Int32)))] [])) P37 (by
          intro tt_ kk_
          refine XS.icmpNo X27.here hx rfl (hb hby d7_57) rfl (tlt c38).2.1 ?_
          exact kk_)
        have P40 := own_step (C := T27.setTop (mkF m 67 #[.val (.ref sa), .val (.int (0 : Int32)), .val (.long (q0 ||| ((1 : Int64) <<< ((x1 &&& (255 : Int32)) &&& 0x3f).toInt64))), .second, .val (.int (1 : Int32)), .val (.int (x1 &&& (255 : Int32)))] [])) P39 (by
          intro tt_ kk_
          refine XS.lloadN X27.here hx rfl (hb hby d7_60) rfl ?_
          show Steps p.tables e below (T27.setTop (mkF m 61 #[.val (.ref sa), .val (.int (0 : Int32)), .val (.long q0), .second, .val (.int (1 : Int32)), .val (.int (x1 &&& (255 : Int32)))] [(.long q0)])) _
          refine XS.lconst X27.here hx rfl (hb hby d7_61) ?_
          show Steps p.tables e below (T27.setTop (mkF m 62 #[.val (.ref sa), .val (.int (0 : Int32)), .val (.long q0), .second, .val (.int (1 : Int32)), .val (.int (x1 &&& (255 : Int32)))] [(.long (1 : Int64)), (.long q0)])) _
          refine XS.iload X27.here hx rfl (hb hby d7_62) rfl ?_
          show Steps p.tables e below (T27.setTop (mkF m 64 #[.val (.ref sa), .val (.int (0 : Int32)), .val (.long q0), .second, .val (.int (1 : Int32)), .val (.int (x1 &&& (255 : Int32)))] [(.int (x1 &&& (255 : Int32))), (.long (1 : Int64)), (.long q0)])) _
          refine XS.lshl X27.here hx rfl (hb hby d7_64) rfl ?_
          show Steps p.tables e below (T27.setTop (mkF m 65 #[.val (.ref sa), .val (.int (0 : Int32)), .val (.long q0), .second, .val (.int (1 : Int32)), .val (.int (x1 &&& (255 : Int32)))] [(.long ((1 : Int64) <<< ((x1 &&& (255 : Int32)) &&& 0x3f).toInt64)), (.long q0)])) _
          refine XS.lor X27.here hx rfl (hb hby d7_65) rfl ?_
          show Steps p.tables e below (T27.setTop (mkF m 66 #[.val (.ref sa), .val (.int (0 : Int32)), .val (.long q0), .second, .val (.int (1 : Int32)), .val (.int (x1 &&& (255 : Int32)))] [(.long (q0 ||| ((1 : Int64) <<< ((x1 &&& (255 : Int32)) &&& 0x3f).toInt64)))])) _
          refine XS.lstoreN X27.here hx rfl (hb hby d7_66) rfl (l' := #[.val (.ref sa), .val (.int (0 : Int32)), .val (.long (q0 ||| ((1 : Int64) <<< ((x1 &&& (255 : Int32)) &&& 0x3f).toInt64))), .second, .val (.int (1 : Int32)), .val (.int (x1 &&& (255 : Int32)))]) rfl ?_
          exact kk_)
        exact ⟨(q0 ||| ((1 : Int64) <<< ((x1 &&& (255 : Int32)) &&& 0x3f).toInt64)), Or.inr (Or.inl ⟨c34, c38, rfl⟩), P40⟩
      · have P41 := own_step (C := T27.setTop (mkF m 67 #[.val (.ref sa), .val (.int (0 : Int32)), .val (.long q0), .second, .val (.int (1 : Int32)), .val (.int (x1 &&& (255 : Int32)))] [])) P37 (by
          intro tt_ kk_
          refine XS.icmpYes X27.here hx rfl (pc0 := 57) (pc' := 67) rfl (hb hby d7_57) rfl (flt c38).2.1 (by decide) (by decide) ?_
          exact kk_)
        exact ⟨q0, Or.inr (Or.inr (⟨c34, c38, rfl⟩)), P41⟩
  have P42 := own_step P30 J31
  have P43 := own_step (C := T27.setTop (mkF m 8 #[.val (.ref sa), .val (.int (0 : Int32)), .val (.long q1), .second, .val (.int (2 : Int32)), .val (.int (x1 &&& (255 : Int32)))] [(.ref sa), (.int (2 : Int32))])) P42 (by
    intro tt_ kk_
    refine XS.iinc X27.here hx rfl (hb hby d7_67) rfl (l' := #[.val (.ref sa), .val (.int (0 : Int32)), .val (.long q1), .second, .val (.int (2 : Int32)), .val (.int (x1 &&& (255 : Int32)))]) rfl ?_
    show Steps p.tables e below (T27.setTop (mkF m 70 #[.val (.ref sa), .val (.int (0 : Int32)), .val (.long q1), .second, .val (.int (2 : Int32)), .val (.int (x1 &&& (255 : Int32)))] [])) _
    refine XS.goto X27.here hx rfl (pc0 := 70) (pc' := 5) rfl (hb hby d7_70) (by decide) (by decide) ?_
    show Steps p.tables e below (T27.setTop (mkF m 5 #[.val (.ref sa), .val (.int (0 : Int32)), .val (.long q1), .second, .val (.int (2 : Int32)), .val (.int (x1 &&& (255 : Int32)))] [])) _
    refine XS.iload X27.here hx rfl (hb hby d7_5) rfl ?_
    show Steps p.tables e below (T27.setTop (mkF m 7 #[.val (.ref sa), .val (.int (0 : Int32)), .val (.long q1), .second, .val (.int (2 : Int32)), .val (.int (x1 &&& (255 : Int32)))] [(.int (2 : Int32))])) _
    refine XS.aloadN X27.here hx rfl (hb hby d7_7) rfl rfl ?_
    exact kk_)
  obtain ⟨cq44, kq44, q44a, q44b, q44c⟩ := isOf hZ e27 Es
  obtain ⟨_, _, ⟨T44, L44, k44, n44⟩, -, X44, ⟨Lc44, hQ44, l44, y44, z44⟩, st44⟩ := X27.virtualBack hx (y := (⟨"java/lang/String", "length", "()I"⟩ : MethodName)) (z := (⟨"java/lang/String", "length", "()I"⟩ : MethodName)) hown (mvT hZ (hw _ (List.mem_of_getElem? (i := 38) rfl))) (mvT hZ (hw _ (List.mem_of_getElem? (i := 39) rfl))) (notFace_of_selects (args := #[]) (mvT hZ (hw _ (List.mem_of_getElem? (i := 41) rfl)))) (mvT hZ (hw _ (List.mem_of_getElem? (i := 41) rfl))) (mvT hZ (hw _ (List.mem_of_getElem? (i := 40) rfl))) (by decide) (backOf (W := 1) (rm_length l Z a0 hw [] sa sb sk (3 : Int32) _ cs h0 n0 Z0 O Scs hcs Es Fsc Fsv Vs) hZ (hw _ (List.mem_of_getElem? (i := 42) rfl)) (hw _ (List.mem_of_getElem? (i := 1) rfl)) (by decide) (by decide)) q44a q44c (g := (mkF m 8 #[.val (.ref sa), .val (.int (0 : Int32)), .val (.long q1), .second, .val (.int (2 : Int32)), .val (.int (x1 &&& (255 : Int32)))] [(.ref sa), (.int (2 : Int32))])) rfl (by rw [hml]; rfl) (Steps.refl _) (argsL := []) (rest := [(.int (2 : Int32))]) (lenOf pd5 rfl) rfl (by show 2 * 0 + _ ≤ _; exact Nat.le_of_eq rfl) (hb hby d7_8) (fun _ _ => ⟨rfl, e27, (by decide : 0 + 0 ≤ _), (by decide : 0 + 0 ≤ _)⟩)
  dsimp only [Pt.U, Pt.locs, Pt.cells, Pt.slots] at X44 l44 y44 z44 st44 hQ44
  subst l44 y44 z44
  obtain ⟨rfl, N44q, e44⟩ := hQ44
  have N44 := Fr.app N27 N44q
  have P45 := own_step (C := T44.setTop (mkF m 11 #[.val (.ref sa), .val (.int (0 : Int32)), .val (.long q1), .second, .val (.int (2 : Int32)), .val (.int (x1 &&& (255 : Int32)))] [(.int (3 : Int32)), (.int (2 : Int32))])) P43 (fun t_ k_ => st44.trans k_)
  have P46 := own_step (C := T44.setTop (mkF m 14 #[.val (.ref sa), .val (.int (0 : Int32)), .val (.long q1), .second, .val (.int (2 : Int32)), .val (.int (x1 &&& (255 : Int32)))] [])) P45 (by
    intro tt_ kk_
    refine XS.icmpNo X44.here hx rfl (hb hby d7_11) rfl (tlt (by decide : (2 : Int32) < (3 : Int32))).2.1 ?_
    exact kk_)
  have P47 := own_step (C := T44.setTop (mkF m 17 #[.val (.ref sa), .val (.int (0 : Int32)), .val (.long q1), .second, .val (.int (2 : Int32)), .val (.int (x1 &&& (255 : Int32)))] [(.int (2 : Int32)), (.ref sa)])) P46 (by
    intro tt_ kk_
    refine XS.aloadN X44.here hx rfl (hb hby d7_14) rfl rfl ?_
    show Steps p.tables e below (T44.setTop (mkF m 15 #[.val (.ref sa), .val (.int (0 : Int32)), .val (.long q1), .second, .val (.int (2 : Int32)), .val (.int (x1 &&& (255 : Int32)))] [(.ref sa)])) _
    refine XS.iload X44.here hx rfl (hb hby d7_15) rfl ?_
    exact kk_)
  obtain ⟨cq48, kq48, q48a, q48b, q48c⟩ := isOf hZ e44 Es
  obtain ⟨_, _, ⟨T48, L48, k48, n48⟩, -, X48, ⟨Lc48, hQ48, l48, y48, z48⟩, st48⟩ := X44.virtualBack hx (y := (⟨"java/lang/String", "charAt", "(I)C"⟩ : MethodName)) (z := (⟨"java/lang/String", "charAt", "(I)C"⟩ : MethodName)) hown (mvT hZ (hw _ (List.mem_of_getElem? (i := 85) rfl))) (mvT hZ (hw _ (List.mem_of_getElem? (i := 86) rfl))) (notFace_of_selects (args := #[]) (mvT hZ (hw _ (List.mem_of_getElem? (i := 88) rfl)))) (mvT hZ (hw _ (List.mem_of_getElem? (i := 88) rfl))) (mvT hZ (hw _ (List.mem_of_getElem? (i := 87) rfl))) (by decide) (backOf (W := 0) (rm_charAt l Z a0 hw [] sa sb sk (3 : Int32) _ (2 : Int32) x2 fm cs h0 n0 Z0 O Scs hcs Es Fsc Fsv Vs Sfm hfm (by decide : ¬ (2 : Int32) < (0 : Int32) ∧ (2 : Int32) < (3 : Int32)) rfl) hZ (hw _ (List.mem_of_getElem? (i := 89) rfl)) (hw _ (List.mem_of_getElem? (i := 1) rfl)) (by decide) (by decide)) q48a q48c (g := (mkF m 17 #[.val (.ref sa), .val (.int (0 : Int32)), .val (.long q1), .second, .val (.int (2 : Int32)), .val (.int (x1 &&& (255 : Int32)))] [(.int (2 : Int32)), (.ref sa)])) rfl (by rw [hml]; rfl) (Steps.refl _) (argsL := [(.int (2 : Int32))]) (rest := []) (lenOf pd6 rfl) rfl (by show 2 * 0 + _ ≤ _; exact Nat.le_of_eq rfl) (hb hby d7_17) (fun _ _ => ⟨rfl, e44, (by decide : 0 + 0 ≤ _), (by decide : 0 + 0 ≤ _)⟩)
  dsimp only [Pt.U, Pt.locs, Pt.cells, Pt.slots] at X48 l48 y48 z48 st48 hQ48
  subst l48 y48 z48
  obtain ⟨rfl, N48q, e48⟩ := hQ48
  have N48 := Fr.app N44 N48q
  have P49 := own_step (C := T48.setTop (mkF m 20 #[.val (.ref sa), .val (.int (0 : Int32)), .val (.long q1), .second, .val (.int (2 : Int32)), .val (.int (x1 &&& (255 : Int32)))] [(.int (x2 &&& (255 : Int32)))])) P47 (fun t_ k_ => st48.trans k_)
  have P50 := own_step (C := T48.setTop (mkF m 27 #[.val (.ref sa), .val (.int (0 : Int32)), .val (.long q1), .second, .val (.int (2 : Int32)), .val (.int (x2 &&& (255 : Int32)))] [(.int (128 : Int32)), (.int (x2 &&& (255 : Int32)))])) P49 (by
    intro tt_ kk_
    refine XS.istore X48.here hx rfl (hb hby d7_20) rfl (l' := #[.val (.ref sa), .val (.int (0 : Int32)), .val (.long q1), .second, .val (.int (2 : Int32)), .val (.int (x2 &&& (255 : Int32)))]) rfl ?_
    show Steps p.tables e below (T48.setTop (mkF m 22 #[.val (.ref sa), .val (.int (0 : Int32)), .val (.long q1), .second, .val (.int (2 : Int32)), .val (.int (x2 &&& (255 : Int32)))] [])) _
    refine XS.iload X48.here hx rfl (hb hby d7_22) rfl ?_
    show Steps p.tables e below (T48.setTop (mkF m 24 #[.val (.ref sa), .val (.int (0 : Int32)), .val (.long q1), .second, .val (.int (2 : Int32)), .val (.int (x2 &&& (255 : Int32)))] [(.int (x2 &&& (255 : Int32)))])) _
    refine XS.sipush X48.here hx rfl (hb hby d7_24) ?_
    exact kk_)
  have P51 := own_step (C := T48.setTop (mkF m 45 #[.val (.ref sa), .val (.int (0 : Int32)), .val (.long q1), .second, .val (.int (2 : Int32)), .val (.int (x2 &&& (255 : Int32)))] [])) P50 (by
    intro tt_ kk_
    refine XS.icmpYes X48.here hx rfl (pc0 := 27) (pc' := 45) rfl (hb hby d7_27) rfl (tlt hx2).1 (by decide) (by decide) ?_
    exact kk_)
  obtain ⟨q2, hv52, J52⟩ : ∃ (q2 : Int64), (((x2 &&& (255 : Int32)) < (0 : Int32) ∧ q2 = q1) ∨ (¬ ((x2 &&& (255 : Int32)) < (0 : Int32)) ∧ (x2 &&& (255 : Int32)) < (64 : Int32) ∧ q2 = (q1 ||| ((1 : Int64) <<< ((x2 &&& (255 : Int32)) &&& 0x3f).toInt64))) ∨ (¬ ((x2 &&& (255 : Int32)) < (0 : Int32)) ∧ ¬ ((x2 &&& (255 : Int32)) < (64 : Int32)) ∧ q2 = q1)) ∧ own_Go p e below (T48.setTop (mkF m 45 #[.val (.ref sa), .val (.int (0 : Int32)), .val (.long q1), .second, .val (.int (2 : Int32)), .val (.int (x2 &&& (255 : Int32)))] [])) (T48.setTop (mkF m 67 #[.val (.ref sa), .val (.int (0 : Int32)), .val (.long q2), .second, .val (.int (2 : Int32)), .val (.int (x2 &&& (255 : Int32)))] [])) := by
    have P53 : own_Go p e below (T48.setTop (mkF m 45 #[.val (.ref sa), .val (.int (0 : Int32)), .val (.long q1), .second, .val (.int (2 : Int32)), .val (.int (x2 &&& (255 : Int32)))] [])) (T48.setTop (mkF m 45 #[.val (.ref sa), .val (.int (0 : Int32)), .val (.long q1), .second, .val (.int (2 : Int32)), .val (.int (x2 &&& (255 : Int32)))] [])) := fun t_ k_ => k_
    have P54 := own_step (C := T48.setTop (mkF m 48 #[.val (.ref sa), .val (.int (0 : Int32)), .val (.long q1), .second, .val (.int (2 : Int32)), .val (.int (x2 &&& (255 : Int32)))] [(.int (0 : Int32)), (.int (x2 &&& (255 : Int32)))])) P53 (by
      intro tt_ kk_
      refine XS.iload X48.here hx rfl (hb hby d7_45) rfl ?_
      show Steps p.tables e below (T48.setTop (mkF m 47 #[.val (.ref sa), .val (.int (0 : Int32)), .val (.long q1), .second, .val (.int (2 : Int32)), .val (.int (x2 &&& (255 : Int32)))] [(.int (x2 &&& (255 : Int32)))])) _
      refine XS.iloadN X48.here hx rfl (hb hby d7_47) rfl ?_
      exact kk_)
    by_cases c55 : (x2 &&& (255 : Int32)) < (0 : Int32)
    · have P56 := own_step (C := T48.setTop (mkF m 67 #[.val (.ref sa), .val (.int (0 : Int32)), .val (.long q1), .second, .val (.int (2 : Int32)), .val (.int (x2 &&& (255 : Int32)))] [])) P54 (by
        intro tt_ kk_
        refine XS.icmpYes X48.here hx rfl (pc0 := 48) (pc' := 67) rfl (hb hby d7_48) rfl (tlt c55).1 (by decide) (by decide) ?_
        exact kk_)
      exact ⟨q1, Or.inl ⟨c55, rfl⟩, P56⟩
    · have P57 := own_step (C := T48.setTop (mkF m 51 #[.val (.ref sa), .val (.int (0 : Int32)), .val (.long q1), .second, .val (.int (2 : Int32)), .val (.int (x2 &&& (255 : Int32)))] [])) P54 (by
        intro tt_ kk_
        refine XS.icmpNo X48.here hx rfl (hb hby d7_48) rfl (flt c55).1 ?_
        exact kk_)
      have P58 := own_step (C := T48.setTop (mkF m 57 #[.val (.ref sa), .val (.int (0 : Int32)), .val (.long q1), .second, .val (.int (2 : Int32)), .val (.int (x2 &&& (255 : Int32)))] [(.int (64 : Int32)), (.int (x2 &&& (255 : Int32)))])) P57 (by
        intro tt_ kk_
        refine XS.iload X48.here hx rfl (hb hby d7_51) rfl ?_
        show Steps p.tables e below (T48.setTop (mkF m 53 #[.val (.ref sa), .val (.int (0 : Int32)), .val (.long q1), .second, .val (.int (2 : Int32)), .val (.int (x2 &&& (255 : Int32)))] [(.int (x2 &&& (255 : Int32)))])) _
        refine XS.iloadN X48.here hx rfl (hb hby d7_53) rfl ?_
        show Steps p.tables e below (T48.setTop (mkF m 54 #[.val (.ref sa), .val (.int (0 : Int32)), .val (.long q1), .second, .val (.int (2 : Int32)), .val (.int (x2 &&& (255 : Int32)))] [(.int (0 : Int32)), (.int (x2 &&& (255 : Int32)))])) _
        refine XS.bipush X48.here hx rfl (hb hby d7_54) ?_
        show Steps p.tables e below (T48.setTop (mkF m 56 #[.val (.ref sa), .val (.int (0 : Int32)), .val (.long q1), .second, .val (.int (2 : Int32)), .val (.int (x2 &&& (255 : Int32)))] [(.int (64 : Int32)), (.int (0 : Int32)), (.int (x2 &&& (255 : Int32)))])) _
        refine XS.iadd X48.here hx rfl (hb hby d7_56) rfl ?_
        exact kk_)
      by_cases c59 : (x2 &&& (255 : Int32)) < (64 : Int32)
      · have P60 := own_step (C := T48.setTop (mkF m 60 #[.val (.ref sa), .val (.int (0 : Int32)), .val (.long q1), .second, .val (.int (2 : Int32)), .val (.int (x2 &&& (255 : Int32)))] [])) P58 (by
          intro tt_ kk_
          refine XS.icmpNo X48.here hx rfl (hb hby d7_57) rfl (tlt c59).2.1 ?_
          exact kk_)
        have P61 := own_step (C := T48.setTop (mkF m 67 #[.val (.ref sa), .val (.int (0 : Int32)), .val (.long (q1 ||| ((1 : Int64) <<< ((x2 &&& (255 : Int32)) &&& 0x3f).toInt64))), .second, .val (.int (2 : Int32)), .val (.int (x2 &&& (255 : Int32)))] [])) P60 (by
          intro tt_ kk_
          refine XS.lloadN X48.here hx rfl (hb hby d7_60) rfl ?_
          show Steps p.tables e below (T48.setTop (mkF m 61 #[.val (.ref sa), .val (.int (0 : Int32)), .val (.long q1), .second, .val (.int (2 : Int32)), .val (.int (x2 &&& (255 : Int32)))] [(.long q1)])) _
          refine XS.lconst X48.here hx rfl (hb hby d7_61) ?_
          show Steps p.tables e below (T48.setTop (mkF m 62 #[.val (.ref sa), .val (.int (0 : Int32)), .val (.long q1), .second, .val (.int (2 : Int32)), .val (.int (x2 &&& (255 : Int32)))] [(.long (1 : Int64)), (.long q1)])) _
          refine XS.iload X48.here hx rfl (hb hby d7_62) rfl ?_
          show Steps p.tables e below (T48.setTop (mkF m 64 #[.val (.ref sa), .val (.int (0 : Int32)), .val (.long q1), .second, .val (.int (2 : Int32)), .val (.int (x2 &&& (255 : Int32)))] [(.int (x2 &&& (255 : Int32))), (.long (1 : Int64)), (.long q1)])) _
          refine XS.lshl X48.here hx rfl (hb hby d7_64) rfl ?_
          show Steps p.tables e below (T48.setTop (mkF m 65 #[.val (.ref sa), .val (.int (0 : Int32)), .val (.long q1), .second, .val (.int (2 : Int32)), .val (.int (x2 &&& (255 : Int32)))] [(.long ((1 : Int64) <<< ((x2 &&& (255 : Int32)) &&& 0x3f).toInt64)), (.long q1)])) _
          refine XS.lor X48.here hx rfl (hb hby d7_65) rfl ?_
          show Steps p.tables e below (T48.setTop (mkF m 66 #[.val (.ref sa), .val (.int (0 : Int32)), .val (.long q1), .second, .val (.int (2 : Int32)), .val (.int (x2 &&& (255 : Int32)))] [(.long (q1 ||| ((1 : Int64) <<< ((x2 &&& (255 : Int32)) &&& 0x3f).toInt64)))])) _
          refine XS.lstoreN X48.here hx rfl (hb hby d7_66) rfl (l' := #[.val (.ref sa), .val (.int (0 : Int32)), .val (.long (q1 ||| ((1 : Int64) <<< ((x2 &&& (255 : Int32)) &&& 0x3f).toInt64))), .second, .val (.int (2 : Int32)), .val (.int (x2 &&& (255 : Int32)))]) rfl ?_
          exact kk_)
        exact ⟨(q1 ||| ((1 : Int64) <<< ((x2 &&& (255 : Int32)) &&& 0x3f).toInt64)), Or.inr (Or.inl ⟨c55, c59, rfl⟩), P61⟩
      · have P62 := own_step (C := T48.setTop (mkF m 67 #[.val (.ref sa), .val (.int (0 : Int32)), .val (.long q1), .second, .val (.int (2 : Int32)), .val (.int (x2 &&& (255 : Int32)))] [])) P58 (by
          intro tt_ kk_
          refine XS.icmpYes X48.here hx rfl (pc0 := 57) (pc' := 67) rfl (hb hby d7_57) rfl (flt c59).2.1 (by decide) (by decide) ?_
          exact kk_)
        exact ⟨q1, Or.inr (Or.inr (⟨c55, c59, rfl⟩)), P62⟩
  have P63 := own_step P51 J52
  have P64 := own_step (C := T48.setTop (mkF m 8 #[.val (.ref sa), .val (.int (0 : Int32)), .val (.long q2), .second, .val (.int (3 : Int32)), .val (.int (x2 &&& (255 : Int32)))] [(.ref sa), (.int (3 : Int32))])) P63 (by
    intro tt_ kk_
    refine XS.iinc X48.here hx rfl (hb hby d7_67) rfl (l' := #[.val (.ref sa), .val (.int (0 : Int32)), .val (.long q2), .second, .val (.int (3 : Int32)), .val (.int (x2 &&& (255 : Int32)))]) rfl ?_
    show Steps p.tables e below (T48.setTop (mkF m 70 #[.val (.ref sa), .val (.int (0 : Int32)), .val (.long q2), .second, .val (.int (3 : Int32)), .val (.int (x2 &&& (255 : Int32)))] [])) _
    refine XS.goto X48.here hx rfl (pc0 := 70) (pc' := 5) rfl (hb hby d7_70) (by decide) (by decide) ?_
    show Steps p.tables e below (T48.setTop (mkF m 5 #[.val (.ref sa), .val (.int (0 : Int32)), .val (.long q2), .second, .val (.int (3 : Int32)), .val (.int (x2 &&& (255 : Int32)))] [])) _
    refine XS.iload X48.here hx rfl (hb hby d7_5) rfl ?_
    show Steps p.tables e below (T48.setTop (mkF m 7 #[.val (.ref sa), .val (.int (0 : Int32)), .val (.long q2), .second, .val (.int (3 : Int32)), .val (.int (x2 &&& (255 : Int32)))] [(.int (3 : Int32))])) _
    refine XS.aloadN X48.here hx rfl (hb hby d7_7) rfl rfl ?_
    exact kk_)
  obtain ⟨cq65, kq65, q65a, q65b, q65c⟩ := isOf hZ e48 Es
  obtain ⟨_, _, ⟨T65, L65, k65, n65⟩, -, X65, ⟨Lc65, hQ65, l65, y65, z65⟩, st65⟩ := X48.virtualBack hx (y := (⟨"java/lang/String", "length", "()I"⟩ : MethodName)) (z := (⟨"java/lang/String", "length", "()I"⟩ : MethodName)) hown (mvT hZ (hw _ (List.mem_of_getElem? (i := 38) rfl))) (mvT hZ (hw _ (List.mem_of_getElem? (i := 39) rfl))) (notFace_of_selects (args := #[]) (mvT hZ (hw _ (List.mem_of_getElem? (i := 41) rfl)))) (mvT hZ (hw _ (List.mem_of_getElem? (i := 41) rfl))) (mvT hZ (hw _ (List.mem_of_getElem? (i := 40) rfl))) (by decide) (backOf (W := 1) (rm_length l Z a0 hw [] sa sb sk (3 : Int32) _ cs h0 n0 Z0 O Scs hcs Es Fsc Fsv Vs) hZ (hw _ (List.mem_of_getElem? (i := 42) rfl)) (hw _ (List.mem_of_getElem? (i := 1) rfl)) (by decide) (by decide)) q65a q65c (g := (mkF m 8 #[.val (.ref sa), .val (.int (0 : Int32)), .val (.long q2), .second, .val (.int (3 : Int32)), .val (.int (x2 &&& (255 : Int32)))] [(.ref sa), (.int (3 : Int32))])) rfl (by rw [hml]; rfl) (Steps.refl _) (argsL := []) (rest := [(.int (3 : Int32))]) (lenOf pd5 rfl) rfl (by show 2 * 0 + _ ≤ _; exact Nat.le_of_eq rfl) (hb hby d7_8) (fun _ _ => ⟨rfl, e48, (by decide : 0 + 0 ≤ _), (by decide : 0 + 0 ≤ _)⟩)
  dsimp only [Pt.U, Pt.locs, Pt.cells, Pt.slots] at X65 l65 y65 z65 st65 hQ65
  subst l65 y65 z65
  obtain ⟨rfl, N65q, e65⟩ := hQ65
  have N65 := Fr.app N48 N65q
  have P66 := own_step (C := T65.setTop (mkF m 11 #[.val (.ref sa), .val (.int (0 : Int32)), .val (.long q2), .second, .val (.int (3 : Int32)), .val (.int (x2 &&& (255 : Int32)))] [(.int (3 : Int32)), (.int (3 : Int32))])) P64 (fun t_ k_ => st65.trans k_)
  have P67 := own_step (C := T65.setTop (mkF m 73 #[.val (.ref sa), .val (.int (0 : Int32)), .val (.long q2), .second, .val (.int (3 : Int32)), .val (.int (x2 &&& (255 : Int32)))] [])) P66 (by
    intro tt_ kk_
    refine XS.icmpYes X65.here hx rfl (pc0 := 11) (pc' := 73) rfl (hb hby d7_11) rfl (flt (by decide : ¬ ((3 : Int32) < (3 : Int32)))).2.1 (by decide) (by decide) ?_
    exact kk_)
  have P68 := own_step (C := T65.setTop (mkF m 74 #[.val (.ref sa), .val (.int (0 : Int32)), .val (.long q2), .second, .val (.int (3 : Int32)), .val (.int (x2 &&& (255 : Int32)))] [(.long q2)])) P67 (by
    intro tt_ kk_
    refine XS.lloadN X65.here hx rfl (hb hby d7_73) rfl ?_
    exact kk_)
  obtain ⟨fs, hr, hrun, hended, hW, hsame⟩ := X65.leave (v := some (.long q2)) (fun h => by rw [Bd.returns] at h; cases h)
  refine ⟨_, _, P68 _ ?_, hrun, hended, _, _, rfl, ?_, ⟨_, rfl⟩, hW, hsame.mono (by decide) (by decide)⟩
  · jvm_step X65.here [X65.here.top, hx, (hb hby d7_74), X65.method', Bd.returns, narrow]
    first | (intro acts; rw [hr _ acts rfl rfl rfl]) | rw [hr _ _ rfl rfl rfl]
    exact Steps.refl _
  · show Q_bits3_0 Z _ _ _ _ _ _ _ _ h0 n0 _ T65.heap _
    rw [e65]
    exact ⟨by rw [own_bitE hv52, own_bitE hv31, own_bitE hv10], N65, rfl⟩
theorem ef__bits3_64 (m : MethodId) (x0 : Addr) (x1 : Int32) : entryFrame m #[(.ref x0), (.int x1)] 6 = mkF m 0 #[.val (.ref x0), .val (.int x1), .unset, .unset, .unset, .unset] [] := by first | (simp [entryFrame, mkF, argsToLocals, Value.category]; done) | rfl
def Q_bits3_64 (Z : State) (sa : Addr) (sb : Addr) (sk : ClassId) (x0 : Int32) (x1 : Int32) (x2 : Int32) (fm : Value) (cs : Int32) (h0 : Heap) (n0 : Nat) (v_ : Option Value) (h : Heap) (L_ : List Loc) : Prop := v_ = some (.long (own_bit (64 : Int32) (128 : Int32) (x2 &&& (255 : Int32)) (own_bit (64 : Int32) (128 : Int32) (x1 &&& (255 : Int32)) (own_bit (64 : Int32) (128 : Int32) (x0 &&& (255 : Int32)) (0 : Int64))))) ∧ Fr n0 L_ ∧ h = h0
set_option maxRecDepth 65536 in
set_option maxHeartbeats 40000000 in
theorem rm_bits3_64 (l : Launch) (Z : State) (a0 : Array Value) (hw : ∀ d ∈ tables_1, d.before a0 Z = true) (ws : List Jvm.Cond) (sa : Addr) (sb : Addr) (sk : ClassId) (x0 : Int32) (x1 : Int32) (x2 : Int32) (fm : Value) (cs : Int32) (h0 : Heap) (n0 : Nat) (Z0 : n0 ≤ h0.size) (O : Old Z n0 h0) (Scs : Sta Z Z.heap "java/lang/String" "COMPACT_STRINGS" "Z" (.int cs)) (hcs : ¬ (cs = (0 : Int32))) (Sfm : Sta Z Z.heap "jdk/internal/util/Preconditions" "SIOOBE_FORMATTER" "Ljava/util/function/BiFunction;" fm) (hfm : fm.category = 1) (Es : Exa Z h0 sa "java/lang/String") (Fsc : Fld Z h0 sa "java/lang/String" "coder" "B" (.int (0 : Int32))) (Fsv : Fld Z h0 sa "java/lang/String" "value" "[B" (.ref sb)) (Vs : Arv Z h0 sb sk .byte (3 : Int32) [(.int x0), (.int x1), (.int x2)] (.int 0)) (hx0 : (x0 &&& (255 : Int32)) < (128 : Int32)) (hx1 : (x1 &&& (255 : Int32)) < (128 : Int32)) (hx2 : (x2 &&& (255 : Int32)) < (128 : Int32)) :
    MetFree l (⟨"com/example/gatehouse/gatehouse/pattern/NameShape", "bits", "(Ljava/lang/String;I)J"⟩ : MethodName) (head1 (Jvm.Cond.code (⟨"com/example/gatehouse/gatehouse/pattern/NameShape", "bits", "(Ljava/lang/String;I)J"⟩ : MethodName) prog_36_method_3_code 6 (some .long) :: ws) ({ frames := 4, cells := 0, slots := 0, locals := 53 } : Room)) (fun a_ U_ => a_ = #[(.ref sa), (.int (64 : Int32))] ∧ Z.Warmed39 U_.vm ∧ U_.heap = h0) (fun _ _ _ _ _ => True) (fun _ U_ o_ V_ => ∃ v_ L_, o_ = .returned v_ ∧ Q_bits3_64 Z sa sb sk x0 x1 x2 fm cs h0 n0 v_ V_.heap L_ ∧ FrameEnd U_ o_ V_ L_ ({ frames := 4, cells := 0, slots := 0, locals := 53 } : Room).cells ({ frames := 4, cells := 0, slots := 0, locals := 53 } : Room).slots) := by
  refine MetFree.of_bodySF (plainFor_of_name pn3) hisR ?_
  intro p e s m args below meth c s₁ Bd hml0 hP hK
  obtain ⟨rfl, hZ, hh⟩ := hP
  have hx := Bd.exec
  have hby := Bd.bytes
  have hml : c.maxLocals = 6 := hml0
  have hown : s.vm.findClass "com/example/gatehouse/gatehouse/pattern/NameShape" = some m.cls := findClass_of_methodNamed Bd.named
  have hnm := (name_of_methodNamed Bd.named Bd.method).1
  have X0 : Stand p l e ({ frames := 4, cells := 0, slots := 0, locals := 53 } : Room) s m #[(.ref sa), (.int (64 : Int32))] below meth c s₁ [] 0 0 := Stand.of_body Bd
  have e0 : s₁.heap = h0 := by rw [← hh, Bd.state]; rfl
  have N0 := Fr.nil n0
  have pre0 : own_Go p e below (s₁.setTop (entryFrame m #[(.ref sa), (.int (64 : Int32))] 6)) (s₁.setTop (mkF m 0 #[.val (.ref sa), .val (.int (64 : Int32)), .unset, .unset, .unset, .unset] [])) := fun t_ k_ => castTop (ef__bits3_64 m sa (64 : Int32)) k_
  have P1 := own_step (C := s₁.setTop (mkF m 8 #[.val (.ref sa), .val (.int (64 : Int32)), .val (.long (0 : Int64)), .second, .val (.int (0 : Int32)), .unset] [(.ref sa), (.int (0 : Int32))])) pre0 (by
    intro tt_ kk_
    refine XS.lconst X0.here hx rfl (hb hby d7_0) ?_
    show Steps p.tables e below (s₁.setTop (mkF m 1 #[.val (.ref sa), .val (.int (64 : Int32)), .unset, .unset, .unset, .unset] [(.long (0 : Int64))])) _
    refine XS.lstoreN X0.here hx rfl (hb hby d7_1) rfl (l' := #[.val (.ref sa), .val (.int (64 : Int32)), .val (.long (0 : Int64)), .second, .unset, .unset]) rfl ?_
    show Steps p.tables e below (s₁.setTop (mkF m 2 #[.val (.ref sa), .val (.int (64 : Int32)), .val (.long (0 : Int64)), .second, .unset, .unset] [])) _
    refine XS.iconst X0.here hx rfl (hb hby d7_2) ?_
    show Steps p.tables e below (s₁.setTop (mkF m 3 #[.val (.ref sa), .val (.int (64 : Int32)), .val (.long (0 : Int64)), .second, .unset, .unset] [(.int (0 : Int32))])) _
    refine XS.istore X0.here hx rfl (hb hby d7_3) rfl (l' := #[.val (.ref sa), .val (.int (64 : Int32)), .val (.long (0 : Int64)), .second, .val (.int (0 : Int32)), .unset]) rfl ?_
    show Steps p.tables e below (s₁.setTop (mkF m 5 #[.val (.ref sa), .val (.int (64 : Int32)), .val (.long (0 : Int64)), .second, .val (.int (0 : Int32)), .unset] [])) _
    refine XS.iload X0.here hx rfl (hb hby d7_5) rfl ?_
    show Steps p.tables e below (s₁.setTop (mkF m 7 #[.val (.ref sa), .val (.int (64 : Int32)), .val (.long (0 : Int64)), .second, .val (.int (0 : Int32)), .unset] [(.int (0 : Int32))])) _
    refine XS.aloadN X0.here hx rfl (hb hby d7_7) rfl rfl ?_
    exact kk_)
  obtain ⟨cq2, kq2, q2a, q2b, q2c⟩ := isOf hZ e0 Es
  obtain ⟨_, _, ⟨T2, L2, k2, n2⟩, -, X2, ⟨Lc2, hQ2, l2, y2, z2⟩, st2⟩ := X0.virtualBack hx (y := (⟨"java/lang/String", "length", "()I"⟩ : MethodName)) (z := (⟨"java/lang/String", "length", "()I"⟩ : MethodName)) hown (mvT hZ (hw _ (List.mem_of_getElem? (i := 38) rfl))) (mvT hZ (hw _ (List.mem_of_getElem? (i := 39) rfl))) (notFace_of_selects (args := #[]) (mvT hZ (hw _ (List.mem_of_getElem? (i := 41) rfl)))) (mvT hZ (hw _ (List.mem_of_getElem? (i := 41) rfl))) (mvT hZ (hw _ (List.mem_of_getElem? (i := 40) rfl))) (by decide) (backOf (W := 1) (rm_length l Z a0 hw [] sa sb sk (3 : Int32) _ cs h0 n0 Z0 O Scs hcs Es Fsc Fsv Vs) hZ (hw _ (List.mem_of_getElem? (i := 42) rfl)) (hw _ (List.mem_of_getElem? (i := 1) rfl)) (by decide) (by decide)) q2a q2c (g := (mkF m 8 #[.val (.ref sa), .val (.int (64 : Int32)), .val (.long (0 : Int64)), .second, .val (.int (0 : Int32)), .unset] [(.ref sa), (.int (0 : Int32))])) rfl (by rw [hml]; rfl) (Steps.refl _) (argsL := []) (rest := [(.int (0 : Int32))]) (lenOf pd5 rfl) rfl (by show 2 * 0 + _ ≤ _; exact Nat.le_of_eq rfl) (hb hby d7_8) (fun _ _ => ⟨rfl, e0, (by decide : 0 + 0 ≤ _), (by decide : 0 + 0 ≤ _)⟩)
  dsimp only [Pt.U, Pt.locs, Pt.cells, Pt.slots] at X2 l2 y2 z2 st2 hQ2
  subst l2 y2 z2
  obtain ⟨rfl, N2q, e2⟩ := hQ2
  have N2 := Fr.app N0 N2q
  have P3 := own_step (C := T2.setTop (mkF m 11 #[.val (.ref sa), .val (.int (64 : Int32)), .val (.long (0 : Int64)), .second, .val (.int (0 : Int32)), .unset] [(.int (3 : Int32)), (.int (0 : Int32))])) P1 (fun t_ k_ => st2.trans k_)
  have P4 := own_step (C := T2.setTop (mkF m 14 #[.val (.ref sa), .val (.int (64 : Int32)), .val (.long (0 : Int64)), .second, .val (.int (0 : Int32)), .unset] [])) P3 (by
    intro tt_ kk_
    refine XS.icmpNo X2.here hx rfl (hb hby d7_11) rfl (tlt (by decide : (0 : Int32) < (3 : Int32))).2.1 ?_
    exact kk_)
  have P5 := own_step (C := T2.setTop (mkF m 17 #[.val (.ref sa), .val (.int (64 : Int32)), .val (.long (0 : Int64)), .second, .val (.int (0 : Int32)), .unset] [(.int (0 : Int32)), (.ref sa)])) P4 (by
    intro tt_ kk_
    refine XS.aloadN X2.here hx rfl (hb hby d7_14) rfl rfl ?_
    show Steps p.tables e below (T2.setTop (mkF m 15 #[.val (.ref sa), .val (.int (64 : Int32)), .val (.long (0 : Int64)), .second, .val (.int (0 : Int32)), .unset] [(.ref sa)])) _
    refine XS.iload X2.here hx rfl (hb hby d7_15) rfl ?_
    exact kk_)
  obtain ⟨cq6, kq6, q6a, q6b, q6c⟩ := isOf hZ e2 Es
  obtain ⟨_, _, ⟨T6, L6, k6, n6⟩, -, X6, ⟨Lc6, hQ6, l6, y6, z6⟩, st6⟩ := X2.virtualBack hx (y := (⟨"java/lang/String", "charAt", "(I)C"⟩ : MethodName)) (z := (⟨"java/lang/String", "charAt", "(I)C"⟩ : MethodName)) hown (mvT hZ (hw _ (List.mem_of_getElem? (i := 85) rfl))) (mvT hZ (hw _ (List.mem_of_getElem? (i := 86) rfl))) (notFace_of_selects (args := #[]) (mvT hZ (hw _ (List.mem_of_getElem? (i := 88) rfl)))) (mvT hZ (hw _ (List.mem_of_getElem? (i := 88) rfl))) (mvT hZ (hw _ (List.mem_of_getElem? (i := 87) rfl))) (by decide) (backOf (W := 0) (rm_charAt l Z a0 hw [] sa sb sk (3 : Int32) _ (0 : Int32) x0 fm cs h0 n0 Z0 O Scs hcs Es Fsc Fsv Vs Sfm hfm (by decide : ¬ (0 : Int32) < (0 : Int32) ∧ (0 : Int32) < (3 : Int32)) rfl) hZ (hw _ (List.mem_of_getElem? (i := 89) rfl)) (hw _ (List.mem_of_getElem? (i := 1) rfl)) (by decide) (by decide)) q6a q6c (g := (mkF m 17 #[.val (.ref sa), .val (.int (64 : Int32)), .val (.long (0 : Int64)), .second, .val (.int (0 : Int32)), .unset] [(.int (0 : Int32)), (.ref sa)])) rfl (by rw [hml]; rfl) (Steps.refl _) (argsL := [(.int (0 : Int32))]) (rest := []) (lenOf pd6 rfl) rfl (by show 2 * 0 + _ ≤ _; exact Nat.le_of_eq rfl) (hb hby d7_17) (fun _ _ => ⟨rfl, e2, (by decide : 0 + 0 ≤ _), (by decide : 0 + 0 ≤ _)⟩)
  dsimp only [Pt.U, Pt.locs, Pt.cells, Pt.slots] at X6 l6 y6 z6 st6 hQ6
  subst l6 y6 z6
  obtain ⟨rfl, N6q, e6⟩ := hQ6
  have N6 := Fr.app N2 N6q
  have P7 := own_step (C := T6.setTop (mkF m 20 #[.val (.ref sa), .val (.int (64 : Int32)), .val (.long (0 : Int64)), .second, .val (.int (0 : Int32)), .unset] [(.int (x0 &&& (255 : Int32)))])) P5 (fun t_ k_ => st6.trans k_)
  have P8 := own_step (C := T6.setTop (mkF m 27 #[.val (.ref sa), .val (.int (64 : Int32)), .val (.long (0 : Int64)), .second, .val (.int (0 : Int32)), .val (.int (x0 &&& (255 : Int32)))] [(.int (128 : Int32)), (.int (x0 &&& (255 : Int32)))])) P7 (by
    intro tt_ kk_
    refine XS.istore X6.here hx rfl (hb hby d7_20) rfl (l' := #[.val (.ref sa), .val (.int (64 : Int32)), .val (.long (0 : Int64)), .second, .val (.int (0 : Int32)), .val (.int (x0 &&& (255 : Int32)))]) rfl ?_
    show Steps p.tables e below (T6.setTop (mkF m 22 #[.val (.ref sa), .val (.int (64 : Int32)), .val (.long (0 : Int64)), .second, .val (.int (0 : Int32)), .val (.int (x0 &&& (255 : Int32)))] [])) _
    refine XS.iload X6.here hx rfl (hb hby d7_22) rfl ?_
    show Steps p.tables e below (T6.setTop (mkF m 24 #[.val (.ref sa), .val (.int (64 : Int32)), .val (.long (0 : Int64)), .second, .val (.int (0 : Int32)), .val (.int (x0 &&& (255 : Int32)))] [(.int (x0 &&& (255 : Int32)))])) _
    refine XS.sipush X6.here hx rfl (hb hby d7_24) ?_
    exact kk_)
  have P9 := own_step (C := T6.setTop (mkF m 45 #[.val (.ref sa), .val (.int (64 : Int32)), .val (.long (0 : Int64)), .second, .val (.int (0 : Int32)), .val (.int (x0 &&& (255 : Int32)))] [])) P8 (by
    intro tt_ kk_
    refine XS.icmpYes X6.here hx rfl (pc0 := 27) (pc' := 45) rfl (hb hby d7_27) rfl (tlt hx0).1 (by decide) (by decide) ?_
    exact kk_)
  obtain ⟨q0, hv10, J10⟩ : ∃ (q0 : Int64), (((x0 &&& (255 : Int32)) < (64 : Int32) ∧ q0 = (0 : Int64)) ∨ (¬ ((x0 &&& (255 : Int32)) < (64 : Int32)) ∧ (x0 &&& (255 : Int32)) < (128 : Int32) ∧ q0 = ((0 : Int64) ||| ((1 : Int64) <<< ((x0 &&& (255 : Int32)) &&& 0x3f).toInt64))) ∨ (¬ ((x0 &&& (255 : Int32)) < (64 : Int32)) ∧ ¬ ((x0 &&& (255 : Int32)) < (128 : Int32)) ∧ q0 = (0 : Int64))) ∧ own_Go p e below (T6.setTop (mkF m 45 #[.val (.ref sa), .val (.int (64 : Int32)), .val (.long (0 : Int64)), .second, .val (.int (0 : Int32)), .val (.int (x0 &&& (255 : Int32)))] [])) (T6.setTop (mkF m 67 #[.val (.ref sa), .val (.int (64 : Int32)), .val (.long q0), .second, .val (.int (0 : Int32)), .val (.int (x0 &&& (255 : Int32)))] [])) := by
    have P11 : own_Go p e below (T6.setTop (mkF m 45 #[.val (.ref sa), .val (.int (64 : Int32)), .val (.long (0 : Int64)), .second, .val (.int (0 : Int32)), .val (.int (x0 &&& (255 : Int32)))] [])) (T6.setTop (mkF m 45 #[.val (.ref sa), .val (.int (64 : Int32)), .val (.long (0 : Int64)), .second, .val (.int (0 : Int32)), .val (.int (x0 &&& (255 : Int32)))] [])) := fun t_ k_ => k_
    have P12 := own_step (C := T6.setTop (mkF m 48 #[.val (.ref sa), .val (.int (64 : Int32)), .val (.long (0 : Int64)), .second, .val (.int (0 : Int32)), .val (.int (x0 &&& (255 : Int32)))] [(.int (64 : Int32)), (.int (x0 &&& (255 : Int32)))])) P11 (by
      intro tt_ kk_
      refine XS.iload X6.here hx rfl (hb hby d7_45) rfl ?_
      show Steps p.tables e below (T6.setTop (mkF m 47 #[.val (.ref sa), .val (.int (64 : Int32)), .val (.long (0 : Int64)), .second, .val (.int (0 : Int32)), .val (.int (x0 &&& (255 : Int32)))] [(.int (x0 &&& (255 : Int32)))])) _
      refine XS.iloadN X6.here hx rfl (hb hby d7_47) rfl ?_
      exact kk_)
    by_cases c13 : (x0 &&& (255 : Int32)) < (64 : Int32)
    · have P14 := own_step (C := T6.setTop (mkF m 67 #[.val (.ref sa), .val (.int (64 : Int32)), .val (.long (0 : Int64)), .second, .val (.int (0 : Int32)), .val (.int (x0 &&& (255 : Int32)))] [])) P12 (by
        intro tt_ kk_
        refine XS.icmpYes X6.here hx rfl (pc0 := 48) (pc' := 67) rfl (hb hby d7_48) rfl (tlt c13).1 (by decide) (by decide) ?_
        exact kk_)
      exact ⟨(0 : Int64), Or.inl ⟨c13, rfl⟩, P14⟩
    · have P15 := own_step (C := T6.setTop (mkF m 51 #[.val (.ref sa), .val (.int (64 : Int32)), .val (.long (0 : Int64)), .second, .val (.int (0 : Int32)), .val (.int (x0 &&& (255 : Int32)))] [])) P12 (by
        intro tt_ kk_
        refine XS.icmpNo X6.here hx rfl (hb hby d7_48) rfl (flt c13).1 ?_
        exact kk_)
      have P16 := own_step (C := T6.setTop (mkF m 57 #[.val (.ref sa), .val (.int (64 : Int32)), .val (.long (0 : Int64)), .second, .val (.int (0 : Int32)), .val (.int (x0 &&& (255 : Int32)))] [(.int (128 : Int32)), (.int (x0 &&& (255 : Int32)))])) P15 (by
        intro tt_ kk_
        refine XS.iload X6.here hx rfl (hb hby d7_51) rfl ?_
        show Steps p.tables e below (T6.setTop (mkF m 53 #[.val (.ref sa), .val (.int (64 : Int32)), .val (.long (0 : Int64)), .second, .val (.int (0 : Int32)), .val (.int (x0 &&& (255 : Int32)))] [(.int (x0 &&& (255 : Int32)))])) _
        refine XS.iloadN X6.here hx rfl (hb hby d7_53) rfl ?_
        show Steps p.tables e below (T6.setTop (mkF m 54 #[.val (.ref sa), .val (.int (64 : Int32)), .val (.long (0 : Int64)), .second, .val (.int (0 : Int32)), .val (.int (x0 &&& (255 : Int32)))] [(.int (64 : Int32)), (.int (x0 &&& (255 : Int32)))])) _
        refine XS.bipush X6.here hx rfl (hb hby d7_54) ?_
        show Steps p.tables e below (T6.setTop (mkF m 56 #[.val (.ref sa), .val (.int (64 : Int32)), .val (.long (0 : Int64)), .second, .val (.int (0 : Int32)), .val (.int (x0 &&& (255 : Int32)))] [(.int (64 : Int32)), (.int (64 : Int32)), (.int (x0 &&& (255 : Int32)))])) _
        refine XS.iadd X6.here hx rfl (hb hby d7_56) rfl ?_
        exact kk_)
      by_cases c17 : (x0 &&& (255 : Int32)) < (128 : Int32)
      · have P18 := own_step (C := T6.setTop (mkF m 60 #[.val (.ref sa), .val (.int (64 : Int32)), .val (.long (0 : Int64)), .second, .val (.int (0 : Int32)), .val (.int (x0 &&& (255 : Int32)))] [])) P16 (by
          intro tt_ kk_
          refine XS.icmpNo X6.here hx rfl (hb hby d7_57) rfl (tlt c17).2.1 ?_
          exact kk_)
        have P19 := own_step (C := T6.setTop (mkF m 67 #[.val (.ref sa), .val (.int (64 : Int32)), .val (.long ((0 : Int64) ||| ((1 : Int64) <<< ((x0 &&& (255 : Int32)) &&& 0x3f).toInt64))), .second, .val (.int (0 : Int32)), .val (.int (x0 &&& (255 : Int32)))] [])) P18 (by
          intro tt_ kk_
          refine XS.lloadN X6.here hx rfl (hb hby d7_60) rfl ?_
          show Steps p.tables e below (T6.setTop (mkF m 61 #[.val (.ref sa), .val (.int (64 : Int32)), .val (.long (0 : Int64)), .second, .val (.int (0 : Int32)), .val (.int (x0 &&& (255 : Int32)))] [(.long (0 : Int64))])) _
          refine XS.lconst X6.here hx rfl (hb hby d7_61) ?_
          show Steps p.tables e below (T6.setTop (mkF m 62 #[.val (.ref sa), .val (.int (64 : Int32)), .val (.long (0 : Int64)), .second, .val (.int (0 : Int32)), .val (.int (x0 &&& (255 : Int32)))] [(.long (1 : Int64)), (.long (0 : Int64))])) _
          refine XS.iload X6.here hx rfl (hb hby d7_62) rfl ?_
          show Steps p.tables e below (T6.setTop (mkF m 64 #[.val (.ref sa), .val (.int (64 : Int32)), .val (.long (0 : Int64)), .second, .val (.int (0 : Int32)), .val (.int (x0 &&& (255 : Int32)))] [(.int (x0 &&& (255 : Int32))), (.long (1 : Int64)), (.long (0 : Int64))])) _
          refine XS.lshl X6.here hx rfl (hb hby d7_64) rfl ?_
          show Steps p.tables e below (T6.setTop (mkF m 65 #[.val (.ref sa), .val (.int (64 : Int32)), .val (.long (0 : Int64)), .second, .val (.int (0 : Int32)), .val (.int (x0 &&& (255 : Int32)))] [(.long ((1 : Int64) <<< ((x0 &&& (255 : Int32)) &&& 0x3f).toInt64)), (.long (0 : Int64))])) _
          refine XS.lor X6.here hx rfl (hb hby d7_65) rfl ?_
          show Steps p.tables e below (T6.setTop (mkF m 66 #[.val (.ref sa), .val (.int (64 : Int32)), .val (.long (0 : Int64)), .second, .val (.int (0 : Int32)), .val (.int (x0 &&& (255 : Int32)))] [(.long ((0 : Int64) ||| ((1 : Int64) <<< ((x0 &&& (255 : Int32)) &&& 0x3f).toInt64)))])) _
          refine XS.lstoreN X6.here hx rfl (hb hby d7_66) rfl (l' := #[.val (.ref sa), .val (.int (64 : Int32)), .val (.long ((0 : Int64) ||| ((1 : Int64) <<< ((x0 &&& (255 : Int32)) &&& 0x3f).toInt64))), .second, .val (.int (0 : Int32)), .val (.int (x0 &&& (255 : Int32)))]) rfl ?_
          exact kk_)
        exact ⟨((0 : Int64) ||| ((1 : Int64) <<< ((x0 &&& (255 : Int32)) &&& 0x3f).toInt64)), Or.inr (Or.inl ⟨c13, c17, rfl⟩), P19⟩
      · have P20 := own_step (C := T6.setTop (mkF m 67 #[.val (.ref sa), .val (.int (64 : Int32)), .val (.long (0 : Int64)), .second, .val (.int (0 : Int32)), .val (.int (x0 &&& (255 : Int32)))] [])) P16 (by
          intro tt_ kk_
          refine XS.icmpYes X6.here hx rfl (pc0 := 57) (pc' := 67) rfl (hb hby d7_57) rfl (flt c17).2.1 (by decide) (by decide) ?_
          exact kk_)
        exact ⟨(0 : Int64), Or.inr (Or.inr (⟨c13, c17, rfl⟩)), P20⟩
  have P21 := own_step P9 J10
  have P22 := own_step (C := T6.setTop (mkF m 8 #[.val (.ref sa), .val (.int (64 : Int32)), .val (.long q0), .second, .val (.int (1 : Int32)), .val (.int (x0 &&& (255 : Int32)))] [(.ref sa), (.int (1 : Int32))])) P21 (by
    intro tt_ kk_
    refine XS.iinc X6.here hx rfl (hb hby d7_67) rfl (l' := #[.val (.ref sa), .val (.int (64 : Int32)), .val (.long q0), .second, .val (.int (1 : Int32)), .val (.int (x0 &&& (255 : Int32)))]) rfl ?_
    show Steps p.tables e below (T6.setTop (mkF m 70 #[.val (.ref sa), .val (.int (64 : Int32)), .val (.long q0), .second, .val (.int (1 : Int32)), .val (.int (x0 &&& (255 : Int32)))] [])) _
    refine XS.goto X6.here hx rfl (pc0 := 70) (pc' := 5) rfl (hb hby d7_70) (by decide) (by decide) ?_
    show Steps p.tables e below (T6.setTop (mkF m 5 #[.val (.ref sa), .val (.int (64 : Int32)), .val (.long q0), .second, .val (.int (1 : Int32)), .val (.int (x0 &&& (255 : Int32)))] [])) _
    refine XS.iload X6.here hx rfl (hb hby d7_5) rfl ?_
    show Steps p.tables e below (T6.setTop (mkF m 7 #[.val (.ref sa), .val (.int (64 : Int32)), .val (.long q0), .second, .val (.int (1 : Int32)), .val (.int (x0 &&& (255 : Int32)))] [(.int (1 : Int32))])) _
    refine XS.aloadN X6.here hx rfl (hb hby d7_7) rfl rfl ?_
    exact kk_)
  obtain ⟨cq23, kq23, q23a, q23b, q23c⟩ := isOf hZ e6 Es
  obtain ⟨_, _, ⟨T23, L23, k23, n23⟩, -, X23, ⟨Lc23, hQ23, l23, y23, z23⟩, st23⟩ := X6.virtualBack hx (y := (⟨"java/lang/String", "length", "()I"⟩ : MethodName)) (z := (⟨"java/lang/String", "length", "()I"⟩ : MethodName)) hown (mvT hZ (hw _ (List.mem_of_getElem? (i := 38) rfl))) (mvT hZ (hw _ (List.mem_of_getElem? (i := 39) rfl))) (notFace_of_selects (args := #[]) (mvT hZ (hw _ (List.mem_of_getElem? (i := 41) rfl)))) (mvT hZ (hw _ (List.mem_of_getElem? (i := 41) rfl))) (mvT hZ (hw _ (List.mem_of_getElem? (i := 40) rfl))) (by decide) (backOf (W := 1) (rm_length l Z a0 hw [] sa sb sk (3 : Int32) _ cs h0 n0 Z0 O Scs hcs Es Fsc Fsv Vs) hZ (hw _ (List.mem_of_getElem? (i := 42) rfl)) (hw _ (List.mem_of_getElem? (i := 1) rfl)) (by decide) (by decide)) q23a q23c (g := (mkF m 8 #[.val (.ref sa), .val (.int (64 : Int32)), .val (.long q0), .second, .val (.int (1 : Int32)), .val (.int (x0 &&& (255 : Int32)))] [(.ref sa), (.int (1 : Int32))])) rfl (by rw [hml]; rfl) (Steps.refl _) (argsL := []) (rest := [(.int (1 : Int32))]) (lenOf pd5 rfl) rfl (by show 2 * 0 + _ ≤ _; exact Nat.le_of_eq rfl) (hb hby d7_8) (fun _ _ => ⟨rfl, e6, (by decide : 0 + 0 ≤ _), (by decide : 0 + 0 ≤ _)⟩)
  dsimp only [Pt.U, Pt.locs, Pt.cells, Pt.slots] at X23 l23 y23 z23 st23 hQ23
  subst l23 y23 z23
  obtain ⟨rfl, N23q, e23⟩ := hQ23
  have N23 := Fr.app N6 N23q
  have P24 := own_step (C := T23.setTop (mkF m 11 #[.val (.ref sa), .val (.int (64 : Int32)), .val (.long q0), .second, .val (.int (1 : Int32)), .val (.int (x0 &&& (255 : Int32)))] [(.int (3 : Int32)), (.int (1 : Int32))])) P22 (fun t_ k_ => st23.trans k_)
  have P25 := own_step (C := T23.setTop (mkF m 14 #[.val (.ref sa), .val (.int (64 : Int32)), .val (.long q0), .second, .val (.int (1 : Int32)), .val (.int (x0 &&& (255 : Int32)))] [])) P24 (by
    intro tt_ kk_
    refine XS.icmpNo X23.here hx rfl (hb hby d7_11) rfl (tlt (by decide : (1 : Int32) < (3 : Int32))).2.1 ?_
    exact kk_)
  have P26 := own_step (C := T23.setTop (mkF m 17 #[.val (.ref sa), .val (.int (64 : Int32)), .val (.long q0), .second, .val (.int (1 : Int32)), .val (.int (x0 &&& (255 : Int32)))] [(.int (1 : Int32)), (.ref sa)])) P25 (by
    intro tt_ kk_
    refine XS.aloadN X23.here hx rfl (hb hby d7_14) rfl rfl ?_
    show Steps p.tables e below (T23.setTop (mkF m 15 #[.val (.ref sa), .val (.int (64 : Int32)), .val (.long q0), .second, .val (.int (1 : Int32)), .val (.int (x0 &&& (255 : Int32)))] [(.ref sa)])) _
    refine XS.iload X23.here hx rfl (hb hby d7_15) rfl ?_
    exact kk_)
  obtain ⟨cq27, kq27, q27a, q27b, q27c⟩ := isOf hZ e23 Es
  obtain ⟨_, _, ⟨T27, L27, k27, n27⟩, -, X27, ⟨Lc27, hQ27, l27, y27, z27⟩, st27⟩ := X23.virtualBack hx (y := (⟨"java/lang/String", "charAt", "(I)C"⟩ : MethodName)) (z := (⟨"java/lang/String", "charAt", "(I)C"⟩ : MethodName)) hown (mvT hZ (hw _ (List.mem_of_getElem? (i := 85) rfl))) (mvT hZ (hw _ (List.mem_of_getElem? (i := 86) rfl))) (notFace_of_selects (args := #[]) (mvT hZ (hw _ (List.mem_of_getElem? (i := 88) rfl)))) (mvT hZ (hw _ (List.mem_of_getElem? (i := 88) rfl))) (mvT hZ (hw _ (List.mem_of_getElem? (i := 87) rfl))) (by decide) (backOf (W := 0) (rm_charAt l Z a0 hw [] sa sb sk (3 : Int32) _ (1 : Int32) x1 fm cs h0 n0 Z0 O Scs hcs Es Fsc Fsv Vs Sfm hfm (by decide : ¬ (1 : Int32) < (0 : Int32) ∧ (1 : Int32) < (3 : Int32)) rfl) hZ (hw _ (List.mem_of_getElem? (i := 89) rfl)) (hw _ (List.mem_of_getElem? (i := 1) rfl)) (by decide) (by decide)) q27a q27c (g := (mkF m 17 #[.val (.ref sa), .val (.int (64 : Int32)), .val (.long q0), .second, .val (.int (1 : Int32)), .val (.int (x0 &&& (255 : Int32)))] [(.int (1 : Int32)), (.ref sa)])) rfl (by rw [hml]; rfl) (Steps.refl _) (argsL := [(.int (1 : Int32))]) (rest := []) (lenOf pd6 rfl) rfl (by show 2 * 0 + _ ≤ _; exact Nat.le_of_eq rfl) (hb hby d7_17) (fun _ _ => ⟨rfl, e23, (by decide : 0 + 0 ≤ _), (by decide : 0 + 0 ≤ _)⟩)
  dsimp only [Pt.U, Pt.locs, Pt.cells, Pt.slots] at X27 l27 y27 z27 st27 hQ27
  subst l27 y27 z27
  obtain ⟨rfl, N27q, e27⟩ := hQ27
  have N27 := Fr.app N23 N27q
  have P28 := own_step (C := T27.setTop (mkF m 20 #[.val (.ref sa), .val (.int (64 : Int32)), .val (.long q0), .second, .val (.int (1 : Int32)), .val (.int (x0 &&& (255 : Int32)))] [(.int (x1 &&& (255 : Int32)))])) P26 (fun t_ k_ => st27.trans k_)
  have P29 := own_step (C := T27.setTop (mkF m 27 #[.val (.ref sa), .val (.int (64 : Int32)), .val (.long q0), .second, .val (.int (1 : Int32)), .val (.int (x1 &&& (255 : Int32)))] [(.int (128 : Int32)), (.int (x1 &&& (255 : Int32)))])) P28 (by
    intro tt_ kk_
    refine XS.istore X27.here hx rfl (hb hby d7_20) rfl (l' := #[.val (.ref sa), .val (.int (64 : Int32)), .val (.long q0), .second, .val (.int (1 : Int32)), .val (.int (x1 &&& (255 : Int32)))]) rfl ?_
    show Steps p.tables e below (T27.setTop (mkF m 22 #[.val (.ref sa), .val (.int (64 : Int32)), .val (.long q0), .second, .val (.int (1 : Int32)), .val (.int (x1 &&& (255 : Int32)))] [])) _
    refine XS.iload X27.here hx rfl (hb hby d7_22) rfl ?_
    show Steps p.tables e below (T27.setTop (mkF m 24 #[.val (.ref sa), .val (.int (64 : Int32)), .val (.long q0), .second, .val (.int (1 : Int32)), .val (.int (x1 &&& (255 : Int32)))] [(.int (x1 &&& (255 : Int32)))])) _
    refine XS.sipush X27.here hx rfl (hb hby d7_24) ?_
    exact kk_)
  have P30 := own_step (C := T27.setTop (mkF m 45 #[.val (.ref sa), .val (.int (64 : Int32)), .val (.long q0), .second, .val (.int (1 : Int32)), .val (.int (x1 &&& (255 : Int32)))] [])) P29 (by
    intro tt_ kk_
    refine XS.icmpYes X27.here hx rfl (pc0 := 27) (pc' := 45) rfl (hb hby d7_27) rfl (tlt hx1).1 (by decide) (by decide) ?_
    exact kk_)
  obtain ⟨q1, hv31, J31⟩ : ∃ (q1 : Int64), (((x1 &&& (255 : Int32)) < (64 : Int32) ∧ q1 = q0) ∨ (¬ ((x1 &&& (255 : Int32)) < (64 : Int32)) ∧ (x1 &&& (255 : Int32)) < (128 : Int32) ∧ q1 = (q0 ||| ((1 : Int64) <<< ((x1 &&& (255 : Int32)) &&& 0x3f).toInt64))) ∨ (¬ ((x1 &&& (255 : Int32)) < (64 : Int32)) ∧ ¬ ((x1 &&& (255 : Int32)) < (128 : Int32)) ∧ q1 = q0)) ∧ own_Go p e below (T27.setTop (mkF m 45 #[.val (.ref sa), .val (.int (64 : Int32)), .val (.long q0), .second, .val (.int (1 : Int32)), .val (.int (x1 &&& (255 : Int32)))] [])) (T27.setTop (mkF m 67 #[.val (.ref sa), .val (.int (64 : Int32)), .val (.long q1), .second, .val (.int (1 : Int32)), .val (.int (x1 &&& (255 : Int32)))] [])) := by
    have P32 : own_Go p e below (T27.setTop (mkF m 45 #[.val (.ref sa), .val (.int (64 : Int32)), .val (.long q0), .second, .val (.int (1 : Int32)), .val (.int (x1 &&& (255 : Int32)))] [])) (T27.setTop (mkF m 45 #[.val (.ref sa), .val (.int (64 : Int32)), .val (.long q0), .second, .val (.int (1 : Int32)), .val (.int (x1 &&& (255 : Int32)))] [])) := fun t_ k_ => k_
    have P33 := own_step (C := T27.setTop (mkF m 48 #[.val (.ref sa), .val (.int (64 : Int32)), .val (.long q0), .second, .val (.int (1 : Int32)), .val (.int (x1 &&& (255 : Int32)))] [(.int (64 : Int32)), (.int (x1 &&& (255 : Int32)))])) P32 (by
      intro tt_ kk_
      refine XS.iload X27.here hx rfl (hb hby d7_45) rfl ?_
      show Steps p.tables e below (T27.setTop (mkF m 47 #[.val (.ref sa), .val (.int (64 : Int32)), .val (.long q0), .second, .val (.int (1 : Int32)), .val (.int (x1 &&& (255 : Int32)))] [(.int (x1 &&& (255 : Int32)))])) _
      refine XS.iloadN X27.here hx rfl (hb hby d7_47) rfl ?_
      exact kk_)
    by_cases c34 : (x1 &&& (255 : Int32)) < (64 : Int32)
    · have P35 := own_step (C := T27.setTop (mkF m 67 #[.val (.ref sa), .val (.int (64 : Int32)), .val (.long q0), .second, .val (.int (1 : Int32)), .val (.int (x1 &&& (255 : Int32)))] [])) P33 (by
        intro tt_ kk_
        refine XS.icmpYes X27.here hx rfl (pc0 := 48) (pc' := 67) rfl (hb hby d7_48) rfl (tlt c34).1 (by decide) (by decide) ?_
        exact kk_)
      exact ⟨q0, Or.inl ⟨c34, rfl⟩, P35⟩
    · have P36 := own_step (C := T27.setTop (mkF m 51 #[.val (.ref sa), .val (.int (64 : Int32)), .val (.long q0), .second, .val (.int (1 : Int32)), .val (.int (x1 &&& (255 : Int32)))] [])) P33 (by
        intro tt_ kk_
        refine XS.icmpNo X27.here hx rfl (hb hby d7_48) rfl (flt c34).1 ?_
        exact kk_)
      have P37 := own_step (C := T27.setTop (mkF m 57 #[.val (.ref sa), .val (.int (64 : Int32)), .val (.long q0), .second, .val (.int (1 : Int32)), .val (.int (x1 &&& (255 : Int32)))] [(.int (128 : Int32)), (.int (x1 &&& (255 : Int32)))])) P36 (by
        intro tt_ kk_
        refine XS.iload X27.here hx rfl (hb hby d7_51) rfl ?_
        show Steps p.tables e below (T27.setTop (mkF m 53 #[.val (.ref sa), .val (.int (64 : Int32)), .val (.long q0), .second, .val (.int (1 : Int32)), .val (.int (x1 &&& (255 : Int32)))] [(.int (x1 &&& (255 : Int32)))])) _
        refine XS.iloadN X27.here hx rfl (hb hby d7_53) rfl ?_
        show Steps p.tables e below (T27.setTop (mkF m 54 #[.val (.ref sa), .val (.int (64 : Int32)), .val (.long q0), .second, .val (.int (1 : Int32)), .val (.int (x1 &&& (255 : Int32)))] [(.int (64 : Int32)), (.int (x1 &&& (255 : Int32)))])) _
        refine XS.bipush X27.here hx rfl (hb hby d7_54) ?_
        show Steps p.tables e below (T27.setTop (mkF m 56 #[.val (.ref sa), .val (.int (64 : Int32)), .val (.long q0), .second, .val (.int (1 : Int32)), .val (.int (x1 &&& (255 : Int32)))] [(.int (64 : Int32)), (.int (64 : Int32)), (.int (x1 &&& (255 : Int32)))])) _
        refine XS.iadd X27.here hx rfl (hb hby d7_56) rfl ?_
        exact kk_)
      by_cases c38 : (x1 &&& (255 : Int32)) < (128 : Int32)
      · have P39 := own_step (C := T27.setTop (mkF m 60 #[.val (.ref sa), .val (.int (64 : Int32)), .val (.long q0), .second, .val (.int (1 : Int32)), .val (.int (x1 &&& (255 : Int32)))] [])) P37 (by
          intro tt_ kk_
          refine XS.icmpNo X27.here hx rfl (hb hby d7_57) rfl (tlt c38).2.1 ?_
          exact kk_)
        have P40 := own_step (C := T27.setTop (mkF m 67 #[.val (.ref sa), .val (.int (64 : Int32)), .val (.long (q0 ||| ((1 : Int64) <<< ((x1 &&& (255 : Int32)) &&& 0x3f).toInt64))), .second, .val (.int (1 : Int32)), .val (.int (x1 &&& (255 : Int32)))] [])) P39 (by
          intro tt_ kk_
          refine XS.lloadN X27.here hx rfl (hb hby d7_60) rfl ?_
          show Steps p.tables e below (T27.setTop (mkF m 61 #[.val (.ref sa), .val (.int (64 : Int32)), .val (.long q0), .second, .val (.int (1 : Int32)), .val (.int (x1 &&& (255 : Int32)))] [(.long q0)])) _
          refine XS.lconst X27.here hx rfl (hb hby d7_61) ?_
          show Steps p.tables e below (T27.setTop (mkF m 62 #[.val (.ref sa), .val (.int (64 : Int32)), .val (.long q0), .second, .val (.int (1 : Int32)), .val (.int (x1 &&& (255 : Int32)))] [(.long (1 : Int64)), (.long q0)])) _
          refine XS.iload X27.here hx rfl (hb hby d7_62) rfl ?_
          show Steps p.tables e below (T27.setTop (mkF m 64 #[.val (.ref sa), .val (.int (64 : Int32)), .val (.long q0), .second, .val (.int (1 : Int32)), .val (.int (x1 &&& (255 : Int32)))] [(.int (x1 &&& (255 : Int32))), (.long (1 : Int64)), (.long q0)])) _
          refine XS.lshl X27.here hx rfl (hb hby d7_64) rfl ?_
          show Steps p.tables e below (T27.setTop (mkF m 65 #[.val (.ref sa), .val (.int (64 : Int32)), .val (.long q0), .second, .val (.int (1 : Int32)), .val (.int (x1 &&& (255 : Int32)))] [(.long ((1 : Int64) <<< ((x1 &&& (255 : Int32)) &&& 0x3f).toInt64)), (.long q0)])) _
          refine XS.lor X27.here hx rfl (hb hby d7_65) rfl ?_
          show Steps p.tables e below (T27.setTop (mkF m 66 #[.val (.ref sa), .val (.int (64 : Int32)), .val (.long q0), .second, .val (.int (1 : Int32)), .val (.int (x1 &&& (255 : Int32)))] [(.long (q0 ||| ((1 : Int64) <<< ((x1 &&& (255 : Int32)) &&& 0x3f).toInt64)))])) _
          refine XS.lstoreN X27.here hx rfl (hb hby d7_66) rfl (l' := #[.val (.ref sa), .val (.int (64 : Int32)), .val (.long (q0 ||| ((1 : Int64) <<< ((x1 &&& (255 : Int32)) &&& 0x3f).toInt64))), .second, .val (.int (1 : Int32)), .val (.int (x1 &&& (255 : Int32)))]) rfl ?_
          exact kk_)
        exact ⟨(q0 ||| ((1 : Int64) <<< ((x1 &&& (255 : Int32)) &&& 0x3f).toInt64)), Or.inr (Or.inl ⟨c34, c38, rfl⟩), P40⟩
      · have P41 := own_step (C := T27.setTop (mkF m 67 #[.val (.ref sa), .val (.int (64 : Int32)), .val (.long q0), .second, .val (.int (1 : Int32)), .val (.int (x1 &&& (255 : Int32)))] [])) P37 (by
          intro tt_ kk_
          refine XS.icmpYes X27.here hx rfl (pc0 := 57) (pc' := 67) rfl (hb hby d7_57) rfl (flt c38).2.1 (by decide) (by decide) ?_
          exact kk_)
        exact ⟨q0, Or.inr (Or.inr (⟨c34, c38, rfl⟩)), P41⟩
  have P42 := own_step P30 J31
  have P43 := own_step (C := T27.setTop (mkF m 8 #[.val (.ref sa), .val (.int (64 : Int32)), .val (.long q1), .second, .val (.int (2 : Int32)), .val (.int (x1 &&& (255 : Int32)))] [(.ref sa), (.int (2 : Int32))])) P42 (by
    intro tt_ kk_
    refine XS.iinc X27.here hx rfl (hb hby d7_67) rfl (l' := #[.val (.ref sa), .val (.int (64 : Int32)), .val (.long q1), .second, .val (.int (2 : Int32)), .val (.int (x1 &&& (255 : Int32)))]) rfl ?_
    show Steps p.tables e below (T27.setTop (mkF m 70 #[.val (.ref sa), .val (.int (64 : Int32)), .val (.long q1), .second, .val (.int (2 : Int32)), .val (.int (x1 &&& (255 : Int32)))] [])) _
    refine XS.goto X27.here hx rfl (pc0 := 70) (pc' := 5) rfl (hb hby d7_70) (by decide) (by decide) ?_
    show Steps p.tables e below (T27.setTop (mkF m 5 #[.val (.ref sa), .val (.int (64 : Int32)), .val (.long q1), .second, .val (.int (2 : Int32)), .val (.int (x1 &&& (255 : Int32)))] [])) _
    refine XS.iload X27.here hx rfl (hb hby d7_5) rfl ?_
    show Steps p.tables e below (T27.setTop (mkF m 7 #[.val (.ref sa), .val (.int (64 : Int32)), .val (.long q1), .second, .val (.int (2 : Int32)), .val (.int (x1 &&& (255 : Int32)))] [(.int (2 : Int32))])) _
    refine XS.aloadN X27.here hx rfl (hb hby d7_7) rfl rfl ?_
    exact kk_)
  obtain ⟨cq44, kq44, q44a, q44b, q44c⟩ := isOf hZ e27 Es
  obtain ⟨_, _, ⟨T44, L44, k44, n44⟩, -, X44, ⟨Lc44, hQ44, l44, y44, z44⟩, st44⟩ := X27.virtualBack hx (y := (⟨"java/lang/String", "length", "()I"⟩ : MethodName)) (z := (⟨"java/lang/String", "length", "()I"⟩ : MethodName)) hown (mvT hZ (hw _ (List.mem_of_getElem? (i := 38) rfl))) (mvT hZ (hw _ (List.mem_of_getElem? (i := 39) rfl))) (notFace_of_selects (args := #[]) (mvT hZ (hw _ (List.mem_of_getElem? (i := 41) rfl)))) (mvT hZ (hw _ (List.mem_of_getElem? (i := 41) rfl))) (mvT hZ (hw _ (List.mem_of_getElem? (i := 40) rfl))) (by decide) (backOf (W := 1) (rm_length l Z a0 hw [] sa sb sk (3 : Int32) _ cs h0 n0 Z0 O Scs hcs Es Fsc Fsv Vs) hZ (hw _ (List.mem_of_getElem? (i := 42) rfl)) (hw _ (List.mem_of_getElem? (i := 1) rfl)) (by decide) (by decide)) q44a q44c (g := (mkF m 8 #[.val (.ref sa), .val (.int (64 : Int32)), .val (.long q1), .second, .val (.int (2 : Int32)), .val (.int (x1 &&& (255 : Int32)))] [(.ref sa), (.int (2 : Int32))])) rfl (by rw [hml]; rfl) (Steps.refl _) (argsL := []) (rest := [(.int (2 : Int32))]) (lenOf pd5 rfl) rfl (by show 2 * 0 + _ ≤ _; exact Nat.le_of_eq rfl) (hb hby d7_8) (fun _ _ => ⟨rfl, e27, (by decide : 0 + 0 ≤ _), (by decide : 0 + 0 ≤ _)⟩)
  dsimp only [Pt.U, Pt.locs, Pt.cells, Pt.slots] at X44 l44 y44 z44 st44 hQ44
  subst l44 y44 z44
  obtain ⟨rfl, N44q, e44⟩ := hQ44
  have N44 := Fr.app N27 N44q
  have P45 := own_step (C := T44.setTop (mkF m 11 #[.val (.ref sa), .val (.int (64 : Int32)), .val (.long q1), .second, .val (.int (2 : Int32)), .val (.int (x1 &&& (255 : Int32)))] [(.int (3 : Int32)), (.int (2 : Int32))])) P43 (fun t_ k_ => st44.trans k_)
  have P46 := own_step (C := T44.setTop (mkF m 14 #[.val (.ref sa), .val (.int (64 : Int32)), .val (.long q1), .second, .val (.int (2 : Int32)), .val (.int (x1 &&& (255 : Int32)))] [])) P45 (by
    intro tt_ kk_
    refine XS.icmpNo X44.here hx rfl (hb hby d7_11) rfl (tlt (by decide : (2 : Int32) < (3 : Int32))).2.1 ?_
    exact kk_)
  have P47 := own_step (C := T44.setTop (mkF m 17 #[.val (.ref sa), .val (.int (64 : Int32)), .val (.long q1), .second, .val (.int (2 : Int32)), .val (.int (x1 &&& (255 : Int32)))] [(.int (2 : Int32)), (.ref sa)])) P46 (by
    intro tt_ kk_
    refine XS.aloadN X44.here hx rfl (hb hby d7_14) rfl rfl ?_
    show Steps p.tables e below (T44.setTop (mkF m 15 #[.val (.ref sa), .val (.int (64 : Int32)), .val (.long q1), .second, .val (.int (2 : Int32)), .val (.int (x1 &&& (255 : Int32)))] [(.ref sa)])) _
    refine XS.iload X44.here hx rfl (hb hby d7_15) rfl ?_
    exact kk_)
  obtain ⟨cq48, kq48, q48a, q48b, q48c⟩ := isOf hZ e44 Es
  obtain ⟨_, _, ⟨T48, L48, k48, n48⟩, -, X48, ⟨Lc48, hQ48, l48, y48, z48⟩, st48⟩ := X44.virtualBack hx (y := (⟨"java/lang/String", "charAt", "(I)C"⟩ : MethodName)) (z := (⟨"java/lang/String", "charAt", "(I)C"⟩ : MethodName)) hown (mvT hZ (hw _ (List.mem_of_getElem? (i := 85) rfl))) (mvT hZ (hw _ (List.mem_of_getElem? (i := 86) rfl))) (notFace_of_selects (args := #[]) (mvT hZ (hw _ (List.mem_of_getElem? (i := 88) rfl)))) (mvT hZ (hw _ (List.mem_of_getElem? (i := 88) rfl))) (mvT hZ (hw _ (List.mem_of_getElem? (i := 87) rfl))) (by decide) (backOf (W := 0) (rm_charAt l Z a0 hw [] sa sb sk (3 : Int32) _ (2 : Int32) x2 fm cs h0 n0 Z0 O Scs hcs Es Fsc Fsv Vs Sfm hfm (by decide : ¬ (2 : Int32) < (0 : Int32) ∧ (2 : Int32) < (3 : Int32)) rfl) hZ (hw _ (List.mem_of_getElem? (i := 89) rfl)) (hw _ (List.mem_of_getElem? (i := 1) rfl)) (by decide) (by decide)) q48a q48c (g := (mkF m 17 #[.val (.ref sa), .val (.int (64 : Int32)), .val (.long q1), .second, .val (.int (2 : Int32)), .val (.int (x1 &&& (255 : Int32)))] [(.int (2 : Int32)), (.ref sa)])) rfl (by rw [hml]; rfl) (Steps.refl _) (argsL := [(.int (2 : Int32))]) (rest := []) (lenOf pd6 rfl) rfl (by show 2 * 0 + _ ≤ _; exact Nat.le_of_eq rfl) (hb hby d7_17) (fun _ _ => ⟨rfl, e44, (by decide : 0 + 0 ≤ _), (by decide : 0 + 0 ≤ _)⟩)
  dsimp only [Pt.U, Pt.locs, Pt.cells, Pt.slots] at X48 l48 y48 z48 st48 hQ48
  subst l48 y48 z48
  obtain ⟨rfl, N48q, e48⟩ := hQ48
  have N48 := Fr.app N44 N48q
  have P49 := own_step (C := T48.setTop (mkF m 20 #[.val (.ref sa), .val (.int (64 : Int32)), .val (.long q1), .second, .val (.int (2 : Int32)), .val (.int (x1 &&& (255 : Int32)))] [(.int (x2 &&& (255 : Int32)))])) P47 (fun t_ k_ => st48.trans k_)
  have P50 := own_step (C := T48.setTop (mkF m 27 #[.val (.ref sa), .val (.int (64 : Int32)), .val (.long q1), .second, .val (.int (2 : Int32)), .val (.int (x2 &&& (255 : Int32)))] [(.int (128 : Int32)), (.int (x2 &&& (255 : Int32)))])) P49 (by
    intro tt_ kk_
    refine XS.istore X48.here hx rfl (hb hby d7_20) rfl (l' := #[.val (.ref sa), .val (.int (64 : Int32)), .val (.long q1), .second, .val (.int (2 : Int32)), .val (.int (x2 &&& (255 : Int32)))]) rfl ?_
    show Steps p.tables e below (T48.setTop (mkF m 22 #[.val (.ref sa), .val (.int (64 : Int32)), .val (.long q1), .second, .val (.int (2 : Int32)), .val (.int (x2 &&& (255 : Int32)))] [])) _
    refine XS.iload X48.here hx rfl (hb hby d7_22) rfl ?_
    show Steps p.tables e below (T48.setTop (mkF m 24 #[.val (.ref sa), .val (.int (64 : Int32)), .val (.long q1), .second, .val (.int (2 : Int32)), .val (.int (x2 &&& (255 : Int32)))] [(.int (x2 &&& (255 : Int32)))])) _
    refine XS.sipush X48.here hx rfl (hb hby d7_24) ?_
    exact kk_)
  have P51 := own_step (C := T48.setTop (mkF m 45 #[.val (.ref sa), .val (.int (64 : Int32)), .val (.long q1), .second, .val (.int (2 : Int32)), .val (.int (x2 &&& (255 : Int32)))] [])) P50 (by
    intro tt_ kk_
    refine XS.icmpYes X48.here hx rfl (pc0 := 27) (pc' := 45) rfl (hb hby d7_27) rfl (tlt hx2).1 (by decide) (by decide) ?_
    exact kk_)
  obtain ⟨q2, hv52, J52⟩ : ∃ (q2 : Int64), (((x2 &&& (255 : Int32)) < (64 : Int32) ∧ q2 = q1) ∨ (¬ ((x2 &&& (255 : Int32)) < (64 : Int32)) ∧ (x2 &&& (255 : Int32)) < (128 : Int32) ∧ q2 = (q1 ||| ((1 : Int64) <<< ((x2 &&& (255 : Int32)) &&& 0x3f).toInt64))) ∨ (¬ ((x2 &&& (255 : Int32)) < (64 : Int32)) ∧ ¬ ((x2 &&& (255 : Int32)) < (128 : Int32)) ∧ q2 = q1)) ∧ own_Go p e below (T48.setTop (mkF m 45 #[.val (.ref sa), .val (.int (64 : Int32)), .val (.long q1), .second, .val (.int (2 : Int32)), .val (.int (x2 &&& (255 : Int32)))] [])) (T48.setTop (mkF m 67 #[.val (.ref sa), .val (.int (64 : Int32)), .val (.long q2), .second, .val (.int (2 : Int32)), .val (.int (x2 &&& (255 : Int32)))] [])) := by
    have P53 : own_Go p e below (T48.setTop (mkF m 45 #[.val (.ref sa), .val (.int (64 : Int32)), .val (.long q1), .second, .val (.int (2 : Int32)), .val (.int (x2 &&& (255 : Int32)))] [])) (T48.setTop (mkF m 45 #[.val (.ref sa), .val (.int (64 : Int32)), .val (.long q1), .second, .val (.int (2 : Int32)), .val (.int (x2 &&& (255 : Int32)))] [])) := fun t_ k_ => k_
    have P54 := own_step (C := T48.setTop (mkF m 48 #[.val (.ref sa), .val (.int (64 : Int32)), .val (.long q1), .second, .val (.int (2 : Int32)), .val (.int (x2 &&& (255 : Int32)))] [(.int (64 : Int32)), (.int (x2 &&& (255 : Int32)))])) P53 (by
      intro tt_ kk_
      refine XS.iload X48.here hx rfl (hb hby d7_45) rfl ?_
      show Steps p.tables e below (T48.setTop (mkF m 47 #[.val (.ref sa), .val (.int (64 : Int32)), .val (.long q1), .second, .val (.int (2 : Int32)), .val (.int (x2 &&& (255 : Int32)))] [(.int (x2 &&& (255 : Int32)))])) _
      refine XS.iloadN X48.here hx rfl (hb hby d7_47) rfl ?_
      exact kk_)
    by_cases c55 : (x2 &&& (255 : Int32)) < (64 : Int32)
    · have P56 := own_step (C := T48.setTop (mkF m 67 #[.val (.ref sa), .val (.int (64 : Int32)), .val (.long q1), .second, .val (.int (2 : Int32)), .val (.int (x2 &&& (255 : Int32)))] [])) P54 (by
        intro tt_ kk_
        refine XS.icmpYes X48.here hx rfl (pc0 := 48) (pc' := 67) rfl (hb hby d7_48) rfl (tlt c55).1 (by decide) (by decide) ?_
        exact kk_)
      exact ⟨q1, Or.inl ⟨c55, rfl⟩, P56⟩
    · have P57 := own_step (C := T48.setTop (mkF m 51 #[.val (.ref sa), .val (.int (64 : Int32)), .val (.long q1), .second, .val (.int (2 : Int32)), .val (.int (x2 &&& (255 : Int32)))] [])) P54 (by
        intro tt_ kk_
        refine XS.icmpNo X48.here hx rfl (hb hby d7_48) rfl (flt c55).1 ?_
        exact kk_)
      have P58 := own_step (C := T48.setTop (mkF m 57 #[.val (.ref sa), .val (.int (64 : Int32)), .val (.long q1), .second, .val (.int (2 : Int32)), .val (.int (x2 &&& (255 : Int32)))] [(.int (128 : Int32)), (.int (x2 &&& (255 : Int32)))])) P57 (by
        intro tt_ kk_
        refine XS.iload X48.here hx rfl (hb hby d7_51) rfl ?_
        show Steps p.tables e below (T48.setTop (mkF m 53 #[.val (.ref sa), .val (.int (64 : Int32)), .val (.long q1), .second, .val (.int (2 : Int32)), .val (.int (x2 &&& (255 : Int32)))] [(.int (x2 &&& (255 : Int32)))])) _
        refine XS.iloadN X48.here hx rfl (hb hby d7_53) rfl ?_
        show Steps p.tables e below (T48.setTop (mkF m 54 #[.val (.ref sa), .val (.int (64 : Int32)), .val (.long q1), .second, .val (.int (2 : Int32)), .val (.int (x2 &&& (255 : Int32)))] [(.int (64 : Int32)), (.int (x2 &&& (255 : Int32)))])) _
        refine XS.bipush X48.here hx rfl (hb hby d7_54) ?_
        show Steps p.tables e below (T48.setTop (mkF m 56 #[.val (.ref sa), .val (.int (64 : Int32)), .val (.long q1), .second, .val (.int (2 : Int32)), .val (.int (x2 &&& (255 : Int32)))] [(.int (64 : Int32)), (.int (64 : Int32)), (.int (x2 &&& (255 : Int32)))])) _
        refine XS.iadd X48.here hx rfl (hb hby d7_56) rfl ?_
        exact kk_)
      by_cases c59 : (x2 &&& (255 : Int32)) < (128 : Int32)
      · have P60 := own_step (C := T48.setTop (mkF m 60 #[.val (.ref sa), .val (.int (64 : Int32)), .val (.long q1), .second, .val (.int (2 : Int32)), .val (.int (x2 &&& (255 : Int32)))] [])) P58 (by
          intro tt_ kk_
          refine XS.icmpNo X48.here hx rfl (hb hby d7_57) rfl (tlt c59).2.1 ?_
          exact kk_)
        have P61 := own_step (C := T48.setTop (mkF m 67 #[.val (.ref sa), .val (.int (64 : Int32)), .val (.long (q1 ||| ((1 : Int64) <<< ((x2 &&& (255 : Int32)) &&& 0x3f).toInt64))), .second, .val (.int (2 : Int32)), .val (.int (x2 &&& (255 : Int32)))] [])) P60 (by
          intro tt_ kk_
          refine XS.lloadN X48.here hx rfl (hb hby d7_60) rfl ?_
          show Steps p.tables e below (T48.setTop (mkF m 61 #[.val (.ref sa), .val (.int (64 : Int32)), .val (.long q1), .second, .val (.int (2 : Int32)), .val (.int (x2 &&& (255 : Int32)))] [(.long q1)])) _
          refine XS.lconst X48.here hx rfl (hb hby d7_61) ?_
          show Steps p.tables e below (T48.setTop (mkF m 62 #[.val (.ref sa), .val (.int (64 : Int32)), .val (.long q1), .second, .val (.int (2 : Int32)), .val (.int (x2 &&& (255 : Int32)))] [(.long (1 : Int64)), (.long q1)])) _
          refine XS.iload X48.here hx rfl (hb hby d7_62) rfl ?_
          show Steps p.tables e below (T48.setTop (mkF m 64 #[.val (.ref sa), .val (.int (64 : Int32)), .val (.long q1), .second, .val (.int (2 : Int32)), .val (.int (x2 &&& (255 : Int32)))] [(.int (x2 &&& (255 : Int32))), (.long (1 : Int64)), (.long q1)])) _
          refine XS.lshl X48.here hx rfl (hb hby d7_64) rfl ?_
          show Steps p.tables e below (T48.setTop (mkF m 65 #[.val (.ref sa), .val (.int (64 : Int32)), .val (.long q1), .second, .val (.int (2 : Int32)), .val (.int (x2 &&& (255 : Int32)))] [(.long ((1 : Int64) <<< ((x2 &&& (255 : Int32)) &&& 0x3f).toInt64)), (.long q1)])) _
          refine XS.lor X48.here hx rfl (hb hby d7_65) rfl ?_
          show Steps p.tables e below (T48.setTop (mkF m 66 #[.val (.ref sa), .val (.int (64 : Int32)), .val (.long q1), .second, .val (.int (2 : Int32)), .val (.int (x2 &&& (255 : Int32)))] [(.long (q1 ||| ((1 : Int64) <<< ((x2 &&& (255 : Int32)) &&& 0x3f).toInt64)))])) _
          refine XS.lstoreN X48.here hx rfl (hb hby d7_66) rfl (l' := #[.val (.ref sa), .val (.int (64 : Int32)), .val (.long (q1 ||| ((1 : Int64) <<< ((x2 &&& (255 : Int32)) &&& 0x3f).toInt64))), .second, .val (.int (2 : Int32)), .val (.int (x2 &&& (255 : Int32)))]) rfl ?_
          exact kk_)
        exact ⟨(q1 ||| ((1 : Int64) <<< ((x2 &&& (255 : Int32)) &&& 0x3f).toInt64)), Or.inr (Or.inl ⟨c55, c59, rfl⟩), P61⟩
      · have P62 := own_step (C := T48.setTop (mkF m 67 #[.val (.ref sa), .val (.int (64 : Int32)), .val (.long q1), .second, .val (.int (2 : Int32)), .val (.int (x2 &&& (255 : Int32)))] [])) P58 (by
          intro tt_ kk_
          refine XS.icmpYes X48.here hx rfl (pc0 := 57) (pc' := 67) rfl (hb hby d7_57) rfl (flt c59).2.1 (by decide) (by decide) ?_
          exact kk_)
        exact ⟨q1, Or.inr (Or.inr (⟨c55, c59, rfl⟩)), P62⟩
  have P63 := own_step P51 J52
  have P64 := own_step (C := T48.setTop (mkF m 8 #[.val (.ref sa), .val (.int (64 : Int32)), .val (.long q2), .second, .val (.int (3 : Int32)), .val (.int (x2 &&& (255 : Int32)))] [(.ref sa), (.int (3 : Int32))])) P63 (by
    intro tt_ kk_
    refine XS.iinc X48.here hx rfl (hb hby d7_67) rfl (l' := #[.val (.ref sa), .val (.int (64 : Int32)), .val (.long q2), .second, .val (.int (3 : Int32)), .val (.int (x2 &&& (255 : Int32)))]) rfl ?_
    show Steps p.tables e below (T48.setTop (mkF m 70 #[.val (.ref sa), .val (.int (64 : Int32)), .val (.long q2), .second, .val (.int (3 : Int32)), .val (.int (x2 &&& (255 : Int32)))] [])) _
    refine XS.goto X48.here hx rfl (pc0 := 70) (pc' := 5) rfl (hb hby d7_70) (by decide) (by decide) ?_
    show Steps p.tables e below (T48.setTop (mkF m 5 #[.val (.ref sa), .val (.int (64 : Int32)), .val (.long q2), .second, .val (.int (3 : Int32)), .val (.int (x2 &&& (255 : Int32)))] [])) _
    refine XS.iload X48.here hx rfl (hb hby d7_5) rfl ?_
    show Steps p.tables e below (T48.setTop (mkF m 7 #[.val (.ref sa), .val (.int (64 : Int32)), .val (.long q2), .second, .val (.int (3 : Int32)), .val (.int (x2 &&& (255 : Int32)))] [(.int (3 : Int32))])) _
    refine XS.aloadN X48.here hx rfl (hb hby d7_7) rfl rfl ?_
    exact kk_)
  obtain ⟨cq65, kq65, q65a, q65b, q65c⟩ := isOf hZ e48 Es
  obtain ⟨_, _, ⟨T65, L65, k65, n65⟩, -, X65, ⟨Lc65, hQ65, l65, y65, z65⟩, st65⟩ := X48.virtualBack hx (y := (⟨"java/lang/String", "length", "()I"⟩ : MethodName)) (z := (⟨"java/lang/String", "length", "()I"⟩ : MethodName)) hown (mvT hZ (hw _ (List.mem_of_getElem? (i := 38) rfl))) (mvT hZ (hw _ (List.mem_of_getElem? (i := 39) rfl))) (notFace_of_selects (args := #[]) (mvT hZ (hw _ (List.mem_of_getElem? (i := 41) rfl)))) (mvT hZ (hw _ (List.mem_of_getElem? (i := 41) rfl))) (mvT hZ (hw _ (List.mem_of_getElem? (i := 40) rfl))) (by decide) (backOf (W := 1) (rm_length l Z a0 hw [] sa sb sk (3 : Int32) _ cs h0 n0 Z0 O Scs hcs Es Fsc Fsv Vs) hZ (hw _ (List.mem_of_getElem? (i := 42) rfl)) (hw _ (List.mem_of_getElem? (i := 1) rfl)) (by decide) (by decide)) q65a q65c (g := (mkF m 8 #[.val (.ref sa), .val (.int (64 : Int32)), .val (.long q2), .second, .val (.int (3 : Int32)), .val (.int (x2 &&& (255 : Int32)))] [(.ref sa), (.int (3 : Int32))])) rfl (by rw [hml]; rfl) (Steps.refl _) (argsL := []) (rest := [(.int (3 : Int32))]) (lenOf pd5 rfl) rfl (by show 2 * 0 + _ ≤ _; exact Nat.le_of_eq rfl) (hb hby d7_8) (fun _ _ => ⟨rfl, e48, (by decide : 0 + 0 ≤ _), (by decide : 0 + 0 ≤ _)⟩)
  dsimp only [Pt.U, Pt.locs, Pt.cells, Pt.slots] at X65 l65 y65 z65 st65 hQ65
  subst l65 y65 z65
  obtain ⟨rfl, N65q, e65⟩ := hQ65
  have N65 := Fr.app N48 N65q
  have P66 := own_step (C := T65.setTop (mkF m 11 #[.val (.ref sa), .val (.int (64 : Int32)), .val (.long q2), .second, .val (.int (3 : Int32)), .val (.int (x2 &&& (255 : Int32)))] [(.int (3 : Int32)), (.int (3 : Int32))])) P64 (fun t_ k_ => st65.trans k_)
  have P67 := own_step (C := T65.setTop (mkF m 73 #[.val (.ref sa), .val (.int (64 : Int32)), .val (.long q2), .second, .val (.int (3 : Int32)), .val (.int (x2 &&& (255 : Int32)))] [])) P66 (by
    intro tt_ kk_
    refine XS.icmpYes X65.here hx rfl (pc0 := 11) (pc' := 73) rfl (hb hby d7_11) rfl (flt (by decide : ¬ ((3 : Int32) < (3 : Int32)))).2.1 (by decide) (by decide) ?_
    exact kk_)
  have P68 := own_step (C := T65.setTop (mkF m 74 #[.val (.ref sa), .val (.int (64 : Int32)), .val (.long q2), .second, .val (.int (3 : Int32)), .val (.int (x2 &&& (255 : Int32)))] [(.long q2)])) P67 (by
    intro tt_ kk_
    refine XS.lloadN X65.here hx rfl (hb hby d7_73) rfl ?_
    exact kk_)
  obtain ⟨fs, hr, hrun, hended, hW, hsame⟩ := X65.leave (v := some (.long q2)) (fun h => by rw [Bd.returns] at h; cases h)
  refine ⟨_, _, P68 _ ?_, hrun, hended, _, _, rfl, ?_, ⟨_, rfl⟩, hW, hsame.mono (by decide) (by decide)⟩
  · jvm_step X65.here [X65.here.top, hx, (hb hby d7_74), X65.method', Bd.returns, narrow]
    first | (intro acts; rw [hr _ acts rfl rfl rfl]) | rw [hr _ _ rfl rfl rfl]
    exact Steps.refl _
  · show Q_bits3_64 Z _ _ _ _ _ _ _ _ h0 n0 _ T65.heap _
    rw [e65]
    exact ⟨by rw [own_bitE hv52, own_bitE hv31, own_bitE hv10], N65, rfl⟩
theorem d10_0 : decode prog_36_method_2_code 0 = .ok (.aload_n 0, 1) := by decide +kernel
theorem d10_1 : decode prog_36_method_2_code 1 = .ok (.invokespecial 20, 3) := by decide +kernel
theorem d10_4 : decode prog_36_method_2_code 4 = .ok (.aload_n 0, 1) := by decide +kernel
theorem d10_5 : decode prog_36_method_2_code 5 = .ok (.aload_n 1, 1) := by decide +kernel
theorem d10_6 : decode prog_36_method_2_code 6 = .ok (.putfield 25, 3) := by decide +kernel
theorem d10_9 : decode prog_36_method_2_code 9 = .ok (.aload_n 0, 1) := by decide +kernel
theorem d10_10 : decode prog_36_method_2_code 10 = .ok (.lload_n 2, 1) := by decide +kernel
theorem d10_11 : decode prog_36_method_2_code 11 = .ok (.putfield 29, 3) := by decide +kernel
theorem d10_14 : decode prog_36_method_2_code 14 = .ok (.aload_n 0, 1) := by decide +kernel
theorem d10_15 : decode prog_36_method_2_code 15 = .ok (.lload 4, 2) := by decide +kernel
theorem d10_17 : decode prog_36_method_2_code 17 = .ok (.putfield 33, 3) := by decide +kernel
theorem d10_20 : decode prog_36_method_2_code 20 = .ok (.aload_n 0, 1) := by decide +kernel
theorem d10_21 : decode prog_36_method_2_code 21 = .ok (.iload 6, 2) := by decide +kernel
theorem d10_23 : decode prog_36_method_2_code 23 = .ok (.putfield 36, 3) := by decide +kernel
theorem d10_26 : decode prog_36_method_2_code 26 = .ok (.aload_n 0, 1) := by decide +kernel
theorem d10_27 : decode prog_36_method_2_code 27 = .ok (.iload 7, 2) := by decide +kernel
theorem d10_29 : decode prog_36_method_2_code 29 = .ok (.putfield 40, 3) := by decide +kernel
theorem d10_32 : decode prog_36_method_2_code 32 = .ok (.return_, 1) := by decide +kernel
theorem ef__ns0 (m : MethodId) (x0 : Addr) (x1 : Addr) (x2 : Int64) (x3 : Int64) (x4 : Int32) (x5 : Int32) : entryFrame m #[(.ref x0), (.ref x1), (.long x2), (.long x3), (.int x4), (.int x5)] 8 = mkF m 0 #[.val (.ref x0), .val (.ref x1), .val (.long x2), .second, .val (.long x3), .second, .val (.int x4), .val (.int x5)] [] := by first | (simp [entryFrame, mkF, argsToLocals, Value.category]; done) | rfl
def Q_ns0 (Z : State) (a : Addr) (bg : Addr) (lo : Int64) (hi : Int64) (le : Int32) (mo : Int32) (h0 : Heap) (n0 : Nat) (v_ : Option Value) (h : Heap) (L_ : List Loc) : Prop := v_ = none ∧ Fr n0 L_ ∧ Keep h0 h [a] ∧ Exa Z h a "com/example/gatehouse/gatehouse/pattern/NameShape" ∧ Fld Z h a "com/example/gatehouse/gatehouse/pattern/NameShape" "low" "J" (.long lo) ∧ Fld Z h a "com/example/gatehouse/gatehouse/pattern/NameShape" "high" "J" (.long hi)
set_option maxRecDepth 65536 in
set_option maxHeartbeats 40000000 in
theorem rm_ns0 (l : Launch) (Z : State) (a0 : Array Value) (hw : ∀ d ∈ tables_1, d.before a0 Z = true) (ws : List Jvm.Cond) (a : Addr) (bg : Addr) (lo : Int64) (hi : Int64) (le : Int32) (mo : Int32) (h0 : Heap) (n0 : Nat) (Z0 : n0 ≤ h0.size) (O : Old Z n0 h0) (Ea : Exa Z h0 a "com/example/gatehouse/gatehouse/pattern/NameShape") (Fbegin : Fld Z h0 a "com/example/gatehouse/gatehouse/pattern/NameShape" "begin" "Ljava/lang/String;" .null) (Flow : Fld Z h0 a "com/example/gatehouse/gatehouse/pattern/NameShape" "low" "J" (.long (0 : Int64))) (Fhigh : Fld Z h0 a "com/example/gatehouse/gatehouse/pattern/NameShape" "high" "J" (.long (0 : Int64))) (Fleast : Fld Z h0 a "com/example/gatehouse/gatehouse/pattern/NameShape" "least" "I" (.int (0 : Int32))) (Fmost : Fld Z h0 a "com/example/gatehouse/gatehouse/pattern/NameShape" "most" "I" (.int (0 : Int32))) (ga : n0 ≤ a) :
    MetFree l (⟨"com/example/gatehouse/gatehouse/pattern/NameShape", "<init>", "(Ljava/lang/String;JJII)V"⟩ : MethodName) (head1 (Jvm.Cond.code (⟨"com/example/gatehouse/gatehouse/pattern/NameShape", "<init>", "(Ljava/lang/String;JJII)V"⟩ : MethodName) prog_36_method_2_code 8 none :: ws) ({ frames := 1, cells := 0, slots := 0, locals := 12 } : Room)) (fun a_ U_ => a_ = #[(.ref a), (.ref bg), (.long lo), (.long hi), (.int le), (.int mo)] ∧ Z.Warmed39 U_.vm ∧ U_.heap = h0) (fun _ _ _ _ _ => True) (fun _ U_ o_ V_ => ∃ v_ L_, o_ = .returned v_ ∧ Q_ns0 Z a bg lo hi le mo h0 n0 v_ V_.heap L_ ∧ FrameEnd U_ o_ V_ L_ ({ frames := 1, cells := 0, slots := 0, locals := 12 } : Room).cells ({ frames := 1, cells := 0, slots := 0, locals := 12 } : Room).slots) := by
  refine MetFree.of_bodySF (plainFor_of_name pn3) hisR ?_
  intro p e s m args below meth c s₁ Bd hml0 hP hK
  obtain ⟨rfl, hZ, hh⟩ := hP
  have hx := Bd.exec
  have hby := Bd.bytes
  have hml : c.maxLocals = 8 := hml0
  have hown : s.vm.findClass "com/example/gatehouse/gatehouse/pattern/NameShape" = some m.cls := findClass_of_methodNamed Bd.named
  have hnm := (name_of_methodNamed Bd.named Bd.method).1
  have X0 : Stand p l e ({ frames := 1, cells := 0, slots := 0, locals := 12 } : Room) s m #[(.ref a), (.ref bg), (.long lo), (.long hi), (.int le), (.int mo)] below meth c s₁ [] 0 0 := Stand.of_body Bd
  have e0 : s₁.heap = h0 := by rw [← hh, Bd.state]; rfl
  have N0 := Fr.nil n0
  have pre0 : own_Go p e below (s₁.setTop (entryFrame m #[(.ref a), (.ref bg), (.long lo), (.long hi), (.int le), (.int mo)] 8)) (s₁.setTop (mkF m 0 #[.val (.ref a), .val (.ref bg), .val (.long lo), .second, .val (.long hi), .second, .val (.int le), .val (.int mo)] [])) := fun t_ k_ => castTop (ef__ns0 m a bg lo hi le mo) k_
  have P1 := own_step (C := s₁.setTop (mkF m 1 #[.val (.ref a), .val (.ref bg), .val (.long lo), .second, .val (.long hi), .second, .val (.int le), .val (.int mo)] [(.ref a)])) pre0 (by
    intro tt_ kk_
    refine XS.aloadN X0.here hx rfl (hb hby d10_0) rfl rfl ?_
    exact kk_)
  obtain ⟨T2, X2, e2, st2⟩ := initO X0 hx hZ hown (hw _ (List.mem_of_getElem? (i := 51) rfl)) (hw _ (List.mem_of_getElem? (i := 25) rfl)) (hw _ (List.mem_of_getElem? (i := 26) rfl)) e0 (g := (mkF m 1 #[.val (.ref a), .val (.ref bg), .val (.long lo), .second, .val (.long hi), .second, .val (.int le), .val (.int mo)] [(.ref a)])) rfl (by rw [hml]; rfl) rfl (hb hby d10_1) (by decide) (W := 0) (by show 2 * 0 + _ ≤ _; exact Nat.le_of_eq rfl) (by decide)
  have P3 := own_step (C := T2.setTop (mkF m 4 #[.val (.ref a), .val (.ref bg), .val (.long lo), .second, .val (.long hi), .second, .val (.int le), .val (.int mo)] [])) P1 (fun t_ k_ => st2 t_ k_)
  have P4 := own_step (C := T2.setTop (mkF m 6 #[.val (.ref a), .val (.ref bg), .val (.long lo), .second, .val (.long hi), .second, .val (.int le), .val (.int mo)] [(.ref bg), (.ref a)])) P3 (by
    intro tt_ kk_
    refine XS.aloadN X2.here hx rfl (hb hby d10_4) rfl rfl ?_
    show Steps p.tables e below (T2.setTop (mkF m 5 #[.val (.ref a), .val (.ref bg), .val (.long lo), .second, .val (.long hi), .second, .val (.int le), .val (.int mo)] [(.ref a)])) _
    refine XS.aloadN X2.here hx rfl (hb hby d10_5) rfl rfl ?_
    exact kk_)
  obtain ⟨T5, h5, X5, e5, W5, st5⟩ := putF X2 hx hZ hown (host := "") (Or.inl (hw _ (List.mem_of_getElem? (i := 52) rfl))) Via.refl e2 Fbegin Ea (Or.inr ⟨(hw _ (List.mem_of_getElem? (i := 53) rfl)), rfl, hnm⟩) (hw _ (List.mem_of_getElem? (i := 30) rfl)) (ty := (.object "java/lang/String")) (by decide) rfl rfl (g := (mkF m 6 #[.val (.ref a), .val (.ref bg), .val (.long lo), .second, .val (.long hi), .second, .val (.int le), .val (.int mo)] [(.ref bg), (.ref a)])) rfl rfl (hb hby d10_6)
  have f6 := O.wr W5 ga
  have f7 := Ea.wr W5
  have f8 := (Keep.refl h0 [a]).wr W5 (Or.inl (List.mem_of_getElem? (i := 0) rfl))
  have f9 := Fbegin.same W5
  have f10 := Flow.other W5 (Or.inr (slot_ne (Or.inr (hw _ (List.mem_of_getElem? (i := 55) rfl))) (Or.inr (hw _ (List.mem_of_getElem? (i := 53) rfl))) (by decide) (t := .long) (t' := (.object "java/lang/String")) (by decide) (by decide)))
  have f11 := Fhigh.other W5 (Or.inr (slot_ne (Or.inr (hw _ (List.mem_of_getElem? (i := 57) rfl))) (Or.inr (hw _ (List.mem_of_getElem? (i := 53) rfl))) (by decide) (t := .long) (t' := (.object "java/lang/String")) (by decide) (by decide)))
  have f12 := Fleast.other W5 (Or.inr (slot_ne (Or.inr (hw _ (List.mem_of_getElem? (i := 59) rfl))) (Or.inr (hw _ (List.mem_of_getElem? (i := 53) rfl))) (by decide) (t := .int) (t' := (.object "java/lang/String")) (by decide) (by decide)))
  have f13 := Fmost.other W5 (Or.inr (slot_ne (Or.inr (hw _ (List.mem_of_getElem? (i := 61) rfl))) (Or.inr (hw _ (List.mem_of_getElem? (i := 53) rfl))) (by decide) (t := .int) (t' := (.object "java/lang/String")) (by decide) (by decide)))
  have Z14 : n0 ≤ h5.size := Nat.le_trans Z0 (Keep.of_wr W5).1
  have N5 := Fr.snoc X5 N0 ga
  have P15 := own_step (C := T5.setTop (mkF m 9 #[.val (.ref a), .val (.ref bg), .val (.long lo), .second, .val (.long hi), .second, .val (.int le), .val (.int mo)] [])) P4 (fun t_ k_ => st5 t_ k_)
  have P16 := own_step (C := T5.setTop (mkF m 11 #[.val (.ref a), .val (.ref bg), .val (.long lo), .second, .val (.long hi), .second, .val (.int le), .val (.int mo)] [(.long lo), (.ref a)])) P15 (by
    intro tt_ kk_
    refine XS.aloadN X5.here hx rfl (hb hby d10_9) rfl rfl ?_
    show Steps p.tables e below (T5.setTop (mkF m 10 #[.val (.ref a), .val (.ref bg), .val (.long lo), .second, .val (.long hi), .second, .val (.int le), .val (.int mo)] [(.ref a)])) _
    refine XS.lloadN X5.here hx rfl (hb hby d10_10) rfl ?_
    exact kk_)
  obtain ⟨T17, h17, X17, e17, W17, st17⟩ := putF X5 hx hZ hown (host := "") (Or.inl (hw _ (List.mem_of_getElem? (i := 54) rfl))) Via.refl e5 f10 f7 (Or.inr ⟨(hw _ (List.mem_of_getElem? (i := 55) rfl)), rfl, hnm⟩) (hw _ (List.mem_of_getElem? (i := 30) rfl)) (ty := .long) (by decide) rfl rfl (g := (mkF m 11 #[.val (.ref a), .val (.ref bg), .val (.long lo), .second, .val (.long hi), .second, .val (.int le), .val (.int mo)] [(.long lo), (.ref a)])) rfl rfl (hb hby d10_11)
  have f18 := f6.wr W17 ga
  have f19 := f7.wr W17
  have f20 := f8.wr W17 (Or.inl (List.mem_of_getElem? (i := 0) rfl))
  have f21 := f9.other W17 (Or.inr (slot_ne (Or.inr (hw _ (List.mem_of_getElem? (i := 53) rfl))) (Or.inr (hw _ (List.mem_of_getElem? (i := 55) rfl))) (by decide) (t := (.object "java/lang/String")) (t' := .long) (by decide) (by decide)))
  have f22 := f10.same W17
  have f23 := f11.other W17 (Or.inr (slot_ne (Or.inr (hw _ (List.mem_of_getElem? (i := 57) rfl))) (Or.inr (hw _ (List.mem_of_getElem? (i := 55) rfl))) (by decide) (t := .long) (t' := .long) (by decide) (by decide)))
  have f24 := f12.other W17 (Or.inr (slot_ne (Or.inr (hw _ (List.mem_of_getElem? (i := 59) rfl))) (Or.inr (hw _ (List.mem_of_getElem? (i := 55) rfl))) (by decide) (t := .int) (t' := .long) (by decide) (by decide)))
  have f25 := f13.other W17 (Or.inr (slot_ne (Or.inr (hw _ (List.mem_of_getElem? (i := 61) rfl))) (Or.inr (hw _ (List.mem_of_getElem? (i := 55) rfl))) (by decide) (t := .int) (t' := .long) (by decide) (by decide)))
  have Z26 : n0 ≤ h17.size := Nat.le_trans Z14 (Keep.of_wr W17).1
  have N17 := Fr.snoc X17 N5 ga
  have P27 := own_step (C := T17.setTop (mkF m 14 #[.val (.ref a), .val (.ref bg), .val (.long lo), .second, .val (.long hi), .second, .val (.int le), .val (.int mo)] [])) P16 (fun t_ k_ => st17 t_ k_)
  have P28 := own_step (C := T17.setTop (mkF m 17 #[.val (.ref a), .val (.ref bg), .val (.long lo), .second, .val (.long hi), .second, .val (.int le), .val (.int mo)] [(.long hi), (.ref a)])) P27 (by
    intro tt_ kk_
    refine XS.aloadN X17.here hx rfl (hb hby d10_14) rfl rfl ?_
    show Steps p.tables e below (T17.setTop (mkF m 15 #[.val (.ref a), .val (.ref bg), .val (.long lo), .second, .val (.long hi), .second, .val (.int le), .val (.int mo)] [(.ref a)])) _
    refine XS.lload X17.here hx rfl (hb hby d10_15) rfl ?_
    exact kk_)
  obtain ⟨T29, h29, X29, e29, W29, st29⟩ := putF X17 hx hZ hown (host := "") (Or.inl (hw _ (List.mem_of_getElem? (i := 56) rfl))) Via.refl e17 f23 f19 (Or.inr ⟨(hw _ (List.mem_of_getElem? (i := 57) rfl)), rfl, hnm⟩) (hw _ (List.mem_of_getElem? (i := 30) rfl)) (ty := .long) (by decide) rfl rfl (g := (mkF m 17 #[.val (.ref a), .val (.ref bg), .val (.long lo), .second, .val (.long hi), .second, .val (.int le), .val (.int mo)] [(.long hi), (.ref a)])) rfl rfl (hb hby d10_17)
  have f30 := f18.wr W29 ga
  have f31 := f19.wr W29
  have f32 := f20.wr W29 (Or.inl (List.mem_of_getElem? (i := 0) rfl))
  have f33 := f21.other W29 (Or.inr (slot_ne (Or.inr (hw _ (List.mem_of_getElem? (i := 53) rfl))) (Or.inr (hw _ (List.mem_of_getElem? (i := 57) rfl))) (by decide) (t := (.object "java/lang/String")) (t' := .long) (by decide) (by decide)))
  have f34 := f22.other W29 (Or.inr (slot_ne (Or.inr (hw _ (List.mem_of_getElem? (i := 55) rfl))) (Or.inr (hw _ (List.mem_of_getElem? (i := 57) rfl))) (by decide) (t := .long) (t' := .long) (by decide) (by decide)))
  have f35 := f23.same W29
  have f36 := f24.other W29 (Or.inr (slot_ne (Or.inr (hw _ (List.mem_of_getElem? (i := 59) rfl))) (Or.inr (hw _ (List.mem_of_getElem? (i := 57) rfl))) (by decide) (t := .int) (t' := .long) (by decide) (by decide)))
  have f37 := f25.other W29 (Or.inr (slot_ne (Or.inr (hw _ (List.mem_of_getElem? (i := 61) rfl))) (Or.inr (hw _ (List.mem_of_getElem? (i := 57) rfl))) (by decide) (t := .int) (t' := .long) (by decide) (by decide)))
  have Z38 : n0 ≤ h29.size := Nat.le_trans Z26 (Keep.of_wr W29).1
  have N29 := Fr.snoc X29 N17 ga
  have P39 := own_step (C := T29.setTop (mkF m 20 #[.val (.ref a), .val (.ref bg), .val (.long lo), .second, .val (.long hi), .second, .val (.int le), .val (.int mo)] [])) P28 (fun t_ k_ => st29 t_ k_)
  have P40 := own_step (C := T29.setTop (mkF m 23 #[.val (.ref a), .val (.ref bg), .val (.long lo), .second, .val (.long hi), .second, .val (.int le), .val (.int mo)] [(.int le), (.ref a)])) P39 (by
    intro tt_ kk_
    refine XS.aloadN X29.here hx rfl (hb hby d10_20) rfl rfl ?_
    show Steps p.tables e below (T29.setTop (mkF m 21 #[.val (.ref a), .val (.ref bg), .val (.long lo), .second, .val (.long hi), .second, .val (.int le), .val (.int mo)] [(.ref a)])) _
    refine XS.iload X29.here hx rfl (hb hby d10_21) rfl ?_
    exact kk_)
  obtain ⟨T41, h41, X41, e41, W41, st41⟩ := putF X29 hx hZ hown (host := "") (Or.inl (hw _ (List.mem_of_getElem? (i := 58) rfl))) Via.refl e29 f36 f31 (Or.inr ⟨(hw _ (List.mem_of_getElem? (i := 59) rfl)), rfl, hnm⟩) (hw _ (List.mem_of_getElem? (i := 30) rfl)) (ty := .int) (by decide) rfl rfl (g := (mkF m 23 #[.val (.ref a), .val (.ref bg), .val (.long lo), .second, .val (.long hi), .second, .val (.int le), .val (.int mo)] [(.int le), (.ref a)])) rfl rfl (hb hby d10_23)
  have f42 := f30.wr W41 ga
  have f43 := f31.wr W41
  have f44 := f32.wr W41 (Or.inl (List.mem_of_getElem? (i := 0) rfl))
  have f45 := f33.other W41 (Or.inr (slot_ne (Or.inr (hw _ (List.mem_of_getElem? (i := 53) rfl))) (Or.inr (hw _ (List.mem_of_getElem? (i := 59) rfl))) (by decide) (t := (.object "java/lang/String")) (t' := .int) (by decide) (by decide)))
  have f46 := f34.other W41 (Or.inr (slot_ne (Or.inr (hw _ (List.mem_of_getElem? (i := 55) rfl))) (Or.inr (hw _ (List.mem_of_getElem? (i := 59) rfl))) (by decide) (t := .long) (t' := .int) (by decide) (by decide)))
  have f47 := f35.other W41 (Or.inr (slot_ne (Or.inr (hw _ (List.mem_of_getElem? (i := 57) rfl))) (Or.inr (hw _ (List.mem_of_getElem? (i := 59) rfl))) (by decide) (t := .long) (t' := .int) (by decide) (by decide)))
  have f48 := f36.same W41
  have f49 := f37.other W41 (Or.inr (slot_ne (Or.inr (hw _ (List.mem_of_getElem? (i := 61) rfl))) (Or.inr (hw _ (List.mem_of_getElem? (i := 59) rfl))) (by decide) (t := .int) (t' := .int) (by decide) (by decide)))
  have Z50 : n0 ≤ h41.size := Nat.le_trans Z38 (Keep.of_wr W41).1
  have N41 := Fr.snoc X41 N29 ga
  have P51 := own_step (C := T41.setTop (mkF m 26 #[.val (.ref a), .val (.ref bg), .val (.long lo), .second, .val (.long hi), .second, .val (.int le), .val (.int mo)] [])) P40 (fun t_ k_ => st41 t_ k_)
  have P52 := own_step (C := T41.setTop (mkF m 29 #[.val (.ref a), .val (.ref bg), .val (.long lo), .second, .val (.long hi), .second, .val (.int le), .val (.int mo)] [(.int mo), (.ref a)])) P51 (by
    intro tt_ kk_
    refine XS.aloadN X41.here hx rfl (hb hby d10_26) rfl rfl ?_
    show Steps p.tables e below (T41.setTop (mkF m 27 #[.val (.ref a), .val (.ref bg), .val (.long lo), .second, .val (.long hi), .second, .val (.int le), .val (.int mo)] [(.ref a)])) _
    refine XS.iload X41.here hx rfl (hb hby d10_27) rfl ?_
    exact kk_)
  obtain ⟨T53, h53, X53, e53, W53, st53⟩ := putF X41 hx hZ hown (host := "") (Or.inl (hw _ (List.mem_of_getElem? (i := 60) rfl))) Via.refl e41 f49 f43 (Or.inr ⟨(hw _ (List.mem_of_getElem? (i := 61) rfl)), rfl, hnm⟩) (hw _ (List.mem_of_getElem? (i := 30) rfl)) (ty := .int) (by decide) rfl rfl (g := (mkF m 29 #[.val (.ref a), .val (.ref bg), .val (.long lo), .second, .val (.long hi), .second, .val (.int le), .val (.int mo)] [(.int mo), (.ref a)])) rfl rfl (hb hby d10_29)
  have f54 := f42.wr W53 ga
  have f55 := f43.wr W53
  have f56 := f44.wr W53 (Or.inl (List.mem_of_getElem? (i := 0) rfl))
  have f57 := f45.other W53 (Or.inr (slot_ne (Or.inr (hw _ (List.mem_of_getElem? (i := 53) rfl))) (Or.inr (hw _ (List.mem_of_getElem? (i := 61) rfl))) (by decide) (t := (.object "java/lang/String")) (t' := .int) (by decide) (by decide)))
  have f58 := f46.other W53 (Or.inr (slot_ne (Or.inr (hw _ (List.mem_of_getElem? (i := 55) rfl))) (Or.inr (hw _ (List.mem_of_getElem? (i := 61) rfl))) (by decide) (t := .long) (t' := .int) (by decide) (by decide)))
  have f59 := f47.other W53 (Or.inr (slot_ne (Or.inr (hw _ (List.mem_of_getElem? (i := 57) rfl))) (Or.inr (hw _ (List.mem_of_getElem? (i := 61) rfl))) (by decide) (t := .long) (t' := .int) (by decide) (by decide)))
  have f60 := f48.other W53 (Or.inr (slot_ne (Or.inr (hw _ (List.mem_of_getElem? (i := 59) rfl))) (Or.inr (hw _ (List.mem_of_getElem? (i := 61) rfl))) (by decide) (t := .int) (t' := .int) (by decide) (by decide)))
  have f61 := f49.same W53
  have Z62 : n0 ≤ h53.size := Nat.le_trans Z50 (Keep.of_wr W53).1
  have N53 := Fr.snoc X53 N41 ga
  have P63 := own_step (C := T53.setTop (mkF m 32 #[.val (.ref a), .val (.ref bg), .val (.long lo), .second, .val (.long hi), .second, .val (.int le), .val (.int mo)] [])) P52 (fun t_ k_ => st53 t_ k_)
  obtain ⟨fs, hr, hrun, hended, hW, hsame⟩ := X53.leave (v := none) (fun _ => rfl)
  refine ⟨_, _, P63 _ ?_, hrun, hended, _, _, rfl, ?_, ⟨_, rfl⟩, hW, hsame.mono (by decide) (by decide)⟩
  · exact X53.returnOut hx Bd.returns (hb hby d10_32) hr
  · show Q_ns0 Z _ _ _ _ _ _ h0 n0 _ T53.heap _
    rw [e53]
    exact ⟨rfl, N53, f56, f55, f58, f59⟩
theorem pd7 : parseMethodDescriptor "(Ljava/lang/String;I)J" = some ⟨[(.object "java/lang/String"), .int], some .long⟩ := by decide +kernel
theorem pd8 : parseMethodDescriptor "(Ljava/lang/String;JJII)V" = some ⟨[(.object "java/lang/String"), .long, .long, .int, .int], none⟩ := by decide +kernel
theorem d6_0 : decode prog_36_method_1_code 0 = .ok (.aload_n 0, 1) := by decide +kernel
theorem d6_1 : decode prog_36_method_1_code 1 = .ok (.aload_n 1, 1) := by decide +kernel
theorem d6_2 : decode prog_36_method_1_code 2 = .ok (.aload_n 2, 1) := by decide +kernel
theorem d6_3 : decode prog_36_method_1_code 3 = .ok (.iconst 0, 1) := by decide +kernel
theorem d6_4 : decode prog_36_method_1_code 4 = .ok (.invokestatic 1, 3) := by decide +kernel
theorem d6_7 : decode prog_36_method_1_code 7 = .ok (.aload_n 2, 1) := by decide +kernel
theorem d6_8 : decode prog_36_method_1_code 8 = .ok (.bipush 64, 2) := by decide +kernel
theorem d6_10 : decode prog_36_method_1_code 10 = .ok (.invokestatic 1, 3) := by decide +kernel
theorem d6_13 : decode prog_36_method_1_code 13 = .ok (.iload_n 3, 1) := by decide +kernel
theorem d6_14 : decode prog_36_method_1_code 14 = .ok (.iload 4, 2) := by decide +kernel
theorem d6_16 : decode prog_36_method_1_code 16 = .ok (.invokespecial 7, 3) := by decide +kernel
theorem d6_19 : decode prog_36_method_1_code 19 = .ok (.iload_n 3, 1) := by decide +kernel
theorem d6_20 : decode prog_36_method_1_code 20 = .ok (.ifCond .lt 9, 3) := by decide +kernel
theorem d6_23 : decode prog_36_method_1_code 23 = .ok (.iload_n 3, 1) := by decide +kernel
theorem d6_24 : decode prog_36_method_1_code 24 = .ok (.iload 4, 2) := by decide +kernel
theorem d6_26 : decode prog_36_method_1_code 26 = .ok (.if_icmp .le 19, 3) := by decide +kernel
theorem d6_45 : decode prog_36_method_1_code 45 = .ok (.return_, 1) := by decide +kernel
theorem ef__ns3 (m : MethodId) (x0 : Addr) (x1 : Addr) (x2 : Addr) (x3 : Int32) (x4 : Int32) : entryFrame m #[(.ref x0), (.ref x1), (.ref x2), (.int x3), (.int x4)] 5 = mkF m 0 #[.val (.ref x0), .val (.ref x1), .val (.ref x2), .val (.int x3), .val (.int x4)] [] := by first | (simp [entryFrame, mkF, argsToLocals, Value.category]; done) | rfl
def Q_ns3 (Z : State) (a : Addr) (bg : Addr) (le : Int32) (mo : Int32) (sa : Addr) (sb : Addr) (sk : ClassId) (x0 : Int32) (x1 : Int32) (x2 : Int32) (fm : Value) (cs : Int32) (h0 : Heap) (n0 : Nat) (v_ : Option Value) (h : Heap) (L_ : List Loc) : Prop := v_ = none ∧ Fr n0 L_ ∧ Keep h0 h [a] ∧ Exa Z h a "com/example/gatehouse/gatehouse/pattern/NameShape" ∧ Fld Z h a "com/example/gatehouse/gatehouse/pattern/NameShape" "low" "J" (.long (own_bit (0 : Int32) (64 : Int32) (x2 &&& (255 : Int32)) (own_bit (0 : Int32) (64 : Int32) (x1 &&& (255 : Int32)) (own_bit (0 : Int32) (64 : Int32) (x0 &&& (255 : Int32)) (0 : Int64))))) ∧ Fld Z h a "com/example/gatehouse/gatehouse/pattern/NameShape" "high" "J" (.long (own_bit (64 : Int32) (128 : Int32) (x2 &&& (255 : Int32)) (own_bit (64 : Int32) (128 : Int32) (x1 &&& (255 : Int32)) (own_bit (64 : Int32) (128 : Int32) (x0 &&& (255 : Int32)) (0 : Int64)))))
set_option maxRecDepth 65536 in
set_option maxHeartbeats 40000000 in
theorem rm_ns3 (l : Launch) (Z : State) (a0 : Array Value) (hw : ∀ d ∈ tables_1, d.before a0 Z = true) (ws : List Jvm.Cond) (a : Addr) (bg : Addr) (le : Int32) (mo : Int32) (sa : Addr) (sb : Addr) (sk : ClassId) (x0 : Int32) (x1 : Int32) (x2 : Int32) (fm : Value) (cs : Int32) (h0 : Heap) (n0 : Nat) (Z0 : n0 ≤ h0.size) (O : Old Z n0 h0) (Scs : Sta Z Z.heap "java/lang/String" "COMPACT_STRINGS" "Z" (.int cs)) (hcs : ¬ (cs = (0 : Int32))) (Sfm : Sta Z Z.heap "jdk/internal/util/Preconditions" "SIOOBE_FORMATTER" "Ljava/util/function/BiFunction;" fm) (hfm : fm.category = 1) (Es : Exa Z h0 sa "java/lang/String") (Fsc : Fld Z h0 sa "java/lang/String" "coder" "B" (.int (0 : Int32))) (Fsv : Fld Z h0 sa "java/lang/String" "value" "[B" (.ref sb)) (Vs : Arv Z h0 sb sk .byte (3 : Int32) [(.int x0), (.int x1), (.int x2)] (.int 0)) (hx0 : (x0 &&& (255 : Int32)) < (128 : Int32)) (hx1 : (x1 &&& (255 : Int32)) < (128 : Int32)) (hx2 : (x2 &&& (255 : Int32)) < (128 : Int32)) (Ea : Exa Z h0 a "com/example/gatehouse/gatehouse/pattern/NameShape") (Fbegin : Fld Z h0 a "com/example/gatehouse/gatehouse/pattern/NameShape" "begin" "Ljava/lang/String;" .null) (Flow : Fld Z h0 a "com/example/gatehouse/gatehouse/pattern/NameShape" "low" "J" (.long (0 : Int64))) (Fhigh : Fld Z h0 a "com/example/gatehouse/gatehouse/pattern/NameShape" "high" "J" (.long (0 : Int64))) (Fleast : Fld Z h0 a "com/example/gatehouse/gatehouse/pattern/NameShape" "least" "I" (.int (0 : Int32))) (Fmost : Fld Z h0 a "com/example/gatehouse/gatehouse/pattern/NameShape" "most" "I" (.int (0 : Int32))) (ga : n0 ≤ a) (hl : ¬ (le < (0 : Int32))) (hm : ¬ (mo < le)) :
    MetFree l (⟨"com/example/gatehouse/gatehouse/pattern/NameShape", "<init>", "(Ljava/lang/String;Ljava/lang/String;II)V"⟩ : MethodName) (head1 (Jvm.Cond.code (⟨"com/example/gatehouse/gatehouse/pattern/NameShape", "<init>", "(Ljava/lang/String;Ljava/lang/String;II)V"⟩ : MethodName) prog_36_method_1_code 5 none :: ws) ({ frames := 5, cells := 0, slots := 0, locals := 74 } : Room)) (fun a_ U_ => a_ = #[(.ref a), (.ref bg), (.ref sa), (.int le), (.int mo)] ∧ Z.Warmed39 U_.vm ∧ U_.heap = h0) (fun _ _ _ _ _ => True) (fun _ U_ o_ V_ => ∃ v_ L_, o_ = .returned v_ ∧ Q_ns3 Z a bg le mo sa sb sk x0 x1 x2 fm cs h0 n0 v_ V_.heap L_ ∧ FrameEnd U_ o_ V_ L_ ({ frames := 5, cells := 0, slots := 0, locals := 74 } : Room).cells ({ frames := 5, cells := 0, slots := 0, locals := 74 } : Room).slots) := by
  refine MetFree.of_bodySF (plainFor_of_name pn3) hisR ?_
  intro p e s m args below meth c s₁ Bd hml0 hP hK
  obtain ⟨rfl, hZ, hh⟩ := hP
  have hx := Bd.exec
  have hby := Bd.bytes
  have hml : c.maxLocals = 5 := hml0
  have hown : s.vm.findClass "com/example/gatehouse/gatehouse/pattern/NameShape" = some m.cls := findClass_of_methodNamed Bd.named
  have hnm := (name_of_methodNamed Bd.named Bd.method).1
  have X0 : Stand p l e ({ frames := 5, cells := 0, slots := 0, locals := 74 } : Room) s m #[(.ref a), (.ref bg), (.ref sa), (.int le), (.int mo)] below meth c s₁ [] 0 0 := Stand.of_body Bd
  have e0 : s₁.heap = h0 := by rw [← hh, Bd.state]; rfl
  have N0 := Fr.nil n0
  have pre0 : own_Go p e below (s₁.setTop (entryFrame m #[(.ref a), (.ref bg), (.ref sa), (.int le), (.int mo)] 5)) (s₁.setTop (mkF m 0 #[.val (.ref a), .val (.ref bg), .val (.ref sa), .val (.int le), .val (.int mo)] [])) := fun t_ k_ => castTop (ef__ns3 m a bg sa le mo) k_
  have ne_sa_a : sa ≠ a := ne_exa Es Ea (by decide)
  obtain ⟨clV, ArV, -⟩ := id Vs
  have ne_sb_a : sb ≠ a := Ne.symm (ne_arr Ea (hw _ (List.mem_of_getElem? (i := 30) rfl)) ArV)
  have P1 := own_step (C := s₁.setTop (mkF m 4 #[.val (.ref a), .val (.ref bg), .val (.ref sa), .val (.int le), .val (.int mo)] [(.int (0 : Int32)), (.ref sa), (.ref bg), (.ref a)])) pre0 (by
    intro tt_ kk_
    refine XS.aloadN X0.here hx rfl (hb hby d6_0) rfl rfl ?_
    show Steps p.tables e below (s₁.setTop (mkF m 1 #[.val (.ref a), .val (.ref bg), .val (.ref sa), .val (.int le), .val (.int mo)] [(.ref a)])) _
    refine XS.aloadN X0.here hx rfl (hb hby d6_1) rfl rfl ?_
    show Steps p.tables e below (s₁.setTop (mkF m 2 #[.val (.ref a), .val (.ref bg), .val (.ref sa), .val (.int le), .val (.int mo)] [(.ref bg), (.ref a)])) _
    refine XS.aloadN X0.here hx rfl (hb hby d6_2) rfl rfl ?_
    show Steps p.tables e below (s₁.setTop (mkF m 3 #[.val (.ref a), .val (.ref bg), .val (.ref sa), .val (.int le), .val (.int mo)] [(.ref sa), (.ref bg), (.ref a)])) _
    refine XS.iconst X0.here hx rfl (hb hby d6_3) ?_
    exact kk_)
  obtain ⟨_, _, ⟨T2, L2, k2, n2⟩, -, X2, ⟨Lc2, hQ2, l2, y2, z2⟩, st2⟩ := Jvm.LawKit.callS X0 hx (y := (⟨"com/example/gatehouse/gatehouse/pattern/NameShape", "bits", "(Ljava/lang/String;I)J"⟩ : MethodName)) hown (mvT hZ (hw _ (List.mem_of_getElem? (i := 35) rfl))) (mvT hZ (hw _ (List.mem_of_getElem? (i := 36) rfl))) (mvT hZ (hw _ (List.mem_of_getElem? (i := 31) rfl))) (mvT hZ (hw _ (List.mem_of_getElem? (i := 37) rfl))) (by decide) (backOf (W := 2) (rm_bits3_0 l Z a0 hw [] sa sb sk x0 x1 x2 fm cs h0 n0 Z0 O Scs hcs Sfm hfm Es Fsc Fsv Vs hx0 hx1 hx2) hZ (hw _ (List.mem_of_getElem? (i := 37) rfl)) (hw _ (List.mem_of_getElem? (i := 31) rfl)) (by decide) (by decide)) (g := (mkF m 4 #[.val (.ref a), .val (.ref bg), .val (.ref sa), .val (.int le), .val (.int mo)] [(.int (0 : Int32)), (.ref sa), (.ref bg), (.ref a)])) rfl (by rw [hml]; rfl) (argsL := [(.ref sa), (.int (0 : Int32))]) (rest := [(.ref bg), (.ref a)]) (lenOf pd7 rfl) rfl (by show 2 * 0 + _ ≤ _; exact Nat.le_of_eq rfl) (hb hby d6_4) (fun _ _ => ⟨rfl, e0, (by decide : 0 + 0 ≤ _), (by decide : 0 + 0 ≤ _)⟩)
  dsimp only [Pt.U, Pt.locs, Pt.cells, Pt.slots] at X2 l2 y2 z2 st2 hQ2
  subst l2 y2 z2
  obtain ⟨rfl, N2q, e2⟩ := hQ2
  have N2 := Fr.app N0 N2q
  have P3 := own_step (C := T2.setTop (mkF m 7 #[.val (.ref a), .val (.ref bg), .val (.ref sa), .val (.int le), .val (.int mo)] [(.long (own_bit (0 : Int32) (64 : Int32) (x2 &&& (255 : Int32)) (own_bit (0 : Int32) (64 : Int32) (x1 &&& (255 : Int32)) (own_bit (0 : Int32) (64 : Int32) (x0 &&& (255 : Int32)) (0 : Int64))))), (.ref bg), (.ref a)])) P1 (fun t_ k_ => st2 t_ k_)
  have P4 := own_step (C := T2.setTop (mkF m 10 #[.val (.ref a), .val (.ref bg), .val (.ref sa), .val (.int le), .val (.int mo)] [(.int (64 : Int32)), (.ref sa), (.long (own_bit (0 : Int32) (64 : Int32) (x2 &&& (255 : Int32)) (own_bit (0 : Int32) (64 : Int32) (x1 &&& (255 : Int32)) (own_bit (0 : Int32) (64 : Int32) (x0 &&& (255 : Int32)) (0 : Int64))))), (.ref bg), (.ref a)])) P3 (by
    intro tt_ kk_
    refine XS.aloadN X2.here hx rfl (hb hby d6_7) rfl rfl ?_
    show Steps p.tables e below (T2.setTop (mkF m 8 #[.val (.ref a), .val (.ref bg), .val (.ref sa), .val (.int le), .val (.int mo)] [(.ref sa), (.long (own_bit (0 : Int32) (64 : Int32) (x2 &&& (255 : Int32)) (own_bit (0 : Int32) (64 : Int32) (x1 &&& (255 : Int32)) (own_bit (0 : Int32) (64 : Int32) (x0 &&& (255 : Int32)) (0 : Int64))))), (.ref bg), (.ref a)])) _
    refine XS.bipush X2.here hx rfl (hb hby d6_8) ?_
    exact kk_)
  obtain ⟨_, _, ⟨T5, L5, k5, n5⟩, -, X5, ⟨Lc5, hQ5, l5, y5, z5⟩, st5⟩ := Jvm.LawKit.callS X2 hx (y := (⟨"com/example/gatehouse/gatehouse/pattern/NameShape", "bits", "(Ljava/lang/String;I)J"⟩ : MethodName)) hown (mvT hZ (hw _ (List.mem_of_getElem? (i := 35) rfl))) (mvT hZ (hw _ (List.mem_of_getElem? (i := 36) rfl))) (mvT hZ (hw _ (List.mem_of_getElem? (i := 31) rfl))) (mvT hZ (hw _ (List.mem_of_getElem? (i := 37) rfl))) (by decide) (backOf (W := 4) (rm_bits3_64 l Z a0 hw [] sa sb sk x0 x1 x2 fm cs h0 n0 Z0 O Scs hcs Sfm hfm Es Fsc Fsv Vs hx0 hx1 hx2) hZ (hw _ (List.mem_of_getElem? (i := 37) rfl)) (hw _ (List.mem_of_getElem? (i := 31) rfl)) (by decide) (by decide)) (g := (mkF m 10 #[.val (.ref a), .val (.ref bg), .val (.ref sa), .val (.int le), .val (.int mo)] [(.int (64 : Int32)), (.ref sa), (.long (own_bit (0 : Int32) (64 : Int32) (x2 &&& (255 : Int32)) (own_bit (0 : Int32) (64 : Int32) (x1 &&& (255 : Int32)) (own_bit (0 : Int32) (64 : Int32) (x0 &&& (255 : Int32)) (0 : Int64))))), (.ref bg), (.ref a)])) rfl (by rw [hml]; rfl) (argsL := [(.ref sa), (.int (64 : Int32))]) (rest := [(.long (own_bit (0 : Int32) (64 : Int32) (x2 &&& (255 : Int32)) (own_bit (0 : Int32) (64 : Int32) (x1 &&& (255 : Int32)) (own_bit (0 : Int32) (64 : Int32) (x0 &&& (255 : Int32)) (0 : Int64))))), (.ref bg), (.ref a)]) (lenOf pd7 rfl) rfl (by show 2 * 0 + _ ≤ _; exact Nat.le_of_eq rfl) (hb hby d6_10) (fun _ _ => ⟨rfl, e2, (by decide : 0 + 0 ≤ _), (by decide : 0 + 0 ≤ _)⟩)
  dsimp only [Pt.U, Pt.locs, Pt.cells, Pt.slots] at X5 l5 y5 z5 st5 hQ5
  subst l5 y5 z5
  obtain ⟨rfl, N5q, e5⟩ := hQ5
  have N5 := Fr.app N2 N5q
  have P6 := own_step (C := T5.setTop (mkF m 13 #[.val (.ref a), .val (.ref bg), .val (.ref sa), .val (.int le), .val (.int mo)] [(.long (own_bit (64 : Int32) (128 : Int32) (x2 &&& (255 : Int32)) (own_bit (64 : Int32) (128 : Int32) (x1 &&& (255 : Int32)) (own_bit (64 : Int32) (128 : Int32) (x0 &&& (255 : Int32)) (0 : Int64))))), (.long (own_bit (0 : Int32) (64 : Int32) (x2 &&& (255 : Int32)) (own_bit (0 : Int32) (64 : Int32) (x1 &&& (255 : Int32)) (own_bit (0 : Int32) (64 : Int32) (x0 &&& (255 : Int32)) (0 : Int64))))), (.ref bg), (.ref a)])) P4 (fun t_ k_ => st5 t_ k_)
  have P7 := own_step (C := T5.setTop (mkF m 16 #[.val (.ref a), .val (.ref bg), .val (.ref sa), .val (.int le), .val (.int mo)] [(.int mo), (.int le), (.long (own_bit (64 : Int32) (128 : Int32) (x2 &&& (255 : Int32)) (own_bit (64 : Int32) (128 : Int32) (x1 &&& (255 : Int32)) (own_bit (64 : Int32) (128 : Int32) (x0 &&& (255 : Int32)) (0 : Int64))))), (.long (own_bit (0 : Int32) (64 : Int32) (x2 &&& (255 : Int32)) (own_bit (0 : Int32) (64 : Int32) (x1 &&& (255 : Int32)) (own_bit (0 : Int32) (64 : Int32) (x0 &&& (255 : Int32)) (0 : Int64))))), (.ref bg), (.ref a)])) P6 (by
    intro tt_ kk_
    refine XS.iloadN X5.here hx rfl (hb hby d6_13) rfl ?_
    show Steps p.tables e below (T5.setTop (mkF m 14 #[.val (.ref a), .val (.ref bg), .val (.ref sa), .val (.int le), .val (.int mo)] [(.int le), (.long (own_bit (64 : Int32) (128 : Int32) (x2 &&& (255 : Int32)) (own_bit (64 : Int32) (128 : Int32) (x1 &&& (255 : Int32)) (own_bit (64 : Int32) (128 : Int32) (x0 &&& (255 : Int32)) (0 : Int64))))), (.long (own_bit (0 : Int32) (64 : Int32) (x2 &&& (255 : Int32)) (own_bit (0 : Int32) (64 : Int32) (x1 &&& (255 : Int32)) (own_bit (0 : Int32) (64 : Int32) (x0 &&& (255 : Int32)) (0 : Int64))))), (.ref bg), (.ref a)])) _
    refine XS.iload X5.here hx rfl (hb hby d6_14) rfl ?_
    exact kk_)
  obtain ⟨_, _, ⟨T8, L8, k8, n8⟩, -, X8, ⟨Lc8, hQ8, l8, y8, z8⟩, st8⟩ := X5.specialBack hx (y := (⟨"com/example/gatehouse/gatehouse/pattern/NameShape", "<init>", "(Ljava/lang/String;JJII)V"⟩ : MethodName)) rfl hown (mvT hZ (hw _ (List.mem_of_getElem? (i := 48) rfl))) (mvT hZ (hw _ (List.mem_of_getElem? (i := 49) rfl))) (mvT hZ (hw _ (List.mem_of_getElem? (i := 50) rfl))) (by decide) (backOf (W := 0) (rm_ns0 l Z a0 hw [] a bg (own_bit (0 : Int32) (64 : Int32) (x2 &&& (255 : Int32)) (own_bit (0 : Int32) (64 : Int32) (x1 &&& (255 : Int32)) (own_bit (0 : Int32) (64 : Int32) (x0 &&& (255 : Int32)) (0 : Int64)))) (own_bit (64 : Int32) (128 : Int32) (x2 &&& (255 : Int32)) (own_bit (64 : Int32) (128 : Int32) (x1 &&& (255 : Int32)) (own_bit (64 : Int32) (128 : Int32) (x0 &&& (255 : Int32)) (0 : Int64)))) le mo h0 n0 Z0 O Ea Fbegin Flow Fhigh Fleast Fmost ga) hZ (hw _ (List.mem_of_getElem? (i := 50) rfl)) (hw _ (List.mem_of_getElem? (i := 31) rfl)) (by decide) (by decide)) (g := (mkF m 16 #[.val (.ref a), .val (.ref bg), .val (.ref sa), .val (.int le), .val (.int mo)] [(.int mo), (.int le), (.long (own_bit (64 : Int32) (128 : Int32) (x2 &&& (255 : Int32)) (own_bit (64 : Int32) (128 : Int32) (x1 &&& (255 : Int32)) (own_bit (64 : Int32) (128 : Int32) (x0 &&& (255 : Int32)) (0 : Int64))))), (.long (own_bit (0 : Int32) (64 : Int32) (x2 &&& (255 : Int32)) (own_bit (0 : Int32) (64 : Int32) (x1 &&& (255 : Int32)) (own_bit (0 : Int32) (64 : Int32) (x0 &&& (255 : Int32)) (0 : Int64))))), (.ref bg), (.ref a)])) rfl (by rw [hml]; rfl) (Steps.refl _) (a := a) (argsL := [(.ref bg), (.long (own_bit (0 : Int32) (64 : Int32) (x2 &&& (255 : Int32)) (own_bit (0 : Int32) (64 : Int32) (x1 &&& (255 : Int32)) (own_bit (0 : Int32) (64 : Int32) (x0 &&& (255 : Int32)) (0 : Int64))))), (.long (own_bit (64 : Int32) (128 : Int32) (x2 &&& (255 : Int32)) (own_bit (64 : Int32) (128 : Int32) (x1 &&& (255 : Int32)) (own_bit (64 : Int32) (128 : Int32) (x0 &&& (255 : Int32)) (0 : Int64))))), (.int le), (.int mo)]) (rest := []) (lenOf pd8 rfl) rfl (by show 2 * 0 + _ ≤ _; exact Nat.le_of_eq rfl) (hb hby d6_16) (fun _ _ => ⟨rfl, e5, (by decide : 0 + 0 ≤ _), (by decide : 0 + 0 ≤ _)⟩)
  dsimp only [Pt.U, Pt.locs, Pt.cells, Pt.slots] at X8 l8 y8 z8 st8 hQ8
  subst l8 y8 z8
  obtain ⟨rfl, N8q, K8, f9, f10, f11⟩ := hQ8
  have N8 := Fr.app N5 N8q
  have f12 := O.keep K8 (allS ga all0)
  have f13 := Ea.keep K8
  have f14 := (Keep.refl h0 [a]).trans K8 (allS (Or.inl (List.mem_of_getElem? (i := 0) rfl)) all0)
  have f20 := Es.keep K8
  have f21 := Fsc.keep K8 (ninS ne_sa_a nin0)
  have f22 := Fsv.keep K8 (ninS ne_sa_a nin0)
  have f23 := Vs.keep K8 (ninS ne_sb_a nin0)
  have Z24 : n0 ≤ T8.heap.size := Nat.le_trans Z0 K8.1
  have P25 := own_step (C := T8.setTop (mkF m 19 #[.val (.ref a), .val (.ref bg), .val (.ref sa), .val (.int le), .val (.int mo)] [])) P7 (fun t_ k_ => st8.trans k_)
  have P26 := own_step (C := T8.setTop (mkF m 20 #[.val (.ref a), .val (.ref bg), .val (.ref sa), .val (.int le), .val (.int mo)] [(.int le)])) P25 (by
    intro tt_ kk_
    refine XS.iloadN X8.here hx rfl (hb hby d6_19) rfl ?_
    exact kk_)
  have P27 := own_step (C := T8.setTop (mkF m 23 #[.val (.ref a), .val (.ref bg), .val (.ref sa), .val (.int le), .val (.int mo)] [])) P26 (by
    intro tt_ kk_
    refine XS.ifNo X8.here hx rfl (hb hby d6_20) rfl ((if0 _ _).trans (flt hl).1) ?_
    exact kk_)
  have P28 := own_step (C := T8.setTop (mkF m 26 #[.val (.ref a), .val (.ref bg), .val (.ref sa), .val (.int le), .val (.int mo)] [(.int mo), (.int le)])) P27 (by
    intro tt_ kk_
    refine XS.iloadN X8.here hx rfl (hb hby d6_23) rfl ?_
    show Steps p.tables e below (T8.setTop (mkF m 24 #[.val (.ref a), .val (.ref bg), .val (.ref sa), .val (.int le), .val (.int mo)] [(.int le)])) _
    refine XS.iload X8.here hx rfl (hb hby d6_24) rfl ?_
    exact kk_)
  have P29 := own_step (C := T8.setTop (mkF m 45 #[.val (.ref a), .val (.ref bg), .val (.ref sa), .val (.int le), .val (.int mo)] [])) P28 (by
    intro tt_ kk_
    refine XS.icmpYes X8.here hx rfl (pc0 := 26) (pc' := 45) rfl (hb hby d6_26) rfl (flt hm).2.2.2 (by decide) (by decide) ?_
    exact kk_)
  obtain ⟨fs, hr, hrun, hended, hW, hsame⟩ := X8.leave (v := none) (fun _ => rfl)
  refine ⟨_, _, P29 _ ?_, hrun, hended, _, _, rfl, ?_, ⟨_, rfl⟩, hW, hsame.mono (by decide) (by decide)⟩
  · exact X8.returnOut hx Bd.returns (hb hby d6_45) hr
  · show Q_ns3 Z _ _ _ _ _ _ _ _ _ _ _ _ h0 n0 _ T8.heap _
    exact ⟨rfl, N8, f14, f9, f10, f11⟩
theorem ef__bits0_0 (m : MethodId) (x0 : Addr) (x1 : Int32) : entryFrame m #[(.ref x0), (.int x1)] 6 = mkF m 0 #[.val (.ref x0), .val (.int x1), .unset, .unset, .unset, .unset] [] := by first | (simp [entryFrame, mkF, argsToLocals, Value.category]; done) | rfl
def Q_bits0_0 (Z : State) (sa : Addr) (sb : Addr) (sk : ClassId) (fm : Value) (cs : Int32) (h0 : Heap) (n0 : Nat) (v_ : Option Value) (h : Heap) (L_ : List Loc) : Prop := v_ = some (.long (0 : Int64)) ∧ Fr n0 L_ ∧ h = h0
set_option maxRecDepth 65536 in
set_option maxHeartbeats 40000000 in
theorem rm_bits0_0 (l : Launch) (Z : State) (a0 : Array Value) (hw : ∀ d ∈ tables_1, d.before a0 Z = true) (ws : List Jvm.Cond) (sa : Addr) (sb : Addr) (sk : ClassId) (fm : Value) (cs : Int32) (h0 : Heap) (n0 : Nat) (Z0 : n0 ≤ h0.size) (O : Old Z n0 h0) (Scs : Sta Z Z.heap "java/lang/String" "COMPACT_STRINGS" "Z" (.int cs)) (hcs : ¬ (cs = (0 : Int32))) (Sfm : Sta Z Z.heap "jdk/internal/util/Preconditions" "SIOOBE_FORMATTER" "Ljava/util/function/BiFunction;" fm) (hfm : fm.category = 1) (Es : Exa Z h0 sa "java/lang/String") (Fsc : Fld Z h0 sa "java/lang/String" "coder" "B" (.int (0 : Int32))) (Fsv : Fld Z h0 sa "java/lang/String" "value" "[B" (.ref sb)) (Vs : Arv Z h0 sb sk .byte (0 : Int32) [] (.int 0)) :
    MetFree l (⟨"com/example/gatehouse/gatehouse/pattern/NameShape", "bits", "(Ljava/lang/String;I)J"⟩ : MethodName) (head1 (Jvm.Cond.code (⟨"com/example/gatehouse/gatehouse/pattern/NameShape", "bits", "(Ljava/lang/String;I)J"⟩ : MethodName) prog_36_method_3_code 6 (some .long) :: ws) ({ frames := 2, cells := 0, slots := 0, locals := 26 } : Room)) (fun a_ U_ => a_ = #[(.ref sa), (.int (0 : Int32))] ∧ Z.Warmed39 U_.vm ∧ U_.heap = h0) (fun _ _ _ _ _ => True) (fun _ U_ o_ V_ => ∃ v_ L_, o_ = .returned v_ ∧ Q_bits0_0 Z sa sb sk fm cs h0 n0 v_ V_.heap L_ ∧ FrameEnd U_ o_ V_ L_ ({ frames := 2, cells := 0, slots := 0, locals := 26 } : Room).cells ({ frames := 2, cells := 0, slots := 0, locals := 26 } : Room).slots) := by
  refine MetFree.of_bodySF (plainFor_of_name pn3) hisR ?_
  intro p e s m args below meth c s₁ Bd hml0 hP hK
  obtain ⟨rfl, hZ, hh⟩ := hP
  have hx := Bd.exec
  have hby := Bd.bytes
  have hml : c.maxLocals = 6 := hml0
  have hown : s.vm.findClass "com/example/gatehouse/gatehouse/pattern/NameShape" = some m.cls := findClass_of_methodNamed Bd.named
  have hnm := (name_of_methodNamed Bd.named Bd.method).1
  have X0 : Stand p l e ({ frames := 2, cells := 0, slots := 0, locals := 26 } : Room) s m #[(.ref sa), (.int (0 : Int32))] below meth c s₁ [] 0 0 := Stand.of_body Bd
  have e0 : s₁.heap = h0 := by rw [← hh, Bd.state]; rfl
  have N0 := Fr.nil n0
  have pre0 : own_Go p e below (s₁.setTop (entryFrame m #[(.ref sa), (.int (0 : Int32))] 6)) (s₁.setTop (mkF m 0 #[.val (.ref sa), .val (.int (0 : Int32)), .unset, .unset, .unset, .unset] [])) := fun t_ k_ => castTop (ef__bits0_0 m sa (0 : Int32)) k_
  have P1 := own_step (C := s₁.setTop (mkF m 8 #[.val (.ref sa), .val (.int (0 : Int32)), .val (.long (0 : Int64)), .second, .val (.int (0 : Int32)), .unset] [(.ref sa), (.int (0 : Int32))])) pre0 (by
    intro tt_ kk_
    refine XS.lconst X0.here hx rfl (hb hby d7_0) ?_
    show Steps p.tables e below (s₁.setTop (mkF m 1 #[.val (.ref sa), .val (.int (0 : Int32)), .unset, .unset, .unset, .unset] [(.long (0 : Int64))])) _
    refine XS.lstoreN X0.here hx rfl (hb hby d7_1) rfl (l' := #[.val (.ref sa), .val (.int (0 : Int32)), .val (.long (0 : Int64)), .second, .unset, .unset]) rfl ?_
    show Steps p.tables e below (s₁.setTop (mkF m 2 #[.val (.ref sa), .val (.int (0 : Int32)), .val (.long (0 : Int64)), .second, .unset, .unset] [])) _
    refine XS.iconst X0.here hx rfl (hb hby d7_2) ?_
    show Steps p.tables e below (s₁.setTop (mkF m 3 #[.val (.ref sa), .val (.int (0 : Int32)), .val (.long (0 : Int64)), .second, .unset, .unset] [(.int (0 : Int32))])) _
    refine XS.istore X0.here hx rfl (hb hby d7_3) rfl (l' := #[.val (.ref sa), .val (.int (0 : Int32)), .val (.long (0 : Int64)), .second, .val (.int (0 : Int32)), .unset]) rfl ?_
    show Steps p.tables e below (s₁.setTop (mkF m 5 #[.val (.ref sa), .val (.int (0 : Int32)), .val (.long (0 : Int64)), .second, .val (.int (0 : Int32)), .unset] [])) _
    refine XS.iload X0.here hx rfl (hb hby d7_5) rfl ?_
    show Steps p.tables e below (s₁.setTop (mkF m 7 #[.val (.ref sa), .val (.int (0 : Int32)), .val (.long (0 : Int64)), .second, .val (.int (0 : Int32)), .unset] [(.int (0 : Int32))])) _
    refine XS.aloadN X0.here hx rfl (hb hby d7_7) rfl rfl ?_
    exact kk_)
  obtain ⟨cq2, kq2, q2a, q2b, q2c⟩ := isOf hZ e0 Es
  obtain ⟨_, _, ⟨T2, L2, k2, n2⟩, -, X2, ⟨Lc2, hQ2, l2, y2, z2⟩, st2⟩ := X0.virtualBack hx (y := (⟨"java/lang/String", "length", "()I"⟩ : MethodName)) (z := (⟨"java/lang/String", "length", "()I"⟩ : MethodName)) hown (mvT hZ (hw _ (List.mem_of_getElem? (i := 38) rfl))) (mvT hZ (hw _ (List.mem_of_getElem? (i := 39) rfl))) (notFace_of_selects (args := #[]) (mvT hZ (hw _ (List.mem_of_getElem? (i := 41) rfl)))) (mvT hZ (hw _ (List.mem_of_getElem? (i := 41) rfl))) (mvT hZ (hw _ (List.mem_of_getElem? (i := 40) rfl))) (by decide) (backOf (W := 1) (rm_length l Z a0 hw [] sa sb sk (0 : Int32) _ cs h0 n0 Z0 O Scs hcs Es Fsc Fsv Vs) hZ (hw _ (List.mem_of_getElem? (i := 42) rfl)) (hw _ (List.mem_of_getElem? (i := 1) rfl)) (by decide) (by decide)) q2a q2c (g := (mkF m 8 #[.val (.ref sa), .val (.int (0 : Int32)), .val (.long (0 : Int64)), .second, .val (.int (0 : Int32)), .unset] [(.ref sa), (.int (0 : Int32))])) rfl (by rw [hml]; rfl) (Steps.refl _) (argsL := []) (rest := [(.int (0 : Int32))]) (lenOf pd5 rfl) rfl (by show 2 * 0 + _ ≤ _; exact Nat.le_of_eq rfl) (hb hby d7_8) (fun _ _ => ⟨rfl, e0, (by decide : 0 + 0 ≤ _), (by decide : 0 + 0 ≤ _)⟩)
  dsimp only [Pt.U, Pt.locs, Pt.cells, Pt.slots] at X2 l2 y2 z2 st2 hQ2
  subst l2 y2 z2
  obtain ⟨rfl, N2q, e2⟩ := hQ2
  have N2 := Fr.app N0 N2q
  have P3 := own_step (C := T2.setTop (mkF m 11 #[.val (.ref sa), .val (.int (0 : Int32)), .val (.long (0 : Int64)), .second, .val (.int (0 : Int32)), .unset] [(.int (0 : Int32)), (.int (0 : Int32))])) P1 (fun t_ k_ => st2.trans k_)
  have P4 := own_step (C := T2.setTop (mkF m 73 #[.val (.ref sa), .val (.int (0 : Int32)), .val (.long (0 : Int64)), .second, .val (.int (0 : Int32)), .unset] [])) P3 (by
    intro tt_ kk_
    refine XS.icmpYes X2.here hx rfl (pc0 := 11) (pc' := 73) rfl (hb hby d7_11) rfl (flt (by decide : ¬ ((0 : Int32) < (0 : Int32)))).2.1 (by decide) (by decide) ?_
    exact kk_)
  have P5 := own_step (C := T2.setTop (mkF m 74 #[.val (.ref sa), .val (.int (0 : Int32)), .val (.long (0 : Int64)), .second, .val (.int (0 : Int32)), .unset] [(.long (0 : Int64))])) P4 (by
    intro tt_ kk_
    refine XS.lloadN X2.here hx rfl (hb hby d7_73) rfl ?_
    exact kk_)
  obtain ⟨fs, hr, hrun, hended, hW, hsame⟩ := X2.leave (v := some (.long (0 : Int64))) (fun h => by rw [Bd.returns] at h; cases h)
  refine ⟨_, _, P5 _ ?_, hrun, hended, _, _, rfl, ?_, ⟨_, rfl⟩, hW, hsame.mono (by decide) (by decide)⟩
  · jvm_step X2.here [X2.here.top, hx, (hb hby d7_74), X2.method', Bd.returns, narrow]
    first | (intro acts; rw [hr _ acts rfl rfl rfl]) | rw [hr _ _ rfl rfl rfl]
    exact Steps.refl _
  · show Q_bits0_0 Z _ _ _ _ _ h0 n0 _ T2.heap _
    rw [e2]
    exact ⟨rfl, N2, rfl⟩
theorem ef__bits0_64 (m : MethodId) (x0 : Addr) (x1 : Int32) : entryFrame m #[(.ref x0), (.int x1)] 6 = mkF m 0 #[.val (.ref x0), .val (.int x1), .unset, .unset, .unset, .unset] [] := by first | (simp [entryFrame, mkF, argsToLocals, Value.category]; done) | rfl
def Q_bits0_64 (Z : State) (sa : Addr) (sb : Addr) (sk : ClassId) (fm : Value) (cs : Int32) (h0 : Heap) (n0 : Nat) (v_ : Option Value) (h : Heap) (L_ : List Loc) : Prop := v_ = some (.long (0 : Int64)) ∧ Fr n0 L_ ∧ h = h0
set_option maxRecDepth 65536 in
set_option maxHeartbeats 40000000 in
theorem rm_bits0_64 (l : Launch) (Z : State) (a0 : Array Value) (hw : ∀ d ∈ tables_1, d.before a0 Z = true) (ws : List Jvm.Cond) (sa : Addr) (sb : Addr) (sk : ClassId) (fm : Value) (cs : Int32) (h0 : Heap) (n0 : Nat) (Z0 : n0 ≤ h0.size) (O : Old Z n0 h0) (Scs : Sta Z Z.heap "java/lang/String" "COMPACT_STRINGS" "Z" (.int cs)) (hcs : ¬ (cs = (0 : Int32))) (Sfm : Sta Z Z.heap "jdk/internal/util/Preconditions" "SIOOBE_FORMATTER" "Ljava/util/function/BiFunction;" fm) (hfm : fm.category = 1) (Es : Exa Z h0 sa "java/lang/String") (Fsc : Fld Z h0 sa "java/lang/String" "coder" "B" (.int (0 : Int32))) (Fsv : Fld Z h0 sa "java/lang/String" "value" "[B" (.ref sb)) (Vs : Arv Z h0 sb sk .byte (0 : Int32) [] (.int 0)) :
    MetFree l (⟨"com/example/gatehouse/gatehouse/pattern/NameShape", "bits", "(Ljava/lang/String;I)J"⟩ : MethodName) (head1 (Jvm.Cond.code (⟨"com/example/gatehouse/gatehouse/pattern/NameShape", "bits", "(Ljava/lang/String;I)J"⟩ : MethodName) prog_36_method_3_code 6 (some .long) :: ws) ({ frames := 2, cells := 0, slots := 0, locals := 26 } : Room)) (fun a_ U_ => a_ = #[(.ref sa), (.int (64 : Int32))] ∧ Z.Warmed39 U_.vm ∧ U_.heap = h0) (fun _ _ _ _ _ => True) (fun _ U_ o_ V_ => ∃ v_ L_, o_ = .returned v_ ∧ Q_bits0_64 Z sa sb sk fm cs h0 n0 v_ V_.heap L_ ∧ FrameEnd U_ o_ V_ L_ ({ frames := 2, cells := 0, slots := 0, locals := 26 } : Room).cells ({ frames := 2, cells := 0, slots := 0, locals := 26 } : Room).slots) := by
  refine MetFree.of_bodySF (plainFor_of_name pn3) hisR ?_
  intro p e s m args below meth c s₁ Bd hml0 hP hK
  obtain ⟨rfl, hZ, hh⟩ := hP
  have hx := Bd.exec
  have hby := Bd.bytes
  have hml : c.maxLocals = 6 := hml0
  have hown : s.vm.findClass "com/example/gatehouse/gatehouse/pattern/NameShape" = some m.cls := findClass_of_methodNamed Bd.named
  have hnm := (name_of_methodNamed Bd.named Bd.method).1
  have X0 : Stand p l e ({ frames := 2, cells := 0, slots := 0, locals := 26 } : Room) s m #[(.ref sa), (.int (64 : Int32))] below meth c s₁ [] 0 0 := Stand.of_body Bd
  have e0 : s₁.heap = h0 := by rw [← hh, Bd.state]; rfl
  have N0 := Fr.nil n0
  have pre0 : own_Go p e below (s₁.setTop (entryFrame m #[(.ref sa), (.int (64 : Int32))] 6)) (s₁.setTop (mkF m 0 #[.val (.ref sa), .val (.int (64 : Int32)), .unset, .unset, .unset, .unset] [])) := fun t_ k_ => castTop (ef__bits0_64 m sa (64 : Int32)) k_
  have P1 := own_step (C := s₁.setTop (mkF m 8 #[.val (.ref sa), .val (.int (64 : Int32)), .val (.long (0 : Int64)), .second, .val (.int (0 : Int32)), .unset] [(.ref sa), (.int (0 : Int32))])) pre0 (by
    intro tt_ kk_
    refine XS.lconst X0.here hx rfl (hb hby d7_0) ?_
    show Steps p.tables e below (s₁.setTop (mkF m 1 #[.val (.ref sa), .val (.int (64 : Int32)), .unset, .unset, .unset, .unset] [(.long (0 : Int64))])) _
    refine XS.lstoreN X0.here hx rfl (hb hby d7_1) rfl (l' := #[.val (.ref sa), .val (.int (64 : Int32)), .val (.long (0 : Int64)), .second, .unset, .unset]) rfl ?_
    show Steps p.tables e below (s₁.setTop (mkF m 2 #[.val (.ref sa), .val (.int (64 : Int32)), .val (.long (0 : Int64)), .second, .unset, .unset] [])) _
    refine XS.iconst X0.here hx rfl (hb hby d7_2) ?_
    show Steps p.tables e below (s₁.setTop (mkF m 3 #[.val (.ref sa), .val (.int (64 : Int32)), .val (.long (0 : Int64)), .second, .unset, .unset] [(.int (0 : Int32))])) _
    refine XS.istore X0.here hx rfl (hb hby d7_3) rfl (l' := #[.val (.ref sa), .val (.int (64 : Int32)), .val (.long (0 : Int64)), .second, .val (.int (0 : Int32)), .unset]) rfl ?_
    show Steps p.tables e below (s₁.setTop (mkF m 5 #[.val (.ref sa), .val (.int (64 : Int32)), .val (.long (0 : Int64)), .second, .val (.int (0 : Int32)), .unset] [])) _
    refine XS.iload X0.here hx rfl (hb hby d7_5) rfl ?_
    show Steps p.tables e below (s₁.setTop (mkF m 7 #[.val (.ref sa), .val (.int (64 : Int32)), .val (.long (0 : Int64)), .second, .val (.int (0 : Int32)), .unset] [(.int (0 : Int32))])) _
    refine XS.aloadN X0.here hx rfl (hb hby d7_7) rfl rfl ?_
    exact kk_)
  obtain ⟨cq2, kq2, q2a, q2b, q2c⟩ := isOf hZ e0 Es
  obtain ⟨_, _, ⟨T2, L2, k2, n2⟩, -, X2, ⟨Lc2, hQ2, l2, y2, z2⟩, st2⟩ := X0.virtualBack hx (y := (⟨"java/lang/String", "length", "()I"⟩ : MethodName)) (z := (⟨"java/lang/String", "length", "()I"⟩ : MethodName)) hown (mvT hZ (hw _ (List.mem_of_getElem? (i := 38) rfl))) (mvT hZ (hw _ (List.mem_of_getElem? (i := 39) rfl))) (notFace_of_selects (args := #[]) (mvT hZ (hw _ (List.mem_of_getElem? (i := 41) rfl)))) (mvT hZ (hw _ (List.mem_of_getElem? (i := 41) rfl))) (mvT hZ (hw _ (List.mem_of_getElem? (i := 40) rfl))) (by decide) (backOf (W := 1) (rm_length l Z a0 hw [] sa sb sk (0 : Int32) _ cs h0 n0 Z0 O Scs hcs Es Fsc Fsv Vs) hZ (hw _ (List.mem_of_getElem? (i := 42) rfl)) (hw _ (List.mem_of_getElem? (i := 1) rfl)) (by decide) (by decide)) q2a q2c (g := (mkF m 8 #[.val (.ref sa), .val (.int (64 : Int32)), .val (.long (0 : Int64)), .second, .val (.int (0 : Int32)), .unset] [(.ref sa), (.int (0 : Int32))])) rfl (by rw [hml]; rfl) (Steps.refl _) (argsL := []) (rest := [(.int (0 : Int32))]) (lenOf pd5 rfl) rfl (by show 2 * 0 + _ ≤ _; exact Nat.le_of_eq rfl) (hb hby d7_8) (fun _ _ => ⟨rfl, e0, (by decide : 0 + 0 ≤ _), (by decide : 0 + 0 ≤ _)⟩)
  dsimp only [Pt.U, Pt.locs, Pt.cells, Pt.slots] at X2 l2 y2 z2 st2 hQ2
  subst l2 y2 z2
  obtain ⟨rfl, N2q, e2⟩ := hQ2
  have N2 := Fr.app N0 N2q
  have P3 := own_step (C := T2.setTop (mkF m 11 #[.val (.ref sa), .val (.int (64 : Int32)), .val (.long (0 : Int64)), .second, .val (.int (0 : Int32)), .unset] [(.int (0 : Int32)), (.int (0 : Int32))])) P1 (fun t_ k_ => st2.trans k_)
  have P4 := own_step (C := T2.setTop (mkF m 73 #[.val (.ref sa), .val (.int (64 : Int32)), .val (.long (0 : Int64)), .second, .val (.int (0 : Int32)), .unset] [])) P3 (by
    intro tt_ kk_
    refine XS.icmpYes X2.here hx rfl (pc0 := 11) (pc' := 73) rfl (hb hby d7_11) rfl (flt (by decide : ¬ ((0 : Int32) < (0 : Int32)))).2.1 (by decide) (by decide) ?_
    exact kk_)
  have P5 := own_step (C := T2.setTop (mkF m 74 #[.val (.ref sa), .val (.int (64 : Int32)), .val (.long (0 : Int64)), .second, .val (.int (0 : Int32)), .unset] [(.long (0 : Int64))])) P4 (by
    intro tt_ kk_
    refine XS.lloadN X2.here hx rfl (hb hby d7_73) rfl ?_
    exact kk_)
  obtain ⟨fs, hr, hrun, hended, hW, hsame⟩ := X2.leave (v := some (.long (0 : Int64))) (fun h => by rw [Bd.returns] at h; cases h)
  refine ⟨_, _, P5 _ ?_, hrun, hended, _, _, rfl, ?_, ⟨_, rfl⟩, hW, hsame.mono (by decide) (by decide)⟩
  · jvm_step X2.here [X2.here.top, hx, (hb hby d7_74), X2.method', Bd.returns, narrow]
    first | (intro acts; rw [hr _ acts rfl rfl rfl]) | rw [hr _ _ rfl rfl rfl]
    exact Steps.refl _
  · show Q_bits0_64 Z _ _ _ _ _ h0 n0 _ T2.heap _
    rw [e2]
    exact ⟨rfl, N2, rfl⟩
theorem ef__nsE (m : MethodId) (x0 : Addr) (x1 : Addr) (x2 : Addr) (x3 : Int32) (x4 : Int32) : entryFrame m #[(.ref x0), (.ref x1), (.ref x2), (.int x3), (.int x4)] 5 = mkF m 0 #[.val (.ref x0), .val (.ref x1), .val (.ref x2), .val (.int x3), .val (.int x4)] [] := by first | (simp [entryFrame, mkF, argsToLocals, Value.category]; done) | rfl
def Q_nsE (Z : State) (a : Addr) (bg : Addr) (le : Int32) (mo : Int32) (sa : Addr) (sb : Addr) (sk : ClassId) (fm : Value) (cs : Int32) (h0 : Heap) (n0 : Nat) (v_ : Option Value) (h : Heap) (L_ : List Loc) : Prop := v_ = none ∧ Fr n0 L_ ∧ Keep h0 h [a] ∧ Exa Z h a "com/example/gatehouse/gatehouse/pattern/NameShape" ∧ Fld Z h a "com/example/gatehouse/gatehouse/pattern/NameShape" "low" "J" (.long (0 : Int64)) ∧ Fld Z h a "com/example/gatehouse/gatehouse/pattern/NameShape" "high" "J" (.long (0 : Int64))
set_option maxRecDepth 65536 in
set_option maxHeartbeats 40000000 in
theorem rm_nsE (l : Launch) (Z : State) (a0 : Array Value) (hw : ∀ d ∈ tables_1, d.before a0 Z = true) (ws : List Jvm.Cond) (a : Addr) (bg : Addr) (le : Int32) (mo : Int32) (sa : Addr) (sb : Addr) (sk : ClassId) (fm : Value) (cs : Int32) (h0 : Heap) (n0 : Nat) (Z0 : n0 ≤ h0.size) (O : Old Z n0 h0) (Scs : Sta Z Z.heap "java/lang/String" "COMPACT_STRINGS" "Z" (.int cs)) (hcs : ¬ (cs = (0 : Int32))) (Sfm : Sta Z Z.heap "jdk/internal/util/Preconditions" "SIOOBE_FORMATTER" "Ljava/util/function/BiFunction;" fm) (hfm : fm.category = 1) (Es : Exa Z h0 sa "java/lang/String") (Fsc : Fld Z h0 sa "java/lang/String" "coder" "B" (.int (0 : Int32))) (Fsv : Fld Z h0 sa "java/lang/String" "value" "[B" (.ref sb)) (Vs : Arv Z h0 sb sk .byte (0 : Int32) [] (.int 0)) (Ea : Exa Z h0 a "com/example/gatehouse/gatehouse/pattern/NameShape") (Fbegin : Fld Z h0 a "com/example/gatehouse/gatehouse/pattern/NameShape" "begin" "Ljava/lang/String;" .null) (Flow : Fld Z h0 a "com/example/gatehouse/gatehouse/pattern/NameShape" "low" "J" (.long (0 : Int64))) (Fhigh : Fld Z h0 a "com/example/gatehouse/gatehouse/pattern/NameShape" "high" "J" (.long (0 : Int64))) (Fleast : Fld Z h0 a "com/example/gatehouse/gatehouse/pattern/NameShape" "least" "I" (.int (0 : Int32))) (Fmost : Fld Z h0 a "com/example/gatehouse/gatehouse/pattern/NameShape" "most" "I" (.int (0 : Int32))) (ga : n0 ≤ a) (hl : ¬ (le < (0 : Int32))) (hm : ¬ (mo < le)) :
    MetFree l (⟨"com/example/gatehouse/gatehouse/pattern/NameShape", "<init>", "(Ljava/lang/String;Ljava/lang/String;II)V"⟩ : MethodName) (head1 (Jvm.Cond.code (⟨"com/example/gatehouse/gatehouse/pattern/NameShape", "<init>", "(Ljava/lang/String;Ljava/lang/String;II)V"⟩ : MethodName) prog_36_method_1_code 5 none :: ws) ({ frames := 3, cells := 0, slots := 0, locals := 47 } : Room)) (fun a_ U_ => a_ = #[(.ref a), (.ref bg), (.ref sa), (.int le), (.int mo)] ∧ Z.Warmed39 U_.vm ∧ U_.heap = h0) (fun _ _ _ _ _ => True) (fun _ U_ o_ V_ => ∃ v_ L_, o_ = .returned v_ ∧ Q_nsE Z a bg le mo sa sb sk fm cs h0 n0 v_ V_.heap L_ ∧ FrameEnd U_ o_ V_ L_ ({ frames := 3, cells := 0, slots := 0, locals := 47 } : Room).cells ({ frames := 3, cells := 0, slots := 0, locals := 47 } : Room).slots) := by
  refine MetFree.of_bodySF (plainFor_of_name pn3) hisR ?_
  intro p e s m args below meth c s₁ Bd hml0 hP hK
  obtain ⟨rfl, hZ, hh⟩ := hP
  have hx := Bd.exec
  have hby := Bd.bytes
  have hml : c.maxLocals = 5 := hml0
  have hown : s.vm.findClass "com/example/gatehouse/gatehouse/pattern/NameShape" = some m.cls := findClass_of_methodNamed Bd.named
  have hnm := (name_of_methodNamed Bd.named Bd.method).1
  have X0 : Stand p l e ({ frames := 3, cells := 0, slots := 0, locals := 47 } : Room) s m #[(.ref a), (.ref bg), (.ref sa), (.int le), (.int mo)] below meth c s₁ [] 0 0 := Stand.of_body Bd
  have e0 : s₁.heap = h0 := by rw [← hh, Bd.state]; rfl
  have N0 := Fr.nil n0
  have pre0 : own_Go p e below (s₁.setTop (entryFrame m #[(.ref a), (.ref bg), (.ref sa), (.int le), (.int mo)] 5)) (s₁.setTop (mkF m 0 #[.val (.ref a), .val (.ref bg), .val (.ref sa), .val (.int le), .val (.int mo)] [])) := fun t_ k_ => castTop (ef__nsE m a bg sa le mo) k_
  have ne_sa_a : sa ≠ a := ne_exa Es Ea (by decide)
  obtain ⟨clV, ArV, -⟩ := id Vs
  have ne_sb_a : sb ≠ a := Ne.symm (ne_arr Ea (hw _ (List.mem_of_getElem? (i := 30) rfl)) ArV)
  have P1 := own_step (C := s₁.setTop (mkF m 4 #[.val (.ref a), .val (.ref bg), .val (.ref sa), .val (.int le), .val (.int mo)] [(.int (0 : Int32)), (.ref sa), (.ref bg), (.ref a)])) pre0 (by
    intro tt_ kk_
    refine XS.aloadN X0.here hx rfl (hb hby d6_0) rfl rfl ?_
    show Steps p.tables e below (s₁.setTop (mkF m 1 #[.val (.ref a), .val (.ref bg), .val (.ref sa), .val (.int le), .val (.int mo)] [(.ref a)])) _
    refine XS.aloadN X0.here hx rfl (hb hby d6_1) rfl rfl ?_
    show Steps p.tables e below (s₁.setTop (mkF m 2 #[.val (.ref a), .val (.ref bg), .val (.ref sa), .val (.int le), .val (.int mo)] [(.ref bg), (.ref a)])) _
    refine XS.aloadN X0.here hx rfl (hb hby d6_2) rfl rfl ?_
    show Steps p.tables e below (s₁.setTop (mkF m 3 #[.val (.ref a), .val (.ref bg), .val (.ref sa), .val (.int le), .val (.int mo)] [(.ref sa), (.ref bg), (.ref a)])) _
    refine XS.iconst X0.here hx rfl (hb hby d6_3) ?_
    exact kk_)
  obtain ⟨_, _, ⟨T2, L2, k2, n2⟩, -, X2, ⟨Lc2, hQ2, l2, y2, z2⟩, st2⟩ := Jvm.LawKit.callS X0 hx (y := (⟨"com/example/gatehouse/gatehouse/pattern/NameShape", "bits", "(Ljava/lang/String;I)J"⟩ : MethodName)) hown (mvT hZ (hw _ (List.mem_of_getElem? (i := 35) rfl))) (mvT hZ (hw _ (List.mem_of_getElem? (i := 36) rfl))) (mvT hZ (hw _ (List.mem_of_getElem? (i := 31) rfl))) (mvT hZ (hw _ (List.mem_of_getElem? (i := 37) rfl))) (by decide) (backOf (W := 2) (rm_bits0_0 l Z a0 hw [] sa sb sk  fm cs h0 n0 Z0 O Scs hcs Sfm hfm Es Fsc Fsv Vs ) hZ (hw _ (List.mem_of_getElem? (i := 37) rfl)) (hw _ (List.mem_of_getElem? (i := 31) rfl)) (by decide) (by decide)) (g := (mkF m 4 #[.val (.ref a), .val (.ref bg), .val (.ref sa), .val (.int le), .val (.int mo)] [(.int (0 : Int32)), (.ref sa), (.ref bg), (.ref a)])) rfl (by rw [hml]; rfl) (argsL := [(.ref sa), (.int (0 : Int32))]) (rest := [(.ref bg), (.ref a)]) (lenOf pd7 rfl) rfl (by show 2 * 0 + _ ≤ _; exact Nat.le_of_eq rfl) (hb hby d6_4) (fun _ _ => ⟨rfl, e0, (by decide : 0 + 0 ≤ _), (by decide : 0 + 0 ≤ _)⟩)
  dsimp only [Pt.U, Pt.locs, Pt.cells, Pt.slots] at X2 l2 y2 z2 st2 hQ2
  subst l2 y2 z2
  obtain ⟨rfl, N2q, e2⟩ := hQ2
  have N2 := Fr.app N0 N2q
  have P3 := own_step (C := T2.setTop (mkF m 7 #[.val (.ref a), .val (.ref bg), .val (.ref sa), .val (.int le), .val (.int mo)] [(.long (0 : Int64)), (.ref bg), (.ref a)])) P1 (fun t_ k_ => st2 t_ k_)
  have P4 := own_step (C := T2.setTop (mkF m 10 #[.val (.ref a), .val (.ref bg), .val (.ref sa), .val (.int le), .val (.int mo)] [(.int (64 : Int32)), (.ref sa), (.long (0 : Int64)), (.ref bg), (.ref a)])) P3 (by
    intro tt_ kk_
    refine XS.aloadN X2.here hx rfl (hb hby d6_7) rfl rfl ?_
    show Steps p.tables e below (T2.setTop (mkF m 8 #[.val (.ref a), .val (.ref bg), .val (.ref sa), .val (.int le), .val (.int mo)] [(.ref sa), (.long (0 : Int64)), (.ref bg), (.ref a)])) _
    refine XS.bipush X2.here hx rfl (hb hby d6_8) ?_
    exact kk_)
  obtain ⟨_, _, ⟨T5, L5, k5, n5⟩, -, X5, ⟨Lc5, hQ5, l5, y5, z5⟩, st5⟩ := Jvm.LawKit.callS X2 hx (y := (⟨"com/example/gatehouse/gatehouse/pattern/NameShape", "bits", "(Ljava/lang/String;I)J"⟩ : MethodName)) hown (mvT hZ (hw _ (List.mem_of_getElem? (i := 35) rfl))) (mvT hZ (hw _ (List.mem_of_getElem? (i := 36) rfl))) (mvT hZ (hw _ (List.mem_of_getElem? (i := 31) rfl))) (mvT hZ (hw _ (List.mem_of_getElem? (i := 37) rfl))) (by decide) (backOf (W := 4) (rm_bits0_64 l Z a0 hw [] sa sb sk  fm cs h0 n0 Z0 O Scs hcs Sfm hfm Es Fsc Fsv Vs ) hZ (hw _ (List.mem_of_getElem? (i := 37) rfl)) (hw _ (List.mem_of_getElem? (i := 31) rfl)) (by decide) (by decide)) (g := (mkF m 10 #[.val (.ref a), .val (.ref bg), .val (.ref sa), .val (.int le), .val (.int mo)] [(.int (64 : Int32)), (.ref sa), (.long (0 : Int64)), (.ref bg), (.ref a)])) rfl (by rw [hml]; rfl) (argsL := [(.ref sa), (.int (64 : Int32))]) (rest := [(.long (0 : Int64)), (.ref bg), (.ref a)]) (lenOf pd7 rfl) rfl (by show 2 * 0 + _ ≤ _; exact Nat.le_of_eq rfl) (hb hby d6_10) (fun _ _ => ⟨rfl, e2, (by decide : 0 + 0 ≤ _), (by decide : 0 + 0 ≤ _)⟩)
  dsimp only [Pt.U, Pt.locs, Pt.cells, Pt.slots] at X5 l5 y5 z5 st5 hQ5
  subst l5 y5 z5
  obtain ⟨rfl, N5q, e5⟩ := hQ5
  have N5 := Fr.app N2 N5q
  have P6 := own_step (C := T5.setTop (mkF m 13 #[.val (.ref a), .val (.ref bg), .val (.ref sa), .val (.int le), .val (.int mo)] [(.long (0 : Int64)), (.long (0 : Int64)), (.ref bg), (.ref a)])) P4 (fun t_ k_ => st5 t_ k_)
  have P7 := own_step (C := T5.setTop (mkF m 16 #[.val (.ref a), .val (.ref bg), .val (.ref sa), .val (.int le), .val (.int mo)] [(.int mo), (.int le), (.long (0 : Int64)), (.long (0 : Int64)), (.ref bg), (.ref a)])) P6 (by
    intro tt_ kk_
    refine XS.iloadN X5.here hx rfl (hb hby d6_13) rfl ?_
    show Steps p.tables e below (T5.setTop (mkF m 14 #[.val (.ref a), .val (.ref bg), .val (.ref sa), .val (.int le), .val (.int mo)] [(.int le), (.long (0 : Int64)), (.long (0 : Int64)), (.ref bg), (.ref a)])) _
    refine XS.iload X5.here hx rfl (hb hby d6_14) rfl ?_
    exact kk_)
  obtain ⟨_, _, ⟨T8, L8, k8, n8⟩, -, X8, ⟨Lc8, hQ8, l8, y8, z8⟩, st8⟩ := X5.specialBack hx (y := (⟨"com/example/gatehouse/gatehouse/pattern/NameShape", "<init>", "(Ljava/lang/String;JJII)V"⟩ : MethodName)) rfl hown (mvT hZ (hw _ (List.mem_of_getElem? (i := 48) rfl))) (mvT hZ (hw _ (List.mem_of_getElem? (i := 49) rfl))) (mvT hZ (hw _ (List.mem_of_getElem? (i := 50) rfl))) (by decide) (backOf (W := 0) (rm_ns0 l Z a0 hw [] a bg (0 : Int64) (0 : Int64) le mo h0 n0 Z0 O Ea Fbegin Flow Fhigh Fleast Fmost ga) hZ (hw _ (List.mem_of_getElem? (i := 50) rfl)) (hw _ (List.mem_of_getElem? (i := 31) rfl)) (by decide) (by decide)) (g := (mkF m 16 #[.val (.ref a), .val (.ref bg), .val (.ref sa), .val (.int le), .val (.int mo)] [(.int mo), (.int le), (.long (0 : Int64)), (.long (0 : Int64)), (.ref bg), (.ref a)])) rfl (by rw [hml]; rfl) (Steps.refl _) (a := a) (argsL := [(.ref bg), (.long (0 : Int64)), (.long (0 : Int64)), (.int le), (.int mo)]) (rest := []) (lenOf pd8 rfl) rfl (by show 2 * 0 + _ ≤ _; exact Nat.le_of_eq rfl) (hb hby d6_16) (fun _ _ => ⟨rfl, e5, (by decide : 0 + 0 ≤ _), (by decide : 0 + 0 ≤ _)⟩)
  dsimp only [Pt.U, Pt.locs, Pt.cells, Pt.slots] at X8 l8 y8 z8 st8 hQ8
  subst l8 y8 z8
  obtain ⟨rfl, N8q, K8, f9, f10, f11⟩ := hQ8
  have N8 := Fr.app N5 N8q
  have f12 := O.keep K8 (allS ga all0)
  have f13 := Ea.keep K8
  have f14 := (Keep.refl h0 [a]).trans K8 (allS (Or.inl (List.mem_of_getElem? (i := 0) rfl)) all0)
  have f20 := Es.keep K8
  have f21 := Fsc.keep K8 (ninS ne_sa_a nin0)
  have f22 := Fsv.keep K8 (ninS ne_sa_a nin0)
  have f23 := Vs.keep K8 (ninS ne_sb_a nin0)
  have Z24 : n0 ≤ T8.heap.size := Nat.le_trans Z0 K8.1
  have P25 := own_step (C := T8.setTop (mkF m 19 #[.val (.ref a), .val (.ref bg), .val (.ref sa), .val (.int le), .val (.int mo)] [])) P7 (fun t_ k_ => st8.trans k_)
  have P26 := own_step (C := T8.setTop (mkF m 20 #[.val (.ref a), .val (.ref bg), .val (.ref sa), .val (.int le), .val (.int mo)] [(.int le)])) P25 (by
    intro tt_ kk_
    refine XS.iloadN X8.here hx rfl (hb hby d6_19) rfl ?_
    exact kk_)
  have P27 := own_step (C := T8.setTop (mkF m 23 #[.val (.ref a), .val (.ref bg), .val (.ref sa), .val (.int le), .val (.int mo)] [])) P26 (by
    intro tt_ kk_
    refine XS.ifNo X8.here hx rfl (hb hby d6_20) rfl ((if0 _ _).trans (flt hl).1) ?_
    exact kk_)
  have P28 := own_step (C := T8.setTop (mkF m 26 #[.val (.ref a), .val (.ref bg), .val (.ref sa), .val (.int le), .val (.int mo)] [(.int mo), (.int le)])) P27 (by
    intro tt_ kk_
    refine XS.iloadN X8.here hx rfl (hb hby d6_23) rfl ?_
    show Steps p.tables e below (T8.setTop (mkF m 24 #[.val (.ref a), .val (.ref bg), .val (.ref sa), .val (.int le), .val (.int mo)] [(.int le)])) _
    refine XS.iload X8.here hx rfl (hb hby d6_24) rfl ?_
    exact kk_)
  have P29 := own_step (C := T8.setTop (mkF m 45 #[.val (.ref a), .val (.ref bg), .val (.ref sa), .val (.int le), .val (.int mo)] [])) P28 (by
    intro tt_ kk_
    refine XS.icmpYes X8.here hx rfl (pc0 := 26) (pc' := 45) rfl (hb hby d6_26) rfl (flt hm).2.2.2 (by decide) (by decide) ?_
    exact kk_)
  obtain ⟨fs, hr, hrun, hended, hW, hsame⟩ := X8.leave (v := none) (fun _ => rfl)
  refine ⟨_, _, P29 _ ?_, hrun, hended, _, _, rfl, ?_, ⟨_, rfl⟩, hW, hsame.mono (by decide) (by decide)⟩
  · exact X8.returnOut hx Bd.returns (hb hby d6_45) hr
  · show Q_nsE Z _ _ _ _ _ _ _ _ _ h0 n0 _ T8.heap _
    exact ⟨rfl, N8, f14, f9, f10, f11⟩
theorem d15_0 : decode jdk_52_method_21_code 0 = .ok (.iconst 0, 1) := by decide +kernel
theorem d15_1 : decode jdk_52_method_21_code 1 = .ok (.istore 5, 2) := by decide +kernel
theorem d15_3 : decode jdk_52_method_21_code 3 = .ok (.iload 5, 2) := by decide +kernel
theorem d15_5 : decode jdk_52_method_21_code 5 = .ok (.iload 4, 2) := by decide +kernel
theorem d15_7 : decode jdk_52_method_21_code 7 = .ok (.if_icmp .ge 37, 3) := by decide +kernel
theorem d15_10 : decode jdk_52_method_21_code 10 = .ok (.aload_n 0, 1) := by decide +kernel
theorem d15_11 : decode jdk_52_method_21_code 11 = .ok (.iload_n 1, 1) := by decide +kernel
theorem d15_12 : decode jdk_52_method_21_code 12 = .ok (.caload, 1) := by decide +kernel
theorem d15_13 : decode jdk_52_method_21_code 13 = .ok (.istore 6, 2) := by decide +kernel
theorem d15_15 : decode jdk_52_method_21_code 15 = .ok (.iload 6, 2) := by decide +kernel
theorem d15_17 : decode jdk_52_method_21_code 17 = .ok (.sipush 255, 3) := by decide +kernel
theorem d15_20 : decode jdk_52_method_21_code 20 = .ok (.if_icmp .le 6, 3) := by decide +kernel
theorem d15_26 : decode jdk_52_method_21_code 26 = .ok (.aload_n 2, 1) := by decide +kernel
theorem d15_27 : decode jdk_52_method_21_code 27 = .ok (.iload_n 3, 1) := by decide +kernel
theorem d15_28 : decode jdk_52_method_21_code 28 = .ok (.iload 6, 2) := by decide +kernel
theorem d15_30 : decode jdk_52_method_21_code 30 = .ok (.i2b, 1) := by decide +kernel
theorem d15_31 : decode jdk_52_method_21_code 31 = .ok (.bastore, 1) := by decide +kernel
theorem d15_32 : decode jdk_52_method_21_code 32 = .ok (.iinc 1 1, 3) := by decide +kernel
theorem d15_35 : decode jdk_52_method_21_code 35 = .ok (.iinc 3 1, 3) := by decide +kernel
theorem d15_38 : decode jdk_52_method_21_code 38 = .ok (.iinc 5 1, 3) := by decide +kernel
theorem d15_41 : decode jdk_52_method_21_code 41 = .ok (.goto (-38), 3) := by decide +kernel
theorem d15_44 : decode jdk_52_method_21_code 44 = .ok (.iload 4, 2) := by decide +kernel
theorem d15_46 : decode jdk_52_method_21_code 46 = .ok (.ireturn, 1) := by decide +kernel
theorem ef__comp2_3 (m : MethodId) (x0 : Addr) (x1 : Int32) (x2 : Addr) (x3 : Int32) (x4 : Int32) : entryFrame m #[(.ref x0), (.int x1), (.ref x2), (.int x3), (.int x4)] 7 = mkF m 0 #[.val (.ref x0), .val (.int x1), .val (.ref x2), .val (.int x3), .val (.int x4), .unset, .unset] [] := by first | (simp [entryFrame, mkF, argsToLocals, Value.category]; done) | rfl
def Q_comp2_3 (Z : State) (a : Addr) (ka : ClassId) (d : Addr) (kd : ClassId) (c0 : Int32) (c1 : Int32) (c2 : Int32) (h0 : Heap) (n0 : Nat) (v_ : Option Value) (h : Heap) (L_ : List Loc) : Prop := v_ = some (.int (3 : Int32)) ∧ Fr n0 L_ ∧ Keep h0 h [d] ∧ Arv Z h d kd .byte (3 : Int32) [(.int (c0.toInt8.toInt32).toInt8.toInt32), (.int (c1.toInt8.toInt32).toInt8.toInt32), (.int (c2.toInt8.toInt32).toInt8.toInt32)] (.int 0)
theorem pn4 : plainName "java/lang/StringUTF16" = true := by first | (simp [plainName, overriddenIn]; done) | decide +kernel
set_option maxRecDepth 65536 in
set_option maxHeartbeats 40000000 in
theorem rm_comp2_3 (l : Launch) (Z : State) (a0 : Array Value) (hw : ∀ d ∈ tables_1, d.before a0 Z = true) (ws : List Jvm.Cond) (a : Addr) (ka : ClassId) (d : Addr) (kd : ClassId) (c0 : Int32) (c1 : Int32) (c2 : Int32) (h0 : Heap) (n0 : Nat) (Z0 : n0 ≤ h0.size) (O : Old Z n0 h0) (Va : Arv Z h0 a ka .char (3 : Int32) [(.int c0), (.int c1), (.int c2)] (.int 0)) (Vd : Arv Z h0 d kd .byte (3 : Int32) [(.int (0 : Int32)), (.int (0 : Int32)), (.int (0 : Int32))] (.int 0)) (nad : a ≠ d) (gd : n0 ≤ d) (hc0 : ¬ ((255 : Int32) < c0)) (hc1 : ¬ ((255 : Int32) < c1)) (hc2 : ¬ ((255 : Int32) < c2)) :
    MetFree l (⟨"java/lang/StringUTF16", "compress", "([CI[BII)I"⟩ : MethodName) (head1 (Jvm.Cond.code (⟨"java/lang/StringUTF16", "compress", "([CI[BII)I"⟩ : MethodName) jdk_52_method_21_code 7 (some .int) :: ws) ({ frames := 0, cells := 0, slots := 0, locals := 0 } : Room)) (fun a_ U_ => a_ = #[(.ref a), (.int (0 : Int32)), (.ref d), (.int (0 : Int32)), (.int (3 : Int32))] ∧ Z.Warmed39 U_.vm ∧ U_.heap = h0) (fun _ _ _ _ _ => True) (fun _ U_ o_ V_ => ∃ v_ L_, o_ = .returned v_ ∧ Q_comp2_3 Z a ka d kd c0 c1 c2 h0 n0 v_ V_.heap L_ ∧ FrameEnd U_ o_ V_ L_ ({ frames := 0, cells := 0, slots := 0, locals := 0 } : Room).cells ({ frames := 0, cells := 0, slots := 0, locals := 0 } : Room).slots) := by
  refine MetFree.of_bodySF (plainFor_of_name pn4) hisR ?_
  intro p e s m args below meth c s₁ Bd hml0 hP hK
  obtain ⟨rfl, hZ, hh⟩ := hP
  have hx := Bd.exec
  have hby := Bd.bytes
  have hml : c.maxLocals = 7 := hml0
  have hown : s.vm.findClass "java/lang/StringUTF16" = some m.cls := findClass_of_methodNamed Bd.named
  have hnm := (name_of_methodNamed Bd.named Bd.method).1
  have X0 : Stand p l e ({ frames := 0, cells := 0, slots := 0, locals := 0 } : Room) s m #[(.ref a), (.int (0 : Int32)), (.ref d), (.int (0 : Int32)), (.int (3 : Int32))] below meth c s₁ [] 0 0 := Stand.of_body Bd
  have e0 : s₁.heap = h0 := by rw [← hh, Bd.state]; rfl
  have N0 := Fr.nil n0
  have pre0 : own_Go p e below (s₁.setTop (entryFrame m #[(.ref a), (.int (0 : Int32)), (.ref d), (.int (0 : Int32)), (.int (3 : Int32))] 7)) (s₁.setTop (mkF m 0 #[.val (.ref a), .val (.int (0 : Int32)), .val (.ref d), .val (.int (0 : Int32)), .val (.int (3 : Int32)), .unset, .unset] [])) := fun t_ k_ => castTop (ef__comp2_3 m a (0 : Int32) d (0 : Int32) (3 : Int32)) k_
  have P1 := own_step (C := s₁.setTop (mkF m 7 #[.val (.ref a), .val (.int (0 : Int32)), .val (.ref d), .val (.int (0 : Int32)), .val (.int (3 : Int32)), .val (.int (0 : Int32)), .unset] [(.int (3 : Int32)), (.int (0 : Int32))])) pre0 (by
    intro tt_ kk_
    refine XS.iconst X0.here hx rfl (hb hby d15_0) ?_
    show Steps p.tables e below (s₁.setTop (mkF m 1 #[.val (.ref a), .val (.int (0 : Int32)), .val (.ref d), .val (.int (0 : Int32)), .val (.int (3 : Int32)), .unset, .unset] [(.int (0 : Int32))])) _
    refine XS.istore X0.here hx rfl (hb hby d15_1) rfl (l' := #[.val (.ref a), .val (.int (0 : Int32)), .val (.ref d), .val (.int (0 : Int32)), .val (.int (3 : Int32)), .val (.int (0 : Int32)), .unset]) rfl ?_
    show Steps p.tables e below (s₁.setTop (mkF m 3 #[.val (.ref a), .val (.int (0 : Int32)), .val (.ref d), .val (.int (0 : Int32)), .val (.int (3 : Int32)), .val (.int (0 : Int32)), .unset] [])) _
    refine XS.iload X0.here hx rfl (hb hby d15_3) rfl ?_
    show Steps p.tables e below (s₁.setTop (mkF m 5 #[.val (.ref a), .val (.int (0 : Int32)), .val (.ref d), .val (.int (0 : Int32)), .val (.int (3 : Int32)), .val (.int (0 : Int32)), .unset] [(.int (0 : Int32))])) _
    refine XS.iload X0.here hx rfl (hb hby d15_5) rfl ?_
    exact kk_)
  have P2 := own_step (C := s₁.setTop (mkF m 10 #[.val (.ref a), .val (.int (0 : Int32)), .val (.ref d), .val (.int (0 : Int32)), .val (.int (3 : Int32)), .val (.int (0 : Int32)), .unset] [])) P1 (by
    intro tt_ kk_
    refine XS.icmpNo X0.here hx rfl (hb hby d15_7) rfl (tlt (by decide : (0 : Int32) < (3 : Int32))).2.1 ?_
    exact kk_)
  have P3 := own_step (C := s₁.setTop (mkF m 12 #[.val (.ref a), .val (.int (0 : Int32)), .val (.ref d), .val (.int (0 : Int32)), .val (.int (3 : Int32)), .val (.int (0 : Int32)), .unset] [(.int (0 : Int32)), (.ref a)])) P2 (by
    intro tt_ kk_
    refine XS.aloadN X0.here hx rfl (hb hby d15_10) rfl rfl ?_
    show Steps p.tables e below (s₁.setTop (mkF m 11 #[.val (.ref a), .val (.int (0 : Int32)), .val (.ref d), .val (.int (0 : Int32)), .val (.int (3 : Int32)), .val (.int (0 : Int32)), .unset] [(.ref a)])) _
    refine XS.iloadN X0.here hx rfl (hb hby d15_11) rfl ?_
    exact kk_)
  obtain ⟨cl4, Ar4, q4, S4, M4, H4, G4⟩ := id Va
  have hin4 := inb_of S4 (by decide : ¬ (0 : Int32) < 0 ∧ (0 : Int32) < (3 : Int32))
  have hat4 := Has.at H4 hin4 (v := .int c0) rfl
  have P5 := own_step (C := s₁.setTop (mkF m 13 #[.val (.ref a), .val (.int (0 : Int32)), .val (.ref d), .val (.int (0 : Int32)), .val (.int (3 : Int32)), .val (.int (0 : Int32)), .unset] [(.int c0)])) P3 (by
    intro tt_ kk_
    refine X0.caload hx (j := (0 : Int32)) (v := (.int c0)) (by rw [e0]; exact Ar4.1) (State.isArrayOf_alike hZ.alike Ar4.2.1) Ar4.2.2 hin4 hat4 (g := (mkF m 12 #[.val (.ref a), .val (.int (0 : Int32)), .val (.ref d), .val (.int (0 : Int32)), .val (.int (3 : Int32)), .val (.int (0 : Int32)), .unset] [(.int (0 : Int32)), (.ref a)])) rfl rfl (hb hby d15_12) _ ?_
    exact kk_)
  have P6 := own_step (C := s₁.setTop (mkF m 20 #[.val (.ref a), .val (.int (0 : Int32)), .val (.ref d), .val (.int (0 : Int32)), .val (.int (3 : Int32)), .val (.int (0 : Int32)), .val (.int c0)] [(.int (255 : Int32)), (.int c0)])) P5 (by
    intro tt_ kk_
    refine XS.istore X0.here hx rfl (hb hby d15_13) rfl (l' := #[.val (.ref a), .val (.int (0 : Int32)), .val (.ref d), .val (.int (0 : Int32)), .val (.int (3 : Int32)), .val (.int (0 : Int32)), .val (.int c0)]) rfl ?_
    show Steps p.tables e below (s₁.setTop (mkF m 15 #[.val (.ref a), .val (.int (0 : Int32)), .val (.ref d), .val (.int (0 : Int32)), .val (.int (3 : Int32)), .val (.int (0 : Int32)), .val (.int c0)] [])) _
    refine XS.iload X0.here hx rfl (hb hby d15_15) rfl ?_
    show Steps p.tables e below (s₁.setTop (mkF m 17 #[.val (.ref a), .val (.int (0 : Int32)), .val (.ref d), .val (.int (0 : Int32)), .val (.int (3 : Int32)), .val (.int (0 : Int32)), .val (.int c0)] [(.int c0)])) _
    refine XS.sipush X0.here hx rfl (hb hby d15_17) ?_
    exact kk_)
  have P7 := own_step (C := s₁.setTop (mkF m 26 #[.val (.ref a), .val (.int (0 : Int32)), .val (.ref d), .val (.int (0 : Int32)), .val (.int (3 : Int32)), .val (.int (0 : Int32)), .val (.int c0)] [])) P6 (by
    intro tt_ kk_
    refine XS.icmpYes X0.here hx rfl (pc0 := 20) (pc' := 26) rfl (hb hby d15_20) rfl (flt hc0).2.2.2 (by decide) (by decide) ?_
    exact kk_)
  have P8 := own_step (C := s₁.setTop (mkF m 31 #[.val (.ref a), .val (.int (0 : Int32)), .val (.ref d), .val (.int (0 : Int32)), .val (.int (3 : Int32)), .val (.int (0 : Int32)), .val (.int c0)] [(.int (c0.toInt8.toInt32)), (.int (0 : Int32)), (.ref d)])) P7 (by
    intro tt_ kk_
    refine XS.aloadN X0.here hx rfl (hb hby d15_26) rfl rfl ?_
    show Steps p.tables e below (s₁.setTop (mkF m 27 #[.val (.ref a), .val (.int (0 : Int32)), .val (.ref d), .val (.int (0 : Int32)), .val (.int (3 : Int32)), .val (.int (0 : Int32)), .val (.int c0)] [(.ref d)])) _
    refine XS.iloadN X0.here hx rfl (hb hby d15_27) rfl ?_
    show Steps p.tables e below (s₁.setTop (mkF m 28 #[.val (.ref a), .val (.int (0 : Int32)), .val (.ref d), .val (.int (0 : Int32)), .val (.int (3 : Int32)), .val (.int (0 : Int32)), .val (.int c0)] [(.int (0 : Int32)), (.ref d)])) _
    refine XS.iload X0.here hx rfl (hb hby d15_28) rfl ?_
    show Steps p.tables e below (s₁.setTop (mkF m 30 #[.val (.ref a), .val (.int (0 : Int32)), .val (.ref d), .val (.int (0 : Int32)), .val (.int (3 : Int32)), .val (.int (0 : Int32)), .val (.int c0)] [(.int c0), (.int (0 : Int32)), (.ref d)])) _
    refine XS.i2b X0.here hx rfl (hb hby d15_30) rfl ?_
    exact kk_)
  obtain ⟨cl9, Ar9, q9, S9, M9, H9, G9⟩ := id Vd
  obtain ⟨T10, h10, X10, e10, W10, st10⟩ := stB X0 hx hZ e0 Ar9 (j := (0 : Int32)) (inb_of S9 (by decide : ¬ (0 : Int32) < 0 ∧ (0 : Int32) < (3 : Int32))) (g := (mkF m 31 #[.val (.ref a), .val (.int (0 : Int32)), .val (.ref d), .val (.int (0 : Int32)), .val (.int (3 : Int32)), .val (.int (0 : Int32)), .val (.int c0)] [(.int (c0.toInt8.toInt32)), (.int (0 : Int32)), (.ref d)])) rfl rfl (hb hby d15_31)
  have f11 := O.wr W10 gd
  have f12 := Va.other W10 nad
  have f14 := (Keep.refl h0 [d]).wr W10 (Or.inl (List.mem_of_getElem? (i := 0) rfl))
  have Z15 : n0 ≤ h10.size := Nat.le_trans Z0 (Keep.of_wr W10).1
  have V10 : Arv Z h10 d kd .byte (3 : Int32) [(.int (c0.toInt8.toInt32).toInt8.toInt32), (.int (0 : Int32)), (.int (0 : Int32))] (.int 0) := Arv.set Ar9 q9 S9 M9 H9 G9 (fits_nar_byte _) W10 0 rfl (Nat.le_of_ble_eq_true rfl)
  have N10 := Fr.snoc X10 N0 gd
  have P16 := own_step (C := T10.setTop (mkF m 32 #[.val (.ref a), .val (.int (0 : Int32)), .val (.ref d), .val (.int (0 : Int32)), .val (.int (3 : Int32)), .val (.int (0 : Int32)), .val (.int c0)] [])) P8 (fun t_ k_ => st10 t_ k_)
  have P17 := own_step (C := T10.setTop (mkF m 7 #[.val (.ref a), .val (.int (1 : Int32)), .val (.ref d), .val (.int (1 : Int32)), .val (.int (3 : Int32)), .val (.int (1 : Int32)), .val (.int c0)] [(.int (3 : Int32)), (.int (1 : Int32))])) P16 (by
    intro tt_ kk_
    refine XS.iinc X10.here hx rfl (hb hby d15_32) rfl (l' := #[.val (.ref a), .val (.int (1 : Int32)), .val (.ref d), .val (.int (0 : Int32)), .val (.int (3 : Int32)), .val (.int (0 : Int32)), .val (.int c0)]) rfl ?_
    show Steps p.tables e below (T10.setTop (mkF m 35 #[.val (.ref a), .val (.int (1 : Int32)), .val (.ref d), .val (.int (0 : Int32)), .val (.int (3 : Int32)), .val (.int (0 : Int32)), .val (.int c0)] [])) _
    refine XS.iinc X10.here hx rfl (hb hby d15_35) rfl (l' := #[.val (.ref a), .val (.int (1 : Int32)), .val (.ref d), .val (.int (1 : Int32)), .val (.int (3 : Int32)), .val (.int (0 : Int32)), .val (.int c0)]) rfl ?_
    show Steps p.tables e below (T10.setTop (mkF m 38 #[.val (.ref a), .val (.int (1 : Int32)), .val (.ref d), .val (.int (1 : Int32)), .val (.int (3 : Int32)), .val (.int (0 : Int32)), .val (.int c0)] [])) _
    refine XS.iinc X10.here hx rfl (hb hby d15_38) rfl (l' := #[.val (.ref a), .val (.int (1 : Int32)), .val (.ref d), .val (.int (1 : Int32)), .val (.int (3 : Int32)), .val (.int (1 : Int32)), .val (.int c0)]) rfl ?_
    show Steps p.tables e below (T10.setTop (mkF m 41 #[.val (.ref a), .val (.int (1 : Int32)), .val (.ref d), .val (.int (1 : Int32)), .val (.int (3 : Int32)), .val (.int (1 : Int32)), .val (.int c0)] [])) _
    refine XS.goto X10.here hx rfl (pc0 := 41) (pc' := 3) rfl (hb hby d15_41) (by decide) (by decide) ?_
    show Steps p.tables e below (T10.setTop (mkF m 3 #[.val (.ref a), .val (.int (1 : Int32)), .val (.ref d), .val (.int (1 : Int32)), .val (.int (3 : Int32)), .val (.int (1 : Int32)), .val (.int c0)] [])) _
    refine XS.iload X10.here hx rfl (hb hby d15_3) rfl ?_
    show Steps p.tables e below (T10.setTop (mkF m 5 #[.val (.ref a), .val (.int (1 : Int32)), .val (.ref d), .val (.int (1 : Int32)), .val (.int (3 : Int32)), .val (.int (1 : Int32)), .val (.int c0)] [(.int (1 : Int32))])) _
    refine XS.iload X10.here hx rfl (hb hby d15_5) rfl ?_
    exact kk_)
  have P18 := own_step (C := T10.setTop (mkF m 10 #[.val (.ref a), .val (.int (1 : Int32)), .val (.ref d), .val (.int (1 : Int32)), .val (.int (3 : Int32)), .val (.int (1 : Int32)), .val (.int c0)] [])) P17 (by
    intro tt_ kk_
    refine XS.icmpNo X10.here hx rfl (hb hby d15_7) rfl (tlt (by decide : (1 : Int32) < (3 : Int32))).2.1 ?_
    exact kk_)
  have P19 := own_step (C := T10.setTop (mkF m 12 #[.val (.ref a), .val (.int (1 : Int32)), .val (.ref d), .val (.int (1 : Int32)), .val (.int (3 : Int32)), .val (.int (1 : Int32)), .val (.int c0)] [(.int (1 : Int32)), (.ref a)])) P18 (by
    intro tt_ kk_
    refine XS.aloadN X10.here hx rfl (hb hby d15_10) rfl rfl ?_
    show Steps p.tables e below (T10.setTop (mkF m 11 #[.val (.ref a), .val (.int (1 : Int32)), .val (.ref d), .val (.int (1 : Int32)), .val (.int (3 : Int32)), .val (.int (1 : Int32)), .val (.int c0)] [(.ref a)])) _
    refine XS.iloadN X10.here hx rfl (hb hby d15_11) rfl ?_
    exact kk_)
  obtain ⟨cl20, Ar20, q20, S20, M20, H20, G20⟩ := id f12
  have hin20 := inb_of S20 (by decide : ¬ (1 : Int32) < 0 ∧ (1 : Int32) < (3 : Int32))
  have hat20 := Has.at H20 hin20 (v := .int c1) rfl
  have P21 := own_step (C := T10.setTop (mkF m 13 #[.val (.ref a), .val (.int (1 : Int32)), .val (.ref d), .val (.int (1 : Int32)), .val (.int (3 : Int32)), .val (.int (1 : Int32)), .val (.int c0)] [(.int c1)])) P19 (by
    intro tt_ kk_
    refine X10.caload hx (j := (1 : Int32)) (v := (.int c1)) (by rw [e10]; exact Ar20.1) (State.isArrayOf_alike hZ.alike Ar20.2.1) Ar20.2.2 hin20 hat20 (g := (mkF m 12 #[.val (.ref a), .val (.int (1 : Int32)), .val (.ref d), .val (.int (1 : Int32)), .val (.int (3 : Int32)), .val (.int (1 : Int32)), .val (.int c0)] [(.int (1 : Int32)), (.ref a)])) rfl rfl (hb hby d15_12) _ ?_
    exact kk_)
  have P22 := own_step (C := T10.setTop (mkF m 20 #[.val (.ref a), .val (.int (1 : Int32)), .val (.ref d), .val (.int (1 : Int32)), .val (.int (3 : Int32)), .val (.int (1 : Int32)), .val (.int c1)] [(.int (255 : Int32)), (.int c1)])) P21 (by
    intro tt_ kk_
    refine XS.istore X10.here hx rfl (hb hby d15_13) rfl (l' := #[.val (.ref a), .val (.int (1 : Int32)), .val (.ref d), .val (.int (1 : Int32)), .val (.int (3 : Int32)), .val (.int (1 : Int32)), .val (.int c1)]) rfl ?_
    show Steps p.tables e below (T10.setTop (mkF m 15 #[.val (.ref a), .val (.int (1 : Int32)), .val (.ref d), .val (.int (1 : Int32)), .val (.int (3 : Int32)), .val (.int (1 : Int32)), .val (.int c1)] [])) _
    refine XS.iload X10.here hx rfl (hb hby d15_15) rfl ?_
    show Steps p.tables e below (T10.setTop (mkF m 17 #[.val (.ref a), .val (.int (1 : Int32)), .val (.ref d), .val (.int (1 : Int32)), .val (.int (3 : Int32)), .val (.int (1 : Int32)), .val (.int c1)] [(.int c1)])) _
    refine XS.sipush X10.here hx rfl (hb hby d15_17) ?_
    exact kk_)
  have P23 := own_step (C := T10.setTop (mkF m 26 #[.val (.ref a), .val (.int (1 : Int32)), .val (.ref d), .val (.int (1 : Int32)), .val (.int (3 : Int32)), .val (.int (1 : Int32)), .val (.int c1)] [])) P22 (by
    intro tt_ kk_
    refine XS.icmpYes X10.here hx rfl (pc0 := 20) (pc' := 26) rfl (hb hby d15_20) rfl (flt hc1).2.2.2 (by decide) (by decide) ?_
    exact kk_)
  have P24 := own_step (C := T10.setTop (mkF m 31 #[.val (.ref a), .val (.int (1 : Int32)), .val (.ref d), .val (.int (1 : Int32)), .val (.int (3 : Int32)), .val (.int (1 : Int32)), .val (.int c1)] [(.int (c1.toInt8.toInt32)), (.int (1 : Int32)), (.ref d)])) P23 (by
    intro tt_ kk_
    refine XS.aloadN X10.here hx rfl (hb hby d15_26) rfl rfl ?_
    show Steps p.tables e below (T10.setTop (mkF m 27 #[.val (.ref a), .val (.int (1 : Int32)), .val (.ref d), .val (.int (1 : Int32)), .val (.int (3 : Int32)), .val (.int (1 : Int32)), .val (.int c1)] [(.ref d)])) _
    refine XS.iloadN X10.here hx rfl (hb hby d15_27) rfl ?_
    show Steps p.tables e below (T10.setTop (mkF m 28 #[.val (.ref a), .val (.int (1 : Int32)), .val (.ref d), .val (.int (1 : Int32)), .val (.int (3 : Int32)), .val (.int (1 : Int32)), .val (.int c1)] [(.int (1 : Int32)), (.ref d)])) _
    refine XS.iload X10.here hx rfl (hb hby d15_28) rfl ?_
    show Steps p.tables e below (T10.setTop (mkF m 30 #[.val (.ref a), .val (.int (1 : Int32)), .val (.ref d), .val (.int (1 : Int32)), .val (.int (3 : Int32)), .val (.int (1 : Int32)), .val (.int c1)] [(.int c1), (.int (1 : Int32)), (.ref d)])) _
    refine XS.i2b X10.here hx rfl (hb hby d15_30) rfl ?_
    exact kk_)
  obtain ⟨cl25, Ar25, q25, S25, M25, H25, G25⟩ := id V10
  obtain ⟨T26, h26, X26, e26, W26, st26⟩ := stB X10 hx hZ e10 Ar25 (j := (1 : Int32)) (inb_of S25 (by decide : ¬ (1 : Int32) < 0 ∧ (1 : Int32) < (3 : Int32))) (g := (mkF m 31 #[.val (.ref a), .val (.int (1 : Int32)), .val (.ref d), .val (.int (1 : Int32)), .val (.int (3 : Int32)), .val (.int (1 : Int32)), .val (.int c1)] [(.int (c1.toInt8.toInt32)), (.int (1 : Int32)), (.ref d)])) rfl rfl (hb hby d15_31)
  have f27 := f11.wr W26 gd
  have f28 := f12.other W26 nad
  have f30 := f14.wr W26 (Or.inl (List.mem_of_getElem? (i := 0) rfl))
  have Z31 : n0 ≤ h26.size := Nat.le_trans Z15 (Keep.of_wr W26).1
  have V26 : Arv Z h26 d kd .byte (3 : Int32) [(.int (c0.toInt8.toInt32).toInt8.toInt32), (.int (c1.toInt8.toInt32).toInt8.toInt32), (.int (0 : Int32))] (.int 0) := Arv.set Ar25 q25 S25 M25 H25 G25 (fits_nar_byte _) W26 1 rfl (Nat.le_of_ble_eq_true rfl)
  have N26 := Fr.snoc X26 N10 gd
  have P32 := own_step (C := T26.setTop (mkF m 32 #[.val (.ref a), .val (.int (1 : Int32)), .val (.ref d), .val (.int (1 : Int32)), .val (.int (3 : Int32)), .val (.int (1 : Int32)), .val (.int c1)] [])) P24 (fun t_ k_ => st26 t_ k_)
  have P33 := own_step (C := T26.setTop (mkF m 7 #[.val (.ref a), .val (.int (2 : Int32)), .val (.ref d), .val (.int (2 : Int32)), .val (.int (3 : Int32)), .val (.int (2 : Int32)), .val (.int c1)] [(.int (3 : Int32)), (.int (2 : Int32))])) P32 (by
    intro tt_ kk_
    refine XS.iinc X26.here hx rfl (hb hby d15_32) rfl (l' := #[.val (.ref a), .val (.int (2 : Int32)), .val (.ref d), .val (.int (1 : Int32)), .val (.int (3 : Int32)), .val (.int (1 : Int32)), .val (.int c1)]) rfl ?_
    show Steps p.tables e below (T26.setTop (mkF m 35 #[.val (.ref a), .val (.int (2 : Int32)), .val (.ref d), .val (.int (1 : Int32)), .val (.int (3 : Int32)), .val (.int (1 : Int32)), .val (.int c1)] [])) _
    refine XS.iinc X26.here hx rfl (hb hby d15_35) rfl (l' := #[.val (.ref a), .val (.int (2 : Int32)), .val (.ref d), .val (.int (2 : Int32)), .val (.int (3 : Int32)), .val (.int (1 : Int32)), .val (.int c1)]) rfl ?_
    show Steps p.tables e below (T26.setTop (mkF m 38 #[.val (.ref a), .val (.int (2 : Int32)), .val (.ref d), .val (.int (2 : Int32)), .val (.int (3 : Int32)), .val (.int (1 : Int32)), .val (.int c1)] [])) _
    refine XS.iinc X26.here hx rfl (hb hby d15_38) rfl (l' := #[.val (.ref a), .val (.int (2 : Int32)), .val (.ref d), .val (.int (2 : Int32)), .val (.int (3 : Int32)), .val (.int (2 : Int32)), .val (.int c1)]) rfl ?_
    show Steps p.tables e below (T26.setTop (mkF m 41 #[.val (.ref a), .val (.int (2 : Int32)), .val (.ref d), .val (.int (2 : Int32)), .val (.int (3 : Int32)), .val (.int (2 : Int32)), .val (.int c1)] [])) _
    refine XS.goto X26.here hx rfl (pc0 := 41) (pc' := 3) rfl (hb hby d15_41) (by decide) (by decide) ?_
    show Steps p.tables e below (T26.setTop (mkF m 3 #[.val (.ref a), .val (.int (2 : Int32)), .val (.ref d), .val (.int (2 : Int32)), .val (.int (3 : Int32)), .val (.int (2 : Int32)), .val (.int c1)] [])) _
    refine XS.iload X26.here hx rfl (hb hby d15_3) rfl ?_
    show Steps p.tables e below (T26.setTop (mkF m 5 #[.val (.ref a), .val (.int (2 : Int32)), .val (.ref d), .val (.int (2 : Int32)), .val (.int (3 : Int32)), .val (.int (2 : Int32)), .val (.int c1)] [(.int (2 : Int32))])) _
    refine XS.iload X26.here hx rfl (hb hby d15_5) rfl ?_
    exact kk_)
  have P34 := own_step (C := T26.setTop (mkF m 10 #[.val (.ref a), .val (.int (2 : Int32)), .val (.ref d), .val (.int (2 : Int32)), .val (.int (3 : Int32)), .val (.int (2 : Int32)), .val (.int c1)] [])) P33 (by
    intro tt_ kk_
    refine XS.icmpNo X26.here hx rfl (hb hby d15_7) rfl (tlt (by decide : (2 : Int32) < (3 : Int32))).2.1 ?_
    exact kk_)
  have P35 := own_step (C := T26.setTop (mkF m 12 #[.val (.ref a), .val (.int (2 : Int32)), .val (.ref d), .val (.int (2 : Int32)), .val (.int (3 : Int32)), .val (.int (2 : Int32)), .val (.int c1)] [(.int (2 : Int32)), (.ref a)])) P34 (by
    intro tt_ kk_
    refine XS.aloadN X26.here hx rfl (hb hby d15_10) rfl rfl ?_
    show Steps p.tables e below (T26.setTop (mkF m 11 #[.val (.ref a), .val (.int (2 : Int32)), .val (.ref d), .val (.int (2 : Int32)), .val (.int (3 : Int32)), .val (.int (2 : Int32)), .val (.int c1)] [(.ref a)])) _
    refine XS.iloadN X26.here hx rfl (hb hby d15_11) rfl ?_
    exact kk_)
  obtain ⟨cl36, Ar36, q36, S36, M36, H36, G36⟩ := id f28
  have hin36 := inb_of S36 (by decide : ¬ (2 : Int32) < 0 ∧ (2 : Int32) < (3 : Int32))
  have hat36 := Has.at H36 hin36 (v := .int c2) rfl
  have P37 := own_step (C := T26.setTop (mkF m 13 #[.val (.ref a), .val (.int (2 : Int32)), .val (.ref d), .val (.int (2 : Int32)), .val (.int (3 : Int32)), .val (.int (2 : Int32)), .val (.int c1)] [(.int c2)])) P35 (by
    intro tt_ kk_
    refine X26.caload hx (j := (2 : Int32)) (v := (.int c2)) (by rw [e26]; exact Ar36.1) (State.isArrayOf_alike hZ.alike Ar36.2.1) Ar36.2.2 hin36 hat36 (g := (mkF m 12 #[.val (.ref a), .val (.int (2 : Int32)), .val (.ref d), .val (.int (2 : Int32)), .val (.int (3 : Int32)), .val (.int (2 : Int32)), .val (.int c1)] [(.int (2 : Int32)), (.ref a)])) rfl rfl (hb hby d15_12) _ ?_
    exact kk_)
  have P38 := own_step (C := T26.setTop (mkF m 20 #[.val (.ref a), .val (.int (2 : Int32)), .val (.ref d), .val (.int (2 : Int32)), .val (.int (3 : Int32)), .val (.int (2 : Int32)), .val (.int c2)] [(.int (255 : Int32)), (.int c2)])) P37 (by
    intro tt_ kk_
    refine XS.istore X26.here hx rfl (hb hby d15_13) rfl (l' := #[.val (.ref a), .val (.int (2 : Int32)), .val (.ref d), .val (.int (2 : Int32)), .val (.int (3 : Int32)), .val (.int (2 : Int32)), .val (.int c2)]) rfl ?_
    show Steps p.tables e below (T26.setTop (mkF m 15 #[.val (.ref a), .val (.int (2 : Int32)), .val (.ref d), .val (.int (2 : Int32)), .val (.int (3 : Int32)), .val (.int (2 : Int32)), .val (.int c2)] [])) _
    refine XS.iload X26.here hx rfl (hb hby d15_15) rfl ?_
    show Steps p.tables e below (T26.setTop (mkF m 17 #[.val (.ref a), .val (.int (2 : Int32)), .val (.ref d), .val (.int (2 : Int32)), .val (.int (3 : Int32)), .val (.int (2 : Int32)), .val (.int c2)] [(.int c2)])) _
    refine XS.sipush X26.here hx rfl (hb hby d15_17) ?_
    exact kk_)
  have P39 := own_step (C := T26.setTop (mkF m 26 #[.val (.ref a), .val (.int (2 : Int32)), .val (.ref d), .val (.int (2 : Int32)), .val (.int (3 : Int32)), .val (.int (2 : Int32)), .val (.int c2)] [])) P38 (by
    intro tt_ kk_
    refine XS.icmpYes X26.here hx rfl (pc0 := 20) (pc' := 26) rfl (hb hby d15_20) rfl (flt hc2).2.2.2 (by decide) (by decide) ?_
    exact kk_)
  have P40 := own_step (C := T26.setTop (mkF m 31 #[.val (.ref a), .val (.int (2 : Int32)), .val (.ref d), .val (.int (2 : Int32)), .val (.int (3 : Int32)), .val (.int (2 : Int32)), .val (.int c2)] [(.int (c2.toInt8.toInt32)), (.int (2 : Int32)), (.ref d)])) P39 (by
    intro tt_ kk_
    refine XS.aloadN X26.here hx rfl (hb hby d15_26) rfl rfl ?_
    show Steps p.tables e below (T26.setTop (mkF m 27 #[.val (.ref a), .val (.int (2 : Int32)), .val (.ref d), .val (.int (2 : Int32)), .val (.int (3 : Int32)), .val (.int (2 : Int32)), .val (.int c2)] [(.ref d)])) _
    refine XS.iloadN X26.here hx rfl (hb hby d15_27) rfl ?_
    show Steps p.tables e below (T26.setTop (mkF m 28 #[.val (.ref a), .val (.int (2 : Int32)), .val (.ref d), .val (.int (2 : Int32)), .val (.int (3 : Int32)), .val (.int (2 : Int32)), .val (.int c2)] [(.int (2 : Int32)), (.ref d)])) _
    refine XS.iload X26.here hx rfl (hb hby d15_28) rfl ?_
    show Steps p.tables e below (T26.setTop (mkF m 30 #[.val (.ref a), .val (.int (2 : Int32)), .val (.ref d), .val (.int (2 : Int32)), .val (.int (3 : Int32)), .val (.int (2 : Int32)), .val (.int c2)] [(.int c2), (.int (2 : Int32)), (.ref d)])) _
    refine XS.i2b X26.here hx rfl (hb hby d15_30) rfl ?_
    exact kk_)
  obtain ⟨cl41, Ar41, q41, S41, M41, H41, G41⟩ := id V26
  obtain ⟨T42, h42, X42, e42, W42, st42⟩ := stB X26 hx hZ e26 Ar41 (j := (2 : Int32)) (inb_of S41 (by decide : ¬ (2 : Int32) < 0 ∧ (2 : Int32) < (3 : Int32))) (g := (mkF m 31 #[.val (.ref a), .val (.int (2 : Int32)), .val (.ref d), .val (.int (2 : Int32)), .val (.int (3 : Int32)), .val (.int (2 : Int32)), .val (.int c2)] [(.int (c2.toInt8.toInt32)), (.int (2 : Int32)), (.ref d)])) rfl rfl (hb hby d15_31)
  have f43 := f27.wr W42 gd
  have f44 := f28.other W42 nad
  have f46 := f30.wr W42 (Or.inl (List.mem_of_getElem? (i := 0) rfl))
  have Z47 : n0 ≤ h42.size := Nat.le_trans Z31 (Keep.of_wr W42).1
  have V42 : Arv Z h42 d kd .byte (3 : Int32) [(.int (c0.toInt8.toInt32).toInt8.toInt32), (.int (c1.toInt8.toInt32).toInt8.toInt32), (.int (c2.toInt8.toInt32).toInt8.toInt32)] (.int 0) := Arv.set Ar41 q41 S41 M41 H41 G41 (fits_nar_byte _) W42 2 rfl (Nat.le_of_ble_eq_true rfl)
  have N42 := Fr.snoc X42 N26 gd
  have P48 := own_step (C := T42.setTop (mkF m 32 #[.val (.ref a), .val (.int (2 : Int32)), .val (.ref d), .val (.int (2 : Int32)), .val (.int (3 : Int32)), .val (.int (2 : Int32)), .val (.int c2)] [])) P40 (fun t_ k_ => st42 t_ k_)
  have P49 := own_step (C := T42.setTop (mkF m 7 #[.val (.ref a), .val (.int (3 : Int32)), .val (.ref d), .val (.int (3 : Int32)), .val (.int (3 : Int32)), .val (.int (3 : Int32)), .val (.int c2)] [(.int (3 : Int32)), (.int (3 : Int32))])) P48 (by
    intro tt_ kk_
    refine XS.iinc X42.here hx rfl (hb hby d15_32) rfl (l' := #[.val (.ref a), .val (.int (3 : Int32)), .val (.ref d), .val (.int (2 : Int32)), .val (.int (3 : Int32)), .val (.int (2 : Int32)), .val (.int c2)]) rfl ?_
    show Steps p.tables e below (T42.setTop (mkF m 35 #[.val (.ref a), .val (.int (3 : Int32)), .val (.ref d), .val (.int (2 : Int32)), .val (.int (3 : Int32)), .val (.int (2 : Int32)), .val (.int c2)] [])) _
    refine XS.iinc X42.here hx rfl (hb hby d15_35) rfl (l' := #[.val (.ref a), .val (.int (3 : Int32)), .val (.ref d), .val (.int (3 : Int32)), .val (.int (3 : Int32)), .val (.int (2 : Int32)), .val (.int c2)]) rfl ?_
    show Steps p.tables e below (T42.setTop (mkF m 38 #[.val (.ref a), .val (.int (3 : Int32)), .val (.ref d), .val (.int (3 : Int32)), .val (.int (3 : Int32)), .val (.int (2 : Int32)), .val (.int c2)] [])) _
    refine XS.iinc X42.here hx rfl (hb hby d15_38) rfl (l' := #[.val (.ref a), .val (.int (3 : Int32)), .val (.ref d), .val (.int (3 : Int32)), .val (.int (3 : Int32)), .val (.int (3 : Int32)), .val (.int c2)]) rfl ?_
    show Steps p.tables e below (T42.setTop (mkF m 41 #[.val (.ref a), .val (.int (3 : Int32)), .val (.ref d), .val (.int (3 : Int32)), .val (.int (3 : Int32)), .val (.int (3 : Int32)), .val (.int c2)] [])) _
    refine XS.goto X42.here hx rfl (pc0 := 41) (pc' := 3) rfl (hb hby d15_41) (by decide) (by decide) ?_
    show Steps p.tables e below (T42.setTop (mkF m 3 #[.val (.ref a), .val (.int (3 : Int32)), .val (.ref d), .val (.int (3 : Int32)), .val (.int (3 : Int32)), .val (.int (3 : Int32)), .val (.int c2)] [])) _
    refine XS.iload X42.here hx rfl (hb hby d15_3) rfl ?_
    show Steps p.tables e below (T42.setTop (mkF m 5 #[.val (.ref a), .val (.int (3 : Int32)), .val (.ref d), .val (.int (3 : Int32)), .val (.int (3 : Int32)), .val (.int (3 : Int32)), .val (.int c2)] [(.int (3 : Int32))])) _
    refine XS.iload X42.here hx rfl (hb hby d15_5) rfl ?_
    exact kk_)
  have P50 := own_step (C := T42.setTop (mkF m 44 #[.val (.ref a), .val (.int (3 : Int32)), .val (.ref d), .val (.int (3 : Int32)), .val (.int (3 : Int32)), .val (.int (3 : Int32)), .val (.int c2)] [])) P49 (by
    intro tt_ kk_
    refine XS.icmpYes X42.here hx rfl (pc0 := 7) (pc' := 44) rfl (hb hby d15_7) rfl (flt (by decide : ¬ ((3 : Int32) < (3 : Int32)))).2.1 (by decide) (by decide) ?_
    exact kk_)
  have P51 := own_step (C := T42.setTop (mkF m 46 #[.val (.ref a), .val (.int (3 : Int32)), .val (.ref d), .val (.int (3 : Int32)), .val (.int (3 : Int32)), .val (.int (3 : Int32)), .val (.int c2)] [(.int (3 : Int32))])) P50 (by
    intro tt_ kk_
    refine XS.iload X42.here hx rfl (hb hby d15_44) rfl ?_
    exact kk_)
  obtain ⟨fs, hr, hrun, hended, hW, hsame⟩ := X42.leave (v := some (.int (3 : Int32))) (fun h => by rw [Bd.returns] at h; cases h)
  refine ⟨_, _, P51 _ ?_, hrun, hended, _, _, rfl, ?_, ⟨_, rfl⟩, hW, hsame.mono (by decide) (by decide)⟩
  · exact retI X42 hx Bd.returns (hb hby d15_46) hr
  · show Q_comp2_3 Z _ _ _ _ _ _ _ h0 n0 _ T42.heap _
    rw [e42]
    exact ⟨rfl, N42, f46, V42⟩
theorem pd9 : parseMethodDescriptor "([CI[BII)I" = some ⟨[(.array .char), .int, (.array .byte), .int, .int], some .int⟩ := by decide +kernel
theorem d14_0 : decode jdk_52_method_16_code 0 = .ok (.iload_n 2, 1) := by decide +kernel
theorem d14_1 : decode jdk_52_method_16_code 1 = .ok (.newarray .byte, 2) := by decide +kernel
theorem d14_3 : decode jdk_52_method_16_code 3 = .ok (.astore_n 3, 1) := by decide +kernel
theorem d14_4 : decode jdk_52_method_16_code 4 = .ok (.aload_n 0, 1) := by decide +kernel
theorem d14_5 : decode jdk_52_method_16_code 5 = .ok (.iload_n 1, 1) := by decide +kernel
theorem d14_6 : decode jdk_52_method_16_code 6 = .ok (.aload_n 3, 1) := by decide +kernel
theorem d14_7 : decode jdk_52_method_16_code 7 = .ok (.iconst 0, 1) := by decide +kernel
theorem d14_8 : decode jdk_52_method_16_code 8 = .ok (.iload_n 2, 1) := by decide +kernel
theorem d14_9 : decode jdk_52_method_16_code 9 = .ok (.invokestatic 115, 3) := by decide +kernel
theorem d14_12 : decode jdk_52_method_16_code 12 = .ok (.istore 4, 2) := by decide +kernel
theorem d14_14 : decode jdk_52_method_16_code 14 = .ok (.iload 4, 2) := by decide +kernel
theorem d14_16 : decode jdk_52_method_16_code 16 = .ok (.iload_n 2, 1) := by decide +kernel
theorem d14_17 : decode jdk_52_method_16_code 17 = .ok (.if_icmp .eq 40, 3) := by decide +kernel
theorem d14_57 : decode jdk_52_method_16_code 57 = .ok (.aload_n 3, 1) := by decide +kernel
theorem d14_58 : decode jdk_52_method_16_code 58 = .ok (.areturn, 1) := by decide +kernel
theorem ef__comp_3 (m : MethodId) (x0 : Addr) (x1 : Int32) (x2 : Int32) : entryFrame m #[(.ref x0), (.int x1), (.int x2)] 6 = mkF m 0 #[.val (.ref x0), .val (.int x1), .val (.int x2), .unset, .unset, .unset] [] := by first | (simp [entryFrame, mkF, argsToLocals, Value.category]; done) | rfl
def Q_comp_3 (Z : State) (a : Addr) (ka : ClassId) (c0 : Int32) (c1 : Int32) (c2 : Int32) (h0 : Heap) (n0 : Nat) (v_ : Option Value) (h : Heap) (L_ : List Loc) : Prop := ∃ (x : Addr) (kk : ClassId), v_ = some (.ref x) ∧ Fr n0 L_ ∧ Keep h0 h [] ∧ h0.size ≤ x ∧ Arv Z h x kk .byte (3 : Int32) [(.int (c0.toInt8.toInt32).toInt8.toInt32), (.int (c1.toInt8.toInt32).toInt8.toInt32), (.int (c2.toInt8.toInt32).toInt8.toInt32)] (.int 0)
set_option maxRecDepth 65536 in
set_option maxHeartbeats 40000000 in
theorem rm_comp_3 (l : Launch) (Z : State) (a0 : Array Value) (hw : ∀ d ∈ tables_1, d.before a0 Z = true) (ws : List Jvm.Cond) (a : Addr) (ka : ClassId) (c0 : Int32) (c1 : Int32) (c2 : Int32) (h0 : Heap) (n0 : Nat) (Z0 : n0 ≤ h0.size) (O : Old Z n0 h0) (Va : Arv Z h0 a ka .char (3 : Int32) [(.int c0), (.int c1), (.int c2)] (.int 0)) (hc0 : ¬ ((255 : Int32) < c0)) (hc1 : ¬ ((255 : Int32) < c1)) (hc2 : ¬ ((255 : Int32) < c2)) :
    MetFree l (⟨"java/lang/StringUTF16", "compress", "([CII)[B"⟩ : MethodName) (head1 (Jvm.Cond.code (⟨"java/lang/StringUTF16", "compress", "([CII)[B"⟩ : MethodName) jdk_52_method_16_code 6 (some (.array .byte)) :: ws) ({ frames := 1, cells := 1, slots := 3, locals := 18 } : Room)) (fun a_ U_ => a_ = #[(.ref a), (.int (0 : Int32)), (.int (3 : Int32))] ∧ Z.Warmed39 U_.vm ∧ U_.heap = h0) (fun _ _ _ _ _ => True) (fun _ U_ o_ V_ => ∃ v_ L_, o_ = .returned v_ ∧ Q_comp_3 Z a ka c0 c1 c2 h0 n0 v_ V_.heap L_ ∧ FrameEnd U_ o_ V_ L_ ({ frames := 1, cells := 1, slots := 3, locals := 18 } : Room).cells ({ frames := 1, cells := 1, slots := 3, locals := 18 } : Room).slots) := by
  refine MetFree.of_bodySF (plainFor_of_name pn4) hisR ?_
  intro p e s m args below meth c s₁ Bd hml0 hP hK
  obtain ⟨rfl, hZ, hh⟩ := hP
  have hx := Bd.exec
  have hby := Bd.bytes
  have hml : c.maxLocals = 6 := hml0
  have hown : s.vm.findClass "java/lang/StringUTF16" = some m.cls := findClass_of_methodNamed Bd.named
  have hnm := (name_of_methodNamed Bd.named Bd.method).1
  have X0 : Stand p l e ({ frames := 1, cells := 1, slots := 3, locals := 18 } : Room) s m #[(.ref a), (.int (0 : Int32)), (.int (3 : Int32))] below meth c s₁ [] 0 0 := Stand.of_body Bd
  have e0 : s₁.heap = h0 := by rw [← hh, Bd.state]; rfl
  have N0 := Fr.nil n0
  have pre0 : own_Go p e below (s₁.setTop (entryFrame m #[(.ref a), (.int (0 : Int32)), (.int (3 : Int32))] 6)) (s₁.setTop (mkF m 0 #[.val (.ref a), .val (.int (0 : Int32)), .val (.int (3 : Int32)), .unset, .unset, .unset] [])) := fun t_ k_ => castTop (ef__comp_3 m a (0 : Int32) (3 : Int32)) k_
  have P1 := own_step (C := s₁.setTop (mkF m 1 #[.val (.ref a), .val (.int (0 : Int32)), .val (.int (3 : Int32)), .unset, .unset, .unset] [(.int (3 : Int32))])) pre0 (by
    intro tt_ kk_
    refine XS.iloadN X0.here hx rfl (hb hby d14_0) rfl ?_
    exact kk_)
  obtain ⟨T2, h2, k2, X2, e2, E2, A2, st2⟩ := newP X0 hx hZ (hw _ (List.mem_of_getElem? (i := 3) rfl)) e0 (g := (mkF m 1 #[.val (.ref a), .val (.int (0 : Int32)), .val (.int (3 : Int32)), .unset, .unset, .unset] [(.int (3 : Int32))])) rfl (hb hby d14_1) rfl (by decide) (cap := 3) (by decide) (by decide) (by decide) (by decide)
  obtain ⟨b2, g2⟩ : ∃ z, z = h0.size := ⟨_, rfl⟩
  rw [← g2] at A2 st2
  have ne_a_b2 : a ≠ b2 := Nat.ne_of_lt (Nat.lt_of_lt_of_le Va.lt (Nat.le_of_eq g2.symm))
  have g_b2 : n0 ≤ b2 := Nat.le_trans Z0 (Nat.le_of_eq g2.symm)
  have sz_b2 : h0.size ≤ b2 := Nat.le_trans (Keep.refl h0 []).1 (Nat.le_of_eq g2.symm)
  have f3 := O.ext E2
  have f4 := (Keep.refl h0 []).ext E2
  have f5 := Va.ext E2
  have Z6 : n0 ≤ h2.size := Nat.le_trans Z0 E2.1
  have V2 : Arv Z h2 b2 k2 .byte (3 : Int32) [(.int (0 : Int32)), (.int (0 : Int32)), (.int (0 : Int32))] (.int (0 : Int32)) := (Arv.new A2 (by decide)).pad (pad_rep [] _ 3)
  have P7 := own_step (C := T2.setTop (mkF m 3 #[.val (.ref a), .val (.int (0 : Int32)), .val (.int (3 : Int32)), .unset, .unset, .unset] [(.ref b2)])) P1 (fun t_ k_ => st2 t_ k_)
  have P8 := own_step (C := T2.setTop (mkF m 9 #[.val (.ref a), .val (.int (0 : Int32)), .val (.int (3 : Int32)), .val (.ref b2), .unset, .unset] [(.int (3 : Int32)), (.int (0 : Int32)), (.ref b2), (.int (0 : Int32)), (.ref a)])) P7 (by
    intro tt_ kk_
    refine XS.astoreN X2.here hx rfl (hb hby d14_3) rfl rfl (l' := #[.val (.ref a), .val (.int (0 : Int32)), .val (.int (3 : Int32)), .val (.ref b2), .unset, .unset]) rfl ?_
    show Steps p.tables e below (T2.setTop (mkF m 4 #[.val (.ref a), .val (.int (0 : Int32)), .val (.int (3 : Int32)), .val (.ref b2), .unset, .unset] [])) _
    refine XS.aloadN X2.here hx rfl (hb hby d14_4) rfl rfl ?_
    show Steps p.tables e below (T2.setTop (mkF m 5 #[.val (.ref a), .val (.int (0 : Int32)), .val (.int (3 : Int32)), .val (.ref b2), .unset, .unset] [(.ref a)])) _
    refine XS.iloadN X2.here hx rfl (hb hby d14_5) rfl ?_
    show Steps p.tables e below (T2.setTop (mkF m 6 #[.val (.ref a), .val (.int (0 : Int32)), .val (.int (3 : Int32)), .val (.ref b2), .unset, .unset] [(.int (0 : Int32)), (.ref a)])) _
    refine XS.aloadN X2.here hx rfl (hb hby d14_6) rfl rfl ?_
    show Steps p.tables e below (T2.setTop (mkF m 7 #[.val (.ref a), .val (.int (0 : Int32)), .val (.int (3 : Int32)), .val (.ref b2), .unset, .unset] [(.ref b2), (.int (0 : Int32)), (.ref a)])) _
    refine XS.iconst X2.here hx rfl (hb hby d14_7) ?_
    show Steps p.tables e below (T2.setTop (mkF m 8 #[.val (.ref a), .val (.int (0 : Int32)), .val (.int (3 : Int32)), .val (.ref b2), .unset, .unset] [(.int (0 : Int32)), (.ref b2), (.int (0 : Int32)), (.ref a)])) _
    refine XS.iloadN X2.here hx rfl (hb hby d14_8) rfl ?_
    exact kk_)
  obtain ⟨_, _, ⟨T9, L9, k9, n9⟩, -, X9, ⟨Lc9, hQ9, l9, y9, z9⟩, st9⟩ := Jvm.LawKit.callS X2 hx (y := (⟨"java/lang/StringUTF16", "compress", "([CI[BII)I"⟩ : MethodName)) hown (mvT hZ (hw _ (List.mem_of_getElem? (i := 79) rfl))) (mvT hZ (hw _ (List.mem_of_getElem? (i := 80) rfl))) (mvT hZ (hw _ (List.mem_of_getElem? (i := 77) rfl))) (mvT hZ (hw _ (List.mem_of_getElem? (i := 81) rfl))) (by decide) (backOf (W := 0) (rm_comp2_3 l Z a0 hw [] a ka b2 k2 c0 c1 c2 h2 n0 Z6 f3 f5 V2 ne_a_b2 g_b2 hc0 hc1 hc2) hZ (hw _ (List.mem_of_getElem? (i := 81) rfl)) (hw _ (List.mem_of_getElem? (i := 77) rfl)) (by decide) (by decide)) (g := (mkF m 9 #[.val (.ref a), .val (.int (0 : Int32)), .val (.int (3 : Int32)), .val (.ref b2), .unset, .unset] [(.int (3 : Int32)), (.int (0 : Int32)), (.ref b2), (.int (0 : Int32)), (.ref a)])) rfl (by rw [hml]; rfl) (argsL := [(.ref a), (.int (0 : Int32)), (.ref b2), (.int (0 : Int32)), (.int (3 : Int32))]) (rest := []) (lenOf pd9 rfl) rfl (by show 2 * 0 + _ ≤ _; exact Nat.le_of_eq rfl) (hb hby d14_9) (fun _ _ => ⟨rfl, e2, (by decide : 1 + 0 ≤ _), (by decide : 3 + 0 ≤ _)⟩)
  dsimp only [Pt.U, Pt.locs, Pt.cells, Pt.slots] at X9 l9 y9 z9 st9 hQ9
  subst l9 y9 z9
  obtain ⟨rfl, N9q, K9, f10⟩ := hQ9
  have N9 := Fr.app N0 N9q
  have f11 := f3.keep K9 (allS g_b2 all0)
  have f12 := f4.trans K9 (allS (Or.inr sz_b2) all0)
  have f13 := f5.keep K9 (ninS ne_a_b2 nin0)
  have Z15 : n0 ≤ T9.heap.size := Nat.le_trans Z6 K9.1
  have P16 := own_step (C := T9.setTop (mkF m 12 #[.val (.ref a), .val (.int (0 : Int32)), .val (.int (3 : Int32)), .val (.ref b2), .unset, .unset] [(.int (3 : Int32))])) P8 (fun t_ k_ => st9 t_ k_)
  have P17 := own_step (C := T9.setTop (mkF m 17 #[.val (.ref a), .val (.int (0 : Int32)), .val (.int (3 : Int32)), .val (.ref b2), .val (.int (3 : Int32)), .unset] [(.int (3 : Int32)), (.int (3 : Int32))])) P16 (by
    intro tt_ kk_
    refine XS.istore X9.here hx rfl (hb hby d14_12) rfl (l' := #[.val (.ref a), .val (.int (0 : Int32)), .val (.int (3 : Int32)), .val (.ref b2), .val (.int (3 : Int32)), .unset]) rfl ?_
    show Steps p.tables e below (T9.setTop (mkF m 14 #[.val (.ref a), .val (.int (0 : Int32)), .val (.int (3 : Int32)), .val (.ref b2), .val (.int (3 : Int32)), .unset] [])) _
    refine XS.iload X9.here hx rfl (hb hby d14_14) rfl ?_
    show Steps p.tables e below (T9.setTop (mkF m 16 #[.val (.ref a), .val (.int (0 : Int32)), .val (.int (3 : Int32)), .val (.ref b2), .val (.int (3 : Int32)), .unset] [(.int (3 : Int32))])) _
    refine XS.iloadN X9.here hx rfl (hb hby d14_16) rfl ?_
    exact kk_)
  have P18 := own_step (C := T9.setTop (mkF m 57 #[.val (.ref a), .val (.int (0 : Int32)), .val (.int (3 : Int32)), .val (.ref b2), .val (.int (3 : Int32)), .unset] [])) P17 (by
    intro tt_ kk_
    refine XS.icmpYes X9.here hx rfl (pc0 := 17) (pc' := 57) rfl (hb hby d14_17) rfl (teq (by decide : (3 : Int32) = (3 : Int32))).1 (by decide) (by decide) ?_
    exact kk_)
  have P19 := own_step (C := T9.setTop (mkF m 58 #[.val (.ref a), .val (.int (0 : Int32)), .val (.int (3 : Int32)), .val (.ref b2), .val (.int (3 : Int32)), .unset] [(.ref b2)])) P18 (by
    intro tt_ kk_
    refine XS.aloadN X9.here hx rfl (hb hby d14_57) rfl rfl ?_
    exact kk_)
  obtain ⟨fs, hr, hrun, hended, hW, hsame⟩ := X9.leave (v := some (.ref b2)) (fun h => by rw [Bd.returns] at h; cases h)
  refine ⟨_, _, P19 _ ?_, hrun, hended, _, _, rfl, ?_, ⟨_, rfl⟩, hW, hsame.mono (by decide) (by decide)⟩
  · jvm_step X9.here [X9.here.top, hx, (hb hby d14_58), X9.method', Bd.returns, Value.isRef, FieldType.isReference]
    first | (intro acts; rw [hr _ acts rfl rfl rfl]) | rw [hr _ _ rfl rfl rfl]
    exact Steps.refl _
  · show Q_comp_3 Z _ _ _ _ _ h0 n0 _ T9.heap _
    exact ⟨b2, k2, rfl, N9, f12, sz_b2, f10⟩
theorem d16_0 : decode jdk_52_method_15_code 0 = .ok (.iload_n 1, 1) := by decide +kernel
theorem d16_1 : decode jdk_52_method_15_code 1 = .ok (.aload_n 0, 1) := by decide +kernel
theorem d16_2 : decode jdk_52_method_15_code 2 = .ok (.arraylength, 1) := by decide +kernel
theorem d16_3 : decode jdk_52_method_15_code 3 = .ok (.isub, 1) := by decide +kernel
theorem d16_4 : decode jdk_52_method_15_code 4 = .ok (.bipush 31, 2) := by decide +kernel
theorem d16_6 : decode jdk_52_method_15_code 6 = .ok (.iushr, 1) := by decide +kernel
theorem d16_7 : decode jdk_52_method_15_code 7 = .ok (.i2b, 1) := by decide +kernel
theorem d16_8 : decode jdk_52_method_15_code 8 = .ok (.ireturn, 1) := by decide +kernel
theorem ef__cfa_3 (m : MethodId) (x0 : Addr) (x1 : Int32) : entryFrame m #[(.ref x0), (.int x1)] 2 = mkF m 0 #[.val (.ref x0), .val (.int x1)] [] := by first | (simp [entryFrame, mkF, argsToLocals, Value.category]; done) | rfl
def Q_cfa_3 (Z : State) (b : Addr) (k : ClassId) (vs : List Value) (h0 : Heap) (n0 : Nat) (v_ : Option Value) (h : Heap) (L_ : List Loc) : Prop := v_ = some (.int (0 : Int32)) ∧ Fr n0 L_ ∧ h = h0
set_option maxRecDepth 65536 in
set_option maxHeartbeats 40000000 in
theorem rm_cfa_3 (l : Launch) (Z : State) (a0 : Array Value) (hw : ∀ d ∈ tables_1, d.before a0 Z = true) (ws : List Jvm.Cond) (b : Addr) (k : ClassId) (vs : List Value) (h0 : Heap) (n0 : Nat) (Z0 : n0 ≤ h0.size) (Vb : Arv Z h0 b k .byte (3 : Int32) vs (.int 0)) :
    MetFree l (⟨"java/lang/StringUTF16", "coderFromArrayLen", "([BI)B"⟩ : MethodName) (head1 (Jvm.Cond.code (⟨"java/lang/StringUTF16", "coderFromArrayLen", "([BI)B"⟩ : MethodName) jdk_52_method_15_code 2 (some .byte) :: ws) ({ frames := 0, cells := 0, slots := 0, locals := 0 } : Room)) (fun a_ U_ => a_ = #[(.ref b), (.int (3 : Int32))] ∧ Z.Warmed39 U_.vm ∧ U_.heap = h0) (fun _ _ _ _ _ => True) (fun _ U_ o_ V_ => ∃ v_ L_, o_ = .returned v_ ∧ Q_cfa_3 Z b k vs h0 n0 v_ V_.heap L_ ∧ FrameEnd U_ o_ V_ L_ ({ frames := 0, cells := 0, slots := 0, locals := 0 } : Room).cells ({ frames := 0, cells := 0, slots := 0, locals := 0 } : Room).slots) := by
  refine MetFree.of_bodySF (plainFor_of_name pn4) hisR ?_
  intro p e s m args below meth c s₁ Bd hml0 hP hK
  obtain ⟨rfl, hZ, hh⟩ := hP
  have hx := Bd.exec
  have hby := Bd.bytes
  have hml : c.maxLocals = 2 := hml0
  have hown : s.vm.findClass "java/lang/StringUTF16" = some m.cls := findClass_of_methodNamed Bd.named
  have hnm := (name_of_methodNamed Bd.named Bd.method).1
  have X0 : Stand p l e ({ frames := 0, cells := 0, slots := 0, locals := 0 } : Room) s m #[(.ref b), (.int (3 : Int32))] below meth c s₁ [] 0 0 := Stand.of_body Bd
  have e0 : s₁.heap = h0 := by rw [← hh, Bd.state]; rfl
  have N0 := Fr.nil n0
  have pre0 : own_Go p e below (s₁.setTop (entryFrame m #[(.ref b), (.int (3 : Int32))] 2)) (s₁.setTop (mkF m 0 #[.val (.ref b), .val (.int (3 : Int32))] [])) := fun t_ k_ => castTop (ef__cfa_3 m b (3 : Int32)) k_
  have P1 := own_step (C := s₁.setTop (mkF m 2 #[.val (.ref b), .val (.int (3 : Int32))] [(.ref b), (.int (3 : Int32))])) pre0 (by
    intro tt_ kk_
    refine XS.iloadN X0.here hx rfl (hb hby d16_0) rfl ?_
    show Steps p.tables e below (s₁.setTop (mkF m 1 #[.val (.ref b), .val (.int (3 : Int32))] [(.int (3 : Int32))])) _
    refine XS.aloadN X0.here hx rfl (hb hby d16_1) rfl rfl ?_
    exact kk_)
  obtain ⟨cl2, Ar2, q2, S2, M2, H2, G2⟩ := id Vb
  have P3 := own_step (C := s₁.setTop (mkF m 3 #[.val (.ref b), .val (.int (3 : Int32))] [(.int (3 : Int32)), (.int (3 : Int32))])) P1 (by
    intro tt_ kk_
    refine X0.arraylength hx (by rw [e0]; exact Ar2.1) (State.isArrayOf_alike hZ.alike Ar2.2.1) (g := (mkF m 2 #[.val (.ref b), .val (.int (3 : Int32))] [(.ref b), (.int (3 : Int32))])) rfl rfl (hb hby d16_2) _ ?_
    rw [len_of S2 M2]
    exact kk_)
  have P4 := own_step (C := s₁.setTop (mkF m 8 #[.val (.ref b), .val (.int (3 : Int32))] [(.int ((((0 : Int32).toUInt32 >>> ((31 : Int32) &&& 31).toUInt32).toInt32).toInt8.toInt32))])) P3 (by
    intro tt_ kk_
    refine XS.isub X0.here hx rfl (hb hby d16_3) rfl ?_
    show Steps p.tables e below (s₁.setTop (mkF m 4 #[.val (.ref b), .val (.int (3 : Int32))] [(.int (0 : Int32))])) _
    refine XS.bipush X0.here hx rfl (hb hby d16_4) ?_
    show Steps p.tables e below (s₁.setTop (mkF m 6 #[.val (.ref b), .val (.int (3 : Int32))] [(.int (31 : Int32)), (.int (0 : Int32))])) _
    refine XS.iushr X0.here hx rfl (hb hby d16_6) rfl ?_
    show Steps p.tables e below (s₁.setTop (mkF m 7 #[.val (.ref b), .val (.int (3 : Int32))] [(.int (((0 : Int32).toUInt32 >>> ((31 : Int32) &&& 31).toUInt32).toInt32))])) _
    refine XS.i2b X0.here hx rfl (hb hby d16_7) rfl ?_
    exact kk_)
  obtain ⟨fs, hr, hrun, hended, hW, hsame⟩ := X0.leave (v := some (.int (nar .byte ((((0 : Int32).toUInt32 >>> ((31 : Int32) &&& 31).toUInt32).toInt32).toInt8.toInt32)))) (fun h => by rw [Bd.returns] at h; cases h)
  refine ⟨_, _, P4 _ ?_, hrun, hended, _, _, rfl, ?_, ⟨_, rfl⟩, hW, hsame.mono (by decide) (by decide)⟩
  · exact retN X0 hx (t := .byte) Bd.returns (by simp) (hb hby d16_8) hr
  · show Q_cfa_3 Z _ _ _ h0 n0 _ s₁.heap _
    rw [e0]
    exact ⟨(congrArg (fun z : Int32 => some (Value.int z)) (by decide +kernel)), N0, rfl⟩
theorem pd10 : parseMethodDescriptor "([CII)[B" = some ⟨[(.array .char), .int, .int], some (.array .byte)⟩ := by decide +kernel
theorem pd11 : parseMethodDescriptor "([BI)B" = some ⟨[(.array .byte), .int], some .byte⟩ := by decide +kernel
theorem d13_0 : decode jdk_42_method_149_code 0 = .ok (.aload_n 0, 1) := by decide +kernel
theorem d13_1 : decode jdk_42_method_149_code 1 = .ok (.invokespecial 1, 3) := by decide +kernel
theorem d13_4 : decode jdk_42_method_149_code 4 = .ok (.iload_n 3, 1) := by decide +kernel
theorem d13_5 : decode jdk_42_method_149_code 5 = .ok (.ifCond .ne 22, 3) := by decide +kernel
theorem d13_27 : decode jdk_42_method_149_code 27 = .ok (.getstatic 38, 3) := by decide +kernel
theorem d13_30 : decode jdk_42_method_149_code 30 = .ok (.ifCond .eq 28, 3) := by decide +kernel
theorem d13_33 : decode jdk_42_method_149_code 33 = .ok (.aload_n 1, 1) := by decide +kernel
theorem d13_34 : decode jdk_42_method_149_code 34 = .ok (.iload_n 2, 1) := by decide +kernel
theorem d13_35 : decode jdk_42_method_149_code 35 = .ok (.iload_n 3, 1) := by decide +kernel
theorem d13_36 : decode jdk_42_method_149_code 36 = .ok (.invokestatic 177, 3) := by decide +kernel
theorem d13_39 : decode jdk_42_method_149_code 39 = .ok (.astore 5, 2) := by decide +kernel
theorem d13_41 : decode jdk_42_method_149_code 41 = .ok (.aload_n 0, 1) := by decide +kernel
theorem d13_42 : decode jdk_42_method_149_code 42 = .ok (.aload 5, 2) := by decide +kernel
theorem d13_44 : decode jdk_42_method_149_code 44 = .ok (.iload_n 3, 1) := by decide +kernel
theorem d13_45 : decode jdk_42_method_149_code 45 = .ok (.invokestatic 47, 3) := by decide +kernel
theorem d13_48 : decode jdk_42_method_149_code 48 = .ok (.putfield 15, 3) := by decide +kernel
theorem d13_51 : decode jdk_42_method_149_code 51 = .ok (.aload_n 0, 1) := by decide +kernel
theorem d13_52 : decode jdk_42_method_149_code 52 = .ok (.aload 5, 2) := by decide +kernel
theorem d13_54 : decode jdk_42_method_149_code 54 = .ok (.putfield 9, 3) := by decide +kernel
theorem d13_57 : decode jdk_42_method_149_code 57 = .ok (.return_, 1) := by decide +kernel
theorem ef__initV_3 (m : MethodId) (x0 : Addr) (x1 : Addr) (x2 : Int32) (x3 : Int32) : entryFrame m #[(.ref x0), (.ref x1), (.int x2), (.int x3), .null] 6 = mkF m 0 #[.val (.ref x0), .val (.ref x1), .val (.int x2), .val (.int x3), .val .null, .unset] [] := by first | (simp [entryFrame, mkF, argsToLocals, Value.category]; done) | rfl
def Q_initV_3 (Z : State) (a : Addr) (ca : Addr) (ka : ClassId) (c0 : Int32) (c1 : Int32) (c2 : Int32) (cs : Int32) (h0 : Heap) (n0 : Nat) (v_ : Option Value) (h : Heap) (L_ : List Loc) : Prop := ∃ (x : Addr) (kk : ClassId), v_ = none ∧ Fr n0 L_ ∧ Keep h0 h [a] ∧ Exa Z h a "java/lang/String" ∧ Fld Z h a "java/lang/String" "coder" "B" (.int (0 : Int32)) ∧ Fld Z h a "java/lang/String" "value" "[B" (.ref x) ∧ Arv Z h x kk .byte (3 : Int32) [(.int (c0.toInt8.toInt32).toInt8.toInt32), (.int (c1.toInt8.toInt32).toInt8.toInt32), (.int (c2.toInt8.toInt32).toInt8.toInt32)] (.int 0) ∧ h0.size ≤ x
set_option maxRecDepth 65536 in
set_option maxHeartbeats 40000000 in
theorem rm_initV_3 (l : Launch) (Z : State) (a0 : Array Value) (hw : ∀ d ∈ tables_1, d.before a0 Z = true) (ws : List Jvm.Cond) (a : Addr) (ca : Addr) (ka : ClassId) (c0 : Int32) (c1 : Int32) (c2 : Int32) (cs : Int32) (h0 : Heap) (n0 : Nat) (Z0 : n0 ≤ h0.size) (O : Old Z n0 h0) (Scs : Sta Z Z.heap "java/lang/String" "COMPACT_STRINGS" "Z" (.int cs)) (hcs : ¬ (cs = (0 : Int32))) (Ea : Exa Z h0 a "java/lang/String") (Fv : Fld Z h0 a "java/lang/String" "value" "[B" .null) (Fc : Fld Z h0 a "java/lang/String" "coder" "B" (.int (0 : Int32))) (ga : n0 ≤ a) (Vs : Arv Z h0 ca ka .char (3 : Int32) [(.int c0), (.int c1), (.int c2)] (.int 0)) (hc0 : ¬ ((255 : Int32) < c0)) (hc1 : ¬ ((255 : Int32) < c1)) (hc2 : ¬ ((255 : Int32) < c2)) :
    MetFree l (⟨"java/lang/String", "<init>", "([CIILjava/lang/Void;)V"⟩ : MethodName) (head1 (Jvm.Cond.code (⟨"java/lang/String", "<init>", "([CIILjava/lang/Void;)V"⟩ : MethodName) jdk_42_method_149_code 6 none :: ws) ({ frames := 2, cells := 1, slots := 3, locals := 35 } : Room)) (fun a_ U_ => a_ = #[(.ref a), (.ref ca), (.int (0 : Int32)), (.int (3 : Int32)), .null] ∧ Z.Warmed39 U_.vm ∧ U_.heap = h0) (fun _ _ _ _ _ => True) (fun _ U_ o_ V_ => ∃ v_ L_, o_ = .returned v_ ∧ Q_initV_3 Z a ca ka c0 c1 c2 cs h0 n0 v_ V_.heap L_ ∧ FrameEnd U_ o_ V_ L_ ({ frames := 2, cells := 1, slots := 3, locals := 35 } : Room).cells ({ frames := 2, cells := 1, slots := 3, locals := 35 } : Room).slots) := by
  refine MetFree.of_bodySF (plainFor_of_name pn0) hisR ?_
  intro p e s m args below meth c s₁ Bd hml0 hP hK
  obtain ⟨rfl, hZ, hh⟩ := hP
  have hx := Bd.exec
  have hby := Bd.bytes
  have hml : c.maxLocals = 6 := hml0
  have hown : s.vm.findClass "java/lang/String" = some m.cls := findClass_of_methodNamed Bd.named
  have hnm := (name_of_methodNamed Bd.named Bd.method).1
  have X0 : Stand p l e ({ frames := 2, cells := 1, slots := 3, locals := 35 } : Room) s m #[(.ref a), (.ref ca), (.int (0 : Int32)), (.int (3 : Int32)), .null] below meth c s₁ [] 0 0 := Stand.of_body Bd
  have e0 : s₁.heap = h0 := by rw [← hh, Bd.state]; rfl
  have N0 := Fr.nil n0
  have pre0 : own_Go p e below (s₁.setTop (entryFrame m #[(.ref a), (.ref ca), (.int (0 : Int32)), (.int (3 : Int32)), .null] 6)) (s₁.setTop (mkF m 0 #[.val (.ref a), .val (.ref ca), .val (.int (0 : Int32)), .val (.int (3 : Int32)), .val .null, .unset] [])) := fun t_ k_ => castTop (ef__initV_3 m a ca (0 : Int32) (3 : Int32)) k_
  obtain ⟨clV, ArV, -⟩ := id Vs
  have ne_ca_a : ca ≠ a := Ne.symm (ne_arr Ea (hw _ (List.mem_of_getElem? (i := 2) rfl)) ArV)
  have P1 := own_step (C := s₁.setTop (mkF m 1 #[.val (.ref a), .val (.ref ca), .val (.int (0 : Int32)), .val (.int (3 : Int32)), .val .null, .unset] [(.ref a)])) pre0 (by
    intro tt_ kk_
    refine XS.aloadN X0.here hx rfl (hb hby d13_0) rfl rfl ?_
    exact kk_)
  obtain ⟨T2, X2, e2, st2⟩ := initO X0 hx hZ hown (hw _ (List.mem_of_getElem? (i := 24) rfl)) (hw _ (List.mem_of_getElem? (i := 25) rfl)) (hw _ (List.mem_of_getElem? (i := 26) rfl)) e0 (g := (mkF m 1 #[.val (.ref a), .val (.ref ca), .val (.int (0 : Int32)), .val (.int (3 : Int32)), .val .null, .unset] [(.ref a)])) rfl (by rw [hml]; rfl) rfl (hb hby d13_1) (by decide) (W := 0) (by show 2 * 0 + _ ≤ _; exact Nat.le_of_eq rfl) (by decide)
  have P3 := own_step (C := T2.setTop (mkF m 4 #[.val (.ref a), .val (.ref ca), .val (.int (0 : Int32)), .val (.int (3 : Int32)), .val .null, .unset] [])) P1 (fun t_ k_ => st2 t_ k_)
  have P4 := own_step (C := T2.setTop (mkF m 5 #[.val (.ref a), .val (.ref ca), .val (.int (0 : Int32)), .val (.int (3 : Int32)), .val .null, .unset] [(.int (3 : Int32))])) P3 (by
    intro tt_ kk_
    refine XS.iloadN X2.here hx rfl (hb hby d13_4) rfl ?_
    exact kk_)
  have P5 := own_step (C := T2.setTop (mkF m 27 #[.val (.ref a), .val (.ref ca), .val (.int (0 : Int32)), .val (.int (3 : Int32)), .val .null, .unset] [])) P4 (by
    intro tt_ kk_
    refine XS.ifYes X2.here hx rfl (pc0 := 5) (pc' := 27) rfl (hb hby d13_5) rfl ((if0 _ _).trans (feq (by decide : ¬ ((3 : Int32) = (0 : Int32)))).2) (by decide) (by decide) ?_
    exact kk_)
  obtain ⟨T6, X6, e6, st6⟩ := getS2 X2 hx hZ hown (host := "") (Or.inl (hw _ (List.mem_of_getElem? (i := 11) rfl))) Via.refl e2 (Scs.ext O.2) (g := (mkF m 27 #[.val (.ref a), .val (.ref ca), .val (.int (0 : Int32)), .val (.int (3 : Int32)), .val .null, .unset] [])) rfl (hb hby d13_27)
  have P7 := own_step (C := T6.setTop (mkF m 30 #[.val (.ref a), .val (.ref ca), .val (.int (0 : Int32)), .val (.int (3 : Int32)), .val .null, .unset] [(.int cs)])) P5 (fun t_ k_ => st6 t_ k_)
  have P8 := own_step (C := T6.setTop (mkF m 33 #[.val (.ref a), .val (.ref ca), .val (.int (0 : Int32)), .val (.int (3 : Int32)), .val .null, .unset] [])) P7 (by
    intro tt_ kk_
    refine XS.ifNo X6.here hx rfl (hb hby d13_30) rfl ((if0 _ _).trans (feq hcs).1) ?_
    exact kk_)
  have P9 := own_step (C := T6.setTop (mkF m 36 #[.val (.ref a), .val (.ref ca), .val (.int (0 : Int32)), .val (.int (3 : Int32)), .val .null, .unset] [(.int (3 : Int32)), (.int (0 : Int32)), (.ref ca)])) P8 (by
    intro tt_ kk_
    refine XS.aloadN X6.here hx rfl (hb hby d13_33) rfl rfl ?_
    show Steps p.tables e below (T6.setTop (mkF m 34 #[.val (.ref a), .val (.ref ca), .val (.int (0 : Int32)), .val (.int (3 : Int32)), .val .null, .unset] [(.ref ca)])) _
    refine XS.iloadN X6.here hx rfl (hb hby d13_34) rfl ?_
    show Steps p.tables e below (T6.setTop (mkF m 35 #[.val (.ref a), .val (.ref ca), .val (.int (0 : Int32)), .val (.int (3 : Int32)), .val .null, .unset] [(.int (0 : Int32)), (.ref ca)])) _
    refine XS.iloadN X6.here hx rfl (hb hby d13_35) rfl ?_
    exact kk_)
  obtain ⟨_, _, ⟨T10, L10, k10, n10⟩, -, X10, ⟨Lc10, hQ10, l10, y10, z10⟩, st10⟩ := Jvm.LawKit.callS X6 hx (y := (⟨"java/lang/StringUTF16", "compress", "([CII)[B"⟩ : MethodName)) hown (mvT hZ (hw _ (List.mem_of_getElem? (i := 75) rfl))) (mvT hZ (hw _ (List.mem_of_getElem? (i := 76) rfl))) (mvT hZ (hw _ (List.mem_of_getElem? (i := 77) rfl))) (mvT hZ (hw _ (List.mem_of_getElem? (i := 78) rfl))) (by decide) (backOf (W := 0) (rm_comp_3 l Z a0 hw [] ca ka c0 c1 c2 h0 n0 Z0 O Vs hc0 hc1 hc2) hZ (hw _ (List.mem_of_getElem? (i := 78) rfl)) (hw _ (List.mem_of_getElem? (i := 77) rfl)) (by decide) (by decide)) (g := (mkF m 36 #[.val (.ref a), .val (.ref ca), .val (.int (0 : Int32)), .val (.int (3 : Int32)), .val .null, .unset] [(.int (3 : Int32)), (.int (0 : Int32)), (.ref ca)])) rfl (by rw [hml]; rfl) (argsL := [(.ref ca), (.int (0 : Int32)), (.int (3 : Int32))]) (rest := []) (lenOf pd10 rfl) rfl (by show 2 * 0 + _ ≤ _; exact Nat.le_of_eq rfl) (hb hby d13_36) (fun _ _ => ⟨rfl, e6, (by decide : 0 + 1 ≤ _), (by decide : 0 + 3 ≤ _)⟩)
  dsimp only [Pt.U, Pt.locs, Pt.cells, Pt.slots] at X10 l10 y10 z10 st10 hQ10
  subst l10 y10 z10
  obtain ⟨x10, kk10, rfl, N10q, K10, f11, f12⟩ := hQ10
  have N10 := Fr.app N0 N10q
  have ne_a_x10 : a ≠ x10 := Nat.ne_of_lt (Nat.lt_of_lt_of_le Ea.lt f11)
  have ne_ca_x10 : ca ≠ x10 := Nat.ne_of_lt (Nat.lt_of_lt_of_le Vs.lt f11)
  have g_x10 : n0 ≤ x10 := Nat.le_trans Z0 f11
  have sz_x10 : h0.size ≤ x10 := Nat.le_trans (Keep.refl h0 [a]).1 f11
  have f13 := O.keep K10 all0
  have f14 := Ea.keep K10
  have f15 := Fc.keep K10 nin0
  have f16 := Fv.keep K10 nin0
  have f17 := (Keep.refl h0 [a]).trans K10 all0
  have f18 := Vs.keep K10 nin0
  have Z19 : n0 ≤ T10.heap.size := Nat.le_trans Z0 K10.1
  have P20 := own_step (C := T10.setTop (mkF m 39 #[.val (.ref a), .val (.ref ca), .val (.int (0 : Int32)), .val (.int (3 : Int32)), .val .null, .unset] [(.ref x10)])) P9 (fun t_ k_ => st10 t_ k_)
  have P21 := own_step (C := T10.setTop (mkF m 45 #[.val (.ref a), .val (.ref ca), .val (.int (0 : Int32)), .val (.int (3 : Int32)), .val .null, .val (.ref x10)] [(.int (3 : Int32)), (.ref x10), (.ref a)])) P20 (by
    intro tt_ kk_
    refine XS.astore X10.here hx rfl (hb hby d13_39) rfl rfl (l' := #[.val (.ref a), .val (.ref ca), .val (.int (0 : Int32)), .val (.int (3 : Int32)), .val .null, .val (.ref x10)]) rfl ?_
    show Steps p.tables e below (T10.setTop (mkF m 41 #[.val (.ref a), .val (.ref ca), .val (.int (0 : Int32)), .val (.int (3 : Int32)), .val .null, .val (.ref x10)] [])) _
    refine XS.aloadN X10.here hx rfl (hb hby d13_41) rfl rfl ?_
    show Steps p.tables e below (T10.setTop (mkF m 42 #[.val (.ref a), .val (.ref ca), .val (.int (0 : Int32)), .val (.int (3 : Int32)), .val .null, .val (.ref x10)] [(.ref a)])) _
    refine XS.aload X10.here hx rfl (hb hby d13_42) rfl rfl ?_
    show Steps p.tables e below (T10.setTop (mkF m 44 #[.val (.ref a), .val (.ref ca), .val (.int (0 : Int32)), .val (.int (3 : Int32)), .val .null, .val (.ref x10)] [(.ref x10), (.ref a)])) _
    refine XS.iloadN X10.here hx rfl (hb hby d13_44) rfl ?_
    exact kk_)
  obtain ⟨_, _, ⟨T22, L22, k22, n22⟩, -, X22, ⟨Lc22, hQ22, l22, y22, z22⟩, st22⟩ := Jvm.LawKit.callS X10 hx (y := (⟨"java/lang/StringUTF16", "coderFromArrayLen", "([BI)B"⟩ : MethodName)) hown (mvT hZ (hw _ (List.mem_of_getElem? (i := 82) rfl))) (mvT hZ (hw _ (List.mem_of_getElem? (i := 83) rfl))) (mvT hZ (hw _ (List.mem_of_getElem? (i := 77) rfl))) (mvT hZ (hw _ (List.mem_of_getElem? (i := 84) rfl))) (by decide) (backOf (W := 1) (rm_cfa_3 l Z a0 hw [] x10 kk10 _ T10.heap n0 Z19 f12) hZ (hw _ (List.mem_of_getElem? (i := 84) rfl)) (hw _ (List.mem_of_getElem? (i := 77) rfl)) (by decide) (by decide)) (g := (mkF m 45 #[.val (.ref a), .val (.ref ca), .val (.int (0 : Int32)), .val (.int (3 : Int32)), .val .null, .val (.ref x10)] [(.int (3 : Int32)), (.ref x10), (.ref a)])) rfl (by rw [hml]; rfl) (argsL := [(.ref x10), (.int (3 : Int32))]) (rest := [(.ref a)]) (lenOf pd11 rfl) rfl (by show 2 * 0 + _ ≤ _; exact Nat.le_of_eq rfl) (hb hby d13_45) (fun _ _ => ⟨rfl, rfl, (by decide : 1 + 0 ≤ _), (by decide : 3 + 0 ≤ _)⟩)
  dsimp only [Pt.U, Pt.locs, Pt.cells, Pt.slots] at X22 l22 y22 z22 st22 hQ22
  subst l22 y22 z22
  obtain ⟨rfl, N22q, e22⟩ := hQ22
  have N22 := Fr.app N10 N22q
  have P23 := own_step (C := T22.setTop (mkF m 48 #[.val (.ref a), .val (.ref ca), .val (.int (0 : Int32)), .val (.int (3 : Int32)), .val .null, .val (.ref x10)] [(.int (0 : Int32)), (.ref a)])) P21 (fun t_ k_ => st22 t_ k_)
  obtain ⟨T24, h24, X24, e24, W24, st24⟩ := putFN X22 hx hZ hown (hw _ (List.mem_of_getElem? (i := 28) rfl)) Via.refl e22 f15 f14 (Or.inr ⟨(hw _ (List.mem_of_getElem? (i := 5) rfl)), rfl, hnm⟩) (hw _ (List.mem_of_getElem? (i := 2) rfl)) (ty := .byte) (v' := (.int (0 : Int32).toInt8.toInt32)) (by decide) rfl (fits_nar_byte _) (g := (mkF m 48 #[.val (.ref a), .val (.ref ca), .val (.int (0 : Int32)), .val (.int (3 : Int32)), .val .null, .val (.ref x10)] [(.int (0 : Int32)), (.ref a)])) rfl rfl (hb hby d13_48)
  have f25 := f13.wr W24 ga
  have f26 := f14.wr W24
  have f27 := f15.same W24
  have f28 := f16.other W24 (Or.inr (slot_ne (Or.inr (hw _ (List.mem_of_getElem? (i := 4) rfl))) (Or.inr (hw _ (List.mem_of_getElem? (i := 5) rfl))) (by decide) (t := (.array .byte)) (t' := .byte) (by decide) (by decide)))
  have f29 := f17.wr W24 (Or.inl (List.mem_of_getElem? (i := 0) rfl))
  have f30 := f18.other W24 ne_ca_a
  have f31 := f12.other W24 (Ne.symm ne_a_x10)
  have Z32 : n0 ≤ h24.size := Nat.le_trans Z19 (Keep.of_wr W24).1
  have N24 := Fr.snoc X24 N22 ga
  have P33 := own_step (C := T24.setTop (mkF m 51 #[.val (.ref a), .val (.ref ca), .val (.int (0 : Int32)), .val (.int (3 : Int32)), .val .null, .val (.ref x10)] [])) P23 (fun t_ k_ => st24 t_ k_)
  have P34 := own_step (C := T24.setTop (mkF m 54 #[.val (.ref a), .val (.ref ca), .val (.int (0 : Int32)), .val (.int (3 : Int32)), .val .null, .val (.ref x10)] [(.ref x10), (.ref a)])) P33 (by
    intro tt_ kk_
    refine XS.aloadN X24.here hx rfl (hb hby d13_51) rfl rfl ?_
    show Steps p.tables e below (T24.setTop (mkF m 52 #[.val (.ref a), .val (.ref ca), .val (.int (0 : Int32)), .val (.int (3 : Int32)), .val .null, .val (.ref x10)] [(.ref a)])) _
    refine XS.aload X24.here hx rfl (hb hby d13_52) rfl rfl ?_
    exact kk_)
  obtain ⟨T35, h35, X35, e35, W35, st35⟩ := putF X24 hx hZ hown (host := "") (Or.inl (hw _ (List.mem_of_getElem? (i := 27) rfl))) Via.refl e24 f28 f26 (Or.inr ⟨(hw _ (List.mem_of_getElem? (i := 4) rfl)), rfl, hnm⟩) (hw _ (List.mem_of_getElem? (i := 2) rfl)) (ty := (.array .byte)) (by decide) rfl rfl (g := (mkF m 54 #[.val (.ref a), .val (.ref ca), .val (.int (0 : Int32)), .val (.int (3 : Int32)), .val .null, .val (.ref x10)] [(.ref x10), (.ref a)])) rfl rfl (hb hby d13_54)
  have f36 := f25.wr W35 ga
  have f37 := f26.wr W35
  have f38 := f27.other W35 (Or.inr (slot_ne (Or.inr (hw _ (List.mem_of_getElem? (i := 5) rfl))) (Or.inr (hw _ (List.mem_of_getElem? (i := 4) rfl))) (by decide) (t := .byte) (t' := (.array .byte)) (by decide) (by decide)))
  have f39 := f28.same W35
  have f40 := f29.wr W35 (Or.inl (List.mem_of_getElem? (i := 0) rfl))
  have f41 := f30.other W35 ne_ca_a
  have f42 := f31.other W35 (Ne.symm ne_a_x10)
  have Z43 : n0 ≤ h35.size := Nat.le_trans Z32 (Keep.of_wr W35).1
  have N35 := Fr.snoc X35 N24 ga
  have P44 := own_step (C := T35.setTop (mkF m 57 #[.val (.ref a), .val (.ref ca), .val (.int (0 : Int32)), .val (.int (3 : Int32)), .val .null, .val (.ref x10)] [])) P34 (fun t_ k_ => st35 t_ k_)
  obtain ⟨fs, hr, hrun, hended, hW, hsame⟩ := X35.leave (v := none) (fun _ => rfl)
  refine ⟨_, _, P44 _ ?_, hrun, hended, _, _, rfl, ?_, ⟨_, rfl⟩, hW, hsame.mono (by decide) (by decide)⟩
  · exact X35.returnOut hx Bd.returns (hb hby d13_57) hr
  · show Q_initV_3 Z _ _ _ _ _ _ _ h0 n0 _ T35.heap _
    rw [e35]
    exact ⟨x10, kk10, rfl, N35, f40, f37, f38, f39, f42, sz_x10⟩
theorem pd12 : parseMethodDescriptor "([CIILjava/lang/Void;)V" = some ⟨[(.array .char), .int, .int, (.object "java/lang/Void")], none⟩ := by decide +kernel
theorem d12_0 : decode jdk_42_method_3_code 0 = .ok (.aload_n 0, 1) := by decide +kernel
theorem d12_1 : decode jdk_42_method_3_code 1 = .ok (.aload_n 1, 1) := by decide +kernel
theorem d12_2 : decode jdk_42_method_3_code 2 = .ok (.iconst 0, 1) := by decide +kernel
theorem d12_3 : decode jdk_42_method_3_code 3 = .ok (.aload_n 1, 1) := by decide +kernel
theorem d12_4 : decode jdk_42_method_3_code 4 = .ok (.arraylength, 1) := by decide +kernel
theorem d12_5 : decode jdk_42_method_3_code 5 = .ok (.aconst_null, 1) := by decide +kernel
theorem d12_6 : decode jdk_42_method_3_code 6 = .ok (.invokespecial 27, 3) := by decide +kernel
theorem d12_9 : decode jdk_42_method_3_code 9 = .ok (.return_, 1) := by decide +kernel
theorem ef__initC_3 (m : MethodId) (x0 : Addr) (x1 : Addr) : entryFrame m #[(.ref x0), (.ref x1)] 2 = mkF m 0 #[.val (.ref x0), .val (.ref x1)] [] := by first | (simp [entryFrame, mkF, argsToLocals, Value.category]; done) | rfl
def Q_initC_3 (Z : State) (a : Addr) (ca : Addr) (ka : ClassId) (c0 : Int32) (c1 : Int32) (c2 : Int32) (cs : Int32) (h0 : Heap) (n0 : Nat) (v_ : Option Value) (h : Heap) (L_ : List Loc) : Prop := ∃ (x : Addr) (kk : ClassId), v_ = none ∧ Fr n0 L_ ∧ Keep h0 h [a] ∧ Exa Z h a "java/lang/String" ∧ Fld Z h a "java/lang/String" "coder" "B" (.int (0 : Int32)) ∧ Fld Z h a "java/lang/String" "value" "[B" (.ref x) ∧ Arv Z h x kk .byte (3 : Int32) [(.int (c0.toInt8.toInt32).toInt8.toInt32), (.int (c1.toInt8.toInt32).toInt8.toInt32), (.int (c2.toInt8.toInt32).toInt8.toInt32)] (.int 0) ∧ h0.size ≤ x
set_option maxRecDepth 65536 in
set_option maxHeartbeats 40000000 in
theorem rm_initC_3 (l : Launch) (Z : State) (a0 : Array Value) (hw : ∀ d ∈ tables_1, d.before a0 Z = true) (ws : List Jvm.Cond) (a : Addr) (ca : Addr) (ka : ClassId) (c0 : Int32) (c1 : Int32) (c2 : Int32) (cs : Int32) (h0 : Heap) (n0 : Nat) (Z0 : n0 ≤ h0.size) (O : Old Z n0 h0) (Scs : Sta Z Z.heap "java/lang/String" "COMPACT_STRINGS" "Z" (.int cs)) (hcs : ¬ (cs = (0 : Int32))) (Ea : Exa Z h0 a "java/lang/String") (Fv : Fld Z h0 a "java/lang/String" "value" "[B" .null) (Fc : Fld Z h0 a "java/lang/String" "coder" "B" (.int (0 : Int32))) (ga : n0 ≤ a) (Vs : Arv Z h0 ca ka .char (3 : Int32) [(.int c0), (.int c1), (.int c2)] (.int 0)) (hc0 : ¬ ((255 : Int32) < c0)) (hc1 : ¬ ((255 : Int32) < c1)) (hc2 : ¬ ((255 : Int32) < c2)) :
    MetFree l (⟨"java/lang/String", "<init>", "([C)V"⟩ : MethodName) (head1 (Jvm.Cond.code (⟨"java/lang/String", "<init>", "([C)V"⟩ : MethodName) jdk_42_method_3_code 2 none :: ws) ({ frames := 3, cells := 1, slots := 3, locals := 52 } : Room)) (fun a_ U_ => a_ = #[(.ref a), (.ref ca)] ∧ Z.Warmed39 U_.vm ∧ U_.heap = h0) (fun _ _ _ _ _ => True) (fun _ U_ o_ V_ => ∃ v_ L_, o_ = .returned v_ ∧ Q_initC_3 Z a ca ka c0 c1 c2 cs h0 n0 v_ V_.heap L_ ∧ FrameEnd U_ o_ V_ L_ ({ frames := 3, cells := 1, slots := 3, locals := 52 } : Room).cells ({ frames := 3, cells := 1, slots := 3, locals := 52 } : Room).slots) := by
  refine MetFree.of_bodySF (plainFor_of_name pn0) hisR ?_
  intro p e s m args below meth c s₁ Bd hml0 hP hK
  obtain ⟨rfl, hZ, hh⟩ := hP
  have hx := Bd.exec
  have hby := Bd.bytes
  have hml : c.maxLocals = 2 := hml0
  have hown : s.vm.findClass "java/lang/String" = some m.cls := findClass_of_methodNamed Bd.named
  have hnm := (name_of_methodNamed Bd.named Bd.method).1
  have X0 : Stand p l e ({ frames := 3, cells := 1, slots := 3, locals := 52 } : Room) s m #[(.ref a), (.ref ca)] below meth c s₁ [] 0 0 := Stand.of_body Bd
  have e0 : s₁.heap = h0 := by rw [← hh, Bd.state]; rfl
  have N0 := Fr.nil n0
  have pre0 : own_Go p e below (s₁.setTop (entryFrame m #[(.ref a), (.ref ca)] 2)) (s₁.setTop (mkF m 0 #[.val (.ref a), .val (.ref ca)] [])) := fun t_ k_ => castTop (ef__initC_3 m a ca) k_
  obtain ⟨clV, ArV, -⟩ := id Vs
  have ne_ca_a : ca ≠ a := Ne.symm (ne_arr Ea (hw _ (List.mem_of_getElem? (i := 2) rfl)) ArV)
  have P1 := own_step (C := s₁.setTop (mkF m 4 #[.val (.ref a), .val (.ref ca)] [(.ref ca), (.int (0 : Int32)), (.ref ca), (.ref a)])) pre0 (by
    intro tt_ kk_
    refine XS.aloadN X0.here hx rfl (hb hby d12_0) rfl rfl ?_
    show Steps p.tables e below (s₁.setTop (mkF m 1 #[.val (.ref a), .val (.ref ca)] [(.ref a)])) _
    refine XS.aloadN X0.here hx rfl (hb hby d12_1) rfl rfl ?_
    show Steps p.tables e below (s₁.setTop (mkF m 2 #[.val (.ref a), .val (.ref ca)] [(.ref ca), (.ref a)])) _
    refine XS.iconst X0.here hx rfl (hb hby d12_2) ?_
    show Steps p.tables e below (s₁.setTop (mkF m 3 #[.val (.ref a), .val (.ref ca)] [(.int (0 : Int32)), (.ref ca), (.ref a)])) _
    refine XS.aloadN X0.here hx rfl (hb hby d12_3) rfl rfl ?_
    exact kk_)
  obtain ⟨cl2, Ar2, q2, S2, M2, H2, G2⟩ := id Vs
  have P3 := own_step (C := s₁.setTop (mkF m 5 #[.val (.ref a), .val (.ref ca)] [(.int (3 : Int32)), (.int (0 : Int32)), (.ref ca), (.ref a)])) P1 (by
    intro tt_ kk_
    refine X0.arraylength hx (by rw [e0]; exact Ar2.1) (State.isArrayOf_alike hZ.alike Ar2.2.1) (g := (mkF m 4 #[.val (.ref a), .val (.ref ca)] [(.ref ca), (.int (0 : Int32)), (.ref ca), (.ref a)])) rfl rfl (hb hby d12_4) _ ?_
    rw [len_of S2 M2]
    exact kk_)
  have P4 := own_step (C := s₁.setTop (mkF m 6 #[.val (.ref a), .val (.ref ca)] [.null, (.int (3 : Int32)), (.int (0 : Int32)), (.ref ca), (.ref a)])) P3 (by
    intro tt_ kk_
    refine XS.aconstNull X0.here hx rfl (hb hby d12_5) ?_
    exact kk_)
  obtain ⟨_, _, ⟨T5, L5, k5, n5⟩, -, X5, ⟨Lc5, hQ5, l5, y5, z5⟩, st5⟩ := X0.specialBack hx (y := (⟨"java/lang/String", "<init>", "([CIILjava/lang/Void;)V"⟩ : MethodName)) rfl hown (mvT hZ (hw _ (List.mem_of_getElem? (i := 72) rfl))) (mvT hZ (hw _ (List.mem_of_getElem? (i := 73) rfl))) (mvT hZ (hw _ (List.mem_of_getElem? (i := 74) rfl))) (by decide) (backOf (W := 0) (rm_initV_3 l Z a0 hw [] a ca ka c0 c1 c2 cs h0 n0 Z0 O Scs hcs Ea Fv Fc ga Vs hc0 hc1 hc2) hZ (hw _ (List.mem_of_getElem? (i := 74) rfl)) (hw _ (List.mem_of_getElem? (i := 1) rfl)) (by decide) (by decide)) (g := (mkF m 6 #[.val (.ref a), .val (.ref ca)] [.null, (.int (3 : Int32)), (.int (0 : Int32)), (.ref ca), (.ref a)])) rfl (by rw [hml]; rfl) (Steps.refl _) (a := a) (argsL := [(.ref ca), (.int (0 : Int32)), (.int (3 : Int32)), .null]) (rest := []) (lenOf pd12 rfl) rfl (by show 2 * 0 + _ ≤ _; exact Nat.le_of_eq rfl) (hb hby d12_6) (fun _ _ => ⟨rfl, e0, (by decide : 0 + 1 ≤ _), (by decide : 0 + 3 ≤ _)⟩)
  dsimp only [Pt.U, Pt.locs, Pt.cells, Pt.slots] at X5 l5 y5 z5 st5 hQ5
  subst l5 y5 z5
  obtain ⟨x5, kk5, rfl, N5q, K5, f6, f7, f8, f9, f10⟩ := hQ5
  have N5 := Fr.app N0 N5q
  have ne_a_x5 : a ≠ x5 := Nat.ne_of_lt (Nat.lt_of_lt_of_le Ea.lt f10)
  have ne_ca_x5 : ca ≠ x5 := Nat.ne_of_lt (Nat.lt_of_lt_of_le Vs.lt f10)
  have g_x5 : n0 ≤ x5 := Nat.le_trans Z0 f10
  have sz_x5 : h0.size ≤ x5 := Nat.le_trans (Keep.refl h0 [a]).1 f10
  have f11 := O.keep K5 (allS ga all0)
  have f12 := Ea.keep K5
  have f15 := (Keep.refl h0 [a]).trans K5 (allS (Or.inl (List.mem_of_getElem? (i := 0) rfl)) all0)
  have f16 := Vs.keep K5 (ninS ne_ca_a nin0)
  have Z17 : n0 ≤ T5.heap.size := Nat.le_trans Z0 K5.1
  have P18 := own_step (C := T5.setTop (mkF m 9 #[.val (.ref a), .val (.ref ca)] [])) P4 (fun t_ k_ => st5.trans k_)
  obtain ⟨fs, hr, hrun, hended, hW, hsame⟩ := X5.leave (v := none) (fun _ => rfl)
  refine ⟨_, _, P18 _ ?_, hrun, hended, _, _, rfl, ?_, ⟨_, rfl⟩, hW, hsame.mono (by decide) (by decide)⟩
  · exact X5.returnOut hx Bd.returns (hb hby d12_9) hr
  · show Q_initC_3 Z _ _ _ _ _ _ _ h0 n0 _ T5.heap _
    exact ⟨x5, kk5, rfl, N5, f15, f6, f7, f8, f9, f10⟩
def own_can (p0 : Int32) : Int32 := (if (255 : Int32) < p0 then (0 : Int32) else (1 : Int32))
theorem d2_0 : decode jdk_43_method_3_code 0 = .ok (.iload_n 0, 1) := by decide +kernel
theorem d2_1 : decode jdk_43_method_3_code 1 = .ok (.sipush 255, 3) := by decide +kernel
theorem d2_4 : decode jdk_43_method_3_code 4 = .ok (.if_icmp .gt 7, 3) := by decide +kernel
theorem d2_7 : decode jdk_43_method_3_code 7 = .ok (.iconst 1, 1) := by decide +kernel
theorem d2_8 : decode jdk_43_method_3_code 8 = .ok (.goto 4, 3) := by decide +kernel
theorem d2_11 : decode jdk_43_method_3_code 11 = .ok (.iconst 0, 1) := by decide +kernel
theorem d2_12 : decode jdk_43_method_3_code 12 = .ok (.ireturn, 1) := by decide +kernel
theorem ef__own_can (m : MethodId) (x0 : Int32) : entryFrame m #[(.int x0)] 1 = mkF m 0 #[.val (.int x0)] [] := by first | (simp [entryFrame, mkF, argsToLocals, Value.category]; done) | rfl
def Q_own_can (Z : State) (p0 : Int32) (h0 : Heap) (n0 : Nat) (v_ : Option Value) (h : Heap) (L_ : List Loc) : Prop := v_ = some (.int (own_can p0)) ∧ Fr n0 L_ ∧ h = h0
set_option maxRecDepth 65536 in
set_option maxHeartbeats 40000000 in
theorem rm_own_can (l : Launch) (Z : State) (a0 : Array Value) (hw : ∀ d ∈ tables_1, d.before a0 Z = true) (ws : List Jvm.Cond) (p0 : Int32) (h0 : Heap) (n0 : Nat) (Z0 : n0 ≤ h0.size) :
    MetFree l (⟨"java/lang/StringLatin1", "canEncode", "(C)Z"⟩ : MethodName) (head1 (Jvm.Cond.code (⟨"java/lang/StringLatin1", "canEncode", "(C)Z"⟩ : MethodName) jdk_43_method_3_code 1 (some .boolean) :: ws) ({ frames := 0, cells := 0, slots := 0, locals := 0 } : Room)) (fun a_ U_ => a_ = #[(.int p0)] ∧ Z.Warmed39 U_.vm ∧ U_.heap = h0) (fun _ _ _ _ _ => True) (fun _ U_ o_ V_ => ∃ v_ L_, o_ = .returned v_ ∧ Q_own_can Z p0 h0 n0 v_ V_.heap L_ ∧ FrameEnd U_ o_ V_ L_ ({ frames := 0, cells := 0, slots := 0, locals := 0 } : Room).cells ({ frames := 0, cells := 0, slots := 0, locals := 0 } : Room).slots) := by
  refine MetFree.of_bodySF (plainFor_of_name pn2) hisR ?_
  intro p e s m args below meth c s₁ Bd hml0 hP hK
  obtain ⟨rfl, hZ, hh⟩ := hP
  have hx := Bd.exec
  have hby := Bd.bytes
  have hml : c.maxLocals = 1 := hml0
  have hown : s.vm.findClass "java/lang/StringLatin1" = some m.cls := findClass_of_methodNamed Bd.named
  have hnm := (name_of_methodNamed Bd.named Bd.method).1
  have X0 : Stand p l e ({ frames := 0, cells := 0, slots := 0, locals := 0 } : Room) s m #[(.int p0)] below meth c s₁ [] 0 0 := Stand.of_body Bd
  have e0 : s₁.heap = h0 := by rw [← hh, Bd.state]; rfl
  have N0 := Fr.nil n0
  have pre0 : own_Go p e below (s₁.setTop (entryFrame m #[(.int p0)] 1)) (s₁.setTop (mkF m 0 #[.val (.int p0)] [])) := fun t_ k_ => castTop (ef__own_can m p0) k_
  have P1 := own_step (C := s₁.setTop (mkF m 4 #[.val (.int p0)] [(.int (255 : Int32)), (.int p0)])) pre0 (by
    intro tt_ kk_
    refine XS.iloadN X0.here hx rfl (hb hby d2_0) rfl ?_
    show Steps p.tables e below (s₁.setTop (mkF m 1 #[.val (.int p0)] [(.int p0)])) _
    refine XS.sipush X0.here hx rfl (hb hby d2_1) ?_
    exact kk_)
  by_cases c2 : (255 : Int32) < p0
  · have P3 := own_step (C := s₁.setTop (mkF m 11 #[.val (.int p0)] [])) P1 (by
      intro tt_ kk_
      refine XS.icmpYes X0.here hx rfl (pc0 := 4) (pc' := 11) rfl (hb hby d2_4) rfl (tlt c2).2.2.1 (by decide) (by decide) ?_
      exact kk_)
    have P4 := own_step (C := s₁.setTop (mkF m 12 #[.val (.int p0)] [(.int (0 : Int32))])) P3 (by
      intro tt_ kk_
      refine XS.iconst X0.here hx rfl (hb hby d2_11) ?_
      exact kk_)
    obtain ⟨fs, hr, hrun, hended, hW, hsame⟩ := X0.leave (v := some (.int (0 : Int32))) (fun h => by rw [Bd.returns] at h; cases h)
    refine ⟨_, _, P4 _ ?_, hrun, hended, _, _, rfl, ?_, ⟨_, rfl⟩, hW, hsame.mono (by decide) (by decide)⟩
    · exact retN X0 hx (t := .boolean) Bd.returns (by simp) (hb hby d2_12) hr
    · show Q_own_can Z _ h0 n0 _ s₁.heap _
      rw [e0]
      exact ⟨by unfold own_can; rw [if_pos c2], N0, rfl⟩
  · have P5 := own_step (C := s₁.setTop (mkF m 7 #[.val (.int p0)] [])) P1 (by
      intro tt_ kk_
      refine XS.icmpNo X0.here hx rfl (hb hby d2_4) rfl (flt c2).2.2.1 ?_
      exact kk_)
    have P6 := own_step (C := s₁.setTop (mkF m 12 #[.val (.int p0)] [(.int (1 : Int32))])) P5 (by
      intro tt_ kk_
      refine XS.iconst X0.here hx rfl (hb hby d2_7) ?_
      show Steps p.tables e below (s₁.setTop (mkF m 8 #[.val (.int p0)] [(.int (1 : Int32))])) _
      refine XS.goto X0.here hx rfl (pc0 := 8) (pc' := 12) rfl (hb hby d2_8) (by decide) (by decide) ?_
      exact kk_)
    obtain ⟨fs, hr, hrun, hended, hW, hsame⟩ := X0.leave (v := some (.int (1 : Int32))) (fun h => by rw [Bd.returns] at h; cases h)
    refine ⟨_, _, P6 _ ?_, hrun, hended, _, _, rfl, ?_, ⟨_, rfl⟩, hW, hsame.mono (by decide) (by decide)⟩
    · exact retN X0 hx (t := .boolean) Bd.returns (by simp) (hb hby d2_12) hr
    · show Q_own_can Z _ h0 n0 _ s₁.heap _
      rw [e0]
      exact ⟨by unfold own_can; rw [if_neg c2], N0, rfl⟩
theorem d3_0 : decode jdk_43_method_46_code 0 = .ok (.iconst 1, 1) := by decide +kernel
theorem d3_1 : decode jdk_43_method_46_code 1 = .ok (.newarray .byte, 2) := by decide +kernel
theorem d3_3 : decode jdk_43_method_46_code 3 = .ok (.dup, 1) := by decide +kernel
theorem d3_4 : decode jdk_43_method_46_code 4 = .ok (.iconst 0, 1) := by decide +kernel
theorem d3_5 : decode jdk_43_method_46_code 5 = .ok (.iload_n 0, 1) := by decide +kernel
theorem d3_6 : decode jdk_43_method_46_code 6 = .ok (.i2b, 1) := by decide +kernel
theorem d3_7 : decode jdk_43_method_46_code 7 = .ok (.bastore, 1) := by decide +kernel
theorem d3_8 : decode jdk_43_method_46_code 8 = .ok (.areturn, 1) := by decide +kernel
theorem ef__toB (m : MethodId) (x0 : Int32) : entryFrame m #[(.int x0)] 1 = mkF m 0 #[.val (.int x0)] [] := by first | (simp [entryFrame, mkF, argsToLocals, Value.category]; done) | rfl
def Q_toB (Z : State) (p0 : Int32) (h0 : Heap) (n0 : Nat) (v_ : Option Value) (h : Heap) (L_ : List Loc) : Prop := ∃ (x : Addr), v_ = some (.ref x) ∧ Fr n0 L_ ∧ Keep h0 h [] ∧ h0.size ≤ x
set_option maxRecDepth 65536 in
set_option maxHeartbeats 40000000 in
theorem rm_toB (l : Launch) (Z : State) (a0 : Array Value) (hw : ∀ d ∈ tables_1, d.before a0 Z = true) (ws : List Jvm.Cond) (p0 : Int32) (h0 : Heap) (n0 : Nat) (Z0 : n0 ≤ h0.size) (O : Old Z n0 h0) :
    MetFree l (⟨"java/lang/StringLatin1", "toBytes", "(C)[B"⟩ : MethodName) (head1 (Jvm.Cond.code (⟨"java/lang/StringLatin1", "toBytes", "(C)[B"⟩ : MethodName) jdk_43_method_46_code 1 (some (.array .byte)) :: ws) ({ frames := 0, cells := 1, slots := 1, locals := 0 } : Room)) (fun a_ U_ => a_ = #[(.int p0)] ∧ Z.Warmed39 U_.vm ∧ U_.heap = h0) (fun _ _ _ _ _ => True) (fun _ U_ o_ V_ => ∃ v_ L_, o_ = .returned v_ ∧ Q_toB Z p0 h0 n0 v_ V_.heap L_ ∧ FrameEnd U_ o_ V_ L_ ({ frames := 0, cells := 1, slots := 1, locals := 0 } : Room).cells ({ frames := 0, cells := 1, slots := 1, locals := 0 } : Room).slots) := by
  refine MetFree.of_bodySF (plainFor_of_name pn2) hisR ?_
  intro p e s m args below meth c s₁ Bd hml0 hP hK
  obtain ⟨rfl, hZ, hh⟩ := hP
  have hx := Bd.exec
  have hby := Bd.bytes
  have hml : c.maxLocals = 1 := hml0
  have hown : s.vm.findClass "java/lang/StringLatin1" = some m.cls := findClass_of_methodNamed Bd.named
  have hnm := (name_of_methodNamed Bd.named Bd.method).1
  have X0 : Stand p l e ({ frames := 0, cells := 1, slots := 1, locals := 0 } : Room) s m #[(.int p0)] below meth c s₁ [] 0 0 := Stand.of_body Bd
  have e0 : s₁.heap = h0 := by rw [← hh, Bd.state]; rfl
  have N0 := Fr.nil n0
  have pre0 : own_Go p e below (s₁.setTop (entryFrame m #[(.int p0)] 1)) (s₁.setTop (mkF m 0 #[.val (.int p0)] [])) := fun t_ k_ => castTop (ef__toB m p0) k_
  have P1 := own_step (C := s₁.setTop (mkF m 1 #[.val (.int p0)] [(.int (1 : Int32))])) pre0 (by
    intro tt_ kk_
    refine XS.iconst X0.here hx rfl (hb hby d3_0) ?_
    exact kk_)
  obtain ⟨T2, h2, k2, X2, e2, E2, A2, st2⟩ := newP X0 hx hZ (hw _ (List.mem_of_getElem? (i := 3) rfl)) e0 (g := (mkF m 1 #[.val (.int p0)] [(.int (1 : Int32))])) rfl (hb hby d3_1) rfl (by decide) (cap := 1) (by decide) (by decide) (by decide) (by decide)
  obtain ⟨b2, g2⟩ : ∃ z, z = h0.size := ⟨_, rfl⟩
  rw [← g2] at A2 st2
  have g_b2 : n0 ≤ b2 := Nat.le_trans Z0 (Nat.le_of_eq g2.symm)
  have sz_b2 : h0.size ≤ b2 := Nat.le_trans (Keep.refl h0 []).1 (Nat.le_of_eq g2.symm)
  have f3 := O.ext E2
  have f4 := (Keep.refl h0 []).ext E2
  have Z5 : n0 ≤ h2.size := Nat.le_trans Z0 E2.1
  have V2 : Arv Z h2 b2 k2 .byte (1 : Int32) [(.int (0 : Int32))] (.int (0 : Int32)) := (Arv.new A2 (by decide)).pad (pad_rep [] _ 1)
  have P6 := own_step (C := T2.setTop (mkF m 3 #[.val (.int p0)] [(.ref b2)])) P1 (fun t_ k_ => st2 t_ k_)
  have P7 := own_step (C := T2.setTop (mkF m 7 #[.val (.int p0)] [(.int (p0.toInt8.toInt32)), (.int (0 : Int32)), (.ref b2), (.ref b2)])) P6 (by
    intro tt_ kk_
    refine XS.dup X2.here hx rfl (hb hby d3_3) rfl rfl ?_
    show Steps p.tables e below (T2.setTop (mkF m 4 #[.val (.int p0)] [(.ref b2), (.ref b2)])) _
    refine XS.iconst X2.here hx rfl (hb hby d3_4) ?_
    show Steps p.tables e below (T2.setTop (mkF m 5 #[.val (.int p0)] [(.int (0 : Int32)), (.ref b2), (.ref b2)])) _
    refine XS.iloadN X2.here hx rfl (hb hby d3_5) rfl ?_
    show Steps p.tables e below (T2.setTop (mkF m 6 #[.val (.int p0)] [(.int p0), (.int (0 : Int32)), (.ref b2), (.ref b2)])) _
    refine XS.i2b X2.here hx rfl (hb hby d3_6) rfl ?_
    exact kk_)
  obtain ⟨cl8, Ar8, q8, S8, M8, H8, G8⟩ := id V2
  obtain ⟨T9, h9, X9, e9, W9, st9⟩ := stB X2 hx hZ e2 Ar8 (j := (0 : Int32)) (inb_of S8 (by decide : ¬ (0 : Int32) < 0 ∧ (0 : Int32) < (1 : Int32))) (g := (mkF m 7 #[.val (.int p0)] [(.int (p0.toInt8.toInt32)), (.int (0 : Int32)), (.ref b2), (.ref b2)])) rfl rfl (hb hby d3_7)
  have f10 := f3.wr W9 g_b2
  have f11 := f4.wr W9 (Or.inr sz_b2)
  have Z13 : n0 ≤ h9.size := Nat.le_trans Z5 (Keep.of_wr W9).1
  have V9 : Arv Z h9 b2 k2 .byte (1 : Int32) [(.int (p0.toInt8.toInt32).toInt8.toInt32)] (.int (0 : Int32)) := Arv.set Ar8 q8 S8 M8 H8 G8 (fits_nar_byte _) W9 0 rfl (Nat.le_of_ble_eq_true rfl)
  have N9 := Fr.snoc X9 N0 g_b2
  have P14 := own_step (C := T9.setTop (mkF m 8 #[.val (.int p0)] [(.ref b2)])) P7 (fun t_ k_ => st9 t_ k_)
  obtain ⟨fs, hr, hrun, hended, hW, hsame⟩ := X9.leave (v := some (.ref b2)) (fun h => by rw [Bd.returns] at h; cases h)
  refine ⟨_, _, P14 _ ?_, hrun, hended, _, _, rfl, ?_, ⟨_, rfl⟩, hW, hsame.mono (by decide) (by decide)⟩
  · jvm_step X9.here [X9.here.top, hx, (hb hby d3_8), X9.method', Bd.returns, Value.isRef, FieldType.isReference]
    first | (intro acts; rw [hr _ acts rfl rfl rfl]) | rw [hr _ _ rfl rfl rfl]
    exact Steps.refl _
  · show Q_toB Z _ h0 n0 _ T9.heap _
    rw [e9]
    exact ⟨b2, rfl, N9, f11, sz_b2⟩
theorem d4_0 : decode jdk_42_method_151_code 0 = .ok (.aload_n 0, 1) := by decide +kernel
theorem d4_1 : decode jdk_42_method_151_code 1 = .ok (.invokespecial 1, 3) := by decide +kernel
theorem d4_4 : decode jdk_42_method_151_code 4 = .ok (.aload_n 0, 1) := by decide +kernel
theorem d4_5 : decode jdk_42_method_151_code 5 = .ok (.aload_n 1, 1) := by decide +kernel
theorem d4_6 : decode jdk_42_method_151_code 6 = .ok (.putfield 9, 3) := by decide +kernel
theorem d4_9 : decode jdk_42_method_151_code 9 = .ok (.aload_n 0, 1) := by decide +kernel
theorem d4_10 : decode jdk_42_method_151_code 10 = .ok (.iload_n 2, 1) := by decide +kernel
theorem d4_11 : decode jdk_42_method_151_code 11 = .ok (.putfield 15, 3) := by decide +kernel
theorem d4_14 : decode jdk_42_method_151_code 14 = .ok (.return_, 1) := by decide +kernel
theorem ef__initBB (m : MethodId) (x0 : Addr) (x1 : Addr) (x2 : Int32) : entryFrame m #[(.ref x0), (.ref x1), (.int x2)] 3 = mkF m 0 #[.val (.ref x0), .val (.ref x1), .val (.int x2)] [] := by first | (simp [entryFrame, mkF, argsToLocals, Value.category]; done) | rfl
def Q_initBB (Z : State) (a : Addr) (bv : Addr) (pb : Int32) (h0 : Heap) (n0 : Nat) (v_ : Option Value) (h : Heap) (L_ : List Loc) : Prop := v_ = none ∧ Fr n0 L_ ∧ Keep h0 h [a] ∧ Exa Z h a "java/lang/String"
set_option maxRecDepth 65536 in
set_option maxHeartbeats 40000000 in
theorem rm_initBB (l : Launch) (Z : State) (a0 : Array Value) (hw : ∀ d ∈ tables_1, d.before a0 Z = true) (ws : List Jvm.Cond) (a : Addr) (bv : Addr) (pb : Int32) (h0 : Heap) (n0 : Nat) (Z0 : n0 ≤ h0.size) (O : Old Z n0 h0) (Ea : Exa Z h0 a "java/lang/String") (Fv : Fld Z h0 a "java/lang/String" "value" "[B" .null) (Fc : Fld Z h0 a "java/lang/String" "coder" "B" (.int (0 : Int32))) (ga : n0 ≤ a) :
    MetFree l (⟨"java/lang/String", "<init>", "([BB)V"⟩ : MethodName) (head1 (Jvm.Cond.code (⟨"java/lang/String", "<init>", "([BB)V"⟩ : MethodName) jdk_42_method_151_code 3 none :: ws) ({ frames := 1, cells := 0, slots := 0, locals := 12 } : Room)) (fun a_ U_ => a_ = #[(.ref a), (.ref bv), (.int pb)] ∧ Z.Warmed39 U_.vm ∧ U_.heap = h0) (fun _ _ _ _ _ => True) (fun _ U_ o_ V_ => ∃ v_ L_, o_ = .returned v_ ∧ Q_initBB Z a bv pb h0 n0 v_ V_.heap L_ ∧ FrameEnd U_ o_ V_ L_ ({ frames := 1, cells := 0, slots := 0, locals := 12 } : Room).cells ({ frames := 1, cells := 0, slots := 0, locals := 12 } : Room).slots) := by
  refine MetFree.of_bodySF (plainFor_of_name pn0) hisR ?_
  intro p e s m args below meth c s₁ Bd hml0 hP hK
  obtain ⟨rfl, hZ, hh⟩ := hP
  have hx := Bd.exec
  have hby := Bd.bytes
  have hml : c.maxLocals = 3 := hml0
  have hown : s.vm.findClass "java/lang/String" = some m.cls := findClass_of_methodNamed Bd.named
  have hnm := (name_of_methodNamed Bd.named Bd.method).1
  have X0 : Stand p l e ({ frames := 1, cells := 0, slots := 0, locals := 12 } : Room) s m #[(.ref a), (.ref bv), (.int pb)] below meth c s₁ [] 0 0 := Stand.of_body Bd
  have e0 : s₁.heap = h0 := by rw [← hh, Bd.state]; rfl
  have N0 := Fr.nil n0
  have pre0 : own_Go p e below (s₁.setTop (entryFrame m #[(.ref a), (.ref bv), (.int pb)] 3)) (s₁.setTop (mkF m 0 #[.val (.ref a), .val (.ref bv), .val (.int pb)] [])) := fun t_ k_ => castTop (ef__initBB m a bv pb) k_
  have P1 := own_step (C := s₁.setTop (mkF m 1 #[.val (.ref a), .val (.ref bv), .val (.int pb)] [(.ref a)])) pre0 (by
    intro tt_ kk_
    refine XS.aloadN X0.here hx rfl (hb hby d4_0) rfl rfl ?_
    exact kk_)
  obtain ⟨T2, X2, e2, st2⟩ := initO X0 hx hZ hown (hw _ (List.mem_of_getElem? (i := 24) rfl)) (hw _ (List.mem_of_getElem? (i := 25) rfl)) (hw _ (List.mem_of_getElem? (i := 26) rfl)) e0 (g := (mkF m 1 #[.val (.ref a), .val (.ref bv), .val (.int pb)] [(.ref a)])) rfl (by rw [hml]; rfl) rfl (hb hby d4_1) (by decide) (W := 0) (by show 2 * 0 + _ ≤ _; exact Nat.le_of_eq rfl) (by decide)
  have P3 := own_step (C := T2.setTop (mkF m 4 #[.val (.ref a), .val (.ref bv), .val (.int pb)] [])) P1 (fun t_ k_ => st2 t_ k_)
  have P4 := own_step (C := T2.setTop (mkF m 6 #[.val (.ref a), .val (.ref bv), .val (.int pb)] [(.ref bv), (.ref a)])) P3 (by
    intro tt_ kk_
    refine XS.aloadN X2.here hx rfl (hb hby d4_4) rfl rfl ?_
    show Steps p.tables e below (T2.setTop (mkF m 5 #[.val (.ref a), .val (.ref bv), .val (.int pb)] [(.ref a)])) _
    refine XS.aloadN X2.here hx rfl (hb hby d4_5) rfl rfl ?_
    exact kk_)
  obtain ⟨T5, h5, X5, e5, W5, st5⟩ := putF X2 hx hZ hown (host := "") (Or.inl (hw _ (List.mem_of_getElem? (i := 27) rfl))) Via.refl e2 Fv Ea (Or.inr ⟨(hw _ (List.mem_of_getElem? (i := 4) rfl)), rfl, hnm⟩) (hw _ (List.mem_of_getElem? (i := 2) rfl)) (ty := (.array .byte)) (by decide) rfl rfl (g := (mkF m 6 #[.val (.ref a), .val (.ref bv), .val (.int pb)] [(.ref bv), (.ref a)])) rfl rfl (hb hby d4_6)
  have f6 := O.wr W5 ga
  have f7 := Ea.wr W5
  have f8 := Fc.other W5 (Or.inr (slot_ne (Or.inr (hw _ (List.mem_of_getElem? (i := 5) rfl))) (Or.inr (hw _ (List.mem_of_getElem? (i := 4) rfl))) (by decide) (t := .byte) (t' := (.array .byte)) (by decide) (by decide)))
  have f9 := Fv.same W5
  have f10 := (Keep.refl h0 [a]).wr W5 (Or.inl (List.mem_of_getElem? (i := 0) rfl))
  have Z11 : n0 ≤ h5.size := Nat.le_trans Z0 (Keep.of_wr W5).1
  have N5 := Fr.snoc X5 N0 ga
  have P12 := own_step (C := T5.setTop (mkF m 9 #[.val (.ref a), .val (.ref bv), .val (.int pb)] [])) P4 (fun t_ k_ => st5 t_ k_)
  have P13 := own_step (C := T5.setTop (mkF m 11 #[.val (.ref a), .val (.ref bv), .val (.int pb)] [(.int pb), (.ref a)])) P12 (by
    intro tt_ kk_
    refine XS.aloadN X5.here hx rfl (hb hby d4_9) rfl rfl ?_
    show Steps p.tables e below (T5.setTop (mkF m 10 #[.val (.ref a), .val (.ref bv), .val (.int pb)] [(.ref a)])) _
    refine XS.iloadN X5.here hx rfl (hb hby d4_10) rfl ?_
    exact kk_)
  obtain ⟨T14, h14, X14, e14, W14, st14⟩ := putFN X5 hx hZ hown (hw _ (List.mem_of_getElem? (i := 28) rfl)) Via.refl e5 f8 f7 (Or.inr ⟨(hw _ (List.mem_of_getElem? (i := 5) rfl)), rfl, hnm⟩) (hw _ (List.mem_of_getElem? (i := 2) rfl)) (ty := .byte) (v' := (.int pb.toInt8.toInt32)) (by decide) rfl (fits_nar_byte _) (g := (mkF m 11 #[.val (.ref a), .val (.ref bv), .val (.int pb)] [(.int pb), (.ref a)])) rfl rfl (hb hby d4_11)
  have f15 := f6.wr W14 ga
  have f16 := f7.wr W14
  have f17 := f8.same W14
  have f18 := f9.other W14 (Or.inr (slot_ne (Or.inr (hw _ (List.mem_of_getElem? (i := 4) rfl))) (Or.inr (hw _ (List.mem_of_getElem? (i := 5) rfl))) (by decide) (t := (.array .byte)) (t' := .byte) (by decide) (by decide)))
  have f19 := f10.wr W14 (Or.inl (List.mem_of_getElem? (i := 0) rfl))
  have Z20 : n0 ≤ h14.size := Nat.le_trans Z11 (Keep.of_wr W14).1
  have N14 := Fr.snoc X14 N5 ga
  have P21 := own_step (C := T14.setTop (mkF m 14 #[.val (.ref a), .val (.ref bv), .val (.int pb)] [])) P13 (fun t_ k_ => st14 t_ k_)
  obtain ⟨fs, hr, hrun, hended, hW, hsame⟩ := X14.leave (v := none) (fun _ => rfl)
  refine ⟨_, _, P21 _ ?_, hrun, hended, _, _, rfl, ?_, ⟨_, rfl⟩, hW, hsame.mono (by decide) (by decide)⟩
  · exact X14.returnOut hx Bd.returns (hb hby d4_14) hr
  · show Q_initBB Z _ _ _ h0 n0 _ T14.heap _
    rw [e14]
    exact ⟨rfl, N14, f19, f16⟩
theorem own_can1 {c : Int32} (h : ¬ ((255 : Int32) < c)) : ¬ (own_can c = (0 : Int32)) := by unfold own_can; rw [if_neg h]; decide
theorem pd13 : parseMethodDescriptor "(C)Z" = some ⟨[.char], some .boolean⟩ := by decide +kernel
theorem pd14 : parseMethodDescriptor "(C)[B" = some ⟨[.char], some (.array .byte)⟩ := by decide +kernel
theorem pd15 : parseMethodDescriptor "([BB)V" = some ⟨[(.array .byte), .byte], none⟩ := by decide +kernel
theorem d1_0 : decode jdk_42_method_139_code 0 = .ok (.getstatic 38, 3) := by decide +kernel
theorem d1_3 : decode jdk_42_method_139_code 3 = .ok (.ifCond .eq 23, 3) := by decide +kernel
theorem d1_6 : decode jdk_42_method_139_code 6 = .ok (.iload_n 0, 1) := by decide +kernel
theorem d1_7 : decode jdk_42_method_139_code 7 = .ok (.invokestatic 1015, 3) := by decide +kernel
theorem d1_10 : decode jdk_42_method_139_code 10 = .ok (.ifCond .eq 16, 3) := by decide +kernel
theorem d1_13 : decode jdk_42_method_139_code 13 = .ok (.new 10, 3) := by decide +kernel
theorem d1_16 : decode jdk_42_method_139_code 16 = .ok (.dup, 1) := by decide +kernel
theorem d1_17 : decode jdk_42_method_139_code 17 = .ok (.iload_n 0, 1) := by decide +kernel
theorem d1_18 : decode jdk_42_method_139_code 18 = .ok (.invokestatic 1018, 3) := by decide +kernel
theorem d1_21 : decode jdk_42_method_139_code 21 = .ok (.iconst 0, 1) := by decide +kernel
theorem d1_22 : decode jdk_42_method_139_code 22 = .ok (.invokespecial 209, 3) := by decide +kernel
theorem d1_25 : decode jdk_42_method_139_code 25 = .ok (.areturn, 1) := by decide +kernel
theorem ef__valueOf (m : MethodId) (x0 : Int32) : entryFrame m #[(.int x0)] 1 = mkF m 0 #[.val (.int x0)] [] := by first | (simp [entryFrame, mkF, argsToLocals, Value.category]; done) | rfl
def Q_valueOf (Z : State) (p0 : Int32) (cs : Int32) (h0 : Heap) (n0 : Nat) (v_ : Option Value) (h : Heap) (L_ : List Loc) : Prop := ∃ (x : Addr), v_ = some (.ref x) ∧ Fr n0 L_ ∧ Keep h0 h [] ∧ h0.size ≤ x ∧ Exa Z h x "java/lang/String"
set_option maxRecDepth 65536 in
set_option maxHeartbeats 40000000 in
theorem rm_valueOf (l : Launch) (Z : State) (a0 : Array Value) (hw : ∀ d ∈ tables_1, d.before a0 Z = true) (ws : List Jvm.Cond) (p0 : Int32) (cs : Int32) (h0 : Heap) (n0 : Nat) (Z0 : n0 ≤ h0.size) (O : Old Z n0 h0) (Scs : Sta Z Z.heap "java/lang/String" "COMPACT_STRINGS" "Z" (.int cs)) (hcs : ¬ (cs = (0 : Int32))) (hc : ¬ ((255 : Int32) < p0)) :
    MetFree l (⟨"java/lang/String", "valueOf", "(C)Ljava/lang/String;"⟩ : MethodName) (head1 (Jvm.Cond.code (⟨"java/lang/String", "valueOf", "(C)Ljava/lang/String;"⟩ : MethodName) jdk_42_method_139_code 1 (some (.object "java/lang/String")) :: ws) ({ frames := 2, cells := 2, slots := 5, locals := 27 } : Room)) (fun a_ U_ => a_ = #[(.int p0)] ∧ Z.Warmed39 U_.vm ∧ U_.heap = h0) (fun _ _ _ _ _ => True) (fun _ U_ o_ V_ => ∃ v_ L_, o_ = .returned v_ ∧ Q_valueOf Z p0 cs h0 n0 v_ V_.heap L_ ∧ FrameEnd U_ o_ V_ L_ ({ frames := 2, cells := 2, slots := 5, locals := 27 } : Room).cells ({ frames := 2, cells := 2, slots := 5, locals := 27 } : Room).slots) := by
  refine MetFree.of_bodySF (plainFor_of_name pn0) hisR ?_
  intro p e s m args below meth c s₁ Bd hml0 hP hK
  obtain ⟨rfl, hZ, hh⟩ := hP
  have hx := Bd.exec
  have hby := Bd.bytes
  have hml : c.maxLocals = 1 := hml0
  have hown : s.vm.findClass "java/lang/String" = some m.cls := findClass_of_methodNamed Bd.named
  have hnm := (name_of_methodNamed Bd.named Bd.method).1
  have X0 : Stand p l e ({ frames := 2, cells := 2, slots := 5, locals := 27 } : Room) s m #[(.int p0)] below meth c s₁ [] 0 0 := Stand.of_body Bd
  have e0 : s₁.heap = h0 := by rw [← hh, Bd.state]; rfl
  have N0 := Fr.nil n0
  have pre0 : own_Go p e below (s₁.setTop (entryFrame m #[(.int p0)] 1)) (s₁.setTop (mkF m 0 #[.val (.int p0)] [])) := fun t_ k_ => castTop (ef__valueOf m p0) k_
  obtain ⟨T1, X1, e1, st1⟩ := getS2 X0 hx hZ hown (host := "") (Or.inl (hw _ (List.mem_of_getElem? (i := 11) rfl))) Via.refl e0 (Scs.ext O.2) (g := (mkF m 0 #[.val (.int p0)] [])) rfl (hb hby d1_0)
  have P2 := own_step (C := T1.setTop (mkF m 3 #[.val (.int p0)] [(.int cs)])) pre0 (fun t_ k_ => st1 t_ k_)
  have P3 := own_step (C := T1.setTop (mkF m 6 #[.val (.int p0)] [])) P2 (by
    intro tt_ kk_
    refine XS.ifNo X1.here hx rfl (hb hby d1_3) rfl ((if0 _ _).trans (feq hcs).1) ?_
    exact kk_)
  have P4 := own_step (C := T1.setTop (mkF m 7 #[.val (.int p0)] [(.int p0)])) P3 (by
    intro tt_ kk_
    refine XS.iloadN X1.here hx rfl (hb hby d1_6) rfl ?_
    exact kk_)
  obtain ⟨_, _, ⟨T5, L5, k5, n5⟩, -, X5, ⟨Lc5, hQ5, l5, y5, z5⟩, st5⟩ := Jvm.LawKit.callS X1 hx (y := (⟨"java/lang/StringLatin1", "canEncode", "(C)Z"⟩ : MethodName)) hown (mvT hZ (hw _ (List.mem_of_getElem? (i := 12) rfl))) (mvT hZ (hw _ (List.mem_of_getElem? (i := 13) rfl))) (mvT hZ (hw _ (List.mem_of_getElem? (i := 14) rfl))) (mvT hZ (hw _ (List.mem_of_getElem? (i := 15) rfl))) (by decide) (backOf (W := 0) (rm_own_can l Z a0 hw [] p0 h0 n0 Z0 ) hZ (hw _ (List.mem_of_getElem? (i := 15) rfl)) (hw _ (List.mem_of_getElem? (i := 14) rfl)) (by decide) (by decide)) (g := (mkF m 7 #[.val (.int p0)] [(.int p0)])) rfl (by rw [hml]; rfl) (argsL := [(.int p0)]) (rest := []) (lenOf pd13 rfl) rfl (by show 2 * 0 + _ ≤ _; exact Nat.le_of_eq rfl) (hb hby d1_7) (fun _ _ => ⟨rfl, e1, (by decide : 0 + 0 ≤ _), (by decide : 0 + 0 ≤ _)⟩)
  dsimp only [Pt.U, Pt.locs, Pt.cells, Pt.slots] at X5 l5 y5 z5 st5 hQ5
  subst l5 y5 z5
  obtain ⟨rfl, N5q, e5⟩ := hQ5
  have N5 := Fr.app N0 N5q
  have P6 := own_step (C := T5.setTop (mkF m 10 #[.val (.int p0)] [(.int (own_can p0))])) P4 (fun t_ k_ => st5 t_ k_)
  have P7 := own_step (C := T5.setTop (mkF m 13 #[.val (.int p0)] [])) P6 (by
    intro tt_ kk_
    refine XS.ifNo X5.here hx rfl (hb hby d1_10) rfl ((if0 _ _).trans (feq (own_can1 hc)).1) ?_
    exact kk_)
  obtain ⟨T8, h8, X8, e8, E8, A8, D8, -, st8⟩ := newO X5 hx hZ hown (hw _ (List.mem_of_getElem? (i := 16) rfl)) (hw _ (List.mem_of_getElem? (i := 2) rfl)) (hw _ (List.mem_of_getElem? (i := 1) rfl)) e5 (g := (mkF m 13 #[.val (.int p0)] [])) rfl (hb hby d1_13) (by decide) (by decide)
  obtain ⟨b8, g8⟩ : ∃ z, z = h0.size := ⟨_, rfl⟩
  rw [← g8] at A8 D8 st8
  have g_b8 : n0 ≤ b8 := Nat.le_trans Z0 (Nat.le_of_eq g8.symm)
  have sz_b8 : h0.size ≤ b8 := Nat.le_trans (Keep.refl h0 []).1 (Nat.le_of_eq g8.symm)
  have f9 := O.ext E8
  have f10 := (Keep.refl h0 []).ext E8
  have Z11 : n0 ≤ h8.size := Nat.le_trans Z0 E8.1
  have f12 : Fld Z h8 b8 "java/lang/String" "value" "[B" .null := D8 (Or.inr (hw _ (List.mem_of_getElem? (i := 4) rfl))) (ty := (.array .byte)) (by decide)
  have f13 : Fld Z h8 b8 "java/lang/String" "coder" "B" (.int (0 : Int32)) := D8 (Or.inr (hw _ (List.mem_of_getElem? (i := 5) rfl))) (ty := .byte) (by decide)
  have P14 := own_step (C := T8.setTop (mkF m 16 #[.val (.int p0)] [(.ref b8)])) P7 (fun t_ k_ => st8 t_ k_)
  have P15 := own_step (C := T8.setTop (mkF m 18 #[.val (.int p0)] [(.int p0), (.ref b8), (.ref b8)])) P14 (by
    intro tt_ kk_
    refine XS.dup X8.here hx rfl (hb hby d1_16) rfl rfl ?_
    show Steps p.tables e below (T8.setTop (mkF m 17 #[.val (.int p0)] [(.ref b8), (.ref b8)])) _
    refine XS.iloadN X8.here hx rfl (hb hby d1_17) rfl ?_
    exact kk_)
  obtain ⟨_, _, ⟨T16, L16, k16, n16⟩, -, X16, ⟨Lc16, hQ16, l16, y16, z16⟩, st16⟩ := Jvm.LawKit.callS X8 hx (y := (⟨"java/lang/StringLatin1", "toBytes", "(C)[B"⟩ : MethodName)) hown (mvT hZ (hw _ (List.mem_of_getElem? (i := 17) rfl))) (mvT hZ (hw _ (List.mem_of_getElem? (i := 18) rfl))) (mvT hZ (hw _ (List.mem_of_getElem? (i := 14) rfl))) (mvT hZ (hw _ (List.mem_of_getElem? (i := 19) rfl))) (by decide) (backOf (W := 2) (rm_toB l Z a0 hw [] p0 h8 n0 Z11 f9) hZ (hw _ (List.mem_of_getElem? (i := 19) rfl)) (hw _ (List.mem_of_getElem? (i := 14) rfl)) (by decide) (by decide)) (g := (mkF m 18 #[.val (.int p0)] [(.int p0), (.ref b8), (.ref b8)])) rfl (by rw [hml]; rfl) (argsL := [(.int p0)]) (rest := [(.ref b8), (.ref b8)]) (lenOf pd14 rfl) rfl (by show 2 * 0 + _ ≤ _; exact Nat.le_of_eq rfl) (hb hby d1_18) (fun _ _ => ⟨rfl, e8, (by decide : 1 + 1 ≤ _), (by decide : 4 + 1 ≤ _)⟩)
  dsimp only [Pt.U, Pt.locs, Pt.cells, Pt.slots] at X16 l16 y16 z16 st16 hQ16
  subst l16 y16 z16
  obtain ⟨x16, rfl, N16q, K16, f17⟩ := hQ16
  have N16 := Fr.app N5 N16q
  have ne_b8_x16 : b8 ≠ x16 := Nat.ne_of_lt (Nat.lt_of_lt_of_le A8.lt f17)
  have g_x16 : n0 ≤ x16 := Nat.le_trans Z11 f17
  have sz_x16 : h0.size ≤ x16 := Nat.le_trans f10.1 f17
  have f18 := f9.keep K16 all0
  have f19 := f10.trans K16 all0
  have f20 := A8.keep K16
  have f21 := f12.keep K16 nin0
  have f22 := f13.keep K16 nin0
  have Z23 : n0 ≤ T16.heap.size := Nat.le_trans Z11 K16.1
  have P24 := own_step (C := T16.setTop (mkF m 21 #[.val (.int p0)] [(.ref x16), (.ref b8), (.ref b8)])) P15 (fun t_ k_ => st16 t_ k_)
  have P25 := own_step (C := T16.setTop (mkF m 22 #[.val (.int p0)] [(.int (0 : Int32)), (.ref x16), (.ref b8), (.ref b8)])) P24 (by
    intro tt_ kk_
    refine XS.iconst X16.here hx rfl (hb hby d1_21) ?_
    exact kk_)
  obtain ⟨_, _, ⟨T26, L26, k26, n26⟩, -, X26, ⟨Lc26, hQ26, l26, y26, z26⟩, st26⟩ := X16.specialBack hx (y := (⟨"java/lang/String", "<init>", "([BB)V"⟩ : MethodName)) rfl hown (mvT hZ (hw _ (List.mem_of_getElem? (i := 20) rfl))) (mvT hZ (hw _ (List.mem_of_getElem? (i := 21) rfl))) (mvT hZ (hw _ (List.mem_of_getElem? (i := 23) rfl))) (by decide) (backOf (W := 1) (rm_initBB l Z a0 hw [] b8 x16 (0 : Int32) T16.heap n0 Z23 f18 f20 f21 f22 g_b8) hZ (hw _ (List.mem_of_getElem? (i := 23) rfl)) (hw _ (List.mem_of_getElem? (i := 1) rfl)) (by decide) (by decide)) (g := (mkF m 22 #[.val (.int p0)] [(.int (0 : Int32)), (.ref x16), (.ref b8), (.ref b8)])) rfl (by rw [hml]; rfl) (Steps.refl _) (a := b8) (argsL := [(.ref x16), (.int (0 : Int32))]) (rest := [(.ref b8)]) (lenOf pd15 rfl) rfl (by show 2 * 0 + _ ≤ _; exact Nat.le_of_eq rfl) (hb hby d1_22) (fun _ _ => ⟨rfl, rfl, (by decide : 2 + 0 ≤ _), (by decide : 5 + 0 ≤ _)⟩)
  dsimp only [Pt.U, Pt.locs, Pt.cells, Pt.slots] at X26 l26 y26 z26 st26 hQ26
  subst l26 y26 z26
  obtain ⟨rfl, N26q, K26, f27⟩ := hQ26
  have N26 := Fr.app N16 N26q
  have f28 := f18.keep K26 (allS g_b8 all0)
  have f29 := f19.trans K26 (allS (Or.inr sz_b8) all0)
  have f30 := f20.keep K26
  have Z33 : n0 ≤ T26.heap.size := Nat.le_trans Z23 K26.1
  have P34 := own_step (C := T26.setTop (mkF m 25 #[.val (.int p0)] [(.ref b8)])) P25 (fun t_ k_ => st26.trans k_)
  obtain ⟨fs, hr, hrun, hended, hW, hsame⟩ := X26.leave (v := some (.ref b8)) (fun h => by rw [Bd.returns] at h; cases h)
  refine ⟨_, _, P34 _ ?_, hrun, hended, _, _, rfl, ?_, ⟨_, rfl⟩, hW, hsame.mono (by decide) (by decide)⟩
  · jvm_step X26.here [X26.here.top, hx, (hb hby d1_25), X26.method', Bd.returns, Value.isRef, FieldType.isReference]
    first | (intro acts; rw [hr _ acts rfl rfl rfl]) | rw [hr _ _ rfl rfl rfl]
    exact Steps.refl _
  · show Q_valueOf Z _ _ h0 n0 _ T26.heap _
    exact ⟨b8, rfl, N26, f29, sz_b8, f27⟩
def own_all (cx : Int32) (lo : Int64) (hi : Int64) : Int32 := (if cx < (0 : Int32) then (0 : Int32) else (if cx < (128 : Int32) then (if cx < (64 : Int32) then (if (lo &&& ((1 : Int64) <<< (cx &&& 0x3f).toInt64)) = (0 : Int64) then (0 : Int32) else (1 : Int32)) else (if (hi &&& ((1 : Int64) <<< (cx &&& 0x3f).toInt64)) = (0 : Int64) then (0 : Int32) else (1 : Int32))) else (0 : Int32)))
theorem d11_0 : decode prog_36_method_6_code 0 = .ok (.iload_n 1, 1) := by decide +kernel
theorem d11_1 : decode prog_36_method_6_code 1 = .ok (.ifCond .lt 40, 3) := by decide +kernel
theorem d11_4 : decode prog_36_method_6_code 4 = .ok (.iload_n 1, 1) := by decide +kernel
theorem d11_5 : decode prog_36_method_6_code 5 = .ok (.sipush 128, 3) := by decide +kernel
theorem d11_8 : decode prog_36_method_6_code 8 = .ok (.if_icmp .ge 33, 3) := by decide +kernel
theorem d11_11 : decode prog_36_method_6_code 11 = .ok (.iload_n 1, 1) := by decide +kernel
theorem d11_12 : decode prog_36_method_6_code 12 = .ok (.bipush 64, 2) := by decide +kernel
theorem d11_14 : decode prog_36_method_6_code 14 = .ok (.if_icmp .ge 10, 3) := by decide +kernel
theorem d11_17 : decode prog_36_method_6_code 17 = .ok (.aload_n 0, 1) := by decide +kernel
theorem d11_18 : decode prog_36_method_6_code 18 = .ok (.getfield 29, 3) := by decide +kernel
theorem d11_21 : decode prog_36_method_6_code 21 = .ok (.goto 7, 3) := by decide +kernel
theorem d11_24 : decode prog_36_method_6_code 24 = .ok (.aload_n 0, 1) := by decide +kernel
theorem d11_25 : decode prog_36_method_6_code 25 = .ok (.getfield 33, 3) := by decide +kernel
theorem d11_28 : decode prog_36_method_6_code 28 = .ok (.lconst 1, 1) := by decide +kernel
theorem d11_29 : decode prog_36_method_6_code 29 = .ok (.iload_n 1, 1) := by decide +kernel
theorem d11_30 : decode prog_36_method_6_code 30 = .ok (.lshl, 1) := by decide +kernel
theorem d11_31 : decode prog_36_method_6_code 31 = .ok (.land, 1) := by decide +kernel
theorem d11_32 : decode prog_36_method_6_code 32 = .ok (.lconst 0, 1) := by decide +kernel
theorem d11_33 : decode prog_36_method_6_code 33 = .ok (.lcmp, 1) := by decide +kernel
theorem d11_34 : decode prog_36_method_6_code 34 = .ok (.ifCond .eq 7, 3) := by decide +kernel
theorem d11_37 : decode prog_36_method_6_code 37 = .ok (.iconst 1, 1) := by decide +kernel
theorem d11_38 : decode prog_36_method_6_code 38 = .ok (.goto 4, 3) := by decide +kernel
theorem d11_41 : decode prog_36_method_6_code 41 = .ok (.iconst 0, 1) := by decide +kernel
theorem d11_42 : decode prog_36_method_6_code 42 = .ok (.ireturn, 1) := by decide +kernel
theorem ef__own_all (m : MethodId) (x0 : Addr) (x1 : Int32) : entryFrame m #[(.ref x0), (.int x1)] 2 = mkF m 0 #[.val (.ref x0), .val (.int x1)] [] := by first | (simp [entryFrame, mkF, argsToLocals, Value.category]; done) | rfl
def Q_own_all (Z : State) (a : Addr) (cx : Int32) (lo : Int64) (hi : Int64) (h0 : Heap) (n0 : Nat) (v_ : Option Value) (h : Heap) (L_ : List Loc) : Prop := v_ = some (.int (own_all cx lo hi)) ∧ Fr n0 L_ ∧ h = h0
set_option maxRecDepth 65536 in
set_option maxHeartbeats 40000000 in
theorem rm_own_all (l : Launch) (Z : State) (a0 : Array Value) (hw : ∀ d ∈ tables_1, d.before a0 Z = true) (ws : List Jvm.Cond) (a : Addr) (cx : Int32) (lo : Int64) (hi : Int64) (h0 : Heap) (n0 : Nat) (Z0 : n0 ≤ h0.size) (Fl : Fld Z h0 a "com/example/gatehouse/gatehouse/pattern/NameShape" "low" "J" (.long lo)) (Fh : Fld Z h0 a "com/example/gatehouse/gatehouse/pattern/NameShape" "high" "J" (.long hi)) :
    MetFree l (⟨"com/example/gatehouse/gatehouse/pattern/NameShape", "allows", "(I)Z"⟩ : MethodName) (head1 (Jvm.Cond.code (⟨"com/example/gatehouse/gatehouse/pattern/NameShape", "allows", "(I)Z"⟩ : MethodName) prog_36_method_6_code 2 (some .boolean) :: ws) ({ frames := 0, cells := 0, slots := 0, locals := 0 } : Room)) (fun a_ U_ => a_ = #[(.ref a), (.int cx)] ∧ Z.Warmed39 U_.vm ∧ U_.heap = h0) (fun _ _ _ _ _ => True) (fun _ U_ o_ V_ => ∃ v_ L_, o_ = .returned v_ ∧ Q_own_all Z a cx lo hi h0 n0 v_ V_.heap L_ ∧ FrameEnd U_ o_ V_ L_ ({ frames := 0, cells := 0, slots := 0, locals := 0 } : Room).cells ({ frames := 0, cells := 0, slots := 0, locals := 0 } : Room).slots) := by
  refine MetFree.of_bodySF (plainFor_of_name pn3) hisR ?_
  intro p e s m args below meth c s₁ Bd hml0 hP hK
  obtain ⟨rfl, hZ, hh⟩ := hP
  have hx := Bd.exec
  have hby := Bd.bytes
  have hml : c.maxLocals = 2 := hml0
  have hown : s.vm.findClass "com/example/gatehouse/gatehouse/pattern/NameShape" = some m.cls := findClass_of_methodNamed Bd.named
  have hnm := (name_of_methodNamed Bd.named Bd.method).1
  have X0 : Stand p l e ({ frames := 0, cells := 0, slots := 0, locals := 0 } : Room) s m #[(.ref a), (.int cx)] below meth c s₁ [] 0 0 := Stand.of_body Bd
  have e0 : s₁.heap = h0 := by rw [← hh, Bd.state]; rfl
  have N0 := Fr.nil n0
  have pre0 : own_Go p e below (s₁.setTop (entryFrame m #[(.ref a), (.int cx)] 2)) (s₁.setTop (mkF m 0 #[.val (.ref a), .val (.int cx)] [])) := fun t_ k_ => castTop (ef__own_all m a cx) k_
  have P1 := own_step (C := s₁.setTop (mkF m 1 #[.val (.ref a), .val (.int cx)] [(.int cx)])) pre0 (by
    intro tt_ kk_
    refine XS.iloadN X0.here hx rfl (hb hby d11_0) rfl ?_
    exact kk_)
  by_cases c2 : cx < (0 : Int32)
  · have P3 := own_step (C := s₁.setTop (mkF m 41 #[.val (.ref a), .val (.int cx)] [])) P1 (by
      intro tt_ kk_
      refine XS.ifYes X0.here hx rfl (pc0 := 1) (pc' := 41) rfl (hb hby d11_1) rfl ((if0 _ _).trans (tlt c2).1) (by decide) (by decide) ?_
      exact kk_)
    have P4 := own_step (C := s₁.setTop (mkF m 42 #[.val (.ref a), .val (.int cx)] [(.int (0 : Int32))])) P3 (by
      intro tt_ kk_
      refine XS.iconst X0.here hx rfl (hb hby d11_41) ?_
      exact kk_)
    obtain ⟨fs, hr, hrun, hended, hW, hsame⟩ := X0.leave (v := some (.int (0 : Int32))) (fun h => by rw [Bd.returns] at h; cases h)
    refine ⟨_, _, P4 _ ?_, hrun, hended, _, _, rfl, ?_, ⟨_, rfl⟩, hW, hsame.mono (by decide) (by decide)⟩
    · exact retN X0 hx (t := .boolean) Bd.returns (by simp) (hb hby d11_42) hr
    · show Q_own_all Z _ _ _ _ h0 n0 _ s₁.heap _
      rw [e0]
      exact ⟨by unfold own_all; rw [if_pos c2], N0, rfl⟩
  · have P5 := own_step (C := s₁.setTop (mkF m 4 #[.val (.ref a), .val (.int cx)] [])) P1 (by
      intro tt_ kk_
      refine XS.ifNo X0.here hx rfl (hb hby d11_1) rfl ((if0 _ _).trans (flt c2).1) ?_
      exact kk_)
    have P6 := own_step (C := s₁.setTop (mkF m 8 #[.val (.ref a), .val (.int cx)] [(.int (128 : Int32)), (.int cx)])) P5 (by
      intro tt_ kk_
      refine XS.iloadN X0.here hx rfl (hb hby d11_4) rfl ?_
      show Steps p.tables e below (s₁.setTop (mkF m 5 #[.val (.ref a), .val (.int cx)] [(.int cx)])) _
      refine XS.sipush X0.here hx rfl (hb hby d11_5) ?_
      exact kk_)
    by_cases c7 : cx < (128 : Int32)
    · have P8 := own_step (C := s₁.setTop (mkF m 11 #[.val (.ref a), .val (.int cx)] [])) P6 (by
        intro tt_ kk_
        refine XS.icmpNo X0.here hx rfl (hb hby d11_8) rfl (tlt c7).2.1 ?_
        exact kk_)
      have P9 := own_step (C := s₁.setTop (mkF m 14 #[.val (.ref a), .val (.int cx)] [(.int (64 : Int32)), (.int cx)])) P8 (by
        intro tt_ kk_
        refine XS.iloadN X0.here hx rfl (hb hby d11_11) rfl ?_
        show Steps p.tables e below (s₁.setTop (mkF m 12 #[.val (.ref a), .val (.int cx)] [(.int cx)])) _
        refine XS.bipush X0.here hx rfl (hb hby d11_12) ?_
        exact kk_)
      by_cases c10 : cx < (64 : Int32)
      · have P11 := own_step (C := s₁.setTop (mkF m 17 #[.val (.ref a), .val (.int cx)] [])) P9 (by
          intro tt_ kk_
          refine XS.icmpNo X0.here hx rfl (hb hby d11_14) rfl (tlt c10).2.1 ?_
          exact kk_)
        have P12 := own_step (C := s₁.setTop (mkF m 18 #[.val (.ref a), .val (.int cx)] [(.ref a)])) P11 (by
          intro tt_ kk_
          refine XS.aloadN X0.here hx rfl (hb hby d11_17) rfl rfl ?_
          exact kk_)
        obtain ⟨T13, X13, e13, st13⟩ := getF X0 hx hZ hown (host := "") (Or.inl (hw _ (List.mem_of_getElem? (i := 54) rfl))) Via.refl e0 Fl (g := (mkF m 18 #[.val (.ref a), .val (.int cx)] [(.ref a)])) rfl rfl (hb hby d11_18)
        have P14 := own_step (C := T13.setTop (mkF m 21 #[.val (.ref a), .val (.int cx)] [(.long lo)])) P12 (fun t_ k_ => st13 t_ k_)
        have P15 := own_step (C := T13.setTop (mkF m 34 #[.val (.ref a), .val (.int cx)] [(.int (lcmpW (lo &&& ((1 : Int64) <<< (cx &&& 0x3f).toInt64)) (0 : Int64)))])) P14 (by
          intro tt_ kk_
          refine XS.goto X13.here hx rfl (pc0 := 21) (pc' := 28) rfl (hb hby d11_21) (by decide) (by decide) ?_
          show Steps p.tables e below (T13.setTop (mkF m 28 #[.val (.ref a), .val (.int cx)] [(.long lo)])) _
          refine XS.lconst X13.here hx rfl (hb hby d11_28) ?_
          show Steps p.tables e below (T13.setTop (mkF m 29 #[.val (.ref a), .val (.int cx)] [(.long (1 : Int64)), (.long lo)])) _
          refine XS.iloadN X13.here hx rfl (hb hby d11_29) rfl ?_
          show Steps p.tables e below (T13.setTop (mkF m 30 #[.val (.ref a), .val (.int cx)] [(.int cx), (.long (1 : Int64)), (.long lo)])) _
          refine XS.lshl X13.here hx rfl (hb hby d11_30) rfl ?_
          show Steps p.tables e below (T13.setTop (mkF m 31 #[.val (.ref a), .val (.int cx)] [(.long ((1 : Int64) <<< (cx &&& 0x3f).toInt64)), (.long lo)])) _
          refine XS.land X13.here hx rfl (hb hby d11_31) rfl ?_
          show Steps p.tables e below (T13.setTop (mkF m 32 #[.val (.ref a), .val (.int cx)] [(.long (lo &&& ((1 : Int64) <<< (cx &&& 0x3f).toInt64)))])) _
          refine XS.lconst X13.here hx rfl (hb hby d11_32) ?_
          show Steps p.tables e below (T13.setTop (mkF m 33 #[.val (.ref a), .val (.int cx)] [(.long (0 : Int64)), (.long (lo &&& ((1 : Int64) <<< (cx &&& 0x3f).toInt64)))])) _
          refine XS.lcmp X13.here hx rfl (hb hby d11_33) rfl ?_
          exact kk_)
        by_cases c16 : (lo &&& ((1 : Int64) <<< (cx &&& 0x3f).toInt64)) = (0 : Int64)
        · have P17 := own_step (C := T13.setTop (mkF m 41 #[.val (.ref a), .val (.int cx)] [])) P15 (by
            intro tt_ kk_
            refine XS.ifYes X13.here hx rfl (pc0 := 34) (pc' := 41) rfl (hb hby d11_34) rfl ((if0 _ _).trans (teq ((lw_eq _ _).mpr c16)).1) (by decide) (by decide) ?_
            exact kk_)
          have P18 := own_step (C := T13.setTop (mkF m 42 #[.val (.ref a), .val (.int cx)] [(.int (0 : Int32))])) P17 (by
            intro tt_ kk_
            refine XS.iconst X13.here hx rfl (hb hby d11_41) ?_
            exact kk_)
          obtain ⟨fs, hr, hrun, hended, hW, hsame⟩ := X13.leave (v := some (.int (0 : Int32))) (fun h => by rw [Bd.returns] at h; cases h)
          refine ⟨_, _, P18 _ ?_, hrun, hended, _, _, rfl, ?_, ⟨_, rfl⟩, hW, hsame.mono (by decide) (by decide)⟩
          · exact retN X13 hx (t := .boolean) Bd.returns (by simp) (hb hby d11_42) hr
          · show Q_own_all Z _ _ _ _ h0 n0 _ T13.heap _
            rw [e13]
            exact ⟨by unfold own_all; rw [if_neg c2, if_pos c7, if_pos c10, if_pos c16], N0, rfl⟩
        · have P19 := own_step (C := T13.setTop (mkF m 37 #[.val (.ref a), .val (.int cx)] [])) P15 (by
            intro tt_ kk_
            refine XS.ifNo X13.here hx rfl (hb hby d11_34) rfl ((if0 _ _).trans (feq (fun q => c16 ((lw_eq _ _).mp q))).1) ?_
            exact kk_)
          have P20 := own_step (C := T13.setTop (mkF m 42 #[.val (.ref a), .val (.int cx)] [(.int (1 : Int32))])) P19 (by
            intro tt_ kk_
            refine XS.iconst X13.here hx rfl (hb hby d11_37) ?_
            show Steps p.tables e below (T13.setTop (mkF m 38 #[.val (.ref a), .val (.int cx)] [(.int (1 : Int32))])) _
            refine XS.goto X13.here hx rfl (pc0 := 38) (pc' := 42) rfl (hb hby d11_38) (by decide) (by decide) ?_
            exact kk_)
          obtain ⟨fs, hr, hrun, hended, hW, hsame⟩ := X13.leave (v := some (.int (1 : Int32))) (fun h => by rw [Bd.returns] at h; cases h)
          refine ⟨_, _, P20 _ ?_, hrun, hended, _, _, rfl, ?_, ⟨_, rfl⟩, hW, hsame.mono (by decide) (by decide)⟩
          · exact retN X13 hx (t := .boolean) Bd.returns (by simp) (hb hby d11_42) hr
          · show Q_own_all Z _ _ _ _ h0 n0 _ T13.heap _
            rw [e13]
            exact ⟨by unfold own_all; rw [if_neg c2, if_pos c7, if_pos c10, if_neg c16], N0, rfl⟩
      · have P21 := own_step (C := s₁.setTop (mkF m 24 #[.val (.ref a), .val (.int cx)] [])) P9 (by
          intro tt_ kk_
          refine XS.icmpYes X0.here hx rfl (pc0 := 14) (pc' := 24) rfl (hb hby d11_14) rfl (flt c10).2.1 (by decide) (by decide) ?_
          exact kk_)
        have P22 := own_step (C := s₁.setTop (mkF m 25 #[.val (.ref a), .val (.int cx)] [(.ref a)])) P21 (by
          intro tt_ kk_
          refine XS.aloadN X0.here hx rfl (hb hby d11_24) rfl rfl ?_
          exact kk_)
        obtain ⟨T23, X23, e23, st23⟩ := getF X0 hx hZ hown (host := "") (Or.inl (hw _ (List.mem_of_getElem? (i := 56) rfl))) Via.refl e0 Fh (g := (mkF m 25 #[.val (.ref a), .val (.int cx)] [(.ref a)])) rfl rfl (hb hby d11_25)
        have P24 := own_step (C := T23.setTop (mkF m 28 #[.val (.ref a), .val (.int cx)] [(.long hi)])) P22 (fun t_ k_ => st23 t_ k_)
        have P25 := own_step (C := T23.setTop (mkF m 34 #[.val (.ref a), .val (.int cx)] [(.int (lcmpW (hi &&& ((1 : Int64) <<< (cx &&& 0x3f).toInt64)) (0 : Int64)))])) P24 (by
          intro tt_ kk_
          refine XS.lconst X23.here hx rfl (hb hby d11_28) ?_
          show Steps p.tables e below (T23.setTop (mkF m 29 #[.val (.ref a), .val (.int cx)] [(.long (1 : Int64)), (.long hi)])) _
          refine XS.iloadN X23.here hx rfl (hb hby d11_29) rfl ?_
          show Steps p.tables e below (T23.setTop (mkF m 30 #[.val (.ref a), .val (.int cx)] [(.int cx), (.long (1 : Int64)), (.long hi)])) _
          refine XS.lshl X23.here hx rfl (hb hby d11_30) rfl ?_
          show Steps p.tables e below (T23.setTop (mkF m 31 #[.val (.ref a), .val (.int cx)] [(.long ((1 : Int64) <<< (cx &&& 0x3f).toInt64)), (.long hi)])) _
          refine XS.land X23.here hx rfl (hb hby d11_31) rfl ?_
          show Steps p.tables e below (T23.setTop (mkF m 32 #[.val (.ref a), .val (.int cx)] [(.long (hi &&& ((1 : Int64) <<< (cx &&& 0x3f).toInt64)))])) _
          refine XS.lconst X23.here hx rfl (hb hby d11_32) ?_
          show Steps p.tables e below (T23.setTop (mkF m 33 #[.val (.ref a), .val (.int cx)] [(.long (0 : Int64)), (.long (hi &&& ((1 : Int64) <<< (cx &&& 0x3f).toInt64)))])) _
          refine XS.lcmp X23.here hx rfl (hb hby d11_33) rfl ?_
          exact kk_)
        by_cases c26 : (hi &&& ((1 : Int64) <<< (cx &&& 0x3f).toInt64)) = (0 : Int64)
        · have P27 := own_step (C := T23.setTop (mkF m 41 #[.val (.ref a), .val (.int cx)] [])) P25 (by
            intro tt_ kk_
            refine XS.ifYes X23.here hx rfl (pc0 := 34) (pc' := 41) rfl (hb hby d11_34) rfl ((if0 _ _).trans (teq ((lw_eq _ _).mpr c26)).1) (by decide) (by decide) ?_
            exact kk_)
          have P28 := own_step (C := T23.setTop (mkF m 42 #[.val (.ref a), .val (.int cx)] [(.int (0 : Int32))])) P27 (by
            intro tt_ kk_
            refine XS.iconst X23.here hx rfl (hb hby d11_41) ?_
            exact kk_)
          obtain ⟨fs, hr, hrun, hended, hW, hsame⟩ := X23.leave (v := some (.int (0 : Int32))) (fun h => by rw [Bd.returns] at h; cases h)
          refine ⟨_, _, P28 _ ?_, hrun, hended, _, _, rfl, ?_, ⟨_, rfl⟩, hW, hsame.mono (by decide) (by decide)⟩
          · exact retN X23 hx (t := .boolean) Bd.returns (by simp) (hb hby d11_42) hr
          · show Q_own_all Z _ _ _ _ h0 n0 _ T23.heap _
            rw [e23]
            exact ⟨by unfold own_all; rw [if_neg c2, if_pos c7, if_neg c10, if_pos c26], N0, rfl⟩
        · have P29 := own_step (C := T23.setTop (mkF m 37 #[.val (.ref a), .val (.int cx)] [])) P25 (by
            intro tt_ kk_
            refine XS.ifNo X23.here hx rfl (hb hby d11_34) rfl ((if0 _ _).trans (feq (fun q => c26 ((lw_eq _ _).mp q))).1) ?_
            exact kk_)
          have P30 := own_step (C := T23.setTop (mkF m 42 #[.val (.ref a), .val (.int cx)] [(.int (1 : Int32))])) P29 (by
            intro tt_ kk_
            refine XS.iconst X23.here hx rfl (hb hby d11_37) ?_
            show Steps p.tables e below (T23.setTop (mkF m 38 #[.val (.ref a), .val (.int cx)] [(.int (1 : Int32))])) _
            refine XS.goto X23.here hx rfl (pc0 := 38) (pc' := 42) rfl (hb hby d11_38) (by decide) (by decide) ?_
            exact kk_)
          obtain ⟨fs, hr, hrun, hended, hW, hsame⟩ := X23.leave (v := some (.int (1 : Int32))) (fun h => by rw [Bd.returns] at h; cases h)
          refine ⟨_, _, P30 _ ?_, hrun, hended, _, _, rfl, ?_, ⟨_, rfl⟩, hW, hsame.mono (by decide) (by decide)⟩
          · exact retN X23 hx (t := .boolean) Bd.returns (by simp) (hb hby d11_42) hr
          · show Q_own_all Z _ _ _ _ h0 n0 _ T23.heap _
            rw [e23]
            exact ⟨by unfold own_all; rw [if_neg c2, if_pos c7, if_neg c10, if_neg c26], N0, rfl⟩
    · have P31 := own_step (C := s₁.setTop (mkF m 41 #[.val (.ref a), .val (.int cx)] [])) P6 (by
        intro tt_ kk_
        refine XS.icmpYes X0.here hx rfl (pc0 := 8) (pc' := 41) rfl (hb hby d11_8) rfl (flt c7).2.1 (by decide) (by decide) ?_
        exact kk_)
      have P32 := own_step (C := s₁.setTop (mkF m 42 #[.val (.ref a), .val (.int cx)] [(.int (0 : Int32))])) P31 (by
        intro tt_ kk_
        refine XS.iconst X0.here hx rfl (hb hby d11_41) ?_
        exact kk_)
      obtain ⟨fs, hr, hrun, hended, hW, hsame⟩ := X0.leave (v := some (.int (0 : Int32))) (fun h => by rw [Bd.returns] at h; cases h)
      refine ⟨_, _, P32 _ ?_, hrun, hended, _, _, rfl, ?_, ⟨_, rfl⟩, hW, hsame.mono (by decide) (by decide)⟩
      · exact retN X0 hx (t := .boolean) Bd.returns (by simp) (hb hby d11_42) hr
      · show Q_own_all Z _ _ _ _ h0 n0 _ s₁.heap _
        rw [e0]
        exact ⟨by unfold own_all; rw [if_neg c2, if_neg c7], N0, rfl⟩
def own_R (c : Int32) : Prop := 0 ≤ c.toInt ∧ c.toInt < 128
theorem own_ch (x : Int32) : own_R ((x &&& (127 : Int32)).toUInt32.toUInt16.toUInt32.toInt32) := by
  have a := c_i2c (x &&& 127); have b := c_mask x 127 7 (by decide) (by decide +kernel)
  unfold own_R; omega
theorem own_v255 (x : Int32) : ¬ ((255 : Int32) < ((x &&& (255 : Int32)).toUInt32.toUInt16.toUInt32.toInt32)) := by
  rw [i2c_mask, Int32.lt_iff_toInt_lt, c_mask x 255 8 (by decide) (by decide +kernel), show (255 : Int32).toInt = 255 from rfl]; omega
theorem own_nar {c : Int32} (g : own_R c) : nar .char c = c := by
  have a := c_i2c c; unfold own_R at g
  rw [← Int32.toInt_inj]; show (c.toUInt32.toUInt16.toUInt32.toInt32).toInt = _; omega
theorem own_n255 {c : Int32} (g : own_R c) : ¬ ((255 : Int32) < nar .char c) := by
  rw [own_nar g, Int32.lt_iff_toInt_lt, show (255 : Int32).toInt = 255 from rfl]; unfold own_R at g; omega
theorem own_byte {c : Int32} (g : own_R c) : ((((nar .char c).toInt8.toInt32).toInt8.toInt32) &&& (255 : Int32)) = c := by
  rw [own_nar g]; unfold own_R at g
  have a := c_i2b c; have b := c_i2b (c.toInt8.toInt32)
  rw [← Int32.toInt_inj, c_mask _ 255 8 (by decide) (by decide +kernel)]; omega
theorem own_b128 {c : Int32} (g : own_R c) : ((((nar .char c).toInt8.toInt32).toInt8.toInt32) &&& (255 : Int32)) < (128 : Int32) := by
  rw [own_byte g, Int32.lt_iff_toInt_lt, show (128 : Int32).toInt = 128 from rfl]; exact g.2
theorem own_cs {args : Array Value} {s : State} {cs : Int32} (e : (Term.static "java/lang/String" "COMPACT_STRINGS" "Z").eval args s none [] s = some (.int cs)) (h : Jvm.Lit.compactW.before args s = true) : ¬ (cs = (0 : Int32)) := by
  have a1 := not_v (Cond.before_iff.mp (show (Cond.not (.eq (.static "java/lang/String" "COMPACT_STRINGS" "Z") (.int 0))).before args s = true from h))
  intro q; subst q
  have b1 := eq_i e (Term.int_eval (0)) rfl
  rw [b1] at a1; cases a1
theorem own_of {c : Int32} (g : own_R c) : c = Int32.ofNat c.toInt.toNat := by
  unfold own_R at g
  rw [← Int32.toInt_inj, Int32.toInt_ofNat_of_lt (by omega)]; omega
theorem own_powF : ∀ m : Fin 128, ((1 : Int64) <<< ((Int32.ofNat m.val) &&& 0x3f).toInt64).toBitVec = BitVec.twoPow 64 (m.val % 64) := by decide +kernel
theorem own_pow {c : Int32} (g : own_R c) : ((1 : Int64) <<< (c &&& 0x3f).toInt64).toBitVec = BitVec.twoPow 64 (c.toInt.toNat % 64) := by
  have q := own_powF ⟨c.toInt.toNat, by unfold own_R at g; omega⟩
  rw [← own_of g] at q; exact q
theorem own_two (k : Nat) (h : k < 64) : BitVec.twoPow 64 k ≠ 0#64 := by
  have : ∀ k : Fin 64, BitVec.twoPow 64 k.val ≠ 0#64 := by decide +kernel
  exact this ⟨k, h⟩
theorem own_tst (x : Int64) {c : Int32} (g : own_R c) : (x &&& ((1 : Int64) <<< (c &&& 0x3f).toInt64)) = (0 : Int64) ↔ x.toBitVec.getLsbD (c.toInt.toNat % 64) = false := by
  rw [← Int64.toBitVec_inj, Int64.toBitVec_and, own_pow g, BitVec.and_twoPow]
  have h := own_two (c.toInt.toNat % 64) (Nat.mod_lt _ (by decide))
  cases q : x.toBitVec.getLsbD (c.toInt.toNat % 64)
  · simp
  · simp only [if_true, Bool.true_eq_false, iff_false]; exact h
theorem own_orb (x : Int64) {c : Int32} (g : own_R c) (k : Nat) : (x ||| ((1 : Int64) <<< (c &&& 0x3f).toInt64)).toBitVec.getLsbD k = (x.toBitVec.getLsbD k || decide (c.toInt.toNat % 64 = k)) := by
  rw [Int64.toBitVec_or, BitVec.getLsbD_or, own_pow g, BitVec.getLsbD_twoPow]
  have h : c.toInt.toNat % 64 < 64 := Nat.mod_lt _ (by decide)
  rw [decide_eq_true h, Bool.true_and]
theorem own_lo {c : Int32} (g : own_R c) (x : Int64) (k : Nat) : (own_bit (0 : Int32) (64 : Int32) c x).toBitVec.getLsbD k = (x.toBitVec.getLsbD k || decide (c.toInt < 64 ∧ c.toInt.toNat % 64 = k)) := by
  unfold own_bit
  have g' := g; unfold own_R at g'
  rw [if_neg (by rw [Int32.lt_iff_toInt_lt, show (0 : Int32).toInt = 0 from rfl]; omega)]
  by_cases h : c < 64
  · rw [if_pos h, own_orb x g]; rw [Int32.lt_iff_toInt_lt, show (64 : Int32).toInt = 64 from rfl] at h; simp [h]
  · rw [if_neg h]; rw [Int32.lt_iff_toInt_lt, show (64 : Int32).toInt = 64 from rfl] at h; simp [h]
theorem own_hi {c : Int32} (g : own_R c) (x : Int64) (k : Nat) : (own_bit (64 : Int32) (128 : Int32) c x).toBitVec.getLsbD k = (x.toBitVec.getLsbD k || decide (¬ c.toInt < 64 ∧ c.toInt.toNat % 64 = k)) := by
  unfold own_bit
  have g' := g; unfold own_R at g'
  by_cases h : c < 64
  · rw [if_pos h]; rw [Int32.lt_iff_toInt_lt, show (64 : Int32).toInt = 64 from rfl] at h; simp [h]
  · rw [if_neg h, if_pos (by rw [Int32.lt_iff_toInt_lt, show (128 : Int32).toInt = 128 from rfl]; omega), own_orb x g]; rw [Int32.lt_iff_toInt_lt, show (64 : Int32).toInt = 64 from rfl] at h; simp [h]

theorem own_n3 (x : Int32) : 0 ≤ (x &&& (3 : Int32)).toInt := by rw [c_mask x 3 2 (by decide) (by decide +kernel)]; omega
theorem own_pick {n k c0 c2 e : Int32} (g0 : own_R c0) (g2 : own_R c2) (h : (n < k ∧ e = c0) ∨ (¬ (n < k) ∧ e = c2)) : own_R e := by
  rcases h with ⟨-, rfl⟩ | ⟨-, rfl⟩
  · exact g0
  · exact g2
theorem own_le (x : Int32) : ¬ ((x &&& (7 : Int32)) < (0 : Int32)) := by
  rw [Int32.lt_iff_toInt_lt, c_mask x 7 3 (by decide) (by decide +kernel), show (0 : Int32).toInt = 0 from rfl]; omega
theorem own_mo (x y : Int32) : ¬ ((x &&& (7 : Int32)) + (y &&& (7 : Int32)) < (x &&& (7 : Int32))) := by
  have a := c_mask x 7 3 (by decide) (by decide +kernel); have b := c_mask y 7 3 (by decide) (by decide +kernel); have c := c_iadd (x &&& 7) (y &&& 7); have d := rng32 ((x &&& 7) + (y &&& 7))
  rw [Int32.lt_iff_toInt_lt]; omega
theorem own_finA {nn cc d0 e1 e2 ve : Int32} (hn : nn = (0 : Int32)) (hv : ((0 : Int32) < nn ∧ cc = d0 ∧ ve = (1 : Int32)) ∨ ((0 : Int32) < nn ∧ ¬ (cc = d0) ∧ cc = e1 ∧ ve = (1 : Int32)) ∨ ((0 : Int32) < nn ∧ ¬ (cc = d0) ∧ ¬ (cc = e1) ∧ cc = e2 ∧ ve = (1 : Int32)) ∨ ((0 : Int32) < nn ∧ ¬ (cc = d0) ∧ ¬ (cc = e1) ∧ ¬ (cc = e2) ∧ ve = (0 : Int32)) ∨ (¬ ((0 : Int32) < nn) ∧ ve = (0 : Int32))) : own_all cc (0 : Int64) (0 : Int64) = ve := by
  subst hn
  have h0 : ¬ ((0 : Int32) < (0 : Int32)) := by decide
  have hve : ve = 0 := by
    rcases hv with ⟨h, -⟩ | ⟨h, -⟩ | ⟨h, -⟩ | ⟨h, -⟩ | ⟨-, h⟩
    · exact absurd h h0
    · exact absurd h h0
    · exact absurd h h0
    · exact absurd h h0
    · exact h
  have z : ∀ y : Int64, (0 : Int64) &&& y = 0 := fun y => by rw [← Int64.toBitVec_inj, Int64.toBitVec_and]; simp
  rw [hve]; unfold own_all; simp only [z]
  repeat' split
  all_goals first | rfl | (exfalso; rename_i q; first | exact q rfl | exact q trivial)
theorem own_finB {nn cc d0 e1 e2 ve : Int32} (gn : 0 ≤ nn.toInt) (hn : ¬ (nn = (0 : Int32))) (g0 : own_R d0) (k1 : own_R e1) (k2 : own_R e2) (hv : ((0 : Int32) < nn ∧ cc = d0 ∧ ve = (1 : Int32)) ∨ ((0 : Int32) < nn ∧ ¬ (cc = d0) ∧ cc = e1 ∧ ve = (1 : Int32)) ∨ ((0 : Int32) < nn ∧ ¬ (cc = d0) ∧ ¬ (cc = e1) ∧ cc = e2 ∧ ve = (1 : Int32)) ∨ ((0 : Int32) < nn ∧ ¬ (cc = d0) ∧ ¬ (cc = e1) ∧ ¬ (cc = e2) ∧ ve = (0 : Int32)) ∨ (¬ ((0 : Int32) < nn) ∧ ve = (0 : Int32))) :
    own_all cc (own_bit (0 : Int32) (64 : Int32) ((((nar .char e2).toInt8.toInt32).toInt8.toInt32) &&& (255 : Int32)) (own_bit (0 : Int32) (64 : Int32) ((((nar .char e1).toInt8.toInt32).toInt8.toInt32) &&& (255 : Int32)) (own_bit (0 : Int32) (64 : Int32) ((((nar .char d0).toInt8.toInt32).toInt8.toInt32) &&& (255 : Int32)) (0 : Int64))))
      (own_bit (64 : Int32) (128 : Int32) ((((nar .char e2).toInt8.toInt32).toInt8.toInt32) &&& (255 : Int32)) (own_bit (64 : Int32) (128 : Int32) ((((nar .char e1).toInt8.toInt32).toInt8.toInt32) &&& (255 : Int32)) (own_bit (64 : Int32) (128 : Int32) ((((nar .char d0).toInt8.toInt32).toInt8.toInt32) &&& (255 : Int32)) (0 : Int64)))) = ve := by
  rw [own_byte g0, own_byte k1, own_byte k2]
  have hpos : (0 : Int32) < nn := by
    rw [Int32.lt_iff_toInt_lt, show (0 : Int32).toInt = 0 from rfl]; rw [← Int32.toInt_inj, show (0 : Int32).toInt = 0 from rfl] at hn; omega
  have hve : ((cc = d0 ∨ cc = e1 ∨ cc = e2) ∧ ve = 1) ∨ ((¬ cc = d0 ∧ ¬ cc = e1 ∧ ¬ cc = e2) ∧ ve = 0) := by
    rcases hv with ⟨-, h, r⟩ | ⟨-, -, h, r⟩ | ⟨-, -, -, h, r⟩ | ⟨-, a, b, c, r⟩ | ⟨h, -⟩
    · exact Or.inl ⟨Or.inl h, r⟩
    · exact Or.inl ⟨Or.inr (Or.inl h), r⟩
    · exact Or.inl ⟨Or.inr (Or.inr h), r⟩
    · exact Or.inr ⟨⟨a, b, c⟩, r⟩
    · exact absurd hpos h
  have z : ∀ k, (0 : Int64).toBitVec.getLsbD k = false := fun k => by show (0#64).getLsbD k = false; simp
  simp only [← Int32.toInt_inj (x := cc)] at hve
  unfold own_all
  simp only [Int32.lt_iff_toInt_lt, show (0 : Int32).toInt = 0 from rfl, show (64 : Int32).toInt = 64 from rfl, show (128 : Int32).toInt = 128 from rfl]
  have G0 := g0; have G1 := k1; have G2 := k2; unfold own_R at G0 G1 G2
  by_cases h1 : cc.toInt < 0
  · rw [if_pos h1]; rcases hve with ⟨h, -⟩ | ⟨-, h⟩
    · exfalso; omega
    · exact h.symm
  by_cases h2 : cc.toInt < 128
  · have gc : own_R cc := ⟨by omega, h2⟩
    rw [if_neg h1, if_pos h2]
    simp only [own_tst _ gc, own_lo g0, own_lo k1, own_lo k2, own_hi g0, own_hi k1, own_hi k2, z, Bool.false_or, Bool.or_eq_false_iff, decide_eq_false_iff_not]
    rcases hve with ⟨h, rfl⟩ | ⟨h, rfl⟩
    · split
      · rw [if_neg (by omega)]
      · rw [if_neg (by omega)]
    · split
      · rw [if_pos (by omega)]
      · rw [if_pos (by omega)]
  · rw [if_neg h1, if_neg h2]; rcases hve with ⟨h, -⟩ | ⟨-, h⟩
    · exfalso; omega
    · exact h.symm

theorem pd16 : parseMethodDescriptor "(C)Ljava/lang/String;" = some ⟨[.char], some (.object "java/lang/String")⟩ := by decide +kernel
theorem pd17 : parseMethodDescriptor "(Ljava/lang/String;Ljava/lang/String;II)V" = some ⟨[(.object "java/lang/String"), (.object "java/lang/String"), .int, .int], none⟩ := by decide +kernel
theorem pd18 : parseMethodDescriptor "(I)Z" = some ⟨[.int], some .boolean⟩ := by decide +kernel
theorem pd19 : parseMethodDescriptor "([C)V" = some ⟨[(.array .char)], none⟩ := by decide +kernel
theorem ef_0 (m : MethodId) (x0 : Int32) (x1 : Int32) (x2 : Int32) : entryFrame m #[(.int x0), (.int x1), (.int x2)] maxLocals = mkF m 0 #[.val (.int x0), .val (.int x1), .val (.int x2), .unset, .unset, .unset, .unset, .unset, .unset, .unset, .unset, .unset, .unset, .unset, .unset] [] := by first | (simp [entryFrame, mkF, argsToLocals, Value.category, maxLocals]; done) | rfl
def Q0 (Z : State) (pk : Int32) (qq : Int32) (md : Int32) (fm : Value) (cs : Int32) (h0 : Heap) (n0 : Nat) (v_ : Option Value) (h : Heap) (L_ : List Loc) : Prop := v_ = some (.int 1) ∧ Fr n0 L_
theorem pn5 : plainName "com/example/gatehouse/gatehouse/pattern/NameShapeAllowsPinLaw" = true := by first | (simp [plainName, overriddenIn]; done) | decide +kernel
set_option maxRecDepth 65536 in
set_option maxHeartbeats 40000000 in
theorem rm0 (l : Launch) (Z : State) (a0 : Array Value) (hw : ∀ d ∈ tables_1, d.before a0 Z = true) (ws : List Jvm.Cond) (pk : Int32) (qq : Int32) (md : Int32) (fm : Value) (cs : Int32) (h0 : Heap) (n0 : Nat) (Z0 : n0 ≤ h0.size) (O : Old Z n0 h0) (Scs : Sta Z Z.heap "java/lang/String" "COMPACT_STRINGS" "Z" (.int cs)) (hcs : ¬ (cs = (0 : Int32))) (Sfm : Sta Z Z.heap "jdk/internal/util/Preconditions" "SIOOBE_FORMATTER" "Ljava/util/function/BiFunction;" fm) (hfm : fm.category = 1) (hheld : Jvm.Lit.constHeld Z "com/example/gatehouse/gatehouse/pattern/NameShapeAllowsPinLaw" 7) (hcw : Jvm.Lit.compactW.before a0 Z = true) :
    MetFree l x (head1 (Jvm.Cond.code x code maxLocals ret :: ws) room_1) (fun a_ U_ => a_ = #[(.int pk), (.int qq), (.int md)] ∧ Z.Warmed39 U_.vm ∧ U_.heap = h0 ∧ IB Z U_.vm []) (fun _ _ _ _ _ => True) (fun _ U_ o_ V_ => ∃ v_ L_, o_ = .returned v_ ∧ Q0 Z pk qq md fm cs h0 n0 v_ V_.heap L_ ∧ ReturnedEndW U_ o_ V_ L_ room_1.cells room_1.slots) := by
  refine MetFree.of_bodySF (plainFor_of_name pn5) hisR ?_
  intro p e s m args below meth c s₁ Bd hml0 hP hK
  obtain ⟨rfl, hZ, hh, hIB⟩ := hP
  have hx := Bd.exec
  have hby := Bd.bytes
  have hml : c.maxLocals = 15 := hml0
  have hown : s.vm.findClass "com/example/gatehouse/gatehouse/pattern/NameShapeAllowsPinLaw" = some m.cls := findClass_of_methodNamed Bd.named
  have hnm := (name_of_methodNamed Bd.named Bd.method).1
  have X0 : Stand p l e room_1 s m #[(.int pk), (.int qq), (.int md)] below meth c s₁ [] 0 0 := Stand.of_body Bd
  have e0 : s₁.heap = h0 := by rw [← hh, Bd.state]; rfl
  have N0 := Fr.nil n0
  have pre0 : own_Go p e below (s₁.setTop (entryFrame m #[(.int pk), (.int qq), (.int md)] maxLocals)) (s₁.setTop (mkF m 0 #[.val (.int pk), .val (.int qq), .val (.int md), .unset, .unset, .unset, .unset, .unset, .unset, .unset, .unset, .unset, .unset, .unset, .unset] [])) := fun t_ k_ => castTop (ef_0 m pk qq md) k_
  have P1 := own_step (C := s₁.setTop (mkF m 34 #[.val (.int pk), .val (.int qq), .val (.int md), .val (.int ((pk &&& (127 : Int32)).toUInt32.toUInt16.toUInt32.toInt32)), .val (.int ((((pk.toUInt32 >>> ((7 : Int32) &&& 31).toUInt32).toInt32) &&& (127 : Int32)).toUInt32.toUInt16.toUInt32.toInt32)), .val (.int ((((pk.toUInt32 >>> ((14 : Int32) &&& 31).toUInt32).toInt32) &&& (127 : Int32)).toUInt32.toUInt16.toUInt32.toInt32)), .val (.int (((pk.toUInt32 >>> ((21 : Int32) &&& 31).toUInt32).toInt32) &&& (3 : Int32))), .unset, .unset, .unset, .unset, .unset, .unset, .unset, .unset] [])) pre0 (by
    intro tt_ kk_
    refine XS.iloadN X0.here hx rfl (hb hby at_0) rfl ?_
    show Steps p.tables e below (s₁.setTop (mkF m 1 #[.val (.int pk), .val (.int qq), .val (.int md), .unset, .unset, .unset, .unset, .unset, .unset, .unset, .unset, .unset, .unset, .unset, .unset] [(.int pk)])) _
    refine XS.bipush X0.here hx rfl (hb hby at_1) ?_
    show Steps p.tables e below (s₁.setTop (mkF m 3 #[.val (.int pk), .val (.int qq), .val (.int md), .unset, .unset, .unset, .unset, .unset, .unset, .unset, .unset, .unset, .unset, .unset, .unset] [(.int (127 : Int32)), (.int pk)])) _
    refine XS.iand X0.here hx rfl (hb hby at_3) rfl ?_
    show Steps p.tables e below (s₁.setTop (mkF m 4 #[.val (.int pk), .val (.int qq), .val (.int md), .unset, .unset, .unset, .unset, .unset, .unset, .unset, .unset, .unset, .unset, .unset, .unset] [(.int (pk &&& (127 : Int32)))])) _
    refine XS.i2c X0.here hx rfl (hb hby at_4) rfl ?_
    show Steps p.tables e below (s₁.setTop (mkF m 5 #[.val (.int pk), .val (.int qq), .val (.int md), .unset, .unset, .unset, .unset, .unset, .unset, .unset, .unset, .unset, .unset, .unset, .unset] [(.int ((pk &&& (127 : Int32)).toUInt32.toUInt16.toUInt32.toInt32))])) _
    refine XS.istoreN X0.here hx rfl (hb hby at_5) rfl (l' := #[.val (.int pk), .val (.int qq), .val (.int md), .val (.int ((pk &&& (127 : Int32)).toUInt32.toUInt16.toUInt32.toInt32)), .unset, .unset, .unset, .unset, .unset, .unset, .unset, .unset, .unset, .unset, .unset]) rfl ?_
    show Steps p.tables e below (s₁.setTop (mkF m 6 #[.val (.int pk), .val (.int qq), .val (.int md), .val (.int ((pk &&& (127 : Int32)).toUInt32.toUInt16.toUInt32.toInt32)), .unset, .unset, .unset, .unset, .unset, .unset, .unset, .unset, .unset, .unset, .unset] [])) _
    refine XS.iloadN X0.here hx rfl (hb hby at_6) rfl ?_
    show Steps p.tables e below (s₁.setTop (mkF m 7 #[.val (.int pk), .val (.int qq), .val (.int md), .val (.int ((pk &&& (127 : Int32)).toUInt32.toUInt16.toUInt32.toInt32)), .unset, .unset, .unset, .unset, .unset, .unset, .unset, .unset, .unset, .unset, .unset] [(.int pk)])) _
    refine XS.bipush X0.here hx rfl (hb hby at_7) ?_
    show Steps p.tables e below (s₁.setTop (mkF m 9 #[.val (.int pk), .val (.int qq), .val (.int md), .val (.int ((pk &&& (127 : Int32)).toUInt32.toUInt16.toUInt32.toInt32)), .unset, .unset, .unset, .unset, .unset, .unset, .unset, .unset, .unset, .unset, .unset] [(.int (7 : Int32)), (.int pk)])) _
    refine XS.iushr X0.here hx rfl (hb hby at_9) rfl ?_
    show Steps p.tables e below (s₁.setTop (mkF m 10 #[.val (.int pk), .val (.int qq), .val (.int md), .val (.int ((pk &&& (127 : Int32)).toUInt32.toUInt16.toUInt32.toInt32)), .unset, .unset, .unset, .unset, .unset, .unset, .unset, .unset, .unset, .unset, .unset] [(.int ((pk.toUInt32 >>> ((7 : Int32) &&& 31).toUInt32).toInt32))])) _
    refine XS.bipush X0.here hx rfl (hb hby at_10) ?_
    show Steps p.tables e below (s₁.setTop (mkF m 12 #[.val (.int pk), .val (.int qq), .val (.int md), .val (.int ((pk &&& (127 : Int32)).toUInt32.toUInt16.toUInt32.toInt32)), .unset, .unset, .unset, .unset, .unset, .unset, .unset, .unset, .unset, .unset, .unset] [(.int (127 : Int32)), (.int ((pk.toUInt32 >>> ((7 : Int32) &&& 31).toUInt32).toInt32))])) _
    refine XS.iand X0.here hx rfl (hb hby at_12) rfl ?_
    show Steps p.tables e below (s₁.setTop (mkF m 13 #[.val (.int pk), .val (.int qq), .val (.int md), .val (.int ((pk &&& (127 : Int32)).toUInt32.toUInt16.toUInt32.toInt32)), .unset, .unset, .unset, .unset, .unset, .unset, .unset, .unset, .unset, .unset, .unset] [(.int (((pk.toUInt32 >>> ((7 : Int32) &&& 31).toUInt32).toInt32) &&& (127 : Int32)))])) _
    refine XS.i2c X0.here hx rfl (hb hby at_13) rfl ?_
    show Steps p.tables e below (s₁.setTop (mkF m 14 #[.val (.int pk), .val (.int qq), .val (.int md), .val (.int ((pk &&& (127 : Int32)).toUInt32.toUInt16.toUInt32.toInt32)), .unset, .unset, .unset, .unset, .unset, .unset, .unset, .unset, .unset, .unset, .unset] [(.int ((((pk.toUInt32 >>> ((7 : Int32) &&& 31).toUInt32).toInt32) &&& (127 : Int32)).toUInt32.toUInt16.toUInt32.toInt32))])) _
    refine XS.istore X0.here hx rfl (hb hby at_14) rfl (l' := #[.val (.int pk), .val (.int qq), .val (.int md), .val (.int ((pk &&& (127 : Int32)).toUInt32.toUInt16.toUInt32.toInt32)), .val (.int ((((pk.toUInt32 >>> ((7 : Int32) &&& 31).toUInt32).toInt32) &&& (127 : Int32)).toUInt32.toUInt16.toUInt32.toInt32)), .unset, .unset, .unset, .unset, .unset, .unset, .unset, .unset, .unset, .unset]) rfl ?_
    show Steps p.tables e below (s₁.setTop (mkF m 16 #[.val (.int pk), .val (.int qq), .val (.int md), .val (.int ((pk &&& (127 : Int32)).toUInt32.toUInt16.toUInt32.toInt32)), .val (.int ((((pk.toUInt32 >>> ((7 : Int32) &&& 31).toUInt32).toInt32) &&& (127 : Int32)).toUInt32.toUInt16.toUInt32.toInt32)), .unset, .unset, .unset, .unset, .unset, .unset, .unset, .unset, .unset, .unset] [])) _
    refine XS.iloadN X0.here hx rfl (hb hby at_16) rfl ?_
    show Steps p.tables e below (s₁.setTop (mkF m 17 #[.val (.int pk), .val (.int qq), .val (.int md), .val (.int ((pk &&& (127 : Int32)).toUInt32.toUInt16.toUInt32.toInt32)), .val (.int ((((pk.toUInt32 >>> ((7 : Int32) &&& 31).toUInt32).toInt32) &&& (127 : Int32)).toUInt32.toUInt16.toUInt32.toInt32)), .unset, .unset, .unset, .unset, .unset, .unset, .unset, .unset, .unset, .unset] [(.int pk)])) _
    refine XS.bipush X0.here hx rfl (hb hby at_17) ?_
    show Steps p.tables e below (s₁.setTop (mkF m 19 #[.val (.int pk), .val (.int qq), .val (.int md), .val (.int ((pk &&& (127 : Int32)).toUInt32.toUInt16.toUInt32.toInt32)), .val (.int ((((pk.toUInt32 >>> ((7 : Int32) &&& 31).toUInt32).toInt32) &&& (127 : Int32)).toUInt32.toUInt16.toUInt32.toInt32)), .unset, .unset, .unset, .unset, .unset, .unset, .unset, .unset, .unset, .unset] [(.int (14 : Int32)), (.int pk)])) _
    refine XS.iushr X0.here hx rfl (hb hby at_19) rfl ?_
    show Steps p.tables e below (s₁.setTop (mkF m 20 #[.val (.int pk), .val (.int qq), .val (.int md), .val (.int ((pk &&& (127 : Int32)).toUInt32.toUInt16.toUInt32.toInt32)), .val (.int ((((pk.toUInt32 >>> ((7 : Int32) &&& 31).toUInt32).toInt32) &&& (127 : Int32)).toUInt32.toUInt16.toUInt32.toInt32)), .unset, .unset, .unset, .unset, .unset, .unset, .unset, .unset, .unset, .unset] [(.int ((pk.toUInt32 >>> ((14 : Int32) &&& 31).toUInt32).toInt32))])) _
    refine XS.bipush X0.here hx rfl (hb hby at_20) ?_
    show Steps p.tables e below (s₁.setTop (mkF m 22 #[.val (.int pk), .val (.int qq), .val (.int md), .val (.int ((pk &&& (127 : Int32)).toUInt32.toUInt16.toUInt32.toInt32)), .val (.int ((((pk.toUInt32 >>> ((7 : Int32) &&& 31).toUInt32).toInt32) &&& (127 : Int32)).toUInt32.toUInt16.toUInt32.toInt32)), .unset, .unset, .unset, .unset, .unset, .unset, .unset, .unset, .unset, .unset] [(.int (127 : Int32)), (.int ((pk.toUInt32 >>> ((14 : Int32) &&& 31).toUInt32).toInt32))])) _
    refine XS.iand X0.here hx rfl (hb hby at_22) rfl ?_
    show Steps p.tables e below (s₁.setTop (mkF m 23 #[.val (.int pk), .val (.int qq), .val (.int md), .val (.int ((pk &&& (127 : Int32)).toUInt32.toUInt16.toUInt32.toInt32)), .val (.int ((((pk.toUInt32 >>> ((7 : Int32) &&& 31).toUInt32).toInt32) &&& (127 : Int32)).toUInt32.toUInt16.toUInt32.toInt32)), .unset, .unset, .unset, .unset, .unset, .unset, .unset, .unset, .unset, .unset] [(.int (((pk.toUInt32 >>> ((14 : Int32) &&& 31).toUInt32).toInt32) &&& (127 : Int32)))])) _
    refine XS.i2c X0.here hx rfl (hb hby at_23) rfl ?_
    show Steps p.tables e below (s₁.setTop (mkF m 24 #[.val (.int pk), .val (.int qq), .val (.int md), .val (.int ((pk &&& (127 : Int32)).toUInt32.toUInt16.toUInt32.toInt32)), .val (.int ((((pk.toUInt32 >>> ((7 : Int32) &&& 31).toUInt32).toInt32) &&& (127 : Int32)).toUInt32.toUInt16.toUInt32.toInt32)), .unset, .unset, .unset, .unset, .unset, .unset, .unset, .unset, .unset, .unset] [(.int ((((pk.toUInt32 >>> ((14 : Int32) &&& 31).toUInt32).toInt32) &&& (127 : Int32)).toUInt32.toUInt16.toUInt32.toInt32))])) _
    refine XS.istore X0.here hx rfl (hb hby at_24) rfl (l' := #[.val (.int pk), .val (.int qq), .val (.int md), .val (.int ((pk &&& (127 : Int32)).toUInt32.toUInt16.toUInt32.toInt32)), .val (.int ((((pk.toUInt32 >>> ((7 : Int32) &&& 31).toUInt32).toInt32) &&& (127 : Int32)).toUInt32.toUInt16.toUInt32.toInt32)), .val (.int ((((pk.toUInt32 >>> ((14 : Int32) &&& 31).toUInt32).toInt32) &&& (127 : Int32)).toUInt32.toUInt16.toUInt32.toInt32)), .unset, .unset, .unset, .unset, .unset, .unset, .unset, .unset, .unset]) rfl ?_
    show Steps p.tables e below (s₁.setTop (mkF m 26 #[.val (.int pk), .val (.int qq), .val (.int md), .val (.int ((pk &&& (127 : Int32)).toUInt32.toUInt16.toUInt32.toInt32)), .val (.int ((((pk.toUInt32 >>> ((7 : Int32) &&& 31).toUInt32).toInt32) &&& (127 : Int32)).toUInt32.toUInt16.toUInt32.toInt32)), .val (.int ((((pk.toUInt32 >>> ((14 : Int32) &&& 31).toUInt32).toInt32) &&& (127 : Int32)).toUInt32.toUInt16.toUInt32.toInt32)), .unset, .unset, .unset, .unset, .unset, .unset, .unset, .unset, .unset] [])) _
    refine XS.iloadN X0.here hx rfl (hb hby at_26) rfl ?_
    show Steps p.tables e below (s₁.setTop (mkF m 27 #[.val (.int pk), .val (.int qq), .val (.int md), .val (.int ((pk &&& (127 : Int32)).toUInt32.toUInt16.toUInt32.toInt32)), .val (.int ((((pk.toUInt32 >>> ((7 : Int32) &&& 31).toUInt32).toInt32) &&& (127 : Int32)).toUInt32.toUInt16.toUInt32.toInt32)), .val (.int ((((pk.toUInt32 >>> ((14 : Int32) &&& 31).toUInt32).toInt32) &&& (127 : Int32)).toUInt32.toUInt16.toUInt32.toInt32)), .unset, .unset, .unset, .unset, .unset, .unset, .unset, .unset, .unset] [(.int pk)])) _
    refine XS.bipush X0.here hx rfl (hb hby at_27) ?_
    show Steps p.tables e below (s₁.setTop (mkF m 29 #[.val (.int pk), .val (.int qq), .val (.int md), .val (.int ((pk &&& (127 : Int32)).toUInt32.toUInt16.toUInt32.toInt32)), .val (.int ((((pk.toUInt32 >>> ((7 : Int32) &&& 31).toUInt32).toInt32) &&& (127 : Int32)).toUInt32.toUInt16.toUInt32.toInt32)), .val (.int ((((pk.toUInt32 >>> ((14 : Int32) &&& 31).toUInt32).toInt32) &&& (127 : Int32)).toUInt32.toUInt16.toUInt32.toInt32)), .unset, .unset, .unset, .unset, .unset, .unset, .unset, .unset, .unset] [(.int (21 : Int32)), (.int pk)])) _
    refine XS.iushr X0.here hx rfl (hb hby at_29) rfl ?_
    show Steps p.tables e below (s₁.setTop (mkF m 30 #[.val (.int pk), .val (.int qq), .val (.int md), .val (.int ((pk &&& (127 : Int32)).toUInt32.toUInt16.toUInt32.toInt32)), .val (.int ((((pk.toUInt32 >>> ((7 : Int32) &&& 31).toUInt32).toInt32) &&& (127 : Int32)).toUInt32.toUInt16.toUInt32.toInt32)), .val (.int ((((pk.toUInt32 >>> ((14 : Int32) &&& 31).toUInt32).toInt32) &&& (127 : Int32)).toUInt32.toUInt16.toUInt32.toInt32)), .unset, .unset, .unset, .unset, .unset, .unset, .unset, .unset, .unset] [(.int ((pk.toUInt32 >>> ((21 : Int32) &&& 31).toUInt32).toInt32))])) _
    refine XS.iconst X0.here hx rfl (hb hby at_30) ?_
    show Steps p.tables e below (s₁.setTop (mkF m 31 #[.val (.int pk), .val (.int qq), .val (.int md), .val (.int ((pk &&& (127 : Int32)).toUInt32.toUInt16.toUInt32.toInt32)), .val (.int ((((pk.toUInt32 >>> ((7 : Int32) &&& 31).toUInt32).toInt32) &&& (127 : Int32)).toUInt32.toUInt16.toUInt32.toInt32)), .val (.int ((((pk.toUInt32 >>> ((14 : Int32) &&& 31).toUInt32).toInt32) &&& (127 : Int32)).toUInt32.toUInt16.toUInt32.toInt32)), .unset, .unset, .unset, .unset, .unset, .unset, .unset, .unset, .unset] [(.int (3 : Int32)), (.int ((pk.toUInt32 >>> ((21 : Int32) &&& 31).toUInt32).toInt32))])) _
    refine XS.iand X0.here hx rfl (hb hby at_31) rfl ?_
    show Steps p.tables e below (s₁.setTop (mkF m 32 #[.val (.int pk), .val (.int qq), .val (.int md), .val (.int ((pk &&& (127 : Int32)).toUInt32.toUInt16.toUInt32.toInt32)), .val (.int ((((pk.toUInt32 >>> ((7 : Int32) &&& 31).toUInt32).toInt32) &&& (127 : Int32)).toUInt32.toUInt16.toUInt32.toInt32)), .val (.int ((((pk.toUInt32 >>> ((14 : Int32) &&& 31).toUInt32).toInt32) &&& (127 : Int32)).toUInt32.toUInt16.toUInt32.toInt32)), .unset, .unset, .unset, .unset, .unset, .unset, .unset, .unset, .unset] [(.int (((pk.toUInt32 >>> ((21 : Int32) &&& 31).toUInt32).toInt32) &&& (3 : Int32)))])) _
    refine XS.istore X0.here hx rfl (hb hby at_32) rfl (l' := #[.val (.int pk), .val (.int qq), .val (.int md), .val (.int ((pk &&& (127 : Int32)).toUInt32.toUInt16.toUInt32.toInt32)), .val (.int ((((pk.toUInt32 >>> ((7 : Int32) &&& 31).toUInt32).toInt32) &&& (127 : Int32)).toUInt32.toUInt16.toUInt32.toInt32)), .val (.int ((((pk.toUInt32 >>> ((14 : Int32) &&& 31).toUInt32).toInt32) &&& (127 : Int32)).toUInt32.toUInt16.toUInt32.toInt32)), .val (.int (((pk.toUInt32 >>> ((21 : Int32) &&& 31).toUInt32).toInt32) &&& (3 : Int32))), .unset, .unset, .unset, .unset, .unset, .unset, .unset, .unset]) rfl ?_
    exact kk_)
  obtain ⟨d0, hd0, P2⟩ := own_name (F := fun z => s₁.setTop (mkF m 34 #[.val (.int pk), .val (.int qq), .val (.int md), .val (.int z), .val (.int ((((pk.toUInt32 >>> ((7 : Int32) &&& 31).toUInt32).toInt32) &&& (127 : Int32)).toUInt32.toUInt16.toUInt32.toInt32)), .val (.int ((((pk.toUInt32 >>> ((14 : Int32) &&& 31).toUInt32).toInt32) &&& (127 : Int32)).toUInt32.toUInt16.toUInt32.toInt32)), .val (.int (((pk.toUInt32 >>> ((21 : Int32) &&& 31).toUInt32).toInt32) &&& (3 : Int32))), .unset, .unset, .unset, .unset, .unset, .unset, .unset, .unset] [])) ((pk &&& (127 : Int32)).toUInt32.toUInt16.toUInt32.toInt32) P1
  obtain ⟨d1, hd1, P3⟩ := own_name (F := fun z => s₁.setTop (mkF m 34 #[.val (.int pk), .val (.int qq), .val (.int md), .val (.int d0), .val (.int z), .val (.int ((((pk.toUInt32 >>> ((14 : Int32) &&& 31).toUInt32).toInt32) &&& (127 : Int32)).toUInt32.toUInt16.toUInt32.toInt32)), .val (.int (((pk.toUInt32 >>> ((21 : Int32) &&& 31).toUInt32).toInt32) &&& (3 : Int32))), .unset, .unset, .unset, .unset, .unset, .unset, .unset, .unset] [])) ((((pk.toUInt32 >>> ((7 : Int32) &&& 31).toUInt32).toInt32) &&& (127 : Int32)).toUInt32.toUInt16.toUInt32.toInt32) P2
  obtain ⟨d2, hd2, P4⟩ := own_name (F := fun z => s₁.setTop (mkF m 34 #[.val (.int pk), .val (.int qq), .val (.int md), .val (.int d0), .val (.int d1), .val (.int z), .val (.int (((pk.toUInt32 >>> ((21 : Int32) &&& 31).toUInt32).toInt32) &&& (3 : Int32))), .unset, .unset, .unset, .unset, .unset, .unset, .unset, .unset] [])) ((((pk.toUInt32 >>> ((14 : Int32) &&& 31).toUInt32).toInt32) &&& (127 : Int32)).toUInt32.toUInt16.toUInt32.toInt32) P3
  obtain ⟨nn, hnn, P5⟩ := own_name (F := fun z => s₁.setTop (mkF m 34 #[.val (.int pk), .val (.int qq), .val (.int md), .val (.int d0), .val (.int d1), .val (.int d2), .val (.int z), .unset, .unset, .unset, .unset, .unset, .unset, .unset, .unset] [])) (((pk.toUInt32 >>> ((21 : Int32) &&& 31).toUInt32).toInt32) &&& (3 : Int32)) P4
  have gd0 : own_R d0 := by rw [hd0]; exact own_ch _
  have gd1 : own_R d1 := by rw [hd1]; exact own_ch _
  have gd2 : own_R d2 := by rw [hd2]; exact own_ch _
  have gn : 0 ≤ nn.toInt := by rw [hnn]; exact own_n3 _
  have P6 := own_step (C := s₁.setTop (mkF m 37 #[.val (.int pk), .val (.int qq), .val (.int md), .val (.int d0), .val (.int d1), .val (.int d2), .val (.int nn), .unset, .unset, .unset, .unset, .unset, .unset, .unset, .unset] [(.int (3 : Int32)), (.int nn)])) P5 (by
    intro tt_ kk_
    refine XS.iload X0.here hx rfl (hb hby at_34) rfl ?_
    show Steps p.tables e below (s₁.setTop (mkF m 36 #[.val (.int pk), .val (.int qq), .val (.int md), .val (.int d0), .val (.int d1), .val (.int d2), .val (.int nn), .unset, .unset, .unset, .unset, .unset, .unset, .unset, .unset] [(.int nn)])) _
    refine XS.iconst X0.here hx rfl (hb hby at_36) ?_
    exact kk_)
  obtain ⟨u2, hv7, J7⟩ : ∃ (u2 : Int32), ((nn < (3 : Int32) ∧ u2 = d0) ∨ (¬ (nn < (3 : Int32)) ∧ u2 = d2)) ∧ own_Go p e below (s₁.setTop (mkF m 37 #[.val (.int pk), .val (.int qq), .val (.int md), .val (.int d0), .val (.int d1), .val (.int d2), .val (.int nn), .unset, .unset, .unset, .unset, .unset, .unset, .unset, .unset] [(.int (3 : Int32)), (.int nn)])) (s₁.setTop (mkF m 43 #[.val (.int pk), .val (.int qq), .val (.int md), .val (.int d0), .val (.int d1), .val (.int u2), .val (.int nn), .unset, .unset, .unset, .unset, .unset, .unset, .unset, .unset] [])) := by
    have P8 : own_Go p e below (s₁.setTop (mkF m 37 #[.val (.int pk), .val (.int qq), .val (.int md), .val (.int d0), .val (.int d1), .val (.int d2), .val (.int nn), .unset, .unset, .unset, .unset, .unset, .unset, .unset, .unset] [(.int (3 : Int32)), (.int nn)])) (s₁.setTop (mkF m 37 #[.val (.int pk), .val (.int qq), .val (.int md), .val (.int d0), .val (.int d1), .val (.int d2), .val (.int nn), .unset, .unset, .unset, .unset, .unset, .unset, .unset, .unset] [(.int (3 : Int32)), (.int nn)])) := fun t_ k_ => k_
    by_cases c9 : nn < (3 : Int32)
    · have P10 := own_step (C := s₁.setTop (mkF m 40 #[.val (.int pk), .val (.int qq), .val (.int md), .val (.int d0), .val (.int d1), .val (.int d2), .val (.int nn), .unset, .unset, .unset, .unset, .unset, .unset, .unset, .unset] [])) P8 (by
        intro tt_ kk_
        refine XS.icmpNo X0.here hx rfl (hb hby at_37) rfl (tlt c9).2.1 ?_
        exact kk_)
      have P11 := own_step (C := s₁.setTop (mkF m 43 #[.val (.int pk), .val (.int qq), .val (.int md), .val (.int d0), .val (.int d1), .val (.int d0), .val (.int nn), .unset, .unset, .unset, .unset, .unset, .unset, .unset, .unset] [])) P10 (by
        intro tt_ kk_
        refine XS.iloadN X0.here hx rfl (hb hby at_40) rfl ?_
        show Steps p.tables e below (s₁.setTop (mkF m 41 #[.val (.int pk), .val (.int qq), .val (.int md), .val (.int d0), .val (.int d1), .val (.int d2), .val (.int nn), .unset, .unset, .unset, .unset, .unset, .unset, .unset, .unset] [(.int d0)])) _
        refine XS.istore X0.here hx rfl (hb hby at_41) rfl (l' := #[.val (.int pk), .val (.int qq), .val (.int md), .val (.int d0), .val (.int d1), .val (.int d0), .val (.int nn), .unset, .unset, .unset, .unset, .unset, .unset, .unset, .unset]) rfl ?_
        exact kk_)
      exact ⟨d0, Or.inl ⟨c9, rfl⟩, P11⟩
    · have P12 := own_step (C := s₁.setTop (mkF m 43 #[.val (.int pk), .val (.int qq), .val (.int md), .val (.int d0), .val (.int d1), .val (.int d2), .val (.int nn), .unset, .unset, .unset, .unset, .unset, .unset, .unset, .unset] [])) P8 (by
        intro tt_ kk_
        refine XS.icmpYes X0.here hx rfl (pc0 := 37) (pc' := 43) rfl (hb hby at_37) rfl (flt c9).2.1 (by decide) (by decide) ?_
        exact kk_)
      exact ⟨d2, Or.inr (⟨c9, rfl⟩), P12⟩
  have P13 := own_step P6 J7
  have P14 := own_step (C := s₁.setTop (mkF m 46 #[.val (.int pk), .val (.int qq), .val (.int md), .val (.int d0), .val (.int d1), .val (.int u2), .val (.int nn), .unset, .unset, .unset, .unset, .unset, .unset, .unset, .unset] [(.int (2 : Int32)), (.int nn)])) P13 (by
    intro tt_ kk_
    refine XS.iload X0.here hx rfl (hb hby at_43) rfl ?_
    show Steps p.tables e below (s₁.setTop (mkF m 45 #[.val (.int pk), .val (.int qq), .val (.int md), .val (.int d0), .val (.int d1), .val (.int u2), .val (.int nn), .unset, .unset, .unset, .unset, .unset, .unset, .unset, .unset] [(.int nn)])) _
    refine XS.iconst X0.here hx rfl (hb hby at_45) ?_
    exact kk_)
  obtain ⟨u1, hv15, J15⟩ : ∃ (u1 : Int32), ((nn < (2 : Int32) ∧ u1 = d0) ∨ (¬ (nn < (2 : Int32)) ∧ u1 = d1)) ∧ own_Go p e below (s₁.setTop (mkF m 46 #[.val (.int pk), .val (.int qq), .val (.int md), .val (.int d0), .val (.int d1), .val (.int u2), .val (.int nn), .unset, .unset, .unset, .unset, .unset, .unset, .unset, .unset] [(.int (2 : Int32)), (.int nn)])) (s₁.setTop (mkF m 52 #[.val (.int pk), .val (.int qq), .val (.int md), .val (.int d0), .val (.int u1), .val (.int u2), .val (.int nn), .unset, .unset, .unset, .unset, .unset, .unset, .unset, .unset] [])) := by
    have P16 : own_Go p e below (s₁.setTop (mkF m 46 #[.val (.int pk), .val (.int qq), .val (.int md), .val (.int d0), .val (.int d1), .val (.int u2), .val (.int nn), .unset, .unset, .unset, .unset, .unset, .unset, .unset, .unset] [(.int (2 : Int32)), (.int nn)])) (s₁.setTop (mkF m 46 #[.val (.int pk), .val (.int qq), .val (.int md), .val (.int d0), .val (.int d1), .val (.int u2), .val (.int nn), .unset, .unset, .unset, .unset, .unset, .unset, .unset, .unset] [(.int (2 : Int32)), (.int nn)])) := fun t_ k_ => k_
    by_cases c17 : nn < (2 : Int32)
    · have P18 := own_step (C := s₁.setTop (mkF m 49 #[.val (.int pk), .val (.int qq), .val (.int md), .val (.int d0), .val (.int d1), .val (.int u2), .val (.int nn), .unset, .unset, .unset, .unset, .unset, .unset, .unset, .unset] [])) P16 (by
        intro tt_ kk_
        refine XS.icmpNo X0.here hx rfl (hb hby at_46) rfl (tlt c17).2.1 ?_
        exact kk_)
      have P19 := own_step (C := s₁.setTop (mkF m 52 #[.val (.int pk), .val (.int qq), .val (.int md), .val (.int d0), .val (.int d0), .val (.int u2), .val (.int nn), .unset, .unset, .unset, .unset, .unset, .unset, .unset, .unset] [])) P18 (by
        intro tt_ kk_
        refine XS.iloadN X0.here hx rfl (hb hby at_49) rfl ?_
        show Steps p.tables e below (s₁.setTop (mkF m 50 #[.val (.int pk), .val (.int qq), .val (.int md), .val (.int d0), .val (.int d1), .val (.int u2), .val (.int nn), .unset, .unset, .unset, .unset, .unset, .unset, .unset, .unset] [(.int d0)])) _
        refine XS.istore X0.here hx rfl (hb hby at_50) rfl (l' := #[.val (.int pk), .val (.int qq), .val (.int md), .val (.int d0), .val (.int d0), .val (.int u2), .val (.int nn), .unset, .unset, .unset, .unset, .unset, .unset, .unset, .unset]) rfl ?_
        exact kk_)
      exact ⟨d0, Or.inl ⟨c17, rfl⟩, P19⟩
    · have P20 := own_step (C := s₁.setTop (mkF m 52 #[.val (.int pk), .val (.int qq), .val (.int md), .val (.int d0), .val (.int d1), .val (.int u2), .val (.int nn), .unset, .unset, .unset, .unset, .unset, .unset, .unset, .unset] [])) P16 (by
        intro tt_ kk_
        refine XS.icmpYes X0.here hx rfl (pc0 := 46) (pc' := 52) rfl (hb hby at_46) rfl (flt c17).2.1 (by decide) (by decide) ?_
        exact kk_)
      exact ⟨d1, Or.inr (⟨c17, rfl⟩), P20⟩
  have P21 := own_step P14 J15
  have ku2 : own_R u2 := own_pick gd0 gd2 hv7
  have ku1 : own_R u1 := own_pick gd0 gd1 hv15
  have P22 := own_step (C := s₁.setTop (mkF m 54 #[.val (.int pk), .val (.int qq), .val (.int md), .val (.int d0), .val (.int u1), .val (.int u2), .val (.int nn), .unset, .unset, .unset, .unset, .unset, .unset, .unset, .unset] [(.int nn)])) P21 (by
    intro tt_ kk_
    refine XS.iload X0.here hx rfl (hb hby at_52) rfl ?_
    exact kk_)
  by_cases c23 : nn = (0 : Int32)
  · have P24 := own_step (C := s₁.setTop (mkF m 57 #[.val (.int pk), .val (.int qq), .val (.int md), .val (.int d0), .val (.int u1), .val (.int u2), .val (.int nn), .unset, .unset, .unset, .unset, .unset, .unset, .unset, .unset] [])) P22 (by
      intro tt_ kk_
      refine XS.ifNo X0.here hx rfl (hb hby at_54) rfl ((if0 _ _).trans (teq c23).2) ?_
      exact kk_)
    obtain ⟨b25, T25, h25, k25, bv25, kc25, X25, e25, E25, S25, kz25, hZ25, hown25, A25, Fc25, Fv25, V25, -, -, I25, Lt25, st25⟩ := ldcSVL (s := s) (vm0 := s.vm) X0 hx hZ hown (hw _ (List.mem_of_getElem? (i := 0) rfl)) (fun d hd => hw d (own_wS d hd)) e0 ((State.WarmedH.refl s).since 0) (Nat.zero_le _) (Fr.nil _) (fun b cl q => by rw [hh]; exact O.2.2 b cl q) hIB (by decide) hheld hcw (vs := []) (z := (0 : Int32)) ⟨by decide +kernel, by rfl⟩ (by decide) rfl (g := (mkF m 57 #[.val (.int pk), .val (.int qq), .val (.int md), .val (.int d0), .val (.int u1), .val (.int u2), .val (.int nn), .unset, .unset, .unset, .unset, .unset, .unset, .unset, .unset] [])) rfl (hb hby at_57) (n := 0) (by decide +kernel) (by decide) (by decide) (by decide)
    have f26 := O.ext E25
    have Z27 : n0 ≤ h25.size := Nat.le_trans Z0 E25.1
    have P28 := own_step (C := T25.setTop (mkF m 59 #[.val (.int pk), .val (.int qq), .val (.int md), .val (.int d0), .val (.int u1), .val (.int u2), .val (.int nn), .unset, .unset, .unset, .unset, .unset, .unset, .unset, .unset] [(.ref b25)])) P24 (fun t_ k_ => st25 t_ k_)
    have P29 := own_step (C := T25.setTop (mkF m 97 #[.val (.int pk), .val (.int qq), .val (.int md), .val (.int d0), .val (.int u1), .val (.int u2), .val (.int nn), .val (.ref b25), .unset, .unset, .unset, .unset, .unset, .unset, .unset] [(.int ((((md.toUInt32 >>> ((8 : Int32) &&& 31).toUInt32).toInt32) &&& (255 : Int32)).toUInt32.toUInt16.toUInt32.toInt32))])) P28 (by
      intro tt_ kk_
      refine XS.goto X25.here hx rfl (pc0 := 59) (pc' := 86) rfl (hb hby at_59) (by decide) (by decide) ?_
      show Steps p.tables e below (T25.setTop (mkF m 86 #[.val (.int pk), .val (.int qq), .val (.int md), .val (.int d0), .val (.int u1), .val (.int u2), .val (.int nn), .unset, .unset, .unset, .unset, .unset, .unset, .unset, .unset] [(.ref b25)])) _
      refine XS.astore X25.here hx rfl (hb hby at_86) rfl rfl (l' := #[.val (.int pk), .val (.int qq), .val (.int md), .val (.int d0), .val (.int u1), .val (.int u2), .val (.int nn), .val (.ref b25), .unset, .unset, .unset, .unset, .unset, .unset, .unset]) rfl ?_
      show Steps p.tables e below (T25.setTop (mkF m 88 #[.val (.int pk), .val (.int qq), .val (.int md), .val (.int d0), .val (.int u1), .val (.int u2), .val (.int nn), .val (.ref b25), .unset, .unset, .unset, .unset, .unset, .unset, .unset] [])) _
      refine XS.iloadN X25.here hx rfl (hb hby at_88) rfl ?_
      show Steps p.tables e below (T25.setTop (mkF m 89 #[.val (.int pk), .val (.int qq), .val (.int md), .val (.int d0), .val (.int u1), .val (.int u2), .val (.int nn), .val (.ref b25), .unset, .unset, .unset, .unset, .unset, .unset, .unset] [(.int md)])) _
      refine XS.bipush X25.here hx rfl (hb hby at_89) ?_
      show Steps p.tables e below (T25.setTop (mkF m 91 #[.val (.int pk), .val (.int qq), .val (.int md), .val (.int d0), .val (.int u1), .val (.int u2), .val (.int nn), .val (.ref b25), .unset, .unset, .unset, .unset, .unset, .unset, .unset] [(.int (8 : Int32)), (.int md)])) _
      refine XS.iushr X25.here hx rfl (hb hby at_91) rfl ?_
      show Steps p.tables e below (T25.setTop (mkF m 92 #[.val (.int pk), .val (.int qq), .val (.int md), .val (.int d0), .val (.int u1), .val (.int u2), .val (.int nn), .val (.ref b25), .unset, .unset, .unset, .unset, .unset, .unset, .unset] [(.int ((md.toUInt32 >>> ((8 : Int32) &&& 31).toUInt32).toInt32))])) _
      refine XS.sipush X25.here hx rfl (hb hby at_92) ?_
      show Steps p.tables e below (T25.setTop (mkF m 95 #[.val (.int pk), .val (.int qq), .val (.int md), .val (.int d0), .val (.int u1), .val (.int u2), .val (.int nn), .val (.ref b25), .unset, .unset, .unset, .unset, .unset, .unset, .unset] [(.int (255 : Int32)), (.int ((md.toUInt32 >>> ((8 : Int32) &&& 31).toUInt32).toInt32))])) _
      refine XS.iand X25.here hx rfl (hb hby at_95) rfl ?_
      show Steps p.tables e below (T25.setTop (mkF m 96 #[.val (.int pk), .val (.int qq), .val (.int md), .val (.int d0), .val (.int u1), .val (.int u2), .val (.int nn), .val (.ref b25), .unset, .unset, .unset, .unset, .unset, .unset, .unset] [(.int (((md.toUInt32 >>> ((8 : Int32) &&& 31).toUInt32).toInt32) &&& (255 : Int32)))])) _
      refine XS.i2c X25.here hx rfl (hb hby at_96) rfl ?_
      exact kk_)
    obtain ⟨_, _, ⟨T30, L30, k30, n30⟩, -, X30, ⟨Lc30, hQ30, l30, y30, z30⟩, st30⟩ := Jvm.LawKit.callS X25 hx (y := (⟨"java/lang/String", "valueOf", "(C)Ljava/lang/String;"⟩ : MethodName)) hown25 (mvT hZ25 (hw _ (List.mem_of_getElem? (i := 8) rfl))) (mvT hZ25 (hw _ (List.mem_of_getElem? (i := 9) rfl))) (mvT hZ25 (hw _ (List.mem_of_getElem? (i := 1) rfl))) (mvT hZ25 (hw _ (List.mem_of_getElem? (i := 10) rfl))) (by decide) (backOf (W := 0) (rm_valueOf l Z a0 hw [] ((((md.toUInt32 >>> ((8 : Int32) &&& 31).toUInt32).toInt32) &&& (255 : Int32)).toUInt32.toUInt16.toUInt32.toInt32) cs h25 n0 Z27 f26 Scs hcs (own_v255 _)) hZ25 (hw _ (List.mem_of_getElem? (i := 10) rfl)) (hw _ (List.mem_of_getElem? (i := 1) rfl)) (by decide) (by decide)) (g := (mkF m 97 #[.val (.int pk), .val (.int qq), .val (.int md), .val (.int d0), .val (.int u1), .val (.int u2), .val (.int nn), .val (.ref b25), .unset, .unset, .unset, .unset, .unset, .unset, .unset] [(.int ((((md.toUInt32 >>> ((8 : Int32) &&& 31).toUInt32).toInt32) &&& (255 : Int32)).toUInt32.toUInt16.toUInt32.toInt32))])) rfl (by rw [hml]; rfl) (argsL := [(.int ((((md.toUInt32 >>> ((8 : Int32) &&& 31).toUInt32).toInt32) &&& (255 : Int32)).toUInt32.toUInt16.toUInt32.toInt32))]) (rest := []) (lenOf pd16 rfl) rfl (by show 2 * 0 + _ ≤ _; exact Nat.le_of_eq rfl) (hb hby at_97) (fun _ _ => ⟨rfl, e25, (by decide : 2 + 2 ≤ _), (by decide : 4 + 5 ≤ _)⟩)
    dsimp only [Pt.U, Pt.locs, Pt.cells, Pt.slots] at X30 l30 y30 z30 st30 hQ30
    subst l30 y30 z30
    obtain ⟨x30, rfl, N30q, K30, f31, f32⟩ := hQ30
    have N30 := Fr.app N0 N30q
    have ne_b25_x30 : b25 ≠ x30 := Nat.ne_of_lt (Nat.lt_of_lt_of_le A25.lt f31)
    have ne_bv25_x30 : bv25 ≠ x30 := Nat.ne_of_lt (Nat.lt_of_lt_of_le V25.lt f31)
    have g_x30 : n0 ≤ x30 := Nat.le_trans Z27 f31
    have f33 := f26.keep K30 all0
    have f34 := A25.keep K30
    have f35 := Fc25.keep K30 nin0
    have f36 := Fv25.keep K30 nin0
    have f37 := V25.keep K30 nin0
    have Z38 : n0 ≤ T30.heap.size := Nat.le_trans Z27 K30.1
    have kz39 := Nat.le_trans kz25 K30.1
    have P40 := own_step (C := T30.setTop (mkF m 100 #[.val (.int pk), .val (.int qq), .val (.int md), .val (.int d0), .val (.int u1), .val (.int u2), .val (.int nn), .val (.ref b25), .unset, .unset, .unset, .unset, .unset, .unset, .unset] [(.ref x30)])) P29 (fun t_ k_ => st30 t_ k_)
    have P41 := own_step (C := T30.setTop (mkF m 128 #[.val (.int pk), .val (.int qq), .val (.int md), .val (.int d0), .val (.int u1), .val (.int u2), .val (.int nn), .val (.ref b25), .val (.ref x30), .val (.int (((md.toUInt32 >>> ((16 : Int32) &&& 31).toUInt32).toInt32) &&& (7 : Int32))), .val (.int ((((md.toUInt32 >>> ((16 : Int32) &&& 31).toUInt32).toInt32) &&& (7 : Int32)) + (((md.toUInt32 >>> ((19 : Int32) &&& 31).toUInt32).toInt32) &&& (7 : Int32)))), .val (.int (md &&& (3 : Int32))), .unset, .unset, .unset] [])) P40 (by
      intro tt_ kk_
      refine XS.astore X30.here hx rfl (hb hby at_100) rfl rfl (l' := #[.val (.int pk), .val (.int qq), .val (.int md), .val (.int d0), .val (.int u1), .val (.int u2), .val (.int nn), .val (.ref b25), .val (.ref x30), .unset, .unset, .unset, .unset, .unset, .unset]) rfl ?_
      show Steps p.tables e below (T30.setTop (mkF m 102 #[.val (.int pk), .val (.int qq), .val (.int md), .val (.int d0), .val (.int u1), .val (.int u2), .val (.int nn), .val (.ref b25), .val (.ref x30), .unset, .unset, .unset, .unset, .unset, .unset] [])) _
      refine XS.iloadN X30.here hx rfl (hb hby at_102) rfl ?_
      show Steps p.tables e below (T30.setTop (mkF m 103 #[.val (.int pk), .val (.int qq), .val (.int md), .val (.int d0), .val (.int u1), .val (.int u2), .val (.int nn), .val (.ref b25), .val (.ref x30), .unset, .unset, .unset, .unset, .unset, .unset] [(.int md)])) _
      refine XS.bipush X30.here hx rfl (hb hby at_103) ?_
      show Steps p.tables e below (T30.setTop (mkF m 105 #[.val (.int pk), .val (.int qq), .val (.int md), .val (.int d0), .val (.int u1), .val (.int u2), .val (.int nn), .val (.ref b25), .val (.ref x30), .unset, .unset, .unset, .unset, .unset, .unset] [(.int (16 : Int32)), (.int md)])) _
      refine XS.iushr X30.here hx rfl (hb hby at_105) rfl ?_
      show Steps p.tables e below (T30.setTop (mkF m 106 #[.val (.int pk), .val (.int qq), .val (.int md), .val (.int d0), .val (.int u1), .val (.int u2), .val (.int nn), .val (.ref b25), .val (.ref x30), .unset, .unset, .unset, .unset, .unset, .unset] [(.int ((md.toUInt32 >>> ((16 : Int32) &&& 31).toUInt32).toInt32))])) _
      refine XS.bipush X30.here hx rfl (hb hby at_106) ?_
      show Steps p.tables e below (T30.setTop (mkF m 108 #[.val (.int pk), .val (.int qq), .val (.int md), .val (.int d0), .val (.int u1), .val (.int u2), .val (.int nn), .val (.ref b25), .val (.ref x30), .unset, .unset, .unset, .unset, .unset, .unset] [(.int (7 : Int32)), (.int ((md.toUInt32 >>> ((16 : Int32) &&& 31).toUInt32).toInt32))])) _
      refine XS.iand X30.here hx rfl (hb hby at_108) rfl ?_
      show Steps p.tables e below (T30.setTop (mkF m 109 #[.val (.int pk), .val (.int qq), .val (.int md), .val (.int d0), .val (.int u1), .val (.int u2), .val (.int nn), .val (.ref b25), .val (.ref x30), .unset, .unset, .unset, .unset, .unset, .unset] [(.int (((md.toUInt32 >>> ((16 : Int32) &&& 31).toUInt32).toInt32) &&& (7 : Int32)))])) _
      refine XS.istore X30.here hx rfl (hb hby at_109) rfl (l' := #[.val (.int pk), .val (.int qq), .val (.int md), .val (.int d0), .val (.int u1), .val (.int u2), .val (.int nn), .val (.ref b25), .val (.ref x30), .val (.int (((md.toUInt32 >>> ((16 : Int32) &&& 31).toUInt32).toInt32) &&& (7 : Int32))), .unset, .unset, .unset, .unset, .unset]) rfl ?_
      show Steps p.tables e below (T30.setTop (mkF m 111 #[.val (.int pk), .val (.int qq), .val (.int md), .val (.int d0), .val (.int u1), .val (.int u2), .val (.int nn), .val (.ref b25), .val (.ref x30), .val (.int (((md.toUInt32 >>> ((16 : Int32) &&& 31).toUInt32).toInt32) &&& (7 : Int32))), .unset, .unset, .unset, .unset, .unset] [])) _
      refine XS.iload X30.here hx rfl (hb hby at_111) rfl ?_
      show Steps p.tables e below (T30.setTop (mkF m 113 #[.val (.int pk), .val (.int qq), .val (.int md), .val (.int d0), .val (.int u1), .val (.int u2), .val (.int nn), .val (.ref b25), .val (.ref x30), .val (.int (((md.toUInt32 >>> ((16 : Int32) &&& 31).toUInt32).toInt32) &&& (7 : Int32))), .unset, .unset, .unset, .unset, .unset] [(.int (((md.toUInt32 >>> ((16 : Int32) &&& 31).toUInt32).toInt32) &&& (7 : Int32)))])) _
      refine XS.iloadN X30.here hx rfl (hb hby at_113) rfl ?_
      show Steps p.tables e below (T30.setTop (mkF m 114 #[.val (.int pk), .val (.int qq), .val (.int md), .val (.int d0), .val (.int u1), .val (.int u2), .val (.int nn), .val (.ref b25), .val (.ref x30), .val (.int (((md.toUInt32 >>> ((16 : Int32) &&& 31).toUInt32).toInt32) &&& (7 : Int32))), .unset, .unset, .unset, .unset, .unset] [(.int md), (.int (((md.toUInt32 >>> ((16 : Int32) &&& 31).toUInt32).toInt32) &&& (7 : Int32)))])) _
      refine XS.bipush X30.here hx rfl (hb hby at_114) ?_
      show Steps p.tables e below (T30.setTop (mkF m 116 #[.val (.int pk), .val (.int qq), .val (.int md), .val (.int d0), .val (.int u1), .val (.int u2), .val (.int nn), .val (.ref b25), .val (.ref x30), .val (.int (((md.toUInt32 >>> ((16 : Int32) &&& 31).toUInt32).toInt32) &&& (7 : Int32))), .unset, .unset, .unset, .unset, .unset] [(.int (19 : Int32)), (.int md), (.int (((md.toUInt32 >>> ((16 : Int32) &&& 31).toUInt32).toInt32) &&& (7 : Int32)))])) _
      refine XS.iushr X30.here hx rfl (hb hby at_116) rfl ?_
      show Steps p.tables e below (T30.setTop (mkF m 117 #[.val (.int pk), .val (.int qq), .val (.int md), .val (.int d0), .val (.int u1), .val (.int u2), .val (.int nn), .val (.ref b25), .val (.ref x30), .val (.int (((md.toUInt32 >>> ((16 : Int32) &&& 31).toUInt32).toInt32) &&& (7 : Int32))), .unset, .unset, .unset, .unset, .unset] [(.int ((md.toUInt32 >>> ((19 : Int32) &&& 31).toUInt32).toInt32)), (.int (((md.toUInt32 >>> ((16 : Int32) &&& 31).toUInt32).toInt32) &&& (7 : Int32)))])) _
      refine XS.bipush X30.here hx rfl (hb hby at_117) ?_
      show Steps p.tables e below (T30.setTop (mkF m 119 #[.val (.int pk), .val (.int qq), .val (.int md), .val (.int d0), .val (.int u1), .val (.int u2), .val (.int nn), .val (.ref b25), .val (.ref x30), .val (.int (((md.toUInt32 >>> ((16 : Int32) &&& 31).toUInt32).toInt32) &&& (7 : Int32))), .unset, .unset, .unset, .unset, .unset] [(.int (7 : Int32)), (.int ((md.toUInt32 >>> ((19 : Int32) &&& 31).toUInt32).toInt32)), (.int (((md.toUInt32 >>> ((16 : Int32) &&& 31).toUInt32).toInt32) &&& (7 : Int32)))])) _
      refine XS.iand X30.here hx rfl (hb hby at_119) rfl ?_
      show Steps p.tables e below (T30.setTop (mkF m 120 #[.val (.int pk), .val (.int qq), .val (.int md), .val (.int d0), .val (.int u1), .val (.int u2), .val (.int nn), .val (.ref b25), .val (.ref x30), .val (.int (((md.toUInt32 >>> ((16 : Int32) &&& 31).toUInt32).toInt32) &&& (7 : Int32))), .unset, .unset, .unset, .unset, .unset] [(.int (((md.toUInt32 >>> ((19 : Int32) &&& 31).toUInt32).toInt32) &&& (7 : Int32))), (.int (((md.toUInt32 >>> ((16 : Int32) &&& 31).toUInt32).toInt32) &&& (7 : Int32)))])) _
      refine XS.iadd X30.here hx rfl (hb hby at_120) rfl ?_
      show Steps p.tables e below (T30.setTop (mkF m 121 #[.val (.int pk), .val (.int qq), .val (.int md), .val (.int d0), .val (.int u1), .val (.int u2), .val (.int nn), .val (.ref b25), .val (.ref x30), .val (.int (((md.toUInt32 >>> ((16 : Int32) &&& 31).toUInt32).toInt32) &&& (7 : Int32))), .unset, .unset, .unset, .unset, .unset] [(.int ((((md.toUInt32 >>> ((16 : Int32) &&& 31).toUInt32).toInt32) &&& (7 : Int32)) + (((md.toUInt32 >>> ((19 : Int32) &&& 31).toUInt32).toInt32) &&& (7 : Int32))))])) _
      refine XS.istore X30.here hx rfl (hb hby at_121) rfl (l' := #[.val (.int pk), .val (.int qq), .val (.int md), .val (.int d0), .val (.int u1), .val (.int u2), .val (.int nn), .val (.ref b25), .val (.ref x30), .val (.int (((md.toUInt32 >>> ((16 : Int32) &&& 31).toUInt32).toInt32) &&& (7 : Int32))), .val (.int ((((md.toUInt32 >>> ((16 : Int32) &&& 31).toUInt32).toInt32) &&& (7 : Int32)) + (((md.toUInt32 >>> ((19 : Int32) &&& 31).toUInt32).toInt32) &&& (7 : Int32)))), .unset, .unset, .unset, .unset]) rfl ?_
      show Steps p.tables e below (T30.setTop (mkF m 123 #[.val (.int pk), .val (.int qq), .val (.int md), .val (.int d0), .val (.int u1), .val (.int u2), .val (.int nn), .val (.ref b25), .val (.ref x30), .val (.int (((md.toUInt32 >>> ((16 : Int32) &&& 31).toUInt32).toInt32) &&& (7 : Int32))), .val (.int ((((md.toUInt32 >>> ((16 : Int32) &&& 31).toUInt32).toInt32) &&& (7 : Int32)) + (((md.toUInt32 >>> ((19 : Int32) &&& 31).toUInt32).toInt32) &&& (7 : Int32)))), .unset, .unset, .unset, .unset] [])) _
      refine XS.iloadN X30.here hx rfl (hb hby at_123) rfl ?_
      show Steps p.tables e below (T30.setTop (mkF m 124 #[.val (.int pk), .val (.int qq), .val (.int md), .val (.int d0), .val (.int u1), .val (.int u2), .val (.int nn), .val (.ref b25), .val (.ref x30), .val (.int (((md.toUInt32 >>> ((16 : Int32) &&& 31).toUInt32).toInt32) &&& (7 : Int32))), .val (.int ((((md.toUInt32 >>> ((16 : Int32) &&& 31).toUInt32).toInt32) &&& (7 : Int32)) + (((md.toUInt32 >>> ((19 : Int32) &&& 31).toUInt32).toInt32) &&& (7 : Int32)))), .unset, .unset, .unset, .unset] [(.int md)])) _
      refine XS.iconst X30.here hx rfl (hb hby at_124) ?_
      show Steps p.tables e below (T30.setTop (mkF m 125 #[.val (.int pk), .val (.int qq), .val (.int md), .val (.int d0), .val (.int u1), .val (.int u2), .val (.int nn), .val (.ref b25), .val (.ref x30), .val (.int (((md.toUInt32 >>> ((16 : Int32) &&& 31).toUInt32).toInt32) &&& (7 : Int32))), .val (.int ((((md.toUInt32 >>> ((16 : Int32) &&& 31).toUInt32).toInt32) &&& (7 : Int32)) + (((md.toUInt32 >>> ((19 : Int32) &&& 31).toUInt32).toInt32) &&& (7 : Int32)))), .unset, .unset, .unset, .unset] [(.int (3 : Int32)), (.int md)])) _
      refine XS.iand X30.here hx rfl (hb hby at_125) rfl ?_
      show Steps p.tables e below (T30.setTop (mkF m 126 #[.val (.int pk), .val (.int qq), .val (.int md), .val (.int d0), .val (.int u1), .val (.int u2), .val (.int nn), .val (.ref b25), .val (.ref x30), .val (.int (((md.toUInt32 >>> ((16 : Int32) &&& 31).toUInt32).toInt32) &&& (7 : Int32))), .val (.int ((((md.toUInt32 >>> ((16 : Int32) &&& 31).toUInt32).toInt32) &&& (7 : Int32)) + (((md.toUInt32 >>> ((19 : Int32) &&& 31).toUInt32).toInt32) &&& (7 : Int32)))), .unset, .unset, .unset, .unset] [(.int (md &&& (3 : Int32)))])) _
      refine XS.istore X30.here hx rfl (hb hby at_126) rfl (l' := #[.val (.int pk), .val (.int qq), .val (.int md), .val (.int d0), .val (.int u1), .val (.int u2), .val (.int nn), .val (.ref b25), .val (.ref x30), .val (.int (((md.toUInt32 >>> ((16 : Int32) &&& 31).toUInt32).toInt32) &&& (7 : Int32))), .val (.int ((((md.toUInt32 >>> ((16 : Int32) &&& 31).toUInt32).toInt32) &&& (7 : Int32)) + (((md.toUInt32 >>> ((19 : Int32) &&& 31).toUInt32).toInt32) &&& (7 : Int32)))), .val (.int (md &&& (3 : Int32))), .unset, .unset, .unset]) rfl ?_
      exact kk_)
    obtain ⟨cc, sl42_0, hv42, osl42_0, J42⟩ : ∃ (cc : Int32) (sl42_0 : Slot), (((md &&& (3 : Int32)) = (0 : Int32) ∧ cc = qq) ∨ (¬ ((md &&& (3 : Int32)) = (0 : Int32)) ∧ (md &&& (3 : Int32)) = (1 : Int32) ∧ cc = (qq &&& (127 : Int32))) ∨ (¬ ((md &&& (3 : Int32)) = (0 : Int32)) ∧ ¬ ((md &&& (3 : Int32)) = (1 : Int32)) ∧ (md &&& (3 : Int32)) = (2 : Int32) ∧ (qq &&& (3 : Int32)) = (0 : Int32) ∧ cc = d0) ∨ (¬ ((md &&& (3 : Int32)) = (0 : Int32)) ∧ ¬ ((md &&& (3 : Int32)) = (1 : Int32)) ∧ (md &&& (3 : Int32)) = (2 : Int32) ∧ ¬ ((qq &&& (3 : Int32)) = (0 : Int32)) ∧ (qq &&& (3 : Int32)) = (1 : Int32) ∧ cc = u1) ∨ (¬ ((md &&& (3 : Int32)) = (0 : Int32)) ∧ ¬ ((md &&& (3 : Int32)) = (1 : Int32)) ∧ (md &&& (3 : Int32)) = (2 : Int32) ∧ ¬ ((qq &&& (3 : Int32)) = (0 : Int32)) ∧ ¬ ((qq &&& (3 : Int32)) = (1 : Int32)) ∧ (qq &&& (3 : Int32)) = (2 : Int32) ∧ cc = u2) ∨ (¬ ((md &&& (3 : Int32)) = (0 : Int32)) ∧ ¬ ((md &&& (3 : Int32)) = (1 : Int32)) ∧ (md &&& (3 : Int32)) = (2 : Int32) ∧ ¬ ((qq &&& (3 : Int32)) = (0 : Int32)) ∧ ¬ ((qq &&& (3 : Int32)) = (1 : Int32)) ∧ ¬ ((qq &&& (3 : Int32)) = (2 : Int32)) ∧ cc = (d0 + (64 : Int32))) ∨ (¬ ((md &&& (3 : Int32)) = (0 : Int32)) ∧ ¬ ((md &&& (3 : Int32)) = (1 : Int32)) ∧ ¬ ((md &&& (3 : Int32)) = (2 : Int32)) ∧ cc = ((qq &&& (511 : Int32)) - (192 : Int32)))) ∧ One sl42_0 ∧ own_Go p e below (T30.setTop (mkF m 128 #[.val (.int pk), .val (.int qq), .val (.int md), .val (.int d0), .val (.int u1), .val (.int u2), .val (.int nn), .val (.ref b25), .val (.ref x30), .val (.int (((md.toUInt32 >>> ((16 : Int32) &&& 31).toUInt32).toInt32) &&& (7 : Int32))), .val (.int ((((md.toUInt32 >>> ((16 : Int32) &&& 31).toUInt32).toInt32) &&& (7 : Int32)) + (((md.toUInt32 >>> ((19 : Int32) &&& 31).toUInt32).toInt32) &&& (7 : Int32)))), .val (.int (md &&& (3 : Int32))), .unset, .unset, .unset] [])) (T30.setTop (mkF m 216 #[.val (.int pk), .val (.int qq), .val (.int md), .val (.int d0), .val (.int u1), .val (.int u2), .val (.int nn), .val (.ref b25), .val (.ref x30), .val (.int (((md.toUInt32 >>> ((16 : Int32) &&& 31).toUInt32).toInt32) &&& (7 : Int32))), .val (.int ((((md.toUInt32 >>> ((16 : Int32) &&& 31).toUInt32).toInt32) &&& (7 : Int32)) + (((md.toUInt32 >>> ((19 : Int32) &&& 31).toUInt32).toInt32) &&& (7 : Int32)))), .val (.int (md &&& (3 : Int32))), .val (.int cc), sl42_0, .unset] [])) := by
      have P43 : own_Go p e below (T30.setTop (mkF m 128 #[.val (.int pk), .val (.int qq), .val (.int md), .val (.int d0), .val (.int u1), .val (.int u2), .val (.int nn), .val (.ref b25), .val (.ref x30), .val (.int (((md.toUInt32 >>> ((16 : Int32) &&& 31).toUInt32).toInt32) &&& (7 : Int32))), .val (.int ((((md.toUInt32 >>> ((16 : Int32) &&& 31).toUInt32).toInt32) &&& (7 : Int32)) + (((md.toUInt32 >>> ((19 : Int32) &&& 31).toUInt32).toInt32) &&& (7 : Int32)))), .val (.int (md &&& (3 : Int32))), .unset, .unset, .unset] [])) (T30.setTop (mkF m 128 #[.val (.int pk), .val (.int qq), .val (.int md), .val (.int d0), .val (.int u1), .val (.int u2), .val (.int nn), .val (.ref b25), .val (.ref x30), .val (.int (((md.toUInt32 >>> ((16 : Int32) &&& 31).toUInt32).toInt32) &&& (7 : Int32))), .val (.int ((((md.toUInt32 >>> ((16 : Int32) &&& 31).toUInt32).toInt32) &&& (7 : Int32)) + (((md.toUInt32 >>> ((19 : Int32) &&& 31).toUInt32).toInt32) &&& (7 : Int32)))), .val (.int (md &&& (3 : Int32))), .unset, .unset, .unset] [])) := fun t_ k_ => k_
      have P44 := own_step (C := T30.setTop (mkF m 130 #[.val (.int pk), .val (.int qq), .val (.int md), .val (.int d0), .val (.int u1), .val (.int u2), .val (.int nn), .val (.ref b25), .val (.ref x30), .val (.int (((md.toUInt32 >>> ((16 : Int32) &&& 31).toUInt32).toInt32) &&& (7 : Int32))), .val (.int ((((md.toUInt32 >>> ((16 : Int32) &&& 31).toUInt32).toInt32) &&& (7 : Int32)) + (((md.toUInt32 >>> ((19 : Int32) &&& 31).toUInt32).toInt32) &&& (7 : Int32)))), .val (.int (md &&& (3 : Int32))), .unset, .unset, .unset] [(.int (md &&& (3 : Int32)))])) P43 (by
        intro tt_ kk_
        refine XS.iload X30.here hx rfl (hb hby at_128) rfl ?_
        exact kk_)
      by_cases c45 : (md &&& (3 : Int32)) = (0 : Int32)
      · have P46 := own_step (C := T30.setTop (mkF m 133 #[.val (.int pk), .val (.int qq), .val (.int md), .val (.int d0), .val (.int u1), .val (.int u2), .val (.int nn), .val (.ref b25), .val (.ref x30), .val (.int (((md.toUInt32 >>> ((16 : Int32) &&& 31).toUInt32).toInt32) &&& (7 : Int32))), .val (.int ((((md.toUInt32 >>> ((16 : Int32) &&& 31).toUInt32).toInt32) &&& (7 : Int32)) + (((md.toUInt32 >>> ((19 : Int32) &&& 31).toUInt32).toInt32) &&& (7 : Int32)))), .val (.int (md &&& (3 : Int32))), .unset, .unset, .unset] [])) P44 (by
          intro tt_ kk_
          refine XS.ifNo X30.here hx rfl (hb hby at_130) rfl ((if0 _ _).trans (teq c45).2) ?_
          exact kk_)
        have P47 := own_step (C := T30.setTop (mkF m 216 #[.val (.int pk), .val (.int qq), .val (.int md), .val (.int d0), .val (.int u1), .val (.int u2), .val (.int nn), .val (.ref b25), .val (.ref x30), .val (.int (((md.toUInt32 >>> ((16 : Int32) &&& 31).toUInt32).toInt32) &&& (7 : Int32))), .val (.int ((((md.toUInt32 >>> ((16 : Int32) &&& 31).toUInt32).toInt32) &&& (7 : Int32)) + (((md.toUInt32 >>> ((19 : Int32) &&& 31).toUInt32).toInt32) &&& (7 : Int32)))), .val (.int (md &&& (3 : Int32))), .val (.int qq), .unset, .unset] [])) P46 (by
          intro tt_ kk_
          refine XS.iloadN X30.here hx rfl (hb hby at_133) rfl ?_
          show Steps p.tables e below (T30.setTop (mkF m 134 #[.val (.int pk), .val (.int qq), .val (.int md), .val (.int d0), .val (.int u1), .val (.int u2), .val (.int nn), .val (.ref b25), .val (.ref x30), .val (.int (((md.toUInt32 >>> ((16 : Int32) &&& 31).toUInt32).toInt32) &&& (7 : Int32))), .val (.int ((((md.toUInt32 >>> ((16 : Int32) &&& 31).toUInt32).toInt32) &&& (7 : Int32)) + (((md.toUInt32 >>> ((19 : Int32) &&& 31).toUInt32).toInt32) &&& (7 : Int32)))), .val (.int (md &&& (3 : Int32))), .unset, .unset, .unset] [(.int qq)])) _
          refine XS.istore X30.here hx rfl (hb hby at_134) rfl (l' := #[.val (.int pk), .val (.int qq), .val (.int md), .val (.int d0), .val (.int u1), .val (.int u2), .val (.int nn), .val (.ref b25), .val (.ref x30), .val (.int (((md.toUInt32 >>> ((16 : Int32) &&& 31).toUInt32).toInt32) &&& (7 : Int32))), .val (.int ((((md.toUInt32 >>> ((16 : Int32) &&& 31).toUInt32).toInt32) &&& (7 : Int32)) + (((md.toUInt32 >>> ((19 : Int32) &&& 31).toUInt32).toInt32) &&& (7 : Int32)))), .val (.int (md &&& (3 : Int32))), .val (.int qq), .unset, .unset]) rfl ?_
          show Steps p.tables e below (T30.setTop (mkF m 136 #[.val (.int pk), .val (.int qq), .val (.int md), .val (.int d0), .val (.int u1), .val (.int u2), .val (.int nn), .val (.ref b25), .val (.ref x30), .val (.int (((md.toUInt32 >>> ((16 : Int32) &&& 31).toUInt32).toInt32) &&& (7 : Int32))), .val (.int ((((md.toUInt32 >>> ((16 : Int32) &&& 31).toUInt32).toInt32) &&& (7 : Int32)) + (((md.toUInt32 >>> ((19 : Int32) &&& 31).toUInt32).toInt32) &&& (7 : Int32)))), .val (.int (md &&& (3 : Int32))), .val (.int qq), .unset, .unset] [])) _
          refine XS.goto X30.here hx rfl (pc0 := 136) (pc' := 216) rfl (hb hby at_136) (by decide) (by decide) ?_
          exact kk_)
        exact ⟨qq, .unset, Or.inl ⟨c45, rfl⟩, One.u, P47⟩
      · have P48 := own_step (C := T30.setTop (mkF m 139 #[.val (.int pk), .val (.int qq), .val (.int md), .val (.int d0), .val (.int u1), .val (.int u2), .val (.int nn), .val (.ref b25), .val (.ref x30), .val (.int (((md.toUInt32 >>> ((16 : Int32) &&& 31).toUInt32).toInt32) &&& (7 : Int32))), .val (.int ((((md.toUInt32 >>> ((16 : Int32) &&& 31).toUInt32).toInt32) &&& (7 : Int32)) + (((md.toUInt32 >>> ((19 : Int32) &&& 31).toUInt32).toInt32) &&& (7 : Int32)))), .val (.int (md &&& (3 : Int32))), .unset, .unset, .unset] [])) P44 (by
          intro tt_ kk_
          refine XS.ifYes X30.here hx rfl (pc0 := 130) (pc' := 139) rfl (hb hby at_130) rfl ((if0 _ _).trans (feq c45).2) (by decide) (by decide) ?_
          exact kk_)
        have P49 := own_step (C := T30.setTop (mkF m 142 #[.val (.int pk), .val (.int qq), .val (.int md), .val (.int d0), .val (.int u1), .val (.int u2), .val (.int nn), .val (.ref b25), .val (.ref x30), .val (.int (((md.toUInt32 >>> ((16 : Int32) &&& 31).toUInt32).toInt32) &&& (7 : Int32))), .val (.int ((((md.toUInt32 >>> ((16 : Int32) &&& 31).toUInt32).toInt32) &&& (7 : Int32)) + (((md.toUInt32 >>> ((19 : Int32) &&& 31).toUInt32).toInt32) &&& (7 : Int32)))), .val (.int (md &&& (3 : Int32))), .unset, .unset, .unset] [(.int (1 : Int32)), (.int (md &&& (3 : Int32)))])) P48 (by
          intro tt_ kk_
          refine XS.iload X30.here hx rfl (hb hby at_139) rfl ?_
          show Steps p.tables e below (T30.setTop (mkF m 141 #[.val (.int pk), .val (.int qq), .val (.int md), .val (.int d0), .val (.int u1), .val (.int u2), .val (.int nn), .val (.ref b25), .val (.ref x30), .val (.int (((md.toUInt32 >>> ((16 : Int32) &&& 31).toUInt32).toInt32) &&& (7 : Int32))), .val (.int ((((md.toUInt32 >>> ((16 : Int32) &&& 31).toUInt32).toInt32) &&& (7 : Int32)) + (((md.toUInt32 >>> ((19 : Int32) &&& 31).toUInt32).toInt32) &&& (7 : Int32)))), .val (.int (md &&& (3 : Int32))), .unset, .unset, .unset] [(.int (md &&& (3 : Int32)))])) _
          refine XS.iconst X30.here hx rfl (hb hby at_141) ?_
          exact kk_)
        by_cases c50 : (md &&& (3 : Int32)) = (1 : Int32)
        · have P51 := own_step (C := T30.setTop (mkF m 145 #[.val (.int pk), .val (.int qq), .val (.int md), .val (.int d0), .val (.int u1), .val (.int u2), .val (.int nn), .val (.ref b25), .val (.ref x30), .val (.int (((md.toUInt32 >>> ((16 : Int32) &&& 31).toUInt32).toInt32) &&& (7 : Int32))), .val (.int ((((md.toUInt32 >>> ((16 : Int32) &&& 31).toUInt32).toInt32) &&& (7 : Int32)) + (((md.toUInt32 >>> ((19 : Int32) &&& 31).toUInt32).toInt32) &&& (7 : Int32)))), .val (.int (md &&& (3 : Int32))), .unset, .unset, .unset] [])) P49 (by
            intro tt_ kk_
            refine XS.icmpNo X30.here hx rfl (hb hby at_142) rfl (teq c50).2 ?_
            exact kk_)
          have P52 := own_step (C := T30.setTop (mkF m 216 #[.val (.int pk), .val (.int qq), .val (.int md), .val (.int d0), .val (.int u1), .val (.int u2), .val (.int nn), .val (.ref b25), .val (.ref x30), .val (.int (((md.toUInt32 >>> ((16 : Int32) &&& 31).toUInt32).toInt32) &&& (7 : Int32))), .val (.int ((((md.toUInt32 >>> ((16 : Int32) &&& 31).toUInt32).toInt32) &&& (7 : Int32)) + (((md.toUInt32 >>> ((19 : Int32) &&& 31).toUInt32).toInt32) &&& (7 : Int32)))), .val (.int (md &&& (3 : Int32))), .val (.int (qq &&& (127 : Int32))), .unset, .unset] [])) P51 (by
            intro tt_ kk_
            refine XS.iloadN X30.here hx rfl (hb hby at_145) rfl ?_
            show Steps p.tables e below (T30.setTop (mkF m 146 #[.val (.int pk), .val (.int qq), .val (.int md), .val (.int d0), .val (.int u1), .val (.int u2), .val (.int nn), .val (.ref b25), .val (.ref x30), .val (.int (((md.toUInt32 >>> ((16 : Int32) &&& 31).toUInt32).toInt32) &&& (7 : Int32))), .val (.int ((((md.toUInt32 >>> ((16 : Int32) &&& 31).toUInt32).toInt32) &&& (7 : Int32)) + (((md.toUInt32 >>> ((19 : Int32) &&& 31).toUInt32).toInt32) &&& (7 : Int32)))), .val (.int (md &&& (3 : Int32))), .unset, .unset, .unset] [(.int qq)])) _
            refine XS.bipush X30.here hx rfl (hb hby at_146) ?_
            show Steps p.tables e below (T30.setTop (mkF m 148 #[.val (.int pk), .val (.int qq), .val (.int md), .val (.int d0), .val (.int u1), .val (.int u2), .val (.int nn), .val (.ref b25), .val (.ref x30), .val (.int (((md.toUInt32 >>> ((16 : Int32) &&& 31).toUInt32).toInt32) &&& (7 : Int32))), .val (.int ((((md.toUInt32 >>> ((16 : Int32) &&& 31).toUInt32).toInt32) &&& (7 : Int32)) + (((md.toUInt32 >>> ((19 : Int32) &&& 31).toUInt32).toInt32) &&& (7 : Int32)))), .val (.int (md &&& (3 : Int32))), .unset, .unset, .unset] [(.int (127 : Int32)), (.int qq)])) _
            refine XS.iand X30.here hx rfl (hb hby at_148) rfl ?_
            show Steps p.tables e below (T30.setTop (mkF m 149 #[.val (.int pk), .val (.int qq), .val (.int md), .val (.int d0), .val (.int u1), .val (.int u2), .val (.int nn), .val (.ref b25), .val (.ref x30), .val (.int (((md.toUInt32 >>> ((16 : Int32) &&& 31).toUInt32).toInt32) &&& (7 : Int32))), .val (.int ((((md.toUInt32 >>> ((16 : Int32) &&& 31).toUInt32).toInt32) &&& (7 : Int32)) + (((md.toUInt32 >>> ((19 : Int32) &&& 31).toUInt32).toInt32) &&& (7 : Int32)))), .val (.int (md &&& (3 : Int32))), .unset, .unset, .unset] [(.int (qq &&& (127 : Int32)))])) _
            refine XS.istore X30.here hx rfl (hb hby at_149) rfl (l' := #[.val (.int pk), .val (.int qq), .val (.int md), .val (.int d0), .val (.int u1), .val (.int u2), .val (.int nn), .val (.ref b25), .val (.ref x30), .val (.int (((md.toUInt32 >>> ((16 : Int32) &&& 31).toUInt32).toInt32) &&& (7 : Int32))), .val (.int ((((md.toUInt32 >>> ((16 : Int32) &&& 31).toUInt32).toInt32) &&& (7 : Int32)) + (((md.toUInt32 >>> ((19 : Int32) &&& 31).toUInt32).toInt32) &&& (7 : Int32)))), .val (.int (md &&& (3 : Int32))), .val (.int (qq &&& (127 : Int32))), .unset, .unset]) rfl ?_
            show Steps p.tables e below (T30.setTop (mkF m 151 #[.val (.int pk), .val (.int qq), .val (.int md), .val (.int d0), .val (.int u1), .val (.int u2), .val (.int nn), .val (.ref b25), .val (.ref x30), .val (.int (((md.toUInt32 >>> ((16 : Int32) &&& 31).toUInt32).toInt32) &&& (7 : Int32))), .val (.int ((((md.toUInt32 >>> ((16 : Int32) &&& 31).toUInt32).toInt32) &&& (7 : Int32)) + (((md.toUInt32 >>> ((19 : Int32) &&& 31).toUInt32).toInt32) &&& (7 : Int32)))), .val (.int (md &&& (3 : Int32))), .val (.int (qq &&& (127 : Int32))), .unset, .unset] [])) _
            refine XS.goto X30.here hx rfl (pc0 := 151) (pc' := 216) rfl (hb hby at_151) (by decide) (by decide) ?_
            exact kk_)
          exact ⟨(qq &&& (127 : Int32)), .unset, Or.inr (Or.inl ⟨c45, c50, rfl⟩), One.u, P52⟩
        · have P53 := own_step (C := T30.setTop (mkF m 154 #[.val (.int pk), .val (.int qq), .val (.int md), .val (.int d0), .val (.int u1), .val (.int u2), .val (.int nn), .val (.ref b25), .val (.ref x30), .val (.int (((md.toUInt32 >>> ((16 : Int32) &&& 31).toUInt32).toInt32) &&& (7 : Int32))), .val (.int ((((md.toUInt32 >>> ((16 : Int32) &&& 31).toUInt32).toInt32) &&& (7 : Int32)) + (((md.toUInt32 >>> ((19 : Int32) &&& 31).toUInt32).toInt32) &&& (7 : Int32)))), .val (.int (md &&& (3 : Int32))), .unset, .unset, .unset] [])) P49 (by
            intro tt_ kk_
            refine XS.icmpYes X30.here hx rfl (pc0 := 142) (pc' := 154) rfl (hb hby at_142) rfl (feq c50).2 (by decide) (by decide) ?_
            exact kk_)
          have P54 := own_step (C := T30.setTop (mkF m 157 #[.val (.int pk), .val (.int qq), .val (.int md), .val (.int d0), .val (.int u1), .val (.int u2), .val (.int nn), .val (.ref b25), .val (.ref x30), .val (.int (((md.toUInt32 >>> ((16 : Int32) &&& 31).toUInt32).toInt32) &&& (7 : Int32))), .val (.int ((((md.toUInt32 >>> ((16 : Int32) &&& 31).toUInt32).toInt32) &&& (7 : Int32)) + (((md.toUInt32 >>> ((19 : Int32) &&& 31).toUInt32).toInt32) &&& (7 : Int32)))), .val (.int (md &&& (3 : Int32))), .unset, .unset, .unset] [(.int (2 : Int32)), (.int (md &&& (3 : Int32)))])) P53 (by
            intro tt_ kk_
            refine XS.iload X30.here hx rfl (hb hby at_154) rfl ?_
            show Steps p.tables e below (T30.setTop (mkF m 156 #[.val (.int pk), .val (.int qq), .val (.int md), .val (.int d0), .val (.int u1), .val (.int u2), .val (.int nn), .val (.ref b25), .val (.ref x30), .val (.int (((md.toUInt32 >>> ((16 : Int32) &&& 31).toUInt32).toInt32) &&& (7 : Int32))), .val (.int ((((md.toUInt32 >>> ((16 : Int32) &&& 31).toUInt32).toInt32) &&& (7 : Int32)) + (((md.toUInt32 >>> ((19 : Int32) &&& 31).toUInt32).toInt32) &&& (7 : Int32)))), .val (.int (md &&& (3 : Int32))), .unset, .unset, .unset] [(.int (md &&& (3 : Int32)))])) _
            refine XS.iconst X30.here hx rfl (hb hby at_156) ?_
            exact kk_)
          by_cases c55 : (md &&& (3 : Int32)) = (2 : Int32)
          · have P56 := own_step (C := T30.setTop (mkF m 160 #[.val (.int pk), .val (.int qq), .val (.int md), .val (.int d0), .val (.int u1), .val (.int u2), .val (.int nn), .val (.ref b25), .val (.ref x30), .val (.int (((md.toUInt32 >>> ((16 : Int32) &&& 31).toUInt32).toInt32) &&& (7 : Int32))), .val (.int ((((md.toUInt32 >>> ((16 : Int32) &&& 31).toUInt32).toInt32) &&& (7 : Int32)) + (((md.toUInt32 >>> ((19 : Int32) &&& 31).toUInt32).toInt32) &&& (7 : Int32)))), .val (.int (md &&& (3 : Int32))), .unset, .unset, .unset] [])) P54 (by
              intro tt_ kk_
              refine XS.icmpNo X30.here hx rfl (hb hby at_157) rfl (teq c55).2 ?_
              exact kk_)
            have P57 := own_step (C := T30.setTop (mkF m 167 #[.val (.int pk), .val (.int qq), .val (.int md), .val (.int d0), .val (.int u1), .val (.int u2), .val (.int nn), .val (.ref b25), .val (.ref x30), .val (.int (((md.toUInt32 >>> ((16 : Int32) &&& 31).toUInt32).toInt32) &&& (7 : Int32))), .val (.int ((((md.toUInt32 >>> ((16 : Int32) &&& 31).toUInt32).toInt32) &&& (7 : Int32)) + (((md.toUInt32 >>> ((19 : Int32) &&& 31).toUInt32).toInt32) &&& (7 : Int32)))), .val (.int (md &&& (3 : Int32))), .unset, .val (.int (qq &&& (3 : Int32))), .unset] [(.int (qq &&& (3 : Int32)))])) P56 (by
              intro tt_ kk_
              refine XS.iloadN X30.here hx rfl (hb hby at_160) rfl ?_
              show Steps p.tables e below (T30.setTop (mkF m 161 #[.val (.int pk), .val (.int qq), .val (.int md), .val (.int d0), .val (.int u1), .val (.int u2), .val (.int nn), .val (.ref b25), .val (.ref x30), .val (.int (((md.toUInt32 >>> ((16 : Int32) &&& 31).toUInt32).toInt32) &&& (7 : Int32))), .val (.int ((((md.toUInt32 >>> ((16 : Int32) &&& 31).toUInt32).toInt32) &&& (7 : Int32)) + (((md.toUInt32 >>> ((19 : Int32) &&& 31).toUInt32).toInt32) &&& (7 : Int32)))), .val (.int (md &&& (3 : Int32))), .unset, .unset, .unset] [(.int qq)])) _
              refine XS.iconst X30.here hx rfl (hb hby at_161) ?_
              show Steps p.tables e below (T30.setTop (mkF m 162 #[.val (.int pk), .val (.int qq), .val (.int md), .val (.int d0), .val (.int u1), .val (.int u2), .val (.int nn), .val (.ref b25), .val (.ref x30), .val (.int (((md.toUInt32 >>> ((16 : Int32) &&& 31).toUInt32).toInt32) &&& (7 : Int32))), .val (.int ((((md.toUInt32 >>> ((16 : Int32) &&& 31).toUInt32).toInt32) &&& (7 : Int32)) + (((md.toUInt32 >>> ((19 : Int32) &&& 31).toUInt32).toInt32) &&& (7 : Int32)))), .val (.int (md &&& (3 : Int32))), .unset, .unset, .unset] [(.int (3 : Int32)), (.int qq)])) _
              refine XS.iand X30.here hx rfl (hb hby at_162) rfl ?_
              show Steps p.tables e below (T30.setTop (mkF m 163 #[.val (.int pk), .val (.int qq), .val (.int md), .val (.int d0), .val (.int u1), .val (.int u2), .val (.int nn), .val (.ref b25), .val (.ref x30), .val (.int (((md.toUInt32 >>> ((16 : Int32) &&& 31).toUInt32).toInt32) &&& (7 : Int32))), .val (.int ((((md.toUInt32 >>> ((16 : Int32) &&& 31).toUInt32).toInt32) &&& (7 : Int32)) + (((md.toUInt32 >>> ((19 : Int32) &&& 31).toUInt32).toInt32) &&& (7 : Int32)))), .val (.int (md &&& (3 : Int32))), .unset, .unset, .unset] [(.int (qq &&& (3 : Int32)))])) _
              refine XS.istore X30.here hx rfl (hb hby at_163) rfl (l' := #[.val (.int pk), .val (.int qq), .val (.int md), .val (.int d0), .val (.int u1), .val (.int u2), .val (.int nn), .val (.ref b25), .val (.ref x30), .val (.int (((md.toUInt32 >>> ((16 : Int32) &&& 31).toUInt32).toInt32) &&& (7 : Int32))), .val (.int ((((md.toUInt32 >>> ((16 : Int32) &&& 31).toUInt32).toInt32) &&& (7 : Int32)) + (((md.toUInt32 >>> ((19 : Int32) &&& 31).toUInt32).toInt32) &&& (7 : Int32)))), .val (.int (md &&& (3 : Int32))), .unset, .val (.int (qq &&& (3 : Int32))), .unset]) rfl ?_
              show Steps p.tables e below (T30.setTop (mkF m 165 #[.val (.int pk), .val (.int qq), .val (.int md), .val (.int d0), .val (.int u1), .val (.int u2), .val (.int nn), .val (.ref b25), .val (.ref x30), .val (.int (((md.toUInt32 >>> ((16 : Int32) &&& 31).toUInt32).toInt32) &&& (7 : Int32))), .val (.int ((((md.toUInt32 >>> ((16 : Int32) &&& 31).toUInt32).toInt32) &&& (7 : Int32)) + (((md.toUInt32 >>> ((19 : Int32) &&& 31).toUInt32).toInt32) &&& (7 : Int32)))), .val (.int (md &&& (3 : Int32))), .unset, .val (.int (qq &&& (3 : Int32))), .unset] [])) _
              refine XS.iload X30.here hx rfl (hb hby at_165) rfl ?_
              exact kk_)
            by_cases c58 : (qq &&& (3 : Int32)) = (0 : Int32)
            · have P59 := own_step (C := T30.setTop (mkF m 170 #[.val (.int pk), .val (.int qq), .val (.int md), .val (.int d0), .val (.int u1), .val (.int u2), .val (.int nn), .val (.ref b25), .val (.ref x30), .val (.int (((md.toUInt32 >>> ((16 : Int32) &&& 31).toUInt32).toInt32) &&& (7 : Int32))), .val (.int ((((md.toUInt32 >>> ((16 : Int32) &&& 31).toUInt32).toInt32) &&& (7 : Int32)) + (((md.toUInt32 >>> ((19 : Int32) &&& 31).toUInt32).toInt32) &&& (7 : Int32)))), .val (.int (md &&& (3 : Int32))), .unset, .val (.int (qq &&& (3 : Int32))), .unset] [])) P57 (by
                intro tt_ kk_
                refine XS.ifNo X30.here hx rfl (hb hby at_167) rfl ((if0 _ _).trans (teq c58).2) ?_
                exact kk_)
              have P60 := own_step (C := T30.setTop (mkF m 216 #[.val (.int pk), .val (.int qq), .val (.int md), .val (.int d0), .val (.int u1), .val (.int u2), .val (.int nn), .val (.ref b25), .val (.ref x30), .val (.int (((md.toUInt32 >>> ((16 : Int32) &&& 31).toUInt32).toInt32) &&& (7 : Int32))), .val (.int ((((md.toUInt32 >>> ((16 : Int32) &&& 31).toUInt32).toInt32) &&& (7 : Int32)) + (((md.toUInt32 >>> ((19 : Int32) &&& 31).toUInt32).toInt32) &&& (7 : Int32)))), .val (.int (md &&& (3 : Int32))), .val (.int d0), .val (.int (qq &&& (3 : Int32))), .unset] [])) P59 (by
                intro tt_ kk_
                refine XS.iloadN X30.here hx rfl (hb hby at_170) rfl ?_
                show Steps p.tables e below (T30.setTop (mkF m 171 #[.val (.int pk), .val (.int qq), .val (.int md), .val (.int d0), .val (.int u1), .val (.int u2), .val (.int nn), .val (.ref b25), .val (.ref x30), .val (.int (((md.toUInt32 >>> ((16 : Int32) &&& 31).toUInt32).toInt32) &&& (7 : Int32))), .val (.int ((((md.toUInt32 >>> ((16 : Int32) &&& 31).toUInt32).toInt32) &&& (7 : Int32)) + (((md.toUInt32 >>> ((19 : Int32) &&& 31).toUInt32).toInt32) &&& (7 : Int32)))), .val (.int (md &&& (3 : Int32))), .unset, .val (.int (qq &&& (3 : Int32))), .unset] [(.int d0)])) _
                refine XS.goto X30.here hx rfl (pc0 := 171) (pc' := 200) rfl (hb hby at_171) (by decide) (by decide) ?_
                show Steps p.tables e below (T30.setTop (mkF m 200 #[.val (.int pk), .val (.int qq), .val (.int md), .val (.int d0), .val (.int u1), .val (.int u2), .val (.int nn), .val (.ref b25), .val (.ref x30), .val (.int (((md.toUInt32 >>> ((16 : Int32) &&& 31).toUInt32).toInt32) &&& (7 : Int32))), .val (.int ((((md.toUInt32 >>> ((16 : Int32) &&& 31).toUInt32).toInt32) &&& (7 : Int32)) + (((md.toUInt32 >>> ((19 : Int32) &&& 31).toUInt32).toInt32) &&& (7 : Int32)))), .val (.int (md &&& (3 : Int32))), .unset, .val (.int (qq &&& (3 : Int32))), .unset] [(.int d0)])) _
                refine XS.istore X30.here hx rfl (hb hby at_200) rfl (l' := #[.val (.int pk), .val (.int qq), .val (.int md), .val (.int d0), .val (.int u1), .val (.int u2), .val (.int nn), .val (.ref b25), .val (.ref x30), .val (.int (((md.toUInt32 >>> ((16 : Int32) &&& 31).toUInt32).toInt32) &&& (7 : Int32))), .val (.int ((((md.toUInt32 >>> ((16 : Int32) &&& 31).toUInt32).toInt32) &&& (7 : Int32)) + (((md.toUInt32 >>> ((19 : Int32) &&& 31).toUInt32).toInt32) &&& (7 : Int32)))), .val (.int (md &&& (3 : Int32))), .val (.int d0), .val (.int (qq &&& (3 : Int32))), .unset]) rfl ?_
                show Steps p.tables e below (T30.setTop (mkF m 202 #[.val (.int pk), .val (.int qq), .val (.int md), .val (.int d0), .val (.int u1), .val (.int u2), .val (.int nn), .val (.ref b25), .val (.ref x30), .val (.int (((md.toUInt32 >>> ((16 : Int32) &&& 31).toUInt32).toInt32) &&& (7 : Int32))), .val (.int ((((md.toUInt32 >>> ((16 : Int32) &&& 31).toUInt32).toInt32) &&& (7 : Int32)) + (((md.toUInt32 >>> ((19 : Int32) &&& 31).toUInt32).toInt32) &&& (7 : Int32)))), .val (.int (md &&& (3 : Int32))), .val (.int d0), .val (.int (qq &&& (3 : Int32))), .unset] [])) _
                refine XS.goto X30.here hx rfl (pc0 := 202) (pc' := 216) rfl (hb hby at_202) (by decide) (by decide) ?_
                exact kk_)
              exact ⟨d0, .val (.int (qq &&& (3 : Int32))), Or.inr (Or.inr (Or.inl ⟨c45, c50, c55, c58, rfl⟩)), (One.val rfl), P60⟩
            · have P61 := own_step (C := T30.setTop (mkF m 174 #[.val (.int pk), .val (.int qq), .val (.int md), .val (.int d0), .val (.int u1), .val (.int u2), .val (.int nn), .val (.ref b25), .val (.ref x30), .val (.int (((md.toUInt32 >>> ((16 : Int32) &&& 31).toUInt32).toInt32) &&& (7 : Int32))), .val (.int ((((md.toUInt32 >>> ((16 : Int32) &&& 31).toUInt32).toInt32) &&& (7 : Int32)) + (((md.toUInt32 >>> ((19 : Int32) &&& 31).toUInt32).toInt32) &&& (7 : Int32)))), .val (.int (md &&& (3 : Int32))), .unset, .val (.int (qq &&& (3 : Int32))), .unset] [])) P57 (by
                intro tt_ kk_
                refine XS.ifYes X30.here hx rfl (pc0 := 167) (pc' := 174) rfl (hb hby at_167) rfl ((if0 _ _).trans (feq c58).2) (by decide) (by decide) ?_
                exact kk_)
              have P62 := own_step (C := T30.setTop (mkF m 177 #[.val (.int pk), .val (.int qq), .val (.int md), .val (.int d0), .val (.int u1), .val (.int u2), .val (.int nn), .val (.ref b25), .val (.ref x30), .val (.int (((md.toUInt32 >>> ((16 : Int32) &&& 31).toUInt32).toInt32) &&& (7 : Int32))), .val (.int ((((md.toUInt32 >>> ((16 : Int32) &&& 31).toUInt32).toInt32) &&& (7 : Int32)) + (((md.toUInt32 >>> ((19 : Int32) &&& 31).toUInt32).toInt32) &&& (7 : Int32)))), .val (.int (md &&& (3 : Int32))), .unset, .val (.int (qq &&& (3 : Int32))), .unset] [(.int (1 : Int32)), (.int (qq &&& (3 : Int32)))])) P61 (by
                intro tt_ kk_
                refine XS.iload X30.here hx rfl (hb hby at_174) rfl ?_
                show Steps p.tables e below (T30.setTop (mkF m 176 #[.val (.int pk), .val (.int qq), .val (.int md), .val (.int d0), .val (.int u1), .val (.int u2), .val (.int nn), .val (.ref b25), .val (.ref x30), .val (.int (((md.toUInt32 >>> ((16 : Int32) &&& 31).toUInt32).toInt32) &&& (7 : Int32))), .val (.int ((((md.toUInt32 >>> ((16 : Int32) &&& 31).toUInt32).toInt32) &&& (7 : Int32)) + (((md.toUInt32 >>> ((19 : Int32) &&& 31).toUInt32).toInt32) &&& (7 : Int32)))), .val (.int (md &&& (3 : Int32))), .unset, .val (.int (qq &&& (3 : Int32))), .unset] [(.int (qq &&& (3 : Int32)))])) _
                refine XS.iconst X30.here hx rfl (hb hby at_176) ?_
                exact kk_)
              by_cases c63 : (qq &&& (3 : Int32)) = (1 : Int32)
              · have P64 := own_step (C := T30.setTop (mkF m 180 #[.val (.int pk), .val (.int qq), .val (.int md), .val (.int d0), .val (.int u1), .val (.int u2), .val (.int nn), .val (.ref b25), .val (.ref x30), .val (.int (((md.toUInt32 >>> ((16 : Int32) &&& 31).toUInt32).toInt32) &&& (7 : Int32))), .val (.int ((((md.toUInt32 >>> ((16 : Int32) &&& 31).toUInt32).toInt32) &&& (7 : Int32)) + (((md.toUInt32 >>> ((19 : Int32) &&& 31).toUInt32).toInt32) &&& (7 : Int32)))), .val (.int (md &&& (3 : Int32))), .unset, .val (.int (qq &&& (3 : Int32))), .unset] [])) P62 (by
                  intro tt_ kk_
                  refine XS.icmpNo X30.here hx rfl (hb hby at_177) rfl (teq c63).2 ?_
                  exact kk_)
                have P65 := own_step (C := T30.setTop (mkF m 216 #[.val (.int pk), .val (.int qq), .val (.int md), .val (.int d0), .val (.int u1), .val (.int u2), .val (.int nn), .val (.ref b25), .val (.ref x30), .val (.int (((md.toUInt32 >>> ((16 : Int32) &&& 31).toUInt32).toInt32) &&& (7 : Int32))), .val (.int ((((md.toUInt32 >>> ((16 : Int32) &&& 31).toUInt32).toInt32) &&& (7 : Int32)) + (((md.toUInt32 >>> ((19 : Int32) &&& 31).toUInt32).toInt32) &&& (7 : Int32)))), .val (.int (md &&& (3 : Int32))), .val (.int u1), .val (.int (qq &&& (3 : Int32))), .unset] [])) P64 (by
                  intro tt_ kk_
                  refine XS.iload X30.here hx rfl (hb hby at_180) rfl ?_
                  show Steps p.tables e below (T30.setTop (mkF m 182 #[.val (.int pk), .val (.int qq), .val (.int md), .val (.int d0), .val (.int u1), .val (.int u2), .val (.int nn), .val (.ref b25), .val (.ref x30), .val (.int (((md.toUInt32 >>> ((16 : Int32) &&& 31).toUInt32).toInt32) &&& (7 : Int32))), .val (.int ((((md.toUInt32 >>> ((16 : Int32) &&& 31).toUInt32).toInt32) &&& (7 : Int32)) + (((md.toUInt32 >>> ((19 : Int32) &&& 31).toUInt32).toInt32) &&& (7 : Int32)))), .val (.int (md &&& (3 : Int32))), .unset, .val (.int (qq &&& (3 : Int32))), .unset] [(.int u1)])) _
                  refine XS.goto X30.here hx rfl (pc0 := 182) (pc' := 200) rfl (hb hby at_182) (by decide) (by decide) ?_
                  show Steps p.tables e below (T30.setTop (mkF m 200 #[.val (.int pk), .val (.int qq), .val (.int md), .val (.int d0), .val (.int u1), .val (.int u2), .val (.int nn), .val (.ref b25), .val (.ref x30), .val (.int (((md.toUInt32 >>> ((16 : Int32) &&& 31).toUInt32).toInt32) &&& (7 : Int32))), .val (.int ((((md.toUInt32 >>> ((16 : Int32) &&& 31).toUInt32).toInt32) &&& (7 : Int32)) + (((md.toUInt32 >>> ((19 : Int32) &&& 31).toUInt32).toInt32) &&& (7 : Int32)))), .val (.int (md &&& (3 : Int32))), .unset, .val (.int (qq &&& (3 : Int32))), .unset] [(.int u1)])) _
                  refine XS.istore X30.here hx rfl (hb hby at_200) rfl (l' := #[.val (.int pk), .val (.int qq), .val (.int md), .val (.int d0), .val (.int u1), .val (.int u2), .val (.int nn), .val (.ref b25), .val (.ref x30), .val (.int (((md.toUInt32 >>> ((16 : Int32) &&& 31).toUInt32).toInt32) &&& (7 : Int32))), .val (.int ((((md.toUInt32 >>> ((16 : Int32) &&& 31).toUInt32).toInt32) &&& (7 : Int32)) + (((md.toUInt32 >>> ((19 : Int32) &&& 31).toUInt32).toInt32) &&& (7 : Int32)))), .val (.int (md &&& (3 : Int32))), .val (.int u1), .val (.int (qq &&& (3 : Int32))), .unset]) rfl ?_
                  show Steps p.tables e below (T30.setTop (mkF m 202 #[.val (.int pk), .val (.int qq), .val (.int md), .val (.int d0), .val (.int u1), .val (.int u2), .val (.int nn), .val (.ref b25), .val (.ref x30), .val (.int (((md.toUInt32 >>> ((16 : Int32) &&& 31).toUInt32).toInt32) &&& (7 : Int32))), .val (.int ((((md.toUInt32 >>> ((16 : Int32) &&& 31).toUInt32).toInt32) &&& (7 : Int32)) + (((md.toUInt32 >>> ((19 : Int32) &&& 31).toUInt32).toInt32) &&& (7 : Int32)))), .val (.int (md &&& (3 : Int32))), .val (.int u1), .val (.int (qq &&& (3 : Int32))), .unset] [])) _
                  refine XS.goto X30.here hx rfl (pc0 := 202) (pc' := 216) rfl (hb hby at_202) (by decide) (by decide) ?_
                  exact kk_)
                exact ⟨u1, .val (.int (qq &&& (3 : Int32))), Or.inr (Or.inr (Or.inr (Or.inl ⟨c45, c50, c55, c58, c63, rfl⟩))), (One.val rfl), P65⟩
              · have P66 := own_step (C := T30.setTop (mkF m 185 #[.val (.int pk), .val (.int qq), .val (.int md), .val (.int d0), .val (.int u1), .val (.int u2), .val (.int nn), .val (.ref b25), .val (.ref x30), .val (.int (((md.toUInt32 >>> ((16 : Int32) &&& 31).toUInt32).toInt32) &&& (7 : Int32))), .val (.int ((((md.toUInt32 >>> ((16 : Int32) &&& 31).toUInt32).toInt32) &&& (7 : Int32)) + (((md.toUInt32 >>> ((19 : Int32) &&& 31).toUInt32).toInt32) &&& (7 : Int32)))), .val (.int (md &&& (3 : Int32))), .unset, .val (.int (qq &&& (3 : Int32))), .unset] [])) P62 (by
                  intro tt_ kk_
                  refine XS.icmpYes X30.here hx rfl (pc0 := 177) (pc' := 185) rfl (hb hby at_177) rfl (feq c63).2 (by decide) (by decide) ?_
                  exact kk_)
                have P67 := own_step (C := T30.setTop (mkF m 188 #[.val (.int pk), .val (.int qq), .val (.int md), .val (.int d0), .val (.int u1), .val (.int u2), .val (.int nn), .val (.ref b25), .val (.ref x30), .val (.int (((md.toUInt32 >>> ((16 : Int32) &&& 31).toUInt32).toInt32) &&& (7 : Int32))), .val (.int ((((md.toUInt32 >>> ((16 : Int32) &&& 31).toUInt32).toInt32) &&& (7 : Int32)) + (((md.toUInt32 >>> ((19 : Int32) &&& 31).toUInt32).toInt32) &&& (7 : Int32)))), .val (.int (md &&& (3 : Int32))), .unset, .val (.int (qq &&& (3 : Int32))), .unset] [(.int (2 : Int32)), (.int (qq &&& (3 : Int32)))])) P66 (by
                  intro tt_ kk_
                  refine XS.iload X30.here hx rfl (hb hby at_185) rfl ?_
                  show Steps p.tables e below (T30.setTop (mkF m 187 #[.val (.int pk), .val (.int qq), .val (.int md), .val (.int d0), .val (.int u1), .val (.int u2), .val (.int nn), .val (.ref b25), .val (.ref x30), .val (.int (((md.toUInt32 >>> ((16 : Int32) &&& 31).toUInt32).toInt32) &&& (7 : Int32))), .val (.int ((((md.toUInt32 >>> ((16 : Int32) &&& 31).toUInt32).toInt32) &&& (7 : Int32)) + (((md.toUInt32 >>> ((19 : Int32) &&& 31).toUInt32).toInt32) &&& (7 : Int32)))), .val (.int (md &&& (3 : Int32))), .unset, .val (.int (qq &&& (3 : Int32))), .unset] [(.int (qq &&& (3 : Int32)))])) _
                  refine XS.iconst X30.here hx rfl (hb hby at_187) ?_
                  exact kk_)
                by_cases c68 : (qq &&& (3 : Int32)) = (2 : Int32)
                · have P69 := own_step (C := T30.setTop (mkF m 191 #[.val (.int pk), .val (.int qq), .val (.int md), .val (.int d0), .val (.int u1), .val (.int u2), .val (.int nn), .val (.ref b25), .val (.ref x30), .val (.int (((md.toUInt32 >>> ((16 : Int32) &&& 31).toUInt32).toInt32) &&& (7 : Int32))), .val (.int ((((md.toUInt32 >>> ((16 : Int32) &&& 31).toUInt32).toInt32) &&& (7 : Int32)) + (((md.toUInt32 >>> ((19 : Int32) &&& 31).toUInt32).toInt32) &&& (7 : Int32)))), .val (.int (md &&& (3 : Int32))), .unset, .val (.int (qq &&& (3 : Int32))), .unset] [])) P67 (by
                    intro tt_ kk_
                    refine XS.icmpNo X30.here hx rfl (hb hby at_188) rfl (teq c68).2 ?_
                    exact kk_)
                  have P70 := own_step (C := T30.setTop (mkF m 216 #[.val (.int pk), .val (.int qq), .val (.int md), .val (.int d0), .val (.int u1), .val (.int u2), .val (.int nn), .val (.ref b25), .val (.ref x30), .val (.int (((md.toUInt32 >>> ((16 : Int32) &&& 31).toUInt32).toInt32) &&& (7 : Int32))), .val (.int ((((md.toUInt32 >>> ((16 : Int32) &&& 31).toUInt32).toInt32) &&& (7 : Int32)) + (((md.toUInt32 >>> ((19 : Int32) &&& 31).toUInt32).toInt32) &&& (7 : Int32)))), .val (.int (md &&& (3 : Int32))), .val (.int u2), .val (.int (qq &&& (3 : Int32))), .unset] [])) P69 (by
                    intro tt_ kk_
                    refine XS.iload X30.here hx rfl (hb hby at_191) rfl ?_
                    show Steps p.tables e below (T30.setTop (mkF m 193 #[.val (.int pk), .val (.int qq), .val (.int md), .val (.int d0), .val (.int u1), .val (.int u2), .val (.int nn), .val (.ref b25), .val (.ref x30), .val (.int (((md.toUInt32 >>> ((16 : Int32) &&& 31).toUInt32).toInt32) &&& (7 : Int32))), .val (.int ((((md.toUInt32 >>> ((16 : Int32) &&& 31).toUInt32).toInt32) &&& (7 : Int32)) + (((md.toUInt32 >>> ((19 : Int32) &&& 31).toUInt32).toInt32) &&& (7 : Int32)))), .val (.int (md &&& (3 : Int32))), .unset, .val (.int (qq &&& (3 : Int32))), .unset] [(.int u2)])) _
                    refine XS.goto X30.here hx rfl (pc0 := 193) (pc' := 200) rfl (hb hby at_193) (by decide) (by decide) ?_
                    show Steps p.tables e below (T30.setTop (mkF m 200 #[.val (.int pk), .val (.int qq), .val (.int md), .val (.int d0), .val (.int u1), .val (.int u2), .val (.int nn), .val (.ref b25), .val (.ref x30), .val (.int (((md.toUInt32 >>> ((16 : Int32) &&& 31).toUInt32).toInt32) &&& (7 : Int32))), .val (.int ((((md.toUInt32 >>> ((16 : Int32) &&& 31).toUInt32).toInt32) &&& (7 : Int32)) + (((md.toUInt32 >>> ((19 : Int32) &&& 31).toUInt32).toInt32) &&& (7 : Int32)))), .val (.int (md &&& (3 : Int32))), .unset, .val (.int (qq &&& (3 : Int32))), .unset] [(.int u2)])) _
                    refine XS.istore X30.here hx rfl (hb hby at_200) rfl (l' := #[.val (.int pk), .val (.int qq), .val (.int md), .val (.int d0), .val (.int u1), .val (.int u2), .val (.int nn), .val (.ref b25), .val (.ref x30), .val (.int (((md.toUInt32 >>> ((16 : Int32) &&& 31).toUInt32).toInt32) &&& (7 : Int32))), .val (.int ((((md.toUInt32 >>> ((16 : Int32) &&& 31).toUInt32).toInt32) &&& (7 : Int32)) + (((md.toUInt32 >>> ((19 : Int32) &&& 31).toUInt32).toInt32) &&& (7 : Int32)))), .val (.int (md &&& (3 : Int32))), .val (.int u2), .val (.int (qq &&& (3 : Int32))), .unset]) rfl ?_
                    show Steps p.tables e below (T30.setTop (mkF m 202 #[.val (.int pk), .val (.int qq), .val (.int md), .val (.int d0), .val (.int u1), .val (.int u2), .val (.int nn), .val (.ref b25), .val (.ref x30), .val (.int (((md.toUInt32 >>> ((16 : Int32) &&& 31).toUInt32).toInt32) &&& (7 : Int32))), .val (.int ((((md.toUInt32 >>> ((16 : Int32) &&& 31).toUInt32).toInt32) &&& (7 : Int32)) + (((md.toUInt32 >>> ((19 : Int32) &&& 31).toUInt32).toInt32) &&& (7 : Int32)))), .val (.int (md &&& (3 : Int32))), .val (.int u2), .val (.int (qq &&& (3 : Int32))), .unset] [])) _
                    refine XS.goto X30.here hx rfl (pc0 := 202) (pc' := 216) rfl (hb hby at_202) (by decide) (by decide) ?_
                    exact kk_)
                  exact ⟨u2, .val (.int (qq &&& (3 : Int32))), Or.inr (Or.inr (Or.inr (Or.inr (Or.inl ⟨c45, c50, c55, c58, c63, c68, rfl⟩)))), (One.val rfl), P70⟩
                · have P71 := own_step (C := T30.setTop (mkF m 196 #[.val (.int pk), .val (.int qq), .val (.int md), .val (.int d0), .val (.int u1), .val (.int u2), .val (.int nn), .val (.ref b25), .val (.ref x30), .val (.int (((md.toUInt32 >>> ((16 : Int32) &&& 31).toUInt32).toInt32) &&& (7 : Int32))), .val (.int ((((md.toUInt32 >>> ((16 : Int32) &&& 31).toUInt32).toInt32) &&& (7 : Int32)) + (((md.toUInt32 >>> ((19 : Int32) &&& 31).toUInt32).toInt32) &&& (7 : Int32)))), .val (.int (md &&& (3 : Int32))), .unset, .val (.int (qq &&& (3 : Int32))), .unset] [])) P67 (by
                    intro tt_ kk_
                    refine XS.icmpYes X30.here hx rfl (pc0 := 188) (pc' := 196) rfl (hb hby at_188) rfl (feq c68).2 (by decide) (by decide) ?_
                    exact kk_)
                  have P72 := own_step (C := T30.setTop (mkF m 216 #[.val (.int pk), .val (.int qq), .val (.int md), .val (.int d0), .val (.int u1), .val (.int u2), .val (.int nn), .val (.ref b25), .val (.ref x30), .val (.int (((md.toUInt32 >>> ((16 : Int32) &&& 31).toUInt32).toInt32) &&& (7 : Int32))), .val (.int ((((md.toUInt32 >>> ((16 : Int32) &&& 31).toUInt32).toInt32) &&& (7 : Int32)) + (((md.toUInt32 >>> ((19 : Int32) &&& 31).toUInt32).toInt32) &&& (7 : Int32)))), .val (.int (md &&& (3 : Int32))), .val (.int (d0 + (64 : Int32))), .val (.int (qq &&& (3 : Int32))), .unset] [])) P71 (by
                    intro tt_ kk_
                    refine XS.iloadN X30.here hx rfl (hb hby at_196) rfl ?_
                    show Steps p.tables e below (T30.setTop (mkF m 197 #[.val (.int pk), .val (.int qq), .val (.int md), .val (.int d0), .val (.int u1), .val (.int u2), .val (.int nn), .val (.ref b25), .val (.ref x30), .val (.int (((md.toUInt32 >>> ((16 : Int32) &&& 31).toUInt32).toInt32) &&& (7 : Int32))), .val (.int ((((md.toUInt32 >>> ((16 : Int32) &&& 31).toUInt32).toInt32) &&& (7 : Int32)) + (((md.toUInt32 >>> ((19 : Int32) &&& 31).toUInt32).toInt32) &&& (7 : Int32)))), .val (.int (md &&& (3 : Int32))), .unset, .val (.int (qq &&& (3 : Int32))), .unset] [(.int d0)])) _
                    refine XS.bipush X30.here hx rfl (hb hby at_197) ?_
                    show Steps p.tables e below (T30.setTop (mkF m 199 #[.val (.int pk), .val (.int qq), .val (.int md), .val (.int d0), .val (.int u1), .val (.int u2), .val (.int nn), .val (.ref b25), .val (.ref x30), .val (.int (((md.toUInt32 >>> ((16 : Int32) &&& 31).toUInt32).toInt32) &&& (7 : Int32))), .val (.int ((((md.toUInt32 >>> ((16 : Int32) &&& 31).toUInt32).toInt32) &&& (7 : Int32)) + (((md.toUInt32 >>> ((19 : Int32) &&& 31).toUInt32).toInt32) &&& (7 : Int32)))), .val (.int (md &&& (3 : Int32))), .unset, .val (.int (qq &&& (3 : Int32))), .unset] [(.int (64 : Int32)), (.int d0)])) _
                    refine XS.iadd X30.here hx rfl (hb hby at_199) rfl ?_
                    show Steps p.tables e below (T30.setTop (mkF m 200 #[.val (.int pk), .val (.int qq), .val (.int md), .val (.int d0), .val (.int u1), .val (.int u2), .val (.int nn), .val (.ref b25), .val (.ref x30), .val (.int (((md.toUInt32 >>> ((16 : Int32) &&& 31).toUInt32).toInt32) &&& (7 : Int32))), .val (.int ((((md.toUInt32 >>> ((16 : Int32) &&& 31).toUInt32).toInt32) &&& (7 : Int32)) + (((md.toUInt32 >>> ((19 : Int32) &&& 31).toUInt32).toInt32) &&& (7 : Int32)))), .val (.int (md &&& (3 : Int32))), .unset, .val (.int (qq &&& (3 : Int32))), .unset] [(.int (d0 + (64 : Int32)))])) _
                    refine XS.istore X30.here hx rfl (hb hby at_200) rfl (l' := #[.val (.int pk), .val (.int qq), .val (.int md), .val (.int d0), .val (.int u1), .val (.int u2), .val (.int nn), .val (.ref b25), .val (.ref x30), .val (.int (((md.toUInt32 >>> ((16 : Int32) &&& 31).toUInt32).toInt32) &&& (7 : Int32))), .val (.int ((((md.toUInt32 >>> ((16 : Int32) &&& 31).toUInt32).toInt32) &&& (7 : Int32)) + (((md.toUInt32 >>> ((19 : Int32) &&& 31).toUInt32).toInt32) &&& (7 : Int32)))), .val (.int (md &&& (3 : Int32))), .val (.int (d0 + (64 : Int32))), .val (.int (qq &&& (3 : Int32))), .unset]) rfl ?_
                    show Steps p.tables e below (T30.setTop (mkF m 202 #[.val (.int pk), .val (.int qq), .val (.int md), .val (.int d0), .val (.int u1), .val (.int u2), .val (.int nn), .val (.ref b25), .val (.ref x30), .val (.int (((md.toUInt32 >>> ((16 : Int32) &&& 31).toUInt32).toInt32) &&& (7 : Int32))), .val (.int ((((md.toUInt32 >>> ((16 : Int32) &&& 31).toUInt32).toInt32) &&& (7 : Int32)) + (((md.toUInt32 >>> ((19 : Int32) &&& 31).toUInt32).toInt32) &&& (7 : Int32)))), .val (.int (md &&& (3 : Int32))), .val (.int (d0 + (64 : Int32))), .val (.int (qq &&& (3 : Int32))), .unset] [])) _
                    refine XS.goto X30.here hx rfl (pc0 := 202) (pc' := 216) rfl (hb hby at_202) (by decide) (by decide) ?_
                    exact kk_)
                  exact ⟨(d0 + (64 : Int32)), .val (.int (qq &&& (3 : Int32))), Or.inr (Or.inr (Or.inr (Or.inr (Or.inr (Or.inl ⟨c45, c50, c55, c58, c63, c68, rfl⟩))))), (One.val rfl), P72⟩
          · have P73 := own_step (C := T30.setTop (mkF m 205 #[.val (.int pk), .val (.int qq), .val (.int md), .val (.int d0), .val (.int u1), .val (.int u2), .val (.int nn), .val (.ref b25), .val (.ref x30), .val (.int (((md.toUInt32 >>> ((16 : Int32) &&& 31).toUInt32).toInt32) &&& (7 : Int32))), .val (.int ((((md.toUInt32 >>> ((16 : Int32) &&& 31).toUInt32).toInt32) &&& (7 : Int32)) + (((md.toUInt32 >>> ((19 : Int32) &&& 31).toUInt32).toInt32) &&& (7 : Int32)))), .val (.int (md &&& (3 : Int32))), .unset, .unset, .unset] [])) P54 (by
              intro tt_ kk_
              refine XS.icmpYes X30.here hx rfl (pc0 := 157) (pc' := 205) rfl (hb hby at_157) rfl (feq c55).2 (by decide) (by decide) ?_
              exact kk_)
            have P74 := own_step (C := T30.setTop (mkF m 216 #[.val (.int pk), .val (.int qq), .val (.int md), .val (.int d0), .val (.int u1), .val (.int u2), .val (.int nn), .val (.ref b25), .val (.ref x30), .val (.int (((md.toUInt32 >>> ((16 : Int32) &&& 31).toUInt32).toInt32) &&& (7 : Int32))), .val (.int ((((md.toUInt32 >>> ((16 : Int32) &&& 31).toUInt32).toInt32) &&& (7 : Int32)) + (((md.toUInt32 >>> ((19 : Int32) &&& 31).toUInt32).toInt32) &&& (7 : Int32)))), .val (.int (md &&& (3 : Int32))), .val (.int ((qq &&& (511 : Int32)) - (192 : Int32))), .unset, .unset] [])) P73 (by
              intro tt_ kk_
              refine XS.iloadN X30.here hx rfl (hb hby at_205) rfl ?_
              show Steps p.tables e below (T30.setTop (mkF m 206 #[.val (.int pk), .val (.int qq), .val (.int md), .val (.int d0), .val (.int u1), .val (.int u2), .val (.int nn), .val (.ref b25), .val (.ref x30), .val (.int (((md.toUInt32 >>> ((16 : Int32) &&& 31).toUInt32).toInt32) &&& (7 : Int32))), .val (.int ((((md.toUInt32 >>> ((16 : Int32) &&& 31).toUInt32).toInt32) &&& (7 : Int32)) + (((md.toUInt32 >>> ((19 : Int32) &&& 31).toUInt32).toInt32) &&& (7 : Int32)))), .val (.int (md &&& (3 : Int32))), .unset, .unset, .unset] [(.int qq)])) _
              refine XS.sipush X30.here hx rfl (hb hby at_206) ?_
              show Steps p.tables e below (T30.setTop (mkF m 209 #[.val (.int pk), .val (.int qq), .val (.int md), .val (.int d0), .val (.int u1), .val (.int u2), .val (.int nn), .val (.ref b25), .val (.ref x30), .val (.int (((md.toUInt32 >>> ((16 : Int32) &&& 31).toUInt32).toInt32) &&& (7 : Int32))), .val (.int ((((md.toUInt32 >>> ((16 : Int32) &&& 31).toUInt32).toInt32) &&& (7 : Int32)) + (((md.toUInt32 >>> ((19 : Int32) &&& 31).toUInt32).toInt32) &&& (7 : Int32)))), .val (.int (md &&& (3 : Int32))), .unset, .unset, .unset] [(.int (511 : Int32)), (.int qq)])) _
              refine XS.iand X30.here hx rfl (hb hby at_209) rfl ?_
              show Steps p.tables e below (T30.setTop (mkF m 210 #[.val (.int pk), .val (.int qq), .val (.int md), .val (.int d0), .val (.int u1), .val (.int u2), .val (.int nn), .val (.ref b25), .val (.ref x30), .val (.int (((md.toUInt32 >>> ((16 : Int32) &&& 31).toUInt32).toInt32) &&& (7 : Int32))), .val (.int ((((md.toUInt32 >>> ((16 : Int32) &&& 31).toUInt32).toInt32) &&& (7 : Int32)) + (((md.toUInt32 >>> ((19 : Int32) &&& 31).toUInt32).toInt32) &&& (7 : Int32)))), .val (.int (md &&& (3 : Int32))), .unset, .unset, .unset] [(.int (qq &&& (511 : Int32)))])) _
              refine XS.sipush X30.here hx rfl (hb hby at_210) ?_
              show Steps p.tables e below (T30.setTop (mkF m 213 #[.val (.int pk), .val (.int qq), .val (.int md), .val (.int d0), .val (.int u1), .val (.int u2), .val (.int nn), .val (.ref b25), .val (.ref x30), .val (.int (((md.toUInt32 >>> ((16 : Int32) &&& 31).toUInt32).toInt32) &&& (7 : Int32))), .val (.int ((((md.toUInt32 >>> ((16 : Int32) &&& 31).toUInt32).toInt32) &&& (7 : Int32)) + (((md.toUInt32 >>> ((19 : Int32) &&& 31).toUInt32).toInt32) &&& (7 : Int32)))), .val (.int (md &&& (3 : Int32))), .unset, .unset, .unset] [(.int (192 : Int32)), (.int (qq &&& (511 : Int32)))])) _
              refine XS.isub X30.here hx rfl (hb hby at_213) rfl ?_
              show Steps p.tables e below (T30.setTop (mkF m 214 #[.val (.int pk), .val (.int qq), .val (.int md), .val (.int d0), .val (.int u1), .val (.int u2), .val (.int nn), .val (.ref b25), .val (.ref x30), .val (.int (((md.toUInt32 >>> ((16 : Int32) &&& 31).toUInt32).toInt32) &&& (7 : Int32))), .val (.int ((((md.toUInt32 >>> ((16 : Int32) &&& 31).toUInt32).toInt32) &&& (7 : Int32)) + (((md.toUInt32 >>> ((19 : Int32) &&& 31).toUInt32).toInt32) &&& (7 : Int32)))), .val (.int (md &&& (3 : Int32))), .unset, .unset, .unset] [(.int ((qq &&& (511 : Int32)) - (192 : Int32)))])) _
              refine XS.istore X30.here hx rfl (hb hby at_214) rfl (l' := #[.val (.int pk), .val (.int qq), .val (.int md), .val (.int d0), .val (.int u1), .val (.int u2), .val (.int nn), .val (.ref b25), .val (.ref x30), .val (.int (((md.toUInt32 >>> ((16 : Int32) &&& 31).toUInt32).toInt32) &&& (7 : Int32))), .val (.int ((((md.toUInt32 >>> ((16 : Int32) &&& 31).toUInt32).toInt32) &&& (7 : Int32)) + (((md.toUInt32 >>> ((19 : Int32) &&& 31).toUInt32).toInt32) &&& (7 : Int32)))), .val (.int (md &&& (3 : Int32))), .val (.int ((qq &&& (511 : Int32)) - (192 : Int32))), .unset, .unset]) rfl ?_
              exact kk_)
            exact ⟨((qq &&& (511 : Int32)) - (192 : Int32)), .unset, Or.inr (Or.inr (Or.inr (Or.inr (Or.inr (Or.inr (⟨c45, c50, c55, rfl⟩)))))), One.u, P74⟩
    have P75 := own_step P41 J42
    obtain ⟨T76, h76, X76, e76, E76, A76, D76, -, st76⟩ := newO X30 hx hZ25 hown25 (hw _ (List.mem_of_getElem? (i := 29) rfl)) (hw _ (List.mem_of_getElem? (i := 30) rfl)) (hw _ (List.mem_of_getElem? (i := 31) rfl)) rfl (g := (mkF m 216 #[.val (.int pk), .val (.int qq), .val (.int md), .val (.int d0), .val (.int u1), .val (.int u2), .val (.int nn), .val (.ref b25), .val (.ref x30), .val (.int (((md.toUInt32 >>> ((16 : Int32) &&& 31).toUInt32).toInt32) &&& (7 : Int32))), .val (.int ((((md.toUInt32 >>> ((16 : Int32) &&& 31).toUInt32).toInt32) &&& (7 : Int32)) + (((md.toUInt32 >>> ((19 : Int32) &&& 31).toUInt32).toInt32) &&& (7 : Int32)))), .val (.int (md &&& (3 : Int32))), .val (.int cc), sl42_0, .unset] [])) rfl (hb hby at_216) (by decide) (by decide)
    obtain ⟨b76, g76⟩ : ∃ z, z = T30.heap.size := ⟨_, rfl⟩
    rw [← g76] at A76 D76 st76
    have ne_b25_b76 : b25 ≠ b76 := Nat.ne_of_lt (Nat.lt_of_lt_of_le f34.lt (Nat.le_of_eq g76.symm))
    have ne_bv25_b76 : bv25 ≠ b76 := Nat.ne_of_lt (Nat.lt_of_lt_of_le f37.lt (Nat.le_of_eq g76.symm))
    have g_b76 : n0 ≤ b76 := Nat.le_trans Z38 (Nat.le_of_eq g76.symm)
    have f77 := f33.ext E76
    have f78 := f34.ext E76
    have f79 := f35.ext E76
    have f80 := f36.ext E76
    have f81 := f37.ext E76
    have Z82 : n0 ≤ h76.size := Nat.le_trans Z38 E76.1
    have kz83 := Nat.le_trans kz39 E76.1
    have f84 : Fld Z h76 b76 "com/example/gatehouse/gatehouse/pattern/NameShape" "begin" "Ljava/lang/String;" .null := D76 (Or.inr (hw _ (List.mem_of_getElem? (i := 53) rfl))) (ty := (.object "java/lang/String")) (by decide)
    have f85 : Fld Z h76 b76 "com/example/gatehouse/gatehouse/pattern/NameShape" "low" "J" (.long (0 : Int64)) := D76 (Or.inr (hw _ (List.mem_of_getElem? (i := 55) rfl))) (ty := .long) (by decide)
    have f86 : Fld Z h76 b76 "com/example/gatehouse/gatehouse/pattern/NameShape" "high" "J" (.long (0 : Int64)) := D76 (Or.inr (hw _ (List.mem_of_getElem? (i := 57) rfl))) (ty := .long) (by decide)
    have f87 : Fld Z h76 b76 "com/example/gatehouse/gatehouse/pattern/NameShape" "least" "I" (.int (0 : Int32)) := D76 (Or.inr (hw _ (List.mem_of_getElem? (i := 59) rfl))) (ty := .int) (by decide)
    have f88 : Fld Z h76 b76 "com/example/gatehouse/gatehouse/pattern/NameShape" "most" "I" (.int (0 : Int32)) := D76 (Or.inr (hw _ (List.mem_of_getElem? (i := 61) rfl))) (ty := .int) (by decide)
    have P89 := own_step (C := T76.setTop (mkF m 219 #[.val (.int pk), .val (.int qq), .val (.int md), .val (.int d0), .val (.int u1), .val (.int u2), .val (.int nn), .val (.ref b25), .val (.ref x30), .val (.int (((md.toUInt32 >>> ((16 : Int32) &&& 31).toUInt32).toInt32) &&& (7 : Int32))), .val (.int ((((md.toUInt32 >>> ((16 : Int32) &&& 31).toUInt32).toInt32) &&& (7 : Int32)) + (((md.toUInt32 >>> ((19 : Int32) &&& 31).toUInt32).toInt32) &&& (7 : Int32)))), .val (.int (md &&& (3 : Int32))), .val (.int cc), sl42_0, .unset] [(.ref b76)])) P75 (fun t_ k_ => st76 t_ k_)
    have P90 := own_step (C := T76.setTop (mkF m 228 #[.val (.int pk), .val (.int qq), .val (.int md), .val (.int d0), .val (.int u1), .val (.int u2), .val (.int nn), .val (.ref b25), .val (.ref x30), .val (.int (((md.toUInt32 >>> ((16 : Int32) &&& 31).toUInt32).toInt32) &&& (7 : Int32))), .val (.int ((((md.toUInt32 >>> ((16 : Int32) &&& 31).toUInt32).toInt32) &&& (7 : Int32)) + (((md.toUInt32 >>> ((19 : Int32) &&& 31).toUInt32).toInt32) &&& (7 : Int32)))), .val (.int (md &&& (3 : Int32))), .val (.int cc), sl42_0, .unset] [(.int ((((md.toUInt32 >>> ((16 : Int32) &&& 31).toUInt32).toInt32) &&& (7 : Int32)) + (((md.toUInt32 >>> ((19 : Int32) &&& 31).toUInt32).toInt32) &&& (7 : Int32)))), (.int (((md.toUInt32 >>> ((16 : Int32) &&& 31).toUInt32).toInt32) &&& (7 : Int32))), (.ref b25), (.ref x30), (.ref b76), (.ref b76)])) P89 (by
      intro tt_ kk_
      refine XS.dup X76.here hx rfl (hb hby at_219) rfl rfl ?_
      show Steps p.tables e below (T76.setTop (mkF m 220 #[.val (.int pk), .val (.int qq), .val (.int md), .val (.int d0), .val (.int u1), .val (.int u2), .val (.int nn), .val (.ref b25), .val (.ref x30), .val (.int (((md.toUInt32 >>> ((16 : Int32) &&& 31).toUInt32).toInt32) &&& (7 : Int32))), .val (.int ((((md.toUInt32 >>> ((16 : Int32) &&& 31).toUInt32).toInt32) &&& (7 : Int32)) + (((md.toUInt32 >>> ((19 : Int32) &&& 31).toUInt32).toInt32) &&& (7 : Int32)))), .val (.int (md &&& (3 : Int32))), .val (.int cc), sl42_0, .unset] [(.ref b76), (.ref b76)])) _
      refine XS.aload X76.here hx rfl (hb hby at_220) rfl rfl ?_
      show Steps p.tables e below (T76.setTop (mkF m 222 #[.val (.int pk), .val (.int qq), .val (.int md), .val (.int d0), .val (.int u1), .val (.int u2), .val (.int nn), .val (.ref b25), .val (.ref x30), .val (.int (((md.toUInt32 >>> ((16 : Int32) &&& 31).toUInt32).toInt32) &&& (7 : Int32))), .val (.int ((((md.toUInt32 >>> ((16 : Int32) &&& 31).toUInt32).toInt32) &&& (7 : Int32)) + (((md.toUInt32 >>> ((19 : Int32) &&& 31).toUInt32).toInt32) &&& (7 : Int32)))), .val (.int (md &&& (3 : Int32))), .val (.int cc), sl42_0, .unset] [(.ref x30), (.ref b76), (.ref b76)])) _
      refine XS.aload X76.here hx rfl (hb hby at_222) rfl rfl ?_
      show Steps p.tables e below (T76.setTop (mkF m 224 #[.val (.int pk), .val (.int qq), .val (.int md), .val (.int d0), .val (.int u1), .val (.int u2), .val (.int nn), .val (.ref b25), .val (.ref x30), .val (.int (((md.toUInt32 >>> ((16 : Int32) &&& 31).toUInt32).toInt32) &&& (7 : Int32))), .val (.int ((((md.toUInt32 >>> ((16 : Int32) &&& 31).toUInt32).toInt32) &&& (7 : Int32)) + (((md.toUInt32 >>> ((19 : Int32) &&& 31).toUInt32).toInt32) &&& (7 : Int32)))), .val (.int (md &&& (3 : Int32))), .val (.int cc), sl42_0, .unset] [(.ref b25), (.ref x30), (.ref b76), (.ref b76)])) _
      refine XS.iload X76.here hx rfl (hb hby at_224) rfl ?_
      show Steps p.tables e below (T76.setTop (mkF m 226 #[.val (.int pk), .val (.int qq), .val (.int md), .val (.int d0), .val (.int u1), .val (.int u2), .val (.int nn), .val (.ref b25), .val (.ref x30), .val (.int (((md.toUInt32 >>> ((16 : Int32) &&& 31).toUInt32).toInt32) &&& (7 : Int32))), .val (.int ((((md.toUInt32 >>> ((16 : Int32) &&& 31).toUInt32).toInt32) &&& (7 : Int32)) + (((md.toUInt32 >>> ((19 : Int32) &&& 31).toUInt32).toInt32) &&& (7 : Int32)))), .val (.int (md &&& (3 : Int32))), .val (.int cc), sl42_0, .unset] [(.int (((md.toUInt32 >>> ((16 : Int32) &&& 31).toUInt32).toInt32) &&& (7 : Int32))), (.ref b25), (.ref x30), (.ref b76), (.ref b76)])) _
      refine XS.iload X76.here hx rfl (hb hby at_226) rfl ?_
      exact kk_)
    obtain ⟨_, _, ⟨T91, L91, k91, n91⟩, -, X91, ⟨Lc91, hQ91, l91, y91, z91⟩, st91⟩ := X76.specialBack hx (y := (⟨"com/example/gatehouse/gatehouse/pattern/NameShape", "<init>", "(Ljava/lang/String;Ljava/lang/String;II)V"⟩ : MethodName)) rfl hown25 (mvT hZ25 (hw _ (List.mem_of_getElem? (i := 32) rfl))) (mvT hZ25 (hw _ (List.mem_of_getElem? (i := 33) rfl))) (mvT hZ25 (hw _ (List.mem_of_getElem? (i := 34) rfl))) (by decide) (backOf (W := 1) (rm_nsE l Z a0 hw [] b76 x30 (((md.toUInt32 >>> ((16 : Int32) &&& 31).toUInt32).toInt32) &&& (7 : Int32)) ((((md.toUInt32 >>> ((16 : Int32) &&& 31).toUInt32).toInt32) &&& (7 : Int32)) + (((md.toUInt32 >>> ((19 : Int32) &&& 31).toUInt32).toInt32) &&& (7 : Int32))) b25 bv25 kc25  fm cs h76 n0 Z82 f77 Scs hcs Sfm hfm f78 f79 f80 f81  A76 f84 f85 f86 f87 f88 g_b76 (own_le _) (own_mo _ _)) hZ25 (hw _ (List.mem_of_getElem? (i := 34) rfl)) (hw _ (List.mem_of_getElem? (i := 31) rfl)) (by decide) (by decide)) (g := (mkF m 228 #[.val (.int pk), .val (.int qq), .val (.int md), .val (.int d0), .val (.int u1), .val (.int u2), .val (.int nn), .val (.ref b25), .val (.ref x30), .val (.int (((md.toUInt32 >>> ((16 : Int32) &&& 31).toUInt32).toInt32) &&& (7 : Int32))), .val (.int ((((md.toUInt32 >>> ((16 : Int32) &&& 31).toUInt32).toInt32) &&& (7 : Int32)) + (((md.toUInt32 >>> ((19 : Int32) &&& 31).toUInt32).toInt32) &&& (7 : Int32)))), .val (.int (md &&& (3 : Int32))), .val (.int cc), sl42_0, .unset] [(.int ((((md.toUInt32 >>> ((16 : Int32) &&& 31).toUInt32).toInt32) &&& (7 : Int32)) + (((md.toUInt32 >>> ((19 : Int32) &&& 31).toUInt32).toInt32) &&& (7 : Int32)))), (.int (((md.toUInt32 >>> ((16 : Int32) &&& 31).toUInt32).toInt32) &&& (7 : Int32))), (.ref b25), (.ref x30), (.ref b76), (.ref b76)])) rfl (by rw [hml]; rfl) (Steps.refl _) (a := b76) (argsL := [(.ref x30), (.ref b25), (.int (((md.toUInt32 >>> ((16 : Int32) &&& 31).toUInt32).toInt32) &&& (7 : Int32))), (.int ((((md.toUInt32 >>> ((16 : Int32) &&& 31).toUInt32).toInt32) &&& (7 : Int32)) + (((md.toUInt32 >>> ((19 : Int32) &&& 31).toUInt32).toInt32) &&& (7 : Int32))))]) (rest := [(.ref b76)]) (lenOf pd17 rfl) rfl (by show 2 * 0 + _ ≤ _; exact Nat.le_of_eq rfl) (hb hby at_228) (fun _ _ => ⟨rfl, e76, (by decide : 5 + 0 ≤ _), (by decide : 14 + 0 ≤ _)⟩)
    dsimp only [Pt.U, Pt.locs, Pt.cells, Pt.slots] at X91 l91 y91 z91 st91 hQ91
    subst l91 y91 z91
    obtain ⟨rfl, N91q, K91, f92, f93, f94⟩ := hQ91
    have N91 := Fr.app N30 N91q
    have f95 := f77.keep K91 (allS g_b76 all0)
    have f96 := f78.keep K91
    have f97 := f79.keep K91 (ninS ne_b25_b76 nin0)
    have f98 := f80.keep K91 (ninS ne_b25_b76 nin0)
    have f99 := f81.keep K91 (ninS ne_bv25_b76 nin0)
    have f100 := A76.keep K91
    have Z106 : n0 ≤ T91.heap.size := Nat.le_trans Z82 K91.1
    have kz107 := Nat.le_trans kz83 K91.1
    have P108 := own_step (C := T91.setTop (mkF m 231 #[.val (.int pk), .val (.int qq), .val (.int md), .val (.int d0), .val (.int u1), .val (.int u2), .val (.int nn), .val (.ref b25), .val (.ref x30), .val (.int (((md.toUInt32 >>> ((16 : Int32) &&& 31).toUInt32).toInt32) &&& (7 : Int32))), .val (.int ((((md.toUInt32 >>> ((16 : Int32) &&& 31).toUInt32).toInt32) &&& (7 : Int32)) + (((md.toUInt32 >>> ((19 : Int32) &&& 31).toUInt32).toInt32) &&& (7 : Int32)))), .val (.int (md &&& (3 : Int32))), .val (.int cc), sl42_0, .unset] [(.ref b76)])) P90 (fun t_ k_ => st91.trans k_)
    have P109 := own_step (C := T91.setTop (mkF m 235 #[.val (.int pk), .val (.int qq), .val (.int md), .val (.int d0), .val (.int u1), .val (.int u2), .val (.int nn), .val (.ref b25), .val (.ref x30), .val (.int (((md.toUInt32 >>> ((16 : Int32) &&& 31).toUInt32).toInt32) &&& (7 : Int32))), .val (.int ((((md.toUInt32 >>> ((16 : Int32) &&& 31).toUInt32).toInt32) &&& (7 : Int32)) + (((md.toUInt32 >>> ((19 : Int32) &&& 31).toUInt32).toInt32) &&& (7 : Int32)))), .val (.int (md &&& (3 : Int32))), .val (.int cc), .val (.ref b76), .unset] [(.int nn)])) P108 (by
      intro tt_ kk_
      refine XS.astore X91.here hx rfl (hb hby at_231) rfl rfl (l' := #[.val (.int pk), .val (.int qq), .val (.int md), .val (.int d0), .val (.int u1), .val (.int u2), .val (.int nn), .val (.ref b25), .val (.ref x30), .val (.int (((md.toUInt32 >>> ((16 : Int32) &&& 31).toUInt32).toInt32) &&& (7 : Int32))), .val (.int ((((md.toUInt32 >>> ((16 : Int32) &&& 31).toUInt32).toInt32) &&& (7 : Int32)) + (((md.toUInt32 >>> ((19 : Int32) &&& 31).toUInt32).toInt32) &&& (7 : Int32)))), .val (.int (md &&& (3 : Int32))), .val (.int cc), .val (.ref b76), .unset]) (XS.store1 rfl osl42_0 rfl) ?_
      show Steps p.tables e below (T91.setTop (mkF m 233 #[.val (.int pk), .val (.int qq), .val (.int md), .val (.int d0), .val (.int u1), .val (.int u2), .val (.int nn), .val (.ref b25), .val (.ref x30), .val (.int (((md.toUInt32 >>> ((16 : Int32) &&& 31).toUInt32).toInt32) &&& (7 : Int32))), .val (.int ((((md.toUInt32 >>> ((16 : Int32) &&& 31).toUInt32).toInt32) &&& (7 : Int32)) + (((md.toUInt32 >>> ((19 : Int32) &&& 31).toUInt32).toInt32) &&& (7 : Int32)))), .val (.int (md &&& (3 : Int32))), .val (.int cc), .val (.ref b76), .unset] [])) _
      refine XS.iload X91.here hx rfl (hb hby at_233) rfl ?_
      exact kk_)
    obtain ⟨ve, hv110, J110⟩ : ∃ (ve : Int32), (((0 : Int32) < nn ∧ cc = d0 ∧ ve = (1 : Int32)) ∨ ((0 : Int32) < nn ∧ ¬ (cc = d0) ∧ cc = u1 ∧ ve = (1 : Int32)) ∨ ((0 : Int32) < nn ∧ ¬ (cc = d0) ∧ ¬ (cc = u1) ∧ cc = u2 ∧ ve = (1 : Int32)) ∨ ((0 : Int32) < nn ∧ ¬ (cc = d0) ∧ ¬ (cc = u1) ∧ ¬ (cc = u2) ∧ ve = (0 : Int32)) ∨ (¬ ((0 : Int32) < nn) ∧ ve = (0 : Int32))) ∧ own_Go p e below (T91.setTop (mkF m 235 #[.val (.int pk), .val (.int qq), .val (.int md), .val (.int d0), .val (.int u1), .val (.int u2), .val (.int nn), .val (.ref b25), .val (.ref x30), .val (.int (((md.toUInt32 >>> ((16 : Int32) &&& 31).toUInt32).toInt32) &&& (7 : Int32))), .val (.int ((((md.toUInt32 >>> ((16 : Int32) &&& 31).toUInt32).toInt32) &&& (7 : Int32)) + (((md.toUInt32 >>> ((19 : Int32) &&& 31).toUInt32).toInt32) &&& (7 : Int32)))), .val (.int (md &&& (3 : Int32))), .val (.int cc), .val (.ref b76), .unset] [(.int nn)])) (T91.setTop (mkF m 263 #[.val (.int pk), .val (.int qq), .val (.int md), .val (.int d0), .val (.int u1), .val (.int u2), .val (.int nn), .val (.ref b25), .val (.ref x30), .val (.int (((md.toUInt32 >>> ((16 : Int32) &&& 31).toUInt32).toInt32) &&& (7 : Int32))), .val (.int ((((md.toUInt32 >>> ((16 : Int32) &&& 31).toUInt32).toInt32) &&& (7 : Int32)) + (((md.toUInt32 >>> ((19 : Int32) &&& 31).toUInt32).toInt32) &&& (7 : Int32)))), .val (.int (md &&& (3 : Int32))), .val (.int cc), .val (.ref b76), .unset] [(.int ve)])) := by
      have P111 : own_Go p e below (T91.setTop (mkF m 235 #[.val (.int pk), .val (.int qq), .val (.int md), .val (.int d0), .val (.int u1), .val (.int u2), .val (.int nn), .val (.ref b25), .val (.ref x30), .val (.int (((md.toUInt32 >>> ((16 : Int32) &&& 31).toUInt32).toInt32) &&& (7 : Int32))), .val (.int ((((md.toUInt32 >>> ((16 : Int32) &&& 31).toUInt32).toInt32) &&& (7 : Int32)) + (((md.toUInt32 >>> ((19 : Int32) &&& 31).toUInt32).toInt32) &&& (7 : Int32)))), .val (.int (md &&& (3 : Int32))), .val (.int cc), .val (.ref b76), .unset] [(.int nn)])) (T91.setTop (mkF m 235 #[.val (.int pk), .val (.int qq), .val (.int md), .val (.int d0), .val (.int u1), .val (.int u2), .val (.int nn), .val (.ref b25), .val (.ref x30), .val (.int (((md.toUInt32 >>> ((16 : Int32) &&& 31).toUInt32).toInt32) &&& (7 : Int32))), .val (.int ((((md.toUInt32 >>> ((16 : Int32) &&& 31).toUInt32).toInt32) &&& (7 : Int32)) + (((md.toUInt32 >>> ((19 : Int32) &&& 31).toUInt32).toInt32) &&& (7 : Int32)))), .val (.int (md &&& (3 : Int32))), .val (.int cc), .val (.ref b76), .unset] [(.int nn)])) := fun t_ k_ => k_
      by_cases c112 : (0 : Int32) < nn
      · have P113 := own_step (C := T91.setTop (mkF m 238 #[.val (.int pk), .val (.int qq), .val (.int md), .val (.int d0), .val (.int u1), .val (.int u2), .val (.int nn), .val (.ref b25), .val (.ref x30), .val (.int (((md.toUInt32 >>> ((16 : Int32) &&& 31).toUInt32).toInt32) &&& (7 : Int32))), .val (.int ((((md.toUInt32 >>> ((16 : Int32) &&& 31).toUInt32).toInt32) &&& (7 : Int32)) + (((md.toUInt32 >>> ((19 : Int32) &&& 31).toUInt32).toInt32) &&& (7 : Int32)))), .val (.int (md &&& (3 : Int32))), .val (.int cc), .val (.ref b76), .unset] [])) P111 (by
          intro tt_ kk_
          refine XS.ifNo X91.here hx rfl (hb hby at_235) rfl ((if0 _ _).trans (tlt c112).2.2.2) ?_
          exact kk_)
        have P114 := own_step (C := T91.setTop (mkF m 241 #[.val (.int pk), .val (.int qq), .val (.int md), .val (.int d0), .val (.int u1), .val (.int u2), .val (.int nn), .val (.ref b25), .val (.ref x30), .val (.int (((md.toUInt32 >>> ((16 : Int32) &&& 31).toUInt32).toInt32) &&& (7 : Int32))), .val (.int ((((md.toUInt32 >>> ((16 : Int32) &&& 31).toUInt32).toInt32) &&& (7 : Int32)) + (((md.toUInt32 >>> ((19 : Int32) &&& 31).toUInt32).toInt32) &&& (7 : Int32)))), .val (.int (md &&& (3 : Int32))), .val (.int cc), .val (.ref b76), .unset] [(.int d0), (.int cc)])) P113 (by
          intro tt_ kk_
          refine XS.iload X91.here hx rfl (hb hby at_238) rfl ?_
          show Steps p.tables e below (T91.setTop (mkF m 240 #[.val (.int pk), .val (.int qq), .val (.int md), .val (.int d0), .val (.int u1), .val (.int u2), .val (.int nn), .val (.ref b25), .val (.ref x30), .val (.int (((md.toUInt32 >>> ((16 : Int32) &&& 31).toUInt32).toInt32) &&& (7 : Int32))), .val (.int ((((md.toUInt32 >>> ((16 : Int32) &&& 31).toUInt32).toInt32) &&& (7 : Int32)) + (((md.toUInt32 >>> ((19 : Int32) &&& 31).toUInt32).toInt32) &&& (7 : Int32)))), .val (.int (md &&& (3 : Int32))), .val (.int cc), .val (.ref b76), .unset] [(.int cc)])) _
          refine XS.iloadN X91.here hx rfl (hb hby at_240) rfl ?_
          exact kk_)
        by_cases c115 : cc = d0
        · have P116 := own_step (C := T91.setTop (mkF m 258 #[.val (.int pk), .val (.int qq), .val (.int md), .val (.int d0), .val (.int u1), .val (.int u2), .val (.int nn), .val (.ref b25), .val (.ref x30), .val (.int (((md.toUInt32 >>> ((16 : Int32) &&& 31).toUInt32).toInt32) &&& (7 : Int32))), .val (.int ((((md.toUInt32 >>> ((16 : Int32) &&& 31).toUInt32).toInt32) &&& (7 : Int32)) + (((md.toUInt32 >>> ((19 : Int32) &&& 31).toUInt32).toInt32) &&& (7 : Int32)))), .val (.int (md &&& (3 : Int32))), .val (.int cc), .val (.ref b76), .unset] [])) P114 (by
            intro tt_ kk_
            refine XS.icmpYes X91.here hx rfl (pc0 := 241) (pc' := 258) rfl (hb hby at_241) rfl (teq c115).1 (by decide) (by decide) ?_
            exact kk_)
          have P117 := own_step (C := T91.setTop (mkF m 263 #[.val (.int pk), .val (.int qq), .val (.int md), .val (.int d0), .val (.int u1), .val (.int u2), .val (.int nn), .val (.ref b25), .val (.ref x30), .val (.int (((md.toUInt32 >>> ((16 : Int32) &&& 31).toUInt32).toInt32) &&& (7 : Int32))), .val (.int ((((md.toUInt32 >>> ((16 : Int32) &&& 31).toUInt32).toInt32) &&& (7 : Int32)) + (((md.toUInt32 >>> ((19 : Int32) &&& 31).toUInt32).toInt32) &&& (7 : Int32)))), .val (.int (md &&& (3 : Int32))), .val (.int cc), .val (.ref b76), .unset] [(.int (1 : Int32))])) P116 (by
            intro tt_ kk_
            refine XS.iconst X91.here hx rfl (hb hby at_258) ?_
            show Steps p.tables e below (T91.setTop (mkF m 259 #[.val (.int pk), .val (.int qq), .val (.int md), .val (.int d0), .val (.int u1), .val (.int u2), .val (.int nn), .val (.ref b25), .val (.ref x30), .val (.int (((md.toUInt32 >>> ((16 : Int32) &&& 31).toUInt32).toInt32) &&& (7 : Int32))), .val (.int ((((md.toUInt32 >>> ((16 : Int32) &&& 31).toUInt32).toInt32) &&& (7 : Int32)) + (((md.toUInt32 >>> ((19 : Int32) &&& 31).toUInt32).toInt32) &&& (7 : Int32)))), .val (.int (md &&& (3 : Int32))), .val (.int cc), .val (.ref b76), .unset] [(.int (1 : Int32))])) _
            refine XS.goto X91.here hx rfl (pc0 := 259) (pc' := 263) rfl (hb hby at_259) (by decide) (by decide) ?_
            exact kk_)
          exact ⟨(1 : Int32), Or.inl ⟨c112, c115, rfl⟩, P117⟩
        · have P118 := own_step (C := T91.setTop (mkF m 244 #[.val (.int pk), .val (.int qq), .val (.int md), .val (.int d0), .val (.int u1), .val (.int u2), .val (.int nn), .val (.ref b25), .val (.ref x30), .val (.int (((md.toUInt32 >>> ((16 : Int32) &&& 31).toUInt32).toInt32) &&& (7 : Int32))), .val (.int ((((md.toUInt32 >>> ((16 : Int32) &&& 31).toUInt32).toInt32) &&& (7 : Int32)) + (((md.toUInt32 >>> ((19 : Int32) &&& 31).toUInt32).toInt32) &&& (7 : Int32)))), .val (.int (md &&& (3 : Int32))), .val (.int cc), .val (.ref b76), .unset] [])) P114 (by
            intro tt_ kk_
            refine XS.icmpNo X91.here hx rfl (hb hby at_241) rfl (feq c115).1 ?_
            exact kk_)
          have P119 := own_step (C := T91.setTop (mkF m 248 #[.val (.int pk), .val (.int qq), .val (.int md), .val (.int d0), .val (.int u1), .val (.int u2), .val (.int nn), .val (.ref b25), .val (.ref x30), .val (.int (((md.toUInt32 >>> ((16 : Int32) &&& 31).toUInt32).toInt32) &&& (7 : Int32))), .val (.int ((((md.toUInt32 >>> ((16 : Int32) &&& 31).toUInt32).toInt32) &&& (7 : Int32)) + (((md.toUInt32 >>> ((19 : Int32) &&& 31).toUInt32).toInt32) &&& (7 : Int32)))), .val (.int (md &&& (3 : Int32))), .val (.int cc), .val (.ref b76), .unset] [(.int u1), (.int cc)])) P118 (by
            intro tt_ kk_
            refine XS.iload X91.here hx rfl (hb hby at_244) rfl ?_
            show Steps p.tables e below (T91.setTop (mkF m 246 #[.val (.int pk), .val (.int qq), .val (.int md), .val (.int d0), .val (.int u1), .val (.int u2), .val (.int nn), .val (.ref b25), .val (.ref x30), .val (.int (((md.toUInt32 >>> ((16 : Int32) &&& 31).toUInt32).toInt32) &&& (7 : Int32))), .val (.int ((((md.toUInt32 >>> ((16 : Int32) &&& 31).toUInt32).toInt32) &&& (7 : Int32)) + (((md.toUInt32 >>> ((19 : Int32) &&& 31).toUInt32).toInt32) &&& (7 : Int32)))), .val (.int (md &&& (3 : Int32))), .val (.int cc), .val (.ref b76), .unset] [(.int cc)])) _
            refine XS.iload X91.here hx rfl (hb hby at_246) rfl ?_
            exact kk_)
          by_cases c120 : cc = u1
          · have P121 := own_step (C := T91.setTop (mkF m 258 #[.val (.int pk), .val (.int qq), .val (.int md), .val (.int d0), .val (.int u1), .val (.int u2), .val (.int nn), .val (.ref b25), .val (.ref x30), .val (.int (((md.toUInt32 >>> ((16 : Int32) &&& 31).toUInt32).toInt32) &&& (7 : Int32))), .val (.int ((((md.toUInt32 >>> ((16 : Int32) &&& 31).toUInt32).toInt32) &&& (7 : Int32)) + (((md.toUInt32 >>> ((19 : Int32) &&& 31).toUInt32).toInt32) &&& (7 : Int32)))), .val (.int (md &&& (3 : Int32))), .val (.int cc), .val (.ref b76), .unset] [])) P119 (by
              intro tt_ kk_
              refine XS.icmpYes X91.here hx rfl (pc0 := 248) (pc' := 258) rfl (hb hby at_248) rfl (teq c120).1 (by decide) (by decide) ?_
              exact kk_)
            have P122 := own_step (C := T91.setTop (mkF m 263 #[.val (.int pk), .val (.int qq), .val (.int md), .val (.int d0), .val (.int u1), .val (.int u2), .val (.int nn), .val (.ref b25), .val (.ref x30), .val (.int (((md.toUInt32 >>> ((16 : Int32) &&& 31).toUInt32).toInt32) &&& (7 : Int32))), .val (.int ((((md.toUInt32 >>> ((16 : Int32) &&& 31).toUInt32).toInt32) &&& (7 : Int32)) + (((md.toUInt32 >>> ((19 : Int32) &&& 31).toUInt32).toInt32) &&& (7 : Int32)))), .val (.int (md &&& (3 : Int32))), .val (.int cc), .val (.ref b76), .unset] [(.int (1 : Int32))])) P121 (by
              intro tt_ kk_
              refine XS.iconst X91.here hx rfl (hb hby at_258) ?_
              show Steps p.tables e below (T91.setTop (mkF m 259 #[.val (.int pk), .val (.int qq), .val (.int md), .val (.int d0), .val (.int u1), .val (.int u2), .val (.int nn), .val (.ref b25), .val (.ref x30), .val (.int (((md.toUInt32 >>> ((16 : Int32) &&& 31).toUInt32).toInt32) &&& (7 : Int32))), .val (.int ((((md.toUInt32 >>> ((16 : Int32) &&& 31).toUInt32).toInt32) &&& (7 : Int32)) + (((md.toUInt32 >>> ((19 : Int32) &&& 31).toUInt32).toInt32) &&& (7 : Int32)))), .val (.int (md &&& (3 : Int32))), .val (.int cc), .val (.ref b76), .unset] [(.int (1 : Int32))])) _
              refine XS.goto X91.here hx rfl (pc0 := 259) (pc' := 263) rfl (hb hby at_259) (by decide) (by decide) ?_
              exact kk_)
            exact ⟨(1 : Int32), Or.inr (Or.inl ⟨c112, c115, c120, rfl⟩), P122⟩
          · have P123 := own_step (C := T91.setTop (mkF m 251 #[.val (.int pk), .val (.int qq), .val (.int md), .val (.int d0), .val (.int u1), .val (.int u2), .val (.int nn), .val (.ref b25), .val (.ref x30), .val (.int (((md.toUInt32 >>> ((16 : Int32) &&& 31).toUInt32).toInt32) &&& (7 : Int32))), .val (.int ((((md.toUInt32 >>> ((16 : Int32) &&& 31).toUInt32).toInt32) &&& (7 : Int32)) + (((md.toUInt32 >>> ((19 : Int32) &&& 31).toUInt32).toInt32) &&& (7 : Int32)))), .val (.int (md &&& (3 : Int32))), .val (.int cc), .val (.ref b76), .unset] [])) P119 (by
              intro tt_ kk_
              refine XS.icmpNo X91.here hx rfl (hb hby at_248) rfl (feq c120).1 ?_
              exact kk_)
            have P124 := own_step (C := T91.setTop (mkF m 255 #[.val (.int pk), .val (.int qq), .val (.int md), .val (.int d0), .val (.int u1), .val (.int u2), .val (.int nn), .val (.ref b25), .val (.ref x30), .val (.int (((md.toUInt32 >>> ((16 : Int32) &&& 31).toUInt32).toInt32) &&& (7 : Int32))), .val (.int ((((md.toUInt32 >>> ((16 : Int32) &&& 31).toUInt32).toInt32) &&& (7 : Int32)) + (((md.toUInt32 >>> ((19 : Int32) &&& 31).toUInt32).toInt32) &&& (7 : Int32)))), .val (.int (md &&& (3 : Int32))), .val (.int cc), .val (.ref b76), .unset] [(.int u2), (.int cc)])) P123 (by
              intro tt_ kk_
              refine XS.iload X91.here hx rfl (hb hby at_251) rfl ?_
              show Steps p.tables e below (T91.setTop (mkF m 253 #[.val (.int pk), .val (.int qq), .val (.int md), .val (.int d0), .val (.int u1), .val (.int u2), .val (.int nn), .val (.ref b25), .val (.ref x30), .val (.int (((md.toUInt32 >>> ((16 : Int32) &&& 31).toUInt32).toInt32) &&& (7 : Int32))), .val (.int ((((md.toUInt32 >>> ((16 : Int32) &&& 31).toUInt32).toInt32) &&& (7 : Int32)) + (((md.toUInt32 >>> ((19 : Int32) &&& 31).toUInt32).toInt32) &&& (7 : Int32)))), .val (.int (md &&& (3 : Int32))), .val (.int cc), .val (.ref b76), .unset] [(.int cc)])) _
              refine XS.iload X91.here hx rfl (hb hby at_253) rfl ?_
              exact kk_)
            by_cases c125 : cc = u2
            · have P126 := own_step (C := T91.setTop (mkF m 258 #[.val (.int pk), .val (.int qq), .val (.int md), .val (.int d0), .val (.int u1), .val (.int u2), .val (.int nn), .val (.ref b25), .val (.ref x30), .val (.int (((md.toUInt32 >>> ((16 : Int32) &&& 31).toUInt32).toInt32) &&& (7 : Int32))), .val (.int ((((md.toUInt32 >>> ((16 : Int32) &&& 31).toUInt32).toInt32) &&& (7 : Int32)) + (((md.toUInt32 >>> ((19 : Int32) &&& 31).toUInt32).toInt32) &&& (7 : Int32)))), .val (.int (md &&& (3 : Int32))), .val (.int cc), .val (.ref b76), .unset] [])) P124 (by
                intro tt_ kk_
                refine XS.icmpNo X91.here hx rfl (hb hby at_255) rfl (teq c125).2 ?_
                exact kk_)
              have P127 := own_step (C := T91.setTop (mkF m 263 #[.val (.int pk), .val (.int qq), .val (.int md), .val (.int d0), .val (.int u1), .val (.int u2), .val (.int nn), .val (.ref b25), .val (.ref x30), .val (.int (((md.toUInt32 >>> ((16 : Int32) &&& 31).toUInt32).toInt32) &&& (7 : Int32))), .val (.int ((((md.toUInt32 >>> ((16 : Int32) &&& 31).toUInt32).toInt32) &&& (7 : Int32)) + (((md.toUInt32 >>> ((19 : Int32) &&& 31).toUInt32).toInt32) &&& (7 : Int32)))), .val (.int (md &&& (3 : Int32))), .val (.int cc), .val (.ref b76), .unset] [(.int (1 : Int32))])) P126 (by
                intro tt_ kk_
                refine XS.iconst X91.here hx rfl (hb hby at_258) ?_
                show Steps p.tables e below (T91.setTop (mkF m 259 #[.val (.int pk), .val (.int qq), .val (.int md), .val (.int d0), .val (.int u1), .val (.int u2), .val (.int nn), .val (.ref b25), .val (.ref x30), .val (.int (((md.toUInt32 >>> ((16 : Int32) &&& 31).toUInt32).toInt32) &&& (7 : Int32))), .val (.int ((((md.toUInt32 >>> ((16 : Int32) &&& 31).toUInt32).toInt32) &&& (7 : Int32)) + (((md.toUInt32 >>> ((19 : Int32) &&& 31).toUInt32).toInt32) &&& (7 : Int32)))), .val (.int (md &&& (3 : Int32))), .val (.int cc), .val (.ref b76), .unset] [(.int (1 : Int32))])) _
                refine XS.goto X91.here hx rfl (pc0 := 259) (pc' := 263) rfl (hb hby at_259) (by decide) (by decide) ?_
                exact kk_)
              exact ⟨(1 : Int32), Or.inr (Or.inr (Or.inl ⟨c112, c115, c120, c125, rfl⟩)), P127⟩
            · have P128 := own_step (C := T91.setTop (mkF m 262 #[.val (.int pk), .val (.int qq), .val (.int md), .val (.int d0), .val (.int u1), .val (.int u2), .val (.int nn), .val (.ref b25), .val (.ref x30), .val (.int (((md.toUInt32 >>> ((16 : Int32) &&& 31).toUInt32).toInt32) &&& (7 : Int32))), .val (.int ((((md.toUInt32 >>> ((16 : Int32) &&& 31).toUInt32).toInt32) &&& (7 : Int32)) + (((md.toUInt32 >>> ((19 : Int32) &&& 31).toUInt32).toInt32) &&& (7 : Int32)))), .val (.int (md &&& (3 : Int32))), .val (.int cc), .val (.ref b76), .unset] [])) P124 (by
                intro tt_ kk_
                refine XS.icmpYes X91.here hx rfl (pc0 := 255) (pc' := 262) rfl (hb hby at_255) rfl (feq c125).2 (by decide) (by decide) ?_
                exact kk_)
              have P129 := own_step (C := T91.setTop (mkF m 263 #[.val (.int pk), .val (.int qq), .val (.int md), .val (.int d0), .val (.int u1), .val (.int u2), .val (.int nn), .val (.ref b25), .val (.ref x30), .val (.int (((md.toUInt32 >>> ((16 : Int32) &&& 31).toUInt32).toInt32) &&& (7 : Int32))), .val (.int ((((md.toUInt32 >>> ((16 : Int32) &&& 31).toUInt32).toInt32) &&& (7 : Int32)) + (((md.toUInt32 >>> ((19 : Int32) &&& 31).toUInt32).toInt32) &&& (7 : Int32)))), .val (.int (md &&& (3 : Int32))), .val (.int cc), .val (.ref b76), .unset] [(.int (0 : Int32))])) P128 (by
                intro tt_ kk_
                refine XS.iconst X91.here hx rfl (hb hby at_262) ?_
                exact kk_)
              exact ⟨(0 : Int32), Or.inr (Or.inr (Or.inr (Or.inl ⟨c112, c115, c120, c125, rfl⟩))), P129⟩
      · have P130 := own_step (C := T91.setTop (mkF m 262 #[.val (.int pk), .val (.int qq), .val (.int md), .val (.int d0), .val (.int u1), .val (.int u2), .val (.int nn), .val (.ref b25), .val (.ref x30), .val (.int (((md.toUInt32 >>> ((16 : Int32) &&& 31).toUInt32).toInt32) &&& (7 : Int32))), .val (.int ((((md.toUInt32 >>> ((16 : Int32) &&& 31).toUInt32).toInt32) &&& (7 : Int32)) + (((md.toUInt32 >>> ((19 : Int32) &&& 31).toUInt32).toInt32) &&& (7 : Int32)))), .val (.int (md &&& (3 : Int32))), .val (.int cc), .val (.ref b76), .unset] [])) P111 (by
          intro tt_ kk_
          refine XS.ifYes X91.here hx rfl (pc0 := 235) (pc' := 262) rfl (hb hby at_235) rfl ((if0 _ _).trans (flt c112).2.2.2) (by decide) (by decide) ?_
          exact kk_)
        have P131 := own_step (C := T91.setTop (mkF m 263 #[.val (.int pk), .val (.int qq), .val (.int md), .val (.int d0), .val (.int u1), .val (.int u2), .val (.int nn), .val (.ref b25), .val (.ref x30), .val (.int (((md.toUInt32 >>> ((16 : Int32) &&& 31).toUInt32).toInt32) &&& (7 : Int32))), .val (.int ((((md.toUInt32 >>> ((16 : Int32) &&& 31).toUInt32).toInt32) &&& (7 : Int32)) + (((md.toUInt32 >>> ((19 : Int32) &&& 31).toUInt32).toInt32) &&& (7 : Int32)))), .val (.int (md &&& (3 : Int32))), .val (.int cc), .val (.ref b76), .unset] [(.int (0 : Int32))])) P130 (by
          intro tt_ kk_
          refine XS.iconst X91.here hx rfl (hb hby at_262) ?_
          exact kk_)
        exact ⟨(0 : Int32), Or.inr (Or.inr (Or.inr (Or.inr (⟨c112, rfl⟩)))), P131⟩
    have P132 := own_step P109 J110
    have P133 := own_step (C := T91.setTop (mkF m 269 #[.val (.int pk), .val (.int qq), .val (.int md), .val (.int d0), .val (.int u1), .val (.int u2), .val (.int nn), .val (.ref b25), .val (.ref x30), .val (.int (((md.toUInt32 >>> ((16 : Int32) &&& 31).toUInt32).toInt32) &&& (7 : Int32))), .val (.int ((((md.toUInt32 >>> ((16 : Int32) &&& 31).toUInt32).toInt32) &&& (7 : Int32)) + (((md.toUInt32 >>> ((19 : Int32) &&& 31).toUInt32).toInt32) &&& (7 : Int32)))), .val (.int (md &&& (3 : Int32))), .val (.int cc), .val (.ref b76), .val (.int ve)] [(.int cc), (.ref b76)])) P132 (by
      intro tt_ kk_
      refine XS.istore X91.here hx rfl (hb hby at_263) rfl (l' := #[.val (.int pk), .val (.int qq), .val (.int md), .val (.int d0), .val (.int u1), .val (.int u2), .val (.int nn), .val (.ref b25), .val (.ref x30), .val (.int (((md.toUInt32 >>> ((16 : Int32) &&& 31).toUInt32).toInt32) &&& (7 : Int32))), .val (.int ((((md.toUInt32 >>> ((16 : Int32) &&& 31).toUInt32).toInt32) &&& (7 : Int32)) + (((md.toUInt32 >>> ((19 : Int32) &&& 31).toUInt32).toInt32) &&& (7 : Int32)))), .val (.int (md &&& (3 : Int32))), .val (.int cc), .val (.ref b76), .val (.int ve)]) rfl ?_
      show Steps p.tables e below (T91.setTop (mkF m 265 #[.val (.int pk), .val (.int qq), .val (.int md), .val (.int d0), .val (.int u1), .val (.int u2), .val (.int nn), .val (.ref b25), .val (.ref x30), .val (.int (((md.toUInt32 >>> ((16 : Int32) &&& 31).toUInt32).toInt32) &&& (7 : Int32))), .val (.int ((((md.toUInt32 >>> ((16 : Int32) &&& 31).toUInt32).toInt32) &&& (7 : Int32)) + (((md.toUInt32 >>> ((19 : Int32) &&& 31).toUInt32).toInt32) &&& (7 : Int32)))), .val (.int (md &&& (3 : Int32))), .val (.int cc), .val (.ref b76), .val (.int ve)] [])) _
      refine XS.aload X91.here hx rfl (hb hby at_265) rfl rfl ?_
      show Steps p.tables e below (T91.setTop (mkF m 267 #[.val (.int pk), .val (.int qq), .val (.int md), .val (.int d0), .val (.int u1), .val (.int u2), .val (.int nn), .val (.ref b25), .val (.ref x30), .val (.int (((md.toUInt32 >>> ((16 : Int32) &&& 31).toUInt32).toInt32) &&& (7 : Int32))), .val (.int ((((md.toUInt32 >>> ((16 : Int32) &&& 31).toUInt32).toInt32) &&& (7 : Int32)) + (((md.toUInt32 >>> ((19 : Int32) &&& 31).toUInt32).toInt32) &&& (7 : Int32)))), .val (.int (md &&& (3 : Int32))), .val (.int cc), .val (.ref b76), .val (.int ve)] [(.ref b76)])) _
      refine XS.iload X91.here hx rfl (hb hby at_267) rfl ?_
      exact kk_)
    obtain ⟨cq134, kq134, q134a, q134b, q134c⟩ := isOf hZ25 rfl f92
    obtain ⟨_, _, ⟨T134, L134, k134, n134⟩, -, X134, ⟨Lc134, hQ134, l134, y134, z134⟩, st134⟩ := X91.virtualBack hx (y := (⟨"com/example/gatehouse/gatehouse/pattern/NameShape", "allows", "(I)Z"⟩ : MethodName)) (z := (⟨"com/example/gatehouse/gatehouse/pattern/NameShape", "allows", "(I)Z"⟩ : MethodName)) hown25 (mvT hZ25 (hw _ (List.mem_of_getElem? (i := 62) rfl))) (mvT hZ25 (hw _ (List.mem_of_getElem? (i := 63) rfl))) (notFace_of_selects (args := #[]) (mvT hZ25 (hw _ (List.mem_of_getElem? (i := 65) rfl)))) (mvT hZ25 (hw _ (List.mem_of_getElem? (i := 65) rfl))) (mvT hZ25 (hw _ (List.mem_of_getElem? (i := 64) rfl))) (by decide) (backOf (W := 0) (rm_own_all l Z a0 hw [] b76 cc (0 : Int64) (0 : Int64) T91.heap n0 Z106 f93 f94) hZ25 (hw _ (List.mem_of_getElem? (i := 66) rfl)) (hw _ (List.mem_of_getElem? (i := 31) rfl)) (by decide) (by decide)) q134a q134c (g := (mkF m 269 #[.val (.int pk), .val (.int qq), .val (.int md), .val (.int d0), .val (.int u1), .val (.int u2), .val (.int nn), .val (.ref b25), .val (.ref x30), .val (.int (((md.toUInt32 >>> ((16 : Int32) &&& 31).toUInt32).toInt32) &&& (7 : Int32))), .val (.int ((((md.toUInt32 >>> ((16 : Int32) &&& 31).toUInt32).toInt32) &&& (7 : Int32)) + (((md.toUInt32 >>> ((19 : Int32) &&& 31).toUInt32).toInt32) &&& (7 : Int32)))), .val (.int (md &&& (3 : Int32))), .val (.int cc), .val (.ref b76), .val (.int ve)] [(.int cc), (.ref b76)])) rfl (by rw [hml]; rfl) (Steps.refl _) (argsL := [(.int cc)]) (rest := []) (lenOf pd18 rfl) rfl (by show 2 * 0 + _ ≤ _; exact Nat.le_of_eq rfl) (hb hby at_269) (fun _ _ => ⟨rfl, rfl, (by decide : 5 + 0 ≤ _), (by decide : 14 + 0 ≤ _)⟩)
    dsimp only [Pt.U, Pt.locs, Pt.cells, Pt.slots] at X134 l134 y134 z134 st134 hQ134
    subst l134 y134 z134
    obtain ⟨rfl, N134q, e134⟩ := hQ134
    have N134 := Fr.app N91 N134q
    have P135 := own_step (C := T134.setTop (mkF m 272 #[.val (.int pk), .val (.int qq), .val (.int md), .val (.int d0), .val (.int u1), .val (.int u2), .val (.int nn), .val (.ref b25), .val (.ref x30), .val (.int (((md.toUInt32 >>> ((16 : Int32) &&& 31).toUInt32).toInt32) &&& (7 : Int32))), .val (.int ((((md.toUInt32 >>> ((16 : Int32) &&& 31).toUInt32).toInt32) &&& (7 : Int32)) + (((md.toUInt32 >>> ((19 : Int32) &&& 31).toUInt32).toInt32) &&& (7 : Int32)))), .val (.int (md &&& (3 : Int32))), .val (.int cc), .val (.ref b76), .val (.int ve)] [(.int (own_all cc (0 : Int64) (0 : Int64)))])) P133 (fun t_ k_ => st134.trans k_)
    have P136 := own_step (C := T134.setTop (mkF m 274 #[.val (.int pk), .val (.int qq), .val (.int md), .val (.int d0), .val (.int u1), .val (.int u2), .val (.int nn), .val (.ref b25), .val (.ref x30), .val (.int (((md.toUInt32 >>> ((16 : Int32) &&& 31).toUInt32).toInt32) &&& (7 : Int32))), .val (.int ((((md.toUInt32 >>> ((16 : Int32) &&& 31).toUInt32).toInt32) &&& (7 : Int32)) + (((md.toUInt32 >>> ((19 : Int32) &&& 31).toUInt32).toInt32) &&& (7 : Int32)))), .val (.int (md &&& (3 : Int32))), .val (.int cc), .val (.ref b76), .val (.int ve)] [(.int ve), (.int (own_all cc (0 : Int64) (0 : Int64)))])) P135 (by
      intro tt_ kk_
      refine XS.iload X134.here hx rfl (hb hby at_272) rfl ?_
      exact kk_)
    have P137 := own_step (C := T134.setTop (mkF m 277 #[.val (.int pk), .val (.int qq), .val (.int md), .val (.int d0), .val (.int u1), .val (.int u2), .val (.int nn), .val (.ref b25), .val (.ref x30), .val (.int (((md.toUInt32 >>> ((16 : Int32) &&& 31).toUInt32).toInt32) &&& (7 : Int32))), .val (.int ((((md.toUInt32 >>> ((16 : Int32) &&& 31).toUInt32).toInt32) &&& (7 : Int32)) + (((md.toUInt32 >>> ((19 : Int32) &&& 31).toUInt32).toInt32) &&& (7 : Int32)))), .val (.int (md &&& (3 : Int32))), .val (.int cc), .val (.ref b76), .val (.int ve)] [])) P136 (by
      intro tt_ kk_
      refine XS.icmpNo X134.here hx rfl (hb hby at_274) rfl (teq (own_finA c23 hv110)).2 ?_
      exact kk_)
    have P138 := own_step (C := T134.setTop (mkF m 282 #[.val (.int pk), .val (.int qq), .val (.int md), .val (.int d0), .val (.int u1), .val (.int u2), .val (.int nn), .val (.ref b25), .val (.ref x30), .val (.int (((md.toUInt32 >>> ((16 : Int32) &&& 31).toUInt32).toInt32) &&& (7 : Int32))), .val (.int ((((md.toUInt32 >>> ((16 : Int32) &&& 31).toUInt32).toInt32) &&& (7 : Int32)) + (((md.toUInt32 >>> ((19 : Int32) &&& 31).toUInt32).toInt32) &&& (7 : Int32)))), .val (.int (md &&& (3 : Int32))), .val (.int cc), .val (.ref b76), .val (.int ve)] [(.int (1 : Int32))])) P137 (by
      intro tt_ kk_
      refine XS.iconst X134.here hx rfl (hb hby at_277) ?_
      show Steps p.tables e below (T134.setTop (mkF m 278 #[.val (.int pk), .val (.int qq), .val (.int md), .val (.int d0), .val (.int u1), .val (.int u2), .val (.int nn), .val (.ref b25), .val (.ref x30), .val (.int (((md.toUInt32 >>> ((16 : Int32) &&& 31).toUInt32).toInt32) &&& (7 : Int32))), .val (.int ((((md.toUInt32 >>> ((16 : Int32) &&& 31).toUInt32).toInt32) &&& (7 : Int32)) + (((md.toUInt32 >>> ((19 : Int32) &&& 31).toUInt32).toInt32) &&& (7 : Int32)))), .val (.int (md &&& (3 : Int32))), .val (.int cc), .val (.ref b76), .val (.int ve)] [(.int (1 : Int32))])) _
      refine XS.goto X134.here hx rfl (pc0 := 278) (pc' := 282) rfl (hb hby at_278) (by decide) (by decide) ?_
      exact kk_)
    obtain ⟨fs, hr, hrun, hended, hW⟩ := X134.leaveW S25 (by rw [e134]; exact kz107) (v := some (.int (1 : Int32))) (fun h => by rw [Bd.returns] at h; cases h)
    refine ⟨_, _, P138 _ ?_, hrun, hended, _, _, rfl, ?_, ⟨hW.1, hW.2.1, hW.2.2.1, hW.2.2.2.mono (by decide) (by decide)⟩⟩
    · exact retN X134 hx (t := .boolean) Bd.returns (by simp) (hb hby at_282) hr
    · show Q0 Z _ _ _ _ _ h0 n0 _ T134.heap _
      rw [e134]
      exact ⟨rfl, N134⟩
  · have P139 := own_step (C := s₁.setTop (mkF m 62 #[.val (.int pk), .val (.int qq), .val (.int md), .val (.int d0), .val (.int u1), .val (.int u2), .val (.int nn), .unset, .unset, .unset, .unset, .unset, .unset, .unset, .unset] [])) P22 (by
      intro tt_ kk_
      refine XS.ifYes X0.here hx rfl (pc0 := 54) (pc' := 62) rfl (hb hby at_54) rfl ((if0 _ _).trans (feq c23).2) (by decide) (by decide) ?_
      exact kk_)
    obtain ⟨T140, h140, X140, e140, E140, A140, D140, -, st140⟩ := newO X0 hx hZ hown (hw _ (List.mem_of_getElem? (i := 67) rfl)) (hw _ (List.mem_of_getElem? (i := 2) rfl)) (hw _ (List.mem_of_getElem? (i := 1) rfl)) e0 (g := (mkF m 62 #[.val (.int pk), .val (.int qq), .val (.int md), .val (.int d0), .val (.int u1), .val (.int u2), .val (.int nn), .unset, .unset, .unset, .unset, .unset, .unset, .unset, .unset] [])) rfl (hb hby at_62) (by decide) (by decide)
    obtain ⟨b140, g140⟩ : ∃ z, z = h0.size := ⟨_, rfl⟩
    rw [← g140] at A140 D140 st140
    have g_b140 : n0 ≤ b140 := Nat.le_trans Z0 (Nat.le_of_eq g140.symm)
    have f141 := O.ext E140
    have Z142 : n0 ≤ h140.size := Nat.le_trans Z0 E140.1
    have f143 : Fld Z h140 b140 "java/lang/String" "value" "[B" .null := D140 (Or.inr (hw _ (List.mem_of_getElem? (i := 4) rfl))) (ty := (.array .byte)) (by decide)
    have f144 : Fld Z h140 b140 "java/lang/String" "coder" "B" (.int (0 : Int32)) := D140 (Or.inr (hw _ (List.mem_of_getElem? (i := 5) rfl))) (ty := .byte) (by decide)
    have P145 := own_step (C := T140.setTop (mkF m 65 #[.val (.int pk), .val (.int qq), .val (.int md), .val (.int d0), .val (.int u1), .val (.int u2), .val (.int nn), .unset, .unset, .unset, .unset, .unset, .unset, .unset, .unset] [(.ref b140)])) P139 (fun t_ k_ => st140 t_ k_)
    have P146 := own_step (C := T140.setTop (mkF m 67 #[.val (.int pk), .val (.int qq), .val (.int md), .val (.int d0), .val (.int u1), .val (.int u2), .val (.int nn), .unset, .unset, .unset, .unset, .unset, .unset, .unset, .unset] [(.int (3 : Int32)), (.ref b140), (.ref b140)])) P145 (by
      intro tt_ kk_
      refine XS.dup X140.here hx rfl (hb hby at_65) rfl rfl ?_
      show Steps p.tables e below (T140.setTop (mkF m 66 #[.val (.int pk), .val (.int qq), .val (.int md), .val (.int d0), .val (.int u1), .val (.int u2), .val (.int nn), .unset, .unset, .unset, .unset, .unset, .unset, .unset, .unset] [(.ref b140), (.ref b140)])) _
      refine XS.iconst X140.here hx rfl (hb hby at_66) ?_
      exact kk_)
    obtain ⟨T147, h147, k147, X147, e147, E147, A147, st147⟩ := newP X140 hx hZ (hw _ (List.mem_of_getElem? (i := 68) rfl)) e140 (g := (mkF m 67 #[.val (.int pk), .val (.int qq), .val (.int md), .val (.int d0), .val (.int u1), .val (.int u2), .val (.int nn), .unset, .unset, .unset, .unset, .unset, .unset, .unset, .unset] [(.int (3 : Int32)), (.ref b140), (.ref b140)])) rfl (hb hby at_67) rfl (by decide) (cap := 3) (by decide) (by decide) (by decide) (by decide)
    obtain ⟨b147, g147⟩ : ∃ z, z = h140.size := ⟨_, rfl⟩
    rw [← g147] at A147 st147
    have ne_b140_b147 : b140 ≠ b147 := Nat.ne_of_lt (Nat.lt_of_lt_of_le A140.lt (Nat.le_of_eq g147.symm))
    have g_b147 : n0 ≤ b147 := Nat.le_trans Z142 (Nat.le_of_eq g147.symm)
    have f148 := f141.ext E147
    have f149 := A140.ext E147
    have f150 := f143.ext E147
    have f151 := f144.ext E147
    have Z152 : n0 ≤ h147.size := Nat.le_trans Z142 E147.1
    have V147 : Arv Z h147 b147 k147 .char (3 : Int32) [(.int (0 : Int32)), (.int (0 : Int32)), (.int (0 : Int32))] (.int (0 : Int32)) := (Arv.new A147 (by decide)).pad (pad_rep [] _ 3)
    have P153 := own_step (C := T147.setTop (mkF m 69 #[.val (.int pk), .val (.int qq), .val (.int md), .val (.int d0), .val (.int u1), .val (.int u2), .val (.int nn), .unset, .unset, .unset, .unset, .unset, .unset, .unset, .unset] [(.ref b147), (.ref b140), (.ref b140)])) P146 (fun t_ k_ => st147 t_ k_)
    have P154 := own_step (C := T147.setTop (mkF m 72 #[.val (.int pk), .val (.int qq), .val (.int md), .val (.int d0), .val (.int u1), .val (.int u2), .val (.int nn), .unset, .unset, .unset, .unset, .unset, .unset, .unset, .unset] [(.int d0), (.int (0 : Int32)), (.ref b147), (.ref b147), (.ref b140), (.ref b140)])) P153 (by
      intro tt_ kk_
      refine XS.dup X147.here hx rfl (hb hby at_69) rfl rfl ?_
      show Steps p.tables e below (T147.setTop (mkF m 70 #[.val (.int pk), .val (.int qq), .val (.int md), .val (.int d0), .val (.int u1), .val (.int u2), .val (.int nn), .unset, .unset, .unset, .unset, .unset, .unset, .unset, .unset] [(.ref b147), (.ref b147), (.ref b140), (.ref b140)])) _
      refine XS.iconst X147.here hx rfl (hb hby at_70) ?_
      show Steps p.tables e below (T147.setTop (mkF m 71 #[.val (.int pk), .val (.int qq), .val (.int md), .val (.int d0), .val (.int u1), .val (.int u2), .val (.int nn), .unset, .unset, .unset, .unset, .unset, .unset, .unset, .unset] [(.int (0 : Int32)), (.ref b147), (.ref b147), (.ref b140), (.ref b140)])) _
      refine XS.iloadN X147.here hx rfl (hb hby at_71) rfl ?_
      exact kk_)
    obtain ⟨cl155, Ar155, q155, S155, M155, H155, G155⟩ := id V147
    obtain ⟨T156, h156, X156, e156, W156, st156⟩ := stC X147 hx hZ e147 Ar155 (j := (0 : Int32)) (inb_of S155 (by decide : ¬ (0 : Int32) < 0 ∧ (0 : Int32) < (3 : Int32))) (g := (mkF m 72 #[.val (.int pk), .val (.int qq), .val (.int md), .val (.int d0), .val (.int u1), .val (.int u2), .val (.int nn), .unset, .unset, .unset, .unset, .unset, .unset, .unset, .unset] [(.int d0), (.int (0 : Int32)), (.ref b147), (.ref b147), (.ref b140), (.ref b140)])) rfl rfl (hb hby at_72)
    have f157 := f148.wr W156 g_b147
    have f158 := f149.wr W156
    have f159 := f150.other W156 (Or.inl ne_b140_b147)
    have f160 := f151.other W156 (Or.inl ne_b140_b147)
    have Z162 : n0 ≤ h156.size := Nat.le_trans Z152 (Keep.of_wr W156).1
    have V156 : Arv Z h156 b147 k147 .char (3 : Int32) [(.int (nar .char d0)), (.int (0 : Int32)), (.int (0 : Int32))] (.int (0 : Int32)) := Arv.set Ar155 q155 S155 M155 H155 G155 (fits_nar_char _) W156 0 rfl (Nat.le_of_ble_eq_true rfl)
    have N156 := Fr.snoc X156 N0 g_b147
    have P163 := own_step (C := T156.setTop (mkF m 73 #[.val (.int pk), .val (.int qq), .val (.int md), .val (.int d0), .val (.int u1), .val (.int u2), .val (.int nn), .unset, .unset, .unset, .unset, .unset, .unset, .unset, .unset] [(.ref b147), (.ref b140), (.ref b140)])) P154 (fun t_ k_ => st156 t_ k_)
    have P164 := own_step (C := T156.setTop (mkF m 77 #[.val (.int pk), .val (.int qq), .val (.int md), .val (.int d0), .val (.int u1), .val (.int u2), .val (.int nn), .unset, .unset, .unset, .unset, .unset, .unset, .unset, .unset] [(.int u1), (.int (1 : Int32)), (.ref b147), (.ref b147), (.ref b140), (.ref b140)])) P163 (by
      intro tt_ kk_
      refine XS.dup X156.here hx rfl (hb hby at_73) rfl rfl ?_
      show Steps p.tables e below (T156.setTop (mkF m 74 #[.val (.int pk), .val (.int qq), .val (.int md), .val (.int d0), .val (.int u1), .val (.int u2), .val (.int nn), .unset, .unset, .unset, .unset, .unset, .unset, .unset, .unset] [(.ref b147), (.ref b147), (.ref b140), (.ref b140)])) _
      refine XS.iconst X156.here hx rfl (hb hby at_74) ?_
      show Steps p.tables e below (T156.setTop (mkF m 75 #[.val (.int pk), .val (.int qq), .val (.int md), .val (.int d0), .val (.int u1), .val (.int u2), .val (.int nn), .unset, .unset, .unset, .unset, .unset, .unset, .unset, .unset] [(.int (1 : Int32)), (.ref b147), (.ref b147), (.ref b140), (.ref b140)])) _
      refine XS.iload X156.here hx rfl (hb hby at_75) rfl ?_
      exact kk_)
    obtain ⟨cl165, Ar165, q165, S165, M165, H165, G165⟩ := id V156
    obtain ⟨T166, h166, X166, e166, W166, st166⟩ := stC X156 hx hZ e156 Ar165 (j := (1 : Int32)) (inb_of S165 (by decide : ¬ (1 : Int32) < 0 ∧ (1 : Int32) < (3 : Int32))) (g := (mkF m 77 #[.val (.int pk), .val (.int qq), .val (.int md), .val (.int d0), .val (.int u1), .val (.int u2), .val (.int nn), .unset, .unset, .unset, .unset, .unset, .unset, .unset, .unset] [(.int u1), (.int (1 : Int32)), (.ref b147), (.ref b147), (.ref b140), (.ref b140)])) rfl rfl (hb hby at_77)
    have f167 := f157.wr W166 g_b147
    have f168 := f158.wr W166
    have f169 := f159.other W166 (Or.inl ne_b140_b147)
    have f170 := f160.other W166 (Or.inl ne_b140_b147)
    have Z172 : n0 ≤ h166.size := Nat.le_trans Z162 (Keep.of_wr W166).1
    have V166 : Arv Z h166 b147 k147 .char (3 : Int32) [(.int (nar .char d0)), (.int (nar .char u1)), (.int (0 : Int32))] (.int (0 : Int32)) := Arv.set Ar165 q165 S165 M165 H165 G165 (fits_nar_char _) W166 1 rfl (Nat.le_of_ble_eq_true rfl)
    have N166 := Fr.snoc X166 N156 g_b147
    have P173 := own_step (C := T166.setTop (mkF m 78 #[.val (.int pk), .val (.int qq), .val (.int md), .val (.int d0), .val (.int u1), .val (.int u2), .val (.int nn), .unset, .unset, .unset, .unset, .unset, .unset, .unset, .unset] [(.ref b147), (.ref b140), (.ref b140)])) P164 (fun t_ k_ => st166 t_ k_)
    have P174 := own_step (C := T166.setTop (mkF m 82 #[.val (.int pk), .val (.int qq), .val (.int md), .val (.int d0), .val (.int u1), .val (.int u2), .val (.int nn), .unset, .unset, .unset, .unset, .unset, .unset, .unset, .unset] [(.int u2), (.int (2 : Int32)), (.ref b147), (.ref b147), (.ref b140), (.ref b140)])) P173 (by
      intro tt_ kk_
      refine XS.dup X166.here hx rfl (hb hby at_78) rfl rfl ?_
      show Steps p.tables e below (T166.setTop (mkF m 79 #[.val (.int pk), .val (.int qq), .val (.int md), .val (.int d0), .val (.int u1), .val (.int u2), .val (.int nn), .unset, .unset, .unset, .unset, .unset, .unset, .unset, .unset] [(.ref b147), (.ref b147), (.ref b140), (.ref b140)])) _
      refine XS.iconst X166.here hx rfl (hb hby at_79) ?_
      show Steps p.tables e below (T166.setTop (mkF m 80 #[.val (.int pk), .val (.int qq), .val (.int md), .val (.int d0), .val (.int u1), .val (.int u2), .val (.int nn), .unset, .unset, .unset, .unset, .unset, .unset, .unset, .unset] [(.int (2 : Int32)), (.ref b147), (.ref b147), (.ref b140), (.ref b140)])) _
      refine XS.iload X166.here hx rfl (hb hby at_80) rfl ?_
      exact kk_)
    obtain ⟨cl175, Ar175, q175, S175, M175, H175, G175⟩ := id V166
    obtain ⟨T176, h176, X176, e176, W176, st176⟩ := stC X166 hx hZ e166 Ar175 (j := (2 : Int32)) (inb_of S175 (by decide : ¬ (2 : Int32) < 0 ∧ (2 : Int32) < (3 : Int32))) (g := (mkF m 82 #[.val (.int pk), .val (.int qq), .val (.int md), .val (.int d0), .val (.int u1), .val (.int u2), .val (.int nn), .unset, .unset, .unset, .unset, .unset, .unset, .unset, .unset] [(.int u2), (.int (2 : Int32)), (.ref b147), (.ref b147), (.ref b140), (.ref b140)])) rfl rfl (hb hby at_82)
    have f177 := f167.wr W176 g_b147
    have f178 := f168.wr W176
    have f179 := f169.other W176 (Or.inl ne_b140_b147)
    have f180 := f170.other W176 (Or.inl ne_b140_b147)
    have Z182 : n0 ≤ h176.size := Nat.le_trans Z172 (Keep.of_wr W176).1
    have V176 : Arv Z h176 b147 k147 .char (3 : Int32) [(.int (nar .char d0)), (.int (nar .char u1)), (.int (nar .char u2))] (.int (0 : Int32)) := Arv.set Ar175 q175 S175 M175 H175 G175 (fits_nar_char _) W176 2 rfl (Nat.le_of_ble_eq_true rfl)
    have N176 := Fr.snoc X176 N166 g_b147
    have P183 := own_step (C := T176.setTop (mkF m 83 #[.val (.int pk), .val (.int qq), .val (.int md), .val (.int d0), .val (.int u1), .val (.int u2), .val (.int nn), .unset, .unset, .unset, .unset, .unset, .unset, .unset, .unset] [(.ref b147), (.ref b140), (.ref b140)])) P174 (fun t_ k_ => st176 t_ k_)
    obtain ⟨_, _, ⟨T184, L184, k184, n184⟩, -, X184, ⟨Lc184, hQ184, l184, y184, z184⟩, st184⟩ := X176.specialBack hx (y := (⟨"java/lang/String", "<init>", "([C)V"⟩ : MethodName)) rfl hown (mvT hZ (hw _ (List.mem_of_getElem? (i := 69) rfl))) (mvT hZ (hw _ (List.mem_of_getElem? (i := 70) rfl))) (mvT hZ (hw _ (List.mem_of_getElem? (i := 71) rfl))) (by decide) (backOf (W := 1) (rm_initC_3 l Z a0 hw [] b140 b147 k147 (nar .char d0) (nar .char u1) (nar .char u2) cs h176 n0 Z182 f177 Scs hcs f178 f179 f180 g_b140 V176 (own_n255 gd0) (own_n255 ku1) (own_n255 ku2)) hZ (hw _ (List.mem_of_getElem? (i := 71) rfl)) (hw _ (List.mem_of_getElem? (i := 1) rfl)) (by decide) (by decide)) (g := (mkF m 83 #[.val (.int pk), .val (.int qq), .val (.int md), .val (.int d0), .val (.int u1), .val (.int u2), .val (.int nn), .unset, .unset, .unset, .unset, .unset, .unset, .unset, .unset] [(.ref b147), (.ref b140), (.ref b140)])) rfl (by rw [hml]; rfl) (Steps.refl _) (a := b140) (argsL := [(.ref b147)]) (rest := [(.ref b140)]) (lenOf pd19 rfl) rfl (by show 2 * 0 + _ ≤ _; exact Nat.le_of_eq rfl) (hb hby at_83) (fun _ _ => ⟨rfl, e176, (by decide : 2 + 1 ≤ _), (by decide : 7 + 3 ≤ _)⟩)
    dsimp only [Pt.U, Pt.locs, Pt.cells, Pt.slots] at X184 l184 y184 z184 st184 hQ184
    subst l184 y184 z184
    obtain ⟨x184, kk184, rfl, N184q, K184, f185, f186, f187, f188, f189⟩ := hQ184
    have N184 := Fr.app N176 N184q
    have ne_b140_x184 : b140 ≠ x184 := Nat.ne_of_lt (Nat.lt_of_lt_of_le f178.lt f189)
    have ne_b147_x184 : b147 ≠ x184 := Nat.ne_of_lt (Nat.lt_of_lt_of_le V176.lt f189)
    have g_x184 : n0 ≤ x184 := Nat.le_trans Z182 f189
    have f190 := f177.keep K184 (allS g_b140 all0)
    have f191 := f178.keep K184
    have f194 := V176.keep K184 (ninS (Ne.symm ne_b140_b147) nin0)
    have Z195 : n0 ≤ T184.heap.size := Nat.le_trans Z182 K184.1
    have P196 := own_step (C := T184.setTop (mkF m 86 #[.val (.int pk), .val (.int qq), .val (.int md), .val (.int d0), .val (.int u1), .val (.int u2), .val (.int nn), .unset, .unset, .unset, .unset, .unset, .unset, .unset, .unset] [(.ref b140)])) P183 (fun t_ k_ => st184.trans k_)
    have P197 := own_step (C := T184.setTop (mkF m 97 #[.val (.int pk), .val (.int qq), .val (.int md), .val (.int d0), .val (.int u1), .val (.int u2), .val (.int nn), .val (.ref b140), .unset, .unset, .unset, .unset, .unset, .unset, .unset] [(.int ((((md.toUInt32 >>> ((8 : Int32) &&& 31).toUInt32).toInt32) &&& (255 : Int32)).toUInt32.toUInt16.toUInt32.toInt32))])) P196 (by
      intro tt_ kk_
      refine XS.astore X184.here hx rfl (hb hby at_86) rfl rfl (l' := #[.val (.int pk), .val (.int qq), .val (.int md), .val (.int d0), .val (.int u1), .val (.int u2), .val (.int nn), .val (.ref b140), .unset, .unset, .unset, .unset, .unset, .unset, .unset]) rfl ?_
      show Steps p.tables e below (T184.setTop (mkF m 88 #[.val (.int pk), .val (.int qq), .val (.int md), .val (.int d0), .val (.int u1), .val (.int u2), .val (.int nn), .val (.ref b140), .unset, .unset, .unset, .unset, .unset, .unset, .unset] [])) _
      refine XS.iloadN X184.here hx rfl (hb hby at_88) rfl ?_
      show Steps p.tables e below (T184.setTop (mkF m 89 #[.val (.int pk), .val (.int qq), .val (.int md), .val (.int d0), .val (.int u1), .val (.int u2), .val (.int nn), .val (.ref b140), .unset, .unset, .unset, .unset, .unset, .unset, .unset] [(.int md)])) _
      refine XS.bipush X184.here hx rfl (hb hby at_89) ?_
      show Steps p.tables e below (T184.setTop (mkF m 91 #[.val (.int pk), .val (.int qq), .val (.int md), .val (.int d0), .val (.int u1), .val (.int u2), .val (.int nn), .val (.ref b140), .unset, .unset, .unset, .unset, .unset, .unset, .unset] [(.int (8 : Int32)), (.int md)])) _
      refine XS.iushr X184.here hx rfl (hb hby at_91) rfl ?_
      show Steps p.tables e below (T184.setTop (mkF m 92 #[.val (.int pk), .val (.int qq), .val (.int md), .val (.int d0), .val (.int u1), .val (.int u2), .val (.int nn), .val (.ref b140), .unset, .unset, .unset, .unset, .unset, .unset, .unset] [(.int ((md.toUInt32 >>> ((8 : Int32) &&& 31).toUInt32).toInt32))])) _
      refine XS.sipush X184.here hx rfl (hb hby at_92) ?_
      show Steps p.tables e below (T184.setTop (mkF m 95 #[.val (.int pk), .val (.int qq), .val (.int md), .val (.int d0), .val (.int u1), .val (.int u2), .val (.int nn), .val (.ref b140), .unset, .unset, .unset, .unset, .unset, .unset, .unset] [(.int (255 : Int32)), (.int ((md.toUInt32 >>> ((8 : Int32) &&& 31).toUInt32).toInt32))])) _
      refine XS.iand X184.here hx rfl (hb hby at_95) rfl ?_
      show Steps p.tables e below (T184.setTop (mkF m 96 #[.val (.int pk), .val (.int qq), .val (.int md), .val (.int d0), .val (.int u1), .val (.int u2), .val (.int nn), .val (.ref b140), .unset, .unset, .unset, .unset, .unset, .unset, .unset] [(.int (((md.toUInt32 >>> ((8 : Int32) &&& 31).toUInt32).toInt32) &&& (255 : Int32)))])) _
      refine XS.i2c X184.here hx rfl (hb hby at_96) rfl ?_
      exact kk_)
    obtain ⟨_, _, ⟨T198, L198, k198, n198⟩, -, X198, ⟨Lc198, hQ198, l198, y198, z198⟩, st198⟩ := Jvm.LawKit.callS X184 hx (y := (⟨"java/lang/String", "valueOf", "(C)Ljava/lang/String;"⟩ : MethodName)) hown (mvT hZ (hw _ (List.mem_of_getElem? (i := 8) rfl))) (mvT hZ (hw _ (List.mem_of_getElem? (i := 9) rfl))) (mvT hZ (hw _ (List.mem_of_getElem? (i := 1) rfl))) (mvT hZ (hw _ (List.mem_of_getElem? (i := 10) rfl))) (by decide) (backOf (W := 0) (rm_valueOf l Z a0 hw [] ((((md.toUInt32 >>> ((8 : Int32) &&& 31).toUInt32).toInt32) &&& (255 : Int32)).toUInt32.toUInt16.toUInt32.toInt32) cs T184.heap n0 Z195 f190 Scs hcs (own_v255 _)) hZ (hw _ (List.mem_of_getElem? (i := 10) rfl)) (hw _ (List.mem_of_getElem? (i := 1) rfl)) (by decide) (by decide)) (g := (mkF m 97 #[.val (.int pk), .val (.int qq), .val (.int md), .val (.int d0), .val (.int u1), .val (.int u2), .val (.int nn), .val (.ref b140), .unset, .unset, .unset, .unset, .unset, .unset, .unset] [(.int ((((md.toUInt32 >>> ((8 : Int32) &&& 31).toUInt32).toInt32) &&& (255 : Int32)).toUInt32.toUInt16.toUInt32.toInt32))])) rfl (by rw [hml]; rfl) (argsL := [(.int ((((md.toUInt32 >>> ((8 : Int32) &&& 31).toUInt32).toInt32) &&& (255 : Int32)).toUInt32.toUInt16.toUInt32.toInt32))]) (rest := []) (lenOf pd16 rfl) rfl (by show 2 * 0 + _ ≤ _; exact Nat.le_of_eq rfl) (hb hby at_97) (fun _ _ => ⟨rfl, rfl, (by decide : 3 + 2 ≤ _), (by decide : 10 + 5 ≤ _)⟩)
    dsimp only [Pt.U, Pt.locs, Pt.cells, Pt.slots] at X198 l198 y198 z198 st198 hQ198
    subst l198 y198 z198
    obtain ⟨x198, rfl, N198q, K198, f199, f200⟩ := hQ198
    have N198 := Fr.app N184 N198q
    have ne_b140_x198 : b140 ≠ x198 := Nat.ne_of_lt (Nat.lt_of_lt_of_le f185.lt f199)
    have ne_b147_x198 : b147 ≠ x198 := Nat.ne_of_lt (Nat.lt_of_lt_of_le f194.lt f199)
    have ne_x184_x198 : x184 ≠ x198 := Nat.ne_of_lt (Nat.lt_of_lt_of_le f188.lt f199)
    have g_x198 : n0 ≤ x198 := Nat.le_trans Z195 f199
    have f201 := f190.keep K198 all0
    have f202 := f185.keep K198
    have f203 := f194.keep K198 nin0
    have f204 := f186.keep K198 nin0
    have f205 := f187.keep K198 nin0
    have f206 := f188.keep K198 nin0
    have Z207 : n0 ≤ T198.heap.size := Nat.le_trans Z195 K198.1
    have P208 := own_step (C := T198.setTop (mkF m 100 #[.val (.int pk), .val (.int qq), .val (.int md), .val (.int d0), .val (.int u1), .val (.int u2), .val (.int nn), .val (.ref b140), .unset, .unset, .unset, .unset, .unset, .unset, .unset] [(.ref x198)])) P197 (fun t_ k_ => st198 t_ k_)
    have P209 := own_step (C := T198.setTop (mkF m 128 #[.val (.int pk), .val (.int qq), .val (.int md), .val (.int d0), .val (.int u1), .val (.int u2), .val (.int nn), .val (.ref b140), .val (.ref x198), .val (.int (((md.toUInt32 >>> ((16 : Int32) &&& 31).toUInt32).toInt32) &&& (7 : Int32))), .val (.int ((((md.toUInt32 >>> ((16 : Int32) &&& 31).toUInt32).toInt32) &&& (7 : Int32)) + (((md.toUInt32 >>> ((19 : Int32) &&& 31).toUInt32).toInt32) &&& (7 : Int32)))), .val (.int (md &&& (3 : Int32))), .unset, .unset, .unset] [])) P208 (by
      intro tt_ kk_
      refine XS.astore X198.here hx rfl (hb hby at_100) rfl rfl (l' := #[.val (.int pk), .val (.int qq), .val (.int md), .val (.int d0), .val (.int u1), .val (.int u2), .val (.int nn), .val (.ref b140), .val (.ref x198), .unset, .unset, .unset, .unset, .unset, .unset]) rfl ?_
      show Steps p.tables e below (T198.setTop (mkF m 102 #[.val (.int pk), .val (.int qq), .val (.int md), .val (.int d0), .val (.int u1), .val (.int u2), .val (.int nn), .val (.ref b140), .val (.ref x198), .unset, .unset, .unset, .unset, .unset, .unset] [])) _
      refine XS.iloadN X198.here hx rfl (hb hby at_102) rfl ?_
      show Steps p.tables e below (T198.setTop (mkF m 103 #[.val (.int pk), .val (.int qq), .val (.int md), .val (.int d0), .val (.int u1), .val (.int u2), .val (.int nn), .val (.ref b140), .val (.ref x198), .unset, .unset, .unset, .unset, .unset, .unset] [(.int md)])) _
      refine XS.bipush X198.here hx rfl (hb hby at_103) ?_
      show Steps p.tables e below (T198.setTop (mkF m 105 #[.val (.int pk), .val (.int qq), .val (.int md), .val (.int d0), .val (.int u1), .val (.int u2), .val (.int nn), .val (.ref b140), .val (.ref x198), .unset, .unset, .unset, .unset, .unset, .unset] [(.int (16 : Int32)), (.int md)])) _
      refine XS.iushr X198.here hx rfl (hb hby at_105) rfl ?_
      show Steps p.tables e below (T198.setTop (mkF m 106 #[.val (.int pk), .val (.int qq), .val (.int md), .val (.int d0), .val (.int u1), .val (.int u2), .val (.int nn), .val (.ref b140), .val (.ref x198), .unset, .unset, .unset, .unset, .unset, .unset] [(.int ((md.toUInt32 >>> ((16 : Int32) &&& 31).toUInt32).toInt32))])) _
      refine XS.bipush X198.here hx rfl (hb hby at_106) ?_
      show Steps p.tables e below (T198.setTop (mkF m 108 #[.val (.int pk), .val (.int qq), .val (.int md), .val (.int d0), .val (.int u1), .val (.int u2), .val (.int nn), .val (.ref b140), .val (.ref x198), .unset, .unset, .unset, .unset, .unset, .unset] [(.int (7 : Int32)), (.int ((md.toUInt32 >>> ((16 : Int32) &&& 31).toUInt32).toInt32))])) _
      refine XS.iand X198.here hx rfl (hb hby at_108) rfl ?_
      show Steps p.tables e below (T198.setTop (mkF m 109 #[.val (.int pk), .val (.int qq), .val (.int md), .val (.int d0), .val (.int u1), .val (.int u2), .val (.int nn), .val (.ref b140), .val (.ref x198), .unset, .unset, .unset, .unset, .unset, .unset] [(.int (((md.toUInt32 >>> ((16 : Int32) &&& 31).toUInt32).toInt32) &&& (7 : Int32)))])) _
      refine XS.istore X198.here hx rfl (hb hby at_109) rfl (l' := #[.val (.int pk), .val (.int qq), .val (.int md), .val (.int d0), .val (.int u1), .val (.int u2), .val (.int nn), .val (.ref b140), .val (.ref x198), .val (.int (((md.toUInt32 >>> ((16 : Int32) &&& 31).toUInt32).toInt32) &&& (7 : Int32))), .unset, .unset, .unset, .unset, .unset]) rfl ?_
      show Steps p.tables e below (T198.setTop (mkF m 111 #[.val (.int pk), .val (.int qq), .val (.int md), .val (.int d0), .val (.int u1), .val (.int u2), .val (.int nn), .val (.ref b140), .val (.ref x198), .val (.int (((md.toUInt32 >>> ((16 : Int32) &&& 31).toUInt32).toInt32) &&& (7 : Int32))), .unset, .unset, .unset, .unset, .unset] [])) _
      refine XS.iload X198.here hx rfl (hb hby at_111) rfl ?_
      show Steps p.tables e below (T198.setTop (mkF m 113 #[.val (.int pk), .val (.int qq), .val (.int md), .val (.int d0), .val (.int u1), .val (.int u2), .val (.int nn), .val (.ref b140), .val (.ref x198), .val (.int (((md.toUInt32 >>> ((16 : Int32) &&& 31).toUInt32).toInt32) &&& (7 : Int32))), .unset, .unset, .unset, .unset, .unset] [(.int (((md.toUInt32 >>> ((16 : Int32) &&& 31).toUInt32).toInt32) &&& (7 : Int32)))])) _
      refine XS.iloadN X198.here hx rfl (hb hby at_113) rfl ?_
      show Steps p.tables e below (T198.setTop (mkF m 114 #[.val (.int pk), .val (.int qq), .val (.int md), .val (.int d0), .val (.int u1), .val (.int u2), .val (.int nn), .val (.ref b140), .val (.ref x198), .val (.int (((md.toUInt32 >>> ((16 : Int32) &&& 31).toUInt32).toInt32) &&& (7 : Int32))), .unset, .unset, .unset, .unset, .unset] [(.int md), (.int (((md.toUInt32 >>> ((16 : Int32) &&& 31).toUInt32).toInt32) &&& (7 : Int32)))])) _
      refine XS.bipush X198.here hx rfl (hb hby at_114) ?_
      show Steps p.tables e below (T198.setTop (mkF m 116 #[.val (.int pk), .val (.int qq), .val (.int md), .val (.int d0), .val (.int u1), .val (.int u2), .val (.int nn), .val (.ref b140), .val (.ref x198), .val (.int (((md.toUInt32 >>> ((16 : Int32) &&& 31).toUInt32).toInt32) &&& (7 : Int32))), .unset, .unset, .unset, .unset, .unset] [(.int (19 : Int32)), (.int md), (.int (((md.toUInt32 >>> ((16 : Int32) &&& 31).toUInt32).toInt32) &&& (7 : Int32)))])) _
      refine XS.iushr X198.here hx rfl (hb hby at_116) rfl ?_
      show Steps p.tables e below (T198.setTop (mkF m 117 #[.val (.int pk), .val (.int qq), .val (.int md), .val (.int d0), .val (.int u1), .val (.int u2), .val (.int nn), .val (.ref b140), .val (.ref x198), .val (.int (((md.toUInt32 >>> ((16 : Int32) &&& 31).toUInt32).toInt32) &&& (7 : Int32))), .unset, .unset, .unset, .unset, .unset] [(.int ((md.toUInt32 >>> ((19 : Int32) &&& 31).toUInt32).toInt32)), (.int (((md.toUInt32 >>> ((16 : Int32) &&& 31).toUInt32).toInt32) &&& (7 : Int32)))])) _
      refine XS.bipush X198.here hx rfl (hb hby at_117) ?_
      show Steps p.tables e below (T198.setTop (mkF m 119 #[.val (.int pk), .val (.int qq), .val (.int md), .val (.int d0), .val (.int u1), .val (.int u2), .val (.int nn), .val (.ref b140), .val (.ref x198), .val (.int (((md.toUInt32 >>> ((16 : Int32) &&& 31).toUInt32).toInt32) &&& (7 : Int32))), .unset, .unset, .unset, .unset, .unset] [(.int (7 : Int32)), (.int ((md.toUInt32 >>> ((19 : Int32) &&& 31).toUInt32).toInt32)), (.int (((md.toUInt32 >>> ((16 : Int32) &&& 31).toUInt32).toInt32) &&& (7 : Int32)))])) _
      refine XS.iand X198.here hx rfl (hb hby at_119) rfl ?_
      show Steps p.tables e below (T198.setTop (mkF m 120 #[.val (.int pk), .val (.int qq), .val (.int md), .val (.int d0), .val (.int u1), .val (.int u2), .val (.int nn), .val (.ref b140), .val (.ref x198), .val (.int (((md.toUInt32 >>> ((16 : Int32) &&& 31).toUInt32).toInt32) &&& (7 : Int32))), .unset, .unset, .unset, .unset, .unset] [(.int (((md.toUInt32 >>> ((19 : Int32) &&& 31).toUInt32).toInt32) &&& (7 : Int32))), (.int (((md.toUInt32 >>> ((16 : Int32) &&& 31).toUInt32).toInt32) &&& (7 : Int32)))])) _
      refine XS.iadd X198.here hx rfl (hb hby at_120) rfl ?_
      show Steps p.tables e below (T198.setTop (mkF m 121 #[.val (.int pk), .val (.int qq), .val (.int md), .val (.int d0), .val (.int u1), .val (.int u2), .val (.int nn), .val (.ref b140), .val (.ref x198), .val (.int (((md.toUInt32 >>> ((16 : Int32) &&& 31).toUInt32).toInt32) &&& (7 : Int32))), .unset, .unset, .unset, .unset, .unset] [(.int ((((md.toUInt32 >>> ((16 : Int32) &&& 31).toUInt32).toInt32) &&& (7 : Int32)) + (((md.toUInt32 >>> ((19 : Int32) &&& 31).toUInt32).toInt32) &&& (7 : Int32))))])) _
      refine XS.istore X198.here hx rfl (hb hby at_121) rfl (l' := #[.val (.int pk), .val (.int qq), .val (.int md), .val (.int d0), .val (.int u1), .val (.int u2), .val (.int nn), .val (.ref b140), .val (.ref x198), .val (.int (((md.toUInt32 >>> ((16 : Int32) &&& 31).toUInt32).toInt32) &&& (7 : Int32))), .val (.int ((((md.toUInt32 >>> ((16 : Int32) &&& 31).toUInt32).toInt32) &&& (7 : Int32)) + (((md.toUInt32 >>> ((19 : Int32) &&& 31).toUInt32).toInt32) &&& (7 : Int32)))), .unset, .unset, .unset, .unset]) rfl ?_
      show Steps p.tables e below (T198.setTop (mkF m 123 #[.val (.int pk), .val (.int qq), .val (.int md), .val (.int d0), .val (.int u1), .val (.int u2), .val (.int nn), .val (.ref b140), .val (.ref x198), .val (.int (((md.toUInt32 >>> ((16 : Int32) &&& 31).toUInt32).toInt32) &&& (7 : Int32))), .val (.int ((((md.toUInt32 >>> ((16 : Int32) &&& 31).toUInt32).toInt32) &&& (7 : Int32)) + (((md.toUInt32 >>> ((19 : Int32) &&& 31).toUInt32).toInt32) &&& (7 : Int32)))), .unset, .unset, .unset, .unset] [])) _
      refine XS.iloadN X198.here hx rfl (hb hby at_123) rfl ?_
      show Steps p.tables e below (T198.setTop (mkF m 124 #[.val (.int pk), .val (.int qq), .val (.int md), .val (.int d0), .val (.int u1), .val (.int u2), .val (.int nn), .val (.ref b140), .val (.ref x198), .val (.int (((md.toUInt32 >>> ((16 : Int32) &&& 31).toUInt32).toInt32) &&& (7 : Int32))), .val (.int ((((md.toUInt32 >>> ((16 : Int32) &&& 31).toUInt32).toInt32) &&& (7 : Int32)) + (((md.toUInt32 >>> ((19 : Int32) &&& 31).toUInt32).toInt32) &&& (7 : Int32)))), .unset, .unset, .unset, .unset] [(.int md)])) _
      refine XS.iconst X198.here hx rfl (hb hby at_124) ?_
      show Steps p.tables e below (T198.setTop (mkF m 125 #[.val (.int pk), .val (.int qq), .val (.int md), .val (.int d0), .val (.int u1), .val (.int u2), .val (.int nn), .val (.ref b140), .val (.ref x198), .val (.int (((md.toUInt32 >>> ((16 : Int32) &&& 31).toUInt32).toInt32) &&& (7 : Int32))), .val (.int ((((md.toUInt32 >>> ((16 : Int32) &&& 31).toUInt32).toInt32) &&& (7 : Int32)) + (((md.toUInt32 >>> ((19 : Int32) &&& 31).toUInt32).toInt32) &&& (7 : Int32)))), .unset, .unset, .unset, .unset] [(.int (3 : Int32)), (.int md)])) _
      refine XS.iand X198.here hx rfl (hb hby at_125) rfl ?_
      show Steps p.tables e below (T198.setTop (mkF m 126 #[.val (.int pk), .val (.int qq), .val (.int md), .val (.int d0), .val (.int u1), .val (.int u2), .val (.int nn), .val (.ref b140), .val (.ref x198), .val (.int (((md.toUInt32 >>> ((16 : Int32) &&& 31).toUInt32).toInt32) &&& (7 : Int32))), .val (.int ((((md.toUInt32 >>> ((16 : Int32) &&& 31).toUInt32).toInt32) &&& (7 : Int32)) + (((md.toUInt32 >>> ((19 : Int32) &&& 31).toUInt32).toInt32) &&& (7 : Int32)))), .unset, .unset, .unset, .unset] [(.int (md &&& (3 : Int32)))])) _
      refine XS.istore X198.here hx rfl (hb hby at_126) rfl (l' := #[.val (.int pk), .val (.int qq), .val (.int md), .val (.int d0), .val (.int u1), .val (.int u2), .val (.int nn), .val (.ref b140), .val (.ref x198), .val (.int (((md.toUInt32 >>> ((16 : Int32) &&& 31).toUInt32).toInt32) &&& (7 : Int32))), .val (.int ((((md.toUInt32 >>> ((16 : Int32) &&& 31).toUInt32).toInt32) &&& (7 : Int32)) + (((md.toUInt32 >>> ((19 : Int32) &&& 31).toUInt32).toInt32) &&& (7 : Int32)))), .val (.int (md &&& (3 : Int32))), .unset, .unset, .unset]) rfl ?_
      exact kk_)
    obtain ⟨cc, sl210_0, hv210, osl210_0, J210⟩ : ∃ (cc : Int32) (sl210_0 : Slot), (((md &&& (3 : Int32)) = (0 : Int32) ∧ cc = qq) ∨ (¬ ((md &&& (3 : Int32)) = (0 : Int32)) ∧ (md &&& (3 : Int32)) = (1 : Int32) ∧ cc = (qq &&& (127 : Int32))) ∨ (¬ ((md &&& (3 : Int32)) = (0 : Int32)) ∧ ¬ ((md &&& (3 : Int32)) = (1 : Int32)) ∧ (md &&& (3 : Int32)) = (2 : Int32) ∧ (qq &&& (3 : Int32)) = (0 : Int32) ∧ cc = d0) ∨ (¬ ((md &&& (3 : Int32)) = (0 : Int32)) ∧ ¬ ((md &&& (3 : Int32)) = (1 : Int32)) ∧ (md &&& (3 : Int32)) = (2 : Int32) ∧ ¬ ((qq &&& (3 : Int32)) = (0 : Int32)) ∧ (qq &&& (3 : Int32)) = (1 : Int32) ∧ cc = u1) ∨ (¬ ((md &&& (3 : Int32)) = (0 : Int32)) ∧ ¬ ((md &&& (3 : Int32)) = (1 : Int32)) ∧ (md &&& (3 : Int32)) = (2 : Int32) ∧ ¬ ((qq &&& (3 : Int32)) = (0 : Int32)) ∧ ¬ ((qq &&& (3 : Int32)) = (1 : Int32)) ∧ (qq &&& (3 : Int32)) = (2 : Int32) ∧ cc = u2) ∨ (¬ ((md &&& (3 : Int32)) = (0 : Int32)) ∧ ¬ ((md &&& (3 : Int32)) = (1 : Int32)) ∧ (md &&& (3 : Int32)) = (2 : Int32) ∧ ¬ ((qq &&& (3 : Int32)) = (0 : Int32)) ∧ ¬ ((qq &&& (3 : Int32)) = (1 : Int32)) ∧ ¬ ((qq &&& (3 : Int32)) = (2 : Int32)) ∧ cc = (d0 + (64 : Int32))) ∨ (¬ ((md &&& (3 : Int32)) = (0 : Int32)) ∧ ¬ ((md &&& (3 : Int32)) = (1 : Int32)) ∧ ¬ ((md &&& (3 : Int32)) = (2 : Int32)) ∧ cc = ((qq &&& (511 : Int32)) - (192 : Int32)))) ∧ One sl210_0 ∧ own_Go p e below (T198.setTop (mkF m 128 #[.val (.int pk), .val (.int qq), .val (.int md), .val (.int d0), .val (.int u1), .val (.int u2), .val (.int nn), .val (.ref b140), .val (.ref x198), .val (.int (((md.toUInt32 >>> ((16 : Int32) &&& 31).toUInt32).toInt32) &&& (7 : Int32))), .val (.int ((((md.toUInt32 >>> ((16 : Int32) &&& 31).toUInt32).toInt32) &&& (7 : Int32)) + (((md.toUInt32 >>> ((19 : Int32) &&& 31).toUInt32).toInt32) &&& (7 : Int32)))), .val (.int (md &&& (3 : Int32))), .unset, .unset, .unset] [])) (T198.setTop (mkF m 216 #[.val (.int pk), .val (.int qq), .val (.int md), .val (.int d0), .val (.int u1), .val (.int u2), .val (.int nn), .val (.ref b140), .val (.ref x198), .val (.int (((md.toUInt32 >>> ((16 : Int32) &&& 31).toUInt32).toInt32) &&& (7 : Int32))), .val (.int ((((md.toUInt32 >>> ((16 : Int32) &&& 31).toUInt32).toInt32) &&& (7 : Int32)) + (((md.toUInt32 >>> ((19 : Int32) &&& 31).toUInt32).toInt32) &&& (7 : Int32)))), .val (.int (md &&& (3 : Int32))), .val (.int cc), sl210_0, .unset] [])) := by
      have P211 : own_Go p e below (T198.setTop (mkF m 128 #[.val (.int pk), .val (.int qq), .val (.int md), .val (.int d0), .val (.int u1), .val (.int u2), .val (.int nn), .val (.ref b140), .val (.ref x198), .val (.int (((md.toUInt32 >>> ((16 : Int32) &&& 31).toUInt32).toInt32) &&& (7 : Int32))), .val (.int ((((md.toUInt32 >>> ((16 : Int32) &&& 31).toUInt32).toInt32) &&& (7 : Int32)) + (((md.toUInt32 >>> ((19 : Int32) &&& 31).toUInt32).toInt32) &&& (7 : Int32)))), .val (.int (md &&& (3 : Int32))), .unset, .unset, .unset] [])) (T198.setTop (mkF m 128 #[.val (.int pk), .val (.int qq), .val (.int md), .val (.int d0), .val (.int u1), .val (.int u2), .val (.int nn), .val (.ref b140), .val (.ref x198), .val (.int (((md.toUInt32 >>> ((16 : Int32) &&& 31).toUInt32).toInt32) &&& (7 : Int32))), .val (.int ((((md.toUInt32 >>> ((16 : Int32) &&& 31).toUInt32).toInt32) &&& (7 : Int32)) + (((md.toUInt32 >>> ((19 : Int32) &&& 31).toUInt32).toInt32) &&& (7 : Int32)))), .val (.int (md &&& (3 : Int32))), .unset, .unset, .unset] [])) := fun t_ k_ => k_
      have P212 := own_step (C := T198.setTop (mkF m 130 #[.val (.int pk), .val (.int qq), .val (.int md), .val (.int d0), .val (.int u1), .val (.int u2), .val (.int nn), .val (.ref b140), .val (.ref x198), .val (.int (((md.toUInt32 >>> ((16 : Int32) &&& 31).toUInt32).toInt32) &&& (7 : Int32))), .val (.int ((((md.toUInt32 >>> ((16 : Int32) &&& 31).toUInt32).toInt32) &&& (7 : Int32)) + (((md.toUInt32 >>> ((19 : Int32) &&& 31).toUInt32).toInt32) &&& (7 : Int32)))), .val (.int (md &&& (3 : Int32))), .unset, .unset, .unset] [(.int (md &&& (3 : Int32)))])) P211 (by
        intro tt_ kk_
        refine XS.iload X198.here hx rfl (hb hby at_128) rfl ?_
        exact kk_)
      by_cases c213 : (md &&& (3 : Int32)) = (0 : Int32)
      · have P214 := own_step (C := T198.setTop (mkF m 133 #[.val (.int pk), .val (.int qq), .val (.int md), .val (.int d0), .val (.int u1), .val (.int u2), .val (.int nn), .val (.ref b140), .val (.ref x198), .val (.int (((md.toUInt32 >>> ((16 : Int32) &&& 31).toUInt32).toInt32) &&& (7 : Int32))), .val (.int ((((md.toUInt32 >>> ((16 : Int32) &&& 31).toUInt32).toInt32) &&& (7 : Int32)) + (((md.toUInt32 >>> ((19 : Int32) &&& 31).toUInt32).toInt32) &&& (7 : Int32)))), .val (.int (md &&& (3 : Int32))), .unset, .unset, .unset] [])) P212 (by
          intro tt_ kk_
          refine XS.ifNo X198.here hx rfl (hb hby at_130) rfl ((if0 _ _).trans (teq c213).2) ?_
          exact kk_)
        have P215 := own_step (C := T198.setTop (mkF m 216 #[.val (.int pk), .val (.int qq), .val (.int md), .val (.int d0), .val (.int u1), .val (.int u2), .val (.int nn), .val (.ref b140), .val (.ref x198), .val (.int (((md.toUInt32 >>> ((16 : Int32) &&& 31).toUInt32).toInt32) &&& (7 : Int32))), .val (.int ((((md.toUInt32 >>> ((16 : Int32) &&& 31).toUInt32).toInt32) &&& (7 : Int32)) + (((md.toUInt32 >>> ((19 : Int32) &&& 31).toUInt32).toInt32) &&& (7 : Int32)))), .val (.int (md &&& (3 : Int32))), .val (.int qq), .unset, .unset] [])) P214 (by
          intro tt_ kk_
          refine XS.iloadN X198.here hx rfl (hb hby at_133) rfl ?_
          show Steps p.tables e below (T198.setTop (mkF m 134 #[.val (.int pk), .val (.int qq), .val (.int md), .val (.int d0), .val (.int u1), .val (.int u2), .val (.int nn), .val (.ref b140), .val (.ref x198), .val (.int (((md.toUInt32 >>> ((16 : Int32) &&& 31).toUInt32).toInt32) &&& (7 : Int32))), .val (.int ((((md.toUInt32 >>> ((16 : Int32) &&& 31).toUInt32).toInt32) &&& (7 : Int32)) + (((md.toUInt32 >>> ((19 : Int32) &&& 31).toUInt32).toInt32) &&& (7 : Int32)))), .val (.int (md &&& (3 : Int32))), .unset, .unset, .unset] [(.int qq)])) _
          refine XS.istore X198.here hx rfl (hb hby at_134) rfl (l' := #[.val (.int pk), .val (.int qq), .val (.int md), .val (.int d0), .val (.int u1), .val (.int u2), .val (.int nn), .val (.ref b140), .val (.ref x198), .val (.int (((md.toUInt32 >>> ((16 : Int32) &&& 31).toUInt32).toInt32) &&& (7 : Int32))), .val (.int ((((md.toUInt32 >>> ((16 : Int32) &&& 31).toUInt32).toInt32) &&& (7 : Int32)) + (((md.toUInt32 >>> ((19 : Int32) &&& 31).toUInt32).toInt32) &&& (7 : Int32)))), .val (.int (md &&& (3 : Int32))), .val (.int qq), .unset, .unset]) rfl ?_
          show Steps p.tables e below (T198.setTop (mkF m 136 #[.val (.int pk), .val (.int qq), .val (.int md), .val (.int d0), .val (.int u1), .val (.int u2), .val (.int nn), .val (.ref b140), .val (.ref x198), .val (.int (((md.toUInt32 >>> ((16 : Int32) &&& 31).toUInt32).toInt32) &&& (7 : Int32))), .val (.int ((((md.toUInt32 >>> ((16 : Int32) &&& 31).toUInt32).toInt32) &&& (7 : Int32)) + (((md.toUInt32 >>> ((19 : Int32) &&& 31).toUInt32).toInt32) &&& (7 : Int32)))), .val (.int (md &&& (3 : Int32))), .val (.int qq), .unset, .unset] [])) _
          refine XS.goto X198.here hx rfl (pc0 := 136) (pc' := 216) rfl (hb hby at_136) (by decide) (by decide) ?_
          exact kk_)
        exact ⟨qq, .unset, Or.inl ⟨c213, rfl⟩, One.u, P215⟩
      · have P216 := own_step (C := T198.setTop (mkF m 139 #[.val (.int pk), .val (.int qq), .val (.int md), .val (.int d0), .val (.int u1), .val (.int u2), .val (.int nn), .val (.ref b140), .val (.ref x198), .val (.int (((md.toUInt32 >>> ((16 : Int32) &&& 31).toUInt32).toInt32) &&& (7 : Int32))), .val (.int ((((md.toUInt32 >>> ((16 : Int32) &&& 31).toUInt32).toInt32) &&& (7 : Int32)) + (((md.toUInt32 >>> ((19 : Int32) &&& 31).toUInt32).toInt32) &&& (7 : Int32)))), .val (.int (md &&& (3 : Int32))), .unset, .unset, .unset] [])) P212 (by
          intro tt_ kk_
          refine XS.ifYes X198.here hx rfl (pc0 := 130) (pc' := 139) rfl (hb hby at_130) rfl ((if0 _ _).trans (feq c213).2) (by decide) (by decide) ?_
          exact kk_)
        have P217 := own_step (C := T198.setTop (mkF m 142 #[.val (.int pk), .val (.int qq), .val (.int md), .val (.int d0), .val (.int u1), .val (.int u2), .val (.int nn), .val (.ref b140), .val (.ref x198), .val (.int (((md.toUInt32 >>> ((16 : Int32) &&& 31).toUInt32).toInt32) &&& (7 : Int32))), .val (.int ((((md.toUInt32 >>> ((16 : Int32) &&& 31).toUInt32).toInt32) &&& (7 : Int32)) + (((md.toUInt32 >>> ((19 : Int32) &&& 31).toUInt32).toInt32) &&& (7 : Int32)))), .val (.int (md &&& (3 : Int32))), .unset, .unset, .unset] [(.int (1 : Int32)), (.int (md &&& (3 : Int32)))])) P216 (by
          intro tt_ kk_
          refine XS.iload X198.here hx rfl (hb hby at_139) rfl ?_
          show Steps p.tables e below (T198.setTop (mkF m 141 #[.val (.int pk), .val (.int qq), .val (.int md), .val (.int d0), .val (.int u1), .val (.int u2), .val (.int nn), .val (.ref b140), .val (.ref x198), .val (.int (((md.toUInt32 >>> ((16 : Int32) &&& 31).toUInt32).toInt32) &&& (7 : Int32))), .val (.int ((((md.toUInt32 >>> ((16 : Int32) &&& 31).toUInt32).toInt32) &&& (7 : Int32)) + (((md.toUInt32 >>> ((19 : Int32) &&& 31).toUInt32).toInt32) &&& (7 : Int32)))), .val (.int (md &&& (3 : Int32))), .unset, .unset, .unset] [(.int (md &&& (3 : Int32)))])) _
          refine XS.iconst X198.here hx rfl (hb hby at_141) ?_
          exact kk_)
        by_cases c218 : (md &&& (3 : Int32)) = (1 : Int32)
        · have P219 := own_step (C := T198.setTop (mkF m 145 #[.val (.int pk), .val (.int qq), .val (.int md), .val (.int d0), .val (.int u1), .val (.int u2), .val (.int nn), .val (.ref b140), .val (.ref x198), .val (.int (((md.toUInt32 >>> ((16 : Int32) &&& 31).toUInt32).toInt32) &&& (7 : Int32))), .val (.int ((((md.toUInt32 >>> ((16 : Int32) &&& 31).toUInt32).toInt32) &&& (7 : Int32)) + (((md.toUInt32 >>> ((19 : Int32) &&& 31).toUInt32).toInt32) &&& (7 : Int32)))), .val (.int (md &&& (3 : Int32))), .unset, .unset, .unset] [])) P217 (by
            intro tt_ kk_
            refine XS.icmpNo X198.here hx rfl (hb hby at_142) rfl (teq c218).2 ?_
            exact kk_)
          have P220 := own_step (C := T198.setTop (mkF m 216 #[.val (.int pk), .val (.int qq), .val (.int md), .val (.int d0), .val (.int u1), .val (.int u2), .val (.int nn), .val (.ref b140), .val (.ref x198), .val (.int (((md.toUInt32 >>> ((16 : Int32) &&& 31).toUInt32).toInt32) &&& (7 : Int32))), .val (.int ((((md.toUInt32 >>> ((16 : Int32) &&& 31).toUInt32).toInt32) &&& (7 : Int32)) + (((md.toUInt32 >>> ((19 : Int32) &&& 31).toUInt32).toInt32) &&& (7 : Int32)))), .val (.int (md &&& (3 : Int32))), .val (.int (qq &&& (127 : Int32))), .unset, .unset] [])) P219 (by
            intro tt_ kk_
            refine XS.iloadN X198.here hx rfl (hb hby at_145) rfl ?_
            show Steps p.tables e below (T198.setTop (mkF m 146 #[.val (.int pk), .val (.int qq), .val (.int md), .val (.int d0), .val (.int u1), .val (.int u2), .val (.int nn), .val (.ref b140), .val (.ref x198), .val (.int (((md.toUInt32 >>> ((16 : Int32) &&& 31).toUInt32).toInt32) &&& (7 : Int32))), .val (.int ((((md.toUInt32 >>> ((16 : Int32) &&& 31).toUInt32).toInt32) &&& (7 : Int32)) + (((md.toUInt32 >>> ((19 : Int32) &&& 31).toUInt32).toInt32) &&& (7 : Int32)))), .val (.int (md &&& (3 : Int32))), .unset, .unset, .unset] [(.int qq)])) _
            refine XS.bipush X198.here hx rfl (hb hby at_146) ?_
            show Steps p.tables e below (T198.setTop (mkF m 148 #[.val (.int pk), .val (.int qq), .val (.int md), .val (.int d0), .val (.int u1), .val (.int u2), .val (.int nn), .val (.ref b140), .val (.ref x198), .val (.int (((md.toUInt32 >>> ((16 : Int32) &&& 31).toUInt32).toInt32) &&& (7 : Int32))), .val (.int ((((md.toUInt32 >>> ((16 : Int32) &&& 31).toUInt32).toInt32) &&& (7 : Int32)) + (((md.toUInt32 >>> ((19 : Int32) &&& 31).toUInt32).toInt32) &&& (7 : Int32)))), .val (.int (md &&& (3 : Int32))), .unset, .unset, .unset] [(.int (127 : Int32)), (.int qq)])) _
            refine XS.iand X198.here hx rfl (hb hby at_148) rfl ?_
            show Steps p.tables e below (T198.setTop (mkF m 149 #[.val (.int pk), .val (.int qq), .val (.int md), .val (.int d0), .val (.int u1), .val (.int u2), .val (.int nn), .val (.ref b140), .val (.ref x198), .val (.int (((md.toUInt32 >>> ((16 : Int32) &&& 31).toUInt32).toInt32) &&& (7 : Int32))), .val (.int ((((md.toUInt32 >>> ((16 : Int32) &&& 31).toUInt32).toInt32) &&& (7 : Int32)) + (((md.toUInt32 >>> ((19 : Int32) &&& 31).toUInt32).toInt32) &&& (7 : Int32)))), .val (.int (md &&& (3 : Int32))), .unset, .unset, .unset] [(.int (qq &&& (127 : Int32)))])) _
            refine XS.istore X198.here hx rfl (hb hby at_149) rfl (l' := #[.val (.int pk), .val (.int qq), .val (.int md), .val (.int d0), .val (.int u1), .val (.int u2), .val (.int nn), .val (.ref b140), .val (.ref x198), .val (.int (((md.toUInt32 >>> ((16 : Int32) &&& 31).toUInt32).toInt32) &&& (7 : Int32))), .val (.int ((((md.toUInt32 >>> ((16 : Int32) &&& 31).toUInt32).toInt32) &&& (7 : Int32)) + (((md.toUInt32 >>> ((19 : Int32) &&& 31).toUInt32).toInt32) &&& (7 : Int32)))), .val (.int (md &&& (3 : Int32))), .val (.int (qq &&& (127 : Int32))), .unset, .unset]) rfl ?_
            show Steps p.tables e below (T198.setTop (mkF m 151 #[.val (.int pk), .val (.int qq), .val (.int md), .val (.int d0), .val (.int u1), .val (.int u2), .val (.int nn), .val (.ref b140), .val (.ref x198), .val (.int (((md.toUInt32 >>> ((16 : Int32) &&& 31).toUInt32).toInt32) &&& (7 : Int32))), .val (.int ((((md.toUInt32 >>> ((16 : Int32) &&& 31).toUInt32).toInt32) &&& (7 : Int32)) + (((md.toUInt32 >>> ((19 : Int32) &&& 31).toUInt32).toInt32) &&& (7 : Int32)))), .val (.int (md &&& (3 : Int32))), .val (.int (qq &&& (127 : Int32))), .unset, .unset] [])) _
            refine XS.goto X198.here hx rfl (pc0 := 151) (pc' := 216) rfl (hb hby at_151) (by decide) (by decide) ?_
            exact kk_)
          exact ⟨(qq &&& (127 : Int32)), .unset, Or.inr (Or.inl ⟨c213, c218, rfl⟩), One.u, P220⟩
        · have P221 := own_step (C := T198.setTop (mkF m 154 #[.val (.int pk), .val (.int qq), .val (.int md), .val (.int d0), .val (.int u1), .val (.int u2), .val (.int nn), .val (.ref b140), .val (.ref x198), .val (.int (((md.toUInt32 >>> ((16 : Int32) &&& 31).toUInt32).toInt32) &&& (7 : Int32))), .val (.int ((((md.toUInt32 >>> ((16 : Int32) &&& 31).toUInt32).toInt32) &&& (7 : Int32)) + (((md.toUInt32 >>> ((19 : Int32) &&& 31).toUInt32).toInt32) &&& (7 : Int32)))), .val (.int (md &&& (3 : Int32))), .unset, .unset, .unset] [])) P217 (by
            intro tt_ kk_
            refine XS.icmpYes X198.here hx rfl (pc0 := 142) (pc' := 154) rfl (hb hby at_142) rfl (feq c218).2 (by decide) (by decide) ?_
            exact kk_)
          have P222 := own_step (C := T198.setTop (mkF m 157 #[.val (.int pk), .val (.int qq), .val (.int md), .val (.int d0), .val (.int u1), .val (.int u2), .val (.int nn), .val (.ref b140), .val (.ref x198), .val (.int (((md.toUInt32 >>> ((16 : Int32) &&& 31).toUInt32).toInt32) &&& (7 : Int32))), .val (.int ((((md.toUInt32 >>> ((16 : Int32) &&& 31).toUInt32).toInt32) &&& (7 : Int32)) + (((md.toUInt32 >>> ((19 : Int32) &&& 31).toUInt32).toInt32) &&& (7 : Int32)))), .val (.int (md &&& (3 : Int32))), .unset, .unset, .unset] [(.int (2 : Int32)), (.int (md &&& (3 : Int32)))])) P221 (by
            intro tt_ kk_
            refine XS.iload X198.here hx rfl (hb hby at_154) rfl ?_
            show Steps p.tables e below (T198.setTop (mkF m 156 #[.val (.int pk), .val (.int qq), .val (.int md), .val (.int d0), .val (.int u1), .val (.int u2), .val (.int nn), .val (.ref b140), .val (.ref x198), .val (.int (((md.toUInt32 >>> ((16 : Int32) &&& 31).toUInt32).toInt32) &&& (7 : Int32))), .val (.int ((((md.toUInt32 >>> ((16 : Int32) &&& 31).toUInt32).toInt32) &&& (7 : Int32)) + (((md.toUInt32 >>> ((19 : Int32) &&& 31).toUInt32).toInt32) &&& (7 : Int32)))), .val (.int (md &&& (3 : Int32))), .unset, .unset, .unset] [(.int (md &&& (3 : Int32)))])) _
            refine XS.iconst X198.here hx rfl (hb hby at_156) ?_
            exact kk_)
          by_cases c223 : (md &&& (3 : Int32)) = (2 : Int32)
          · have P224 := own_step (C := T198.setTop (mkF m 160 #[.val (.int pk), .val (.int qq), .val (.int md), .val (.int d0), .val (.int u1), .val (.int u2), .val (.int nn), .val (.ref b140), .val (.ref x198), .val (.int (((md.toUInt32 >>> ((16 : Int32) &&& 31).toUInt32).toInt32) &&& (7 : Int32))), .val (.int ((((md.toUInt32 >>> ((16 : Int32) &&& 31).toUInt32).toInt32) &&& (7 : Int32)) + (((md.toUInt32 >>> ((19 : Int32) &&& 31).toUInt32).toInt32) &&& (7 : Int32)))), .val (.int (md &&& (3 : Int32))), .unset, .unset, .unset] [])) P222 (by
              intro tt_ kk_
              refine XS.icmpNo X198.here hx rfl (hb hby at_157) rfl (teq c223).2 ?_
              exact kk_)
            have P225 := own_step (C := T198.setTop (mkF m 167 #[.val (.int pk), .val (.int qq), .val (.int md), .val (.int d0), .val (.int u1), .val (.int u2), .val (.int nn), .val (.ref b140), .val (.ref x198), .val (.int (((md.toUInt32 >>> ((16 : Int32) &&& 31).toUInt32).toInt32) &&& (7 : Int32))), .val (.int ((((md.toUInt32 >>> ((16 : Int32) &&& 31).toUInt32).toInt32) &&& (7 : Int32)) + (((md.toUInt32 >>> ((19 : Int32) &&& 31).toUInt32).toInt32) &&& (7 : Int32)))), .val (.int (md &&& (3 : Int32))), .unset, .val (.int (qq &&& (3 : Int32))), .unset] [(.int (qq &&& (3 : Int32)))])) P224 (by
              intro tt_ kk_
              refine XS.iloadN X198.here hx rfl (hb hby at_160) rfl ?_
              show Steps p.tables e below (T198.setTop (mkF m 161 #[.val (.int pk), .val (.int qq), .val (.int md), .val (.int d0), .val (.int u1), .val (.int u2), .val (.int nn), .val (.ref b140), .val (.ref x198), .val (.int (((md.toUInt32 >>> ((16 : Int32) &&& 31).toUInt32).toInt32) &&& (7 : Int32))), .val (.int ((((md.toUInt32 >>> ((16 : Int32) &&& 31).toUInt32).toInt32) &&& (7 : Int32)) + (((md.toUInt32 >>> ((19 : Int32) &&& 31).toUInt32).toInt32) &&& (7 : Int32)))), .val (.int (md &&& (3 : Int32))), .unset, .unset, .unset] [(.int qq)])) _
              refine XS.iconst X198.here hx rfl (hb hby at_161) ?_
              show Steps p.tables e below (T198.setTop (mkF m 162 #[.val (.int pk), .val (.int qq), .val (.int md), .val (.int d0), .val (.int u1), .val (.int u2), .val (.int nn), .val (.ref b140), .val (.ref x198), .val (.int (((md.toUInt32 >>> ((16 : Int32) &&& 31).toUInt32).toInt32) &&& (7 : Int32))), .val (.int ((((md.toUInt32 >>> ((16 : Int32) &&& 31).toUInt32).toInt32) &&& (7 : Int32)) + (((md.toUInt32 >>> ((19 : Int32) &&& 31).toUInt32).toInt32) &&& (7 : Int32)))), .val (.int (md &&& (3 : Int32))), .unset, .unset, .unset] [(.int (3 : Int32)), (.int qq)])) _
              refine XS.iand X198.here hx rfl (hb hby at_162) rfl ?_
              show Steps p.tables e below (T198.setTop (mkF m 163 #[.val (.int pk), .val (.int qq), .val (.int md), .val (.int d0), .val (.int u1), .val (.int u2), .val (.int nn), .val (.ref b140), .val (.ref x198), .val (.int (((md.toUInt32 >>> ((16 : Int32) &&& 31).toUInt32).toInt32) &&& (7 : Int32))), .val (.int ((((md.toUInt32 >>> ((16 : Int32) &&& 31).toUInt32).toInt32) &&& (7 : Int32)) + (((md.toUInt32 >>> ((19 : Int32) &&& 31).toUInt32).toInt32) &&& (7 : Int32)))), .val (.int (md &&& (3 : Int32))), .unset, .unset, .unset] [(.int (qq &&& (3 : Int32)))])) _
              refine XS.istore X198.here hx rfl (hb hby at_163) rfl (l' := #[.val (.int pk), .val (.int qq), .val (.int md), .val (.int d0), .val (.int u1), .val (.int u2), .val (.int nn), .val (.ref b140), .val (.ref x198), .val (.int (((md.toUInt32 >>> ((16 : Int32) &&& 31).toUInt32).toInt32) &&& (7 : Int32))), .val (.int ((((md.toUInt32 >>> ((16 : Int32) &&& 31).toUInt32).toInt32) &&& (7 : Int32)) + (((md.toUInt32 >>> ((19 : Int32) &&& 31).toUInt32).toInt32) &&& (7 : Int32)))), .val (.int (md &&& (3 : Int32))), .unset, .val (.int (qq &&& (3 : Int32))), .unset]) rfl ?_
              show Steps p.tables e below (T198.setTop (mkF m 165 #[.val (.int pk), .val (.int qq), .val (.int md), .val (.int d0), .val (.int u1), .val (.int u2), .val (.int nn), .val (.ref b140), .val (.ref x198), .val (.int (((md.toUInt32 >>> ((16 : Int32) &&& 31).toUInt32).toInt32) &&& (7 : Int32))), .val (.int ((((md.toUInt32 >>> ((16 : Int32) &&& 31).toUInt32).toInt32) &&& (7 : Int32)) + (((md.toUInt32 >>> ((19 : Int32) &&& 31).toUInt32).toInt32) &&& (7 : Int32)))), .val (.int (md &&& (3 : Int32))), .unset, .val (.int (qq &&& (3 : Int32))), .unset] [])) _
              refine XS.iload X198.here hx rfl (hb hby at_165) rfl ?_
              exact kk_)
            by_cases c226 : (qq &&& (3 : Int32)) = (0 : Int32)
            · have P227 := own_step (C := T198.setTop (mkF m 170 #[.val (.int pk), .val (.int qq), .val (.int md), .val (.int d0), .val (.int u1), .val (.int u2), .val (.int nn), .val (.ref b140), .val (.ref x198), .val (.int (((md.toUInt32 >>> ((16 : Int32) &&& 31).toUInt32).toInt32) &&& (7 : Int32))), .val (.int ((((md.toUInt32 >>> ((16 : Int32) &&& 31).toUInt32).toInt32) &&& (7 : Int32)) + (((md.toUInt32 >>> ((19 : Int32) &&& 31).toUInt32).toInt32) &&& (7 : Int32)))), .val (.int (md &&& (3 : Int32))), .unset, .val (.int (qq &&& (3 : Int32))), .unset] [])) P225 (by
                intro tt_ kk_
                refine XS.ifNo X198.here hx rfl (hb hby at_167) rfl ((if0 _ _).trans (teq c226).2) ?_
                exact kk_)
              have P228 := own_step (C := T198.setTop (mkF m 216 #[.val (.int pk), .val (.int qq), .val (.int md), .val (.int d0), .val (.int u1), .val (.int u2), .val (.int nn), .val (.ref b140), .val (.ref x198), .val (.int (((md.toUInt32 >>> ((16 : Int32) &&& 31).toUInt32).toInt32) &&& (7 : Int32))), .val (.int ((((md.toUInt32 >>> ((16 : Int32) &&& 31).toUInt32).toInt32) &&& (7 : Int32)) + (((md.toUInt32 >>> ((19 : Int32) &&& 31).toUInt32).toInt32) &&& (7 : Int32)))), .val (.int (md &&& (3 : Int32))), .val (.int d0), .val (.int (qq &&& (3 : Int32))), .unset] [])) P227 (by
                intro tt_ kk_
                refine XS.iloadN X198.here hx rfl (hb hby at_170) rfl ?_
                show Steps p.tables e below (T198.setTop (mkF m 171 #[.val (.int pk), .val (.int qq), .val (.int md), .val (.int d0), .val (.int u1), .val (.int u2), .val (.int nn), .val (.ref b140), .val (.ref x198), .val (.int (((md.toUInt32 >>> ((16 : Int32) &&& 31).toUInt32).toInt32) &&& (7 : Int32))), .val (.int ((((md.toUInt32 >>> ((16 : Int32) &&& 31).toUInt32).toInt32) &&& (7 : Int32)) + (((md.toUInt32 >>> ((19 : Int32) &&& 31).toUInt32).toInt32) &&& (7 : Int32)))), .val (.int (md &&& (3 : Int32))), .unset, .val (.int (qq &&& (3 : Int32))), .unset] [(.int d0)])) _
                refine XS.goto X198.here hx rfl (pc0 := 171) (pc' := 200) rfl (hb hby at_171) (by decide) (by decide) ?_
                show Steps p.tables e below (T198.setTop (mkF m 200 #[.val (.int pk), .val (.int qq), .val (.int md), .val (.int d0), .val (.int u1), .val (.int u2), .val (.int nn), .val (.ref b140), .val (.ref x198), .val (.int (((md.toUInt32 >>> ((16 : Int32) &&& 31).toUInt32).toInt32) &&& (7 : Int32))), .val (.int ((((md.toUInt32 >>> ((16 : Int32) &&& 31).toUInt32).toInt32) &&& (7 : Int32)) + (((md.toUInt32 >>> ((19 : Int32) &&& 31).toUInt32).toInt32) &&& (7 : Int32)))), .val (.int (md &&& (3 : Int32))), .unset, .val (.int (qq &&& (3 : Int32))), .unset] [(.int d0)])) _
                refine XS.istore X198.here hx rfl (hb hby at_200) rfl (l' := #[.val (.int pk), .val (.int qq), .val (.int md), .val (.int d0), .val (.int u1), .val (.int u2), .val (.int nn), .val (.ref b140), .val (.ref x198), .val (.int (((md.toUInt32 >>> ((16 : Int32) &&& 31).toUInt32).toInt32) &&& (7 : Int32))), .val (.int ((((md.toUInt32 >>> ((16 : Int32) &&& 31).toUInt32).toInt32) &&& (7 : Int32)) + (((md.toUInt32 >>> ((19 : Int32) &&& 31).toUInt32).toInt32) &&& (7 : Int32)))), .val (.int (md &&& (3 : Int32))), .val (.int d0), .val (.int (qq &&& (3 : Int32))), .unset]) rfl ?_
                show Steps p.tables e below (T198.setTop (mkF m 202 #[.val (.int pk), .val (.int qq), .val (.int md), .val (.int d0), .val (.int u1), .val (.int u2), .val (.int nn), .val (.ref b140), .val (.ref x198), .val (.int (((md.toUInt32 >>> ((16 : Int32) &&& 31).toUInt32).toInt32) &&& (7 : Int32))), .val (.int ((((md.toUInt32 >>> ((16 : Int32) &&& 31).toUInt32).toInt32) &&& (7 : Int32)) + (((md.toUInt32 >>> ((19 : Int32) &&& 31).toUInt32).toInt32) &&& (7 : Int32)))), .val (.int (md &&& (3 : Int32))), .val (.int d0), .val (.int (qq &&& (3 : Int32))), .unset] [])) _
                refine XS.goto X198.here hx rfl (pc0 := 202) (pc' := 216) rfl (hb hby at_202) (by decide) (by decide) ?_
                exact kk_)
              exact ⟨d0, .val (.int (qq &&& (3 : Int32))), Or.inr (Or.inr (Or.inl ⟨c213, c218, c223, c226, rfl⟩)), (One.val rfl), P228⟩
            · have P229 := own_step (C := T198.setTop (mkF m 174 #[.val (.int pk), .val (.int qq), .val (.int md), .val (.int d0), .val (.int u1), .val (.int u2), .val (.int nn), .val (.ref b140), .val (.ref x198), .val (.int (((md.toUInt32 >>> ((16 : Int32) &&& 31).toUInt32).toInt32) &&& (7 : Int32))), .val (.int ((((md.toUInt32 >>> ((16 : Int32) &&& 31).toUInt32).toInt32) &&& (7 : Int32)) + (((md.toUInt32 >>> ((19 : Int32) &&& 31).toUInt32).toInt32) &&& (7 : Int32)))), .val (.int (md &&& (3 : Int32))), .unset, .val (.int (qq &&& (3 : Int32))), .unset] [])) P225 (by
                intro tt_ kk_
                refine XS.ifYes X198.here hx rfl (pc0 := 167) (pc' := 174) rfl (hb hby at_167) rfl ((if0 _ _).trans (feq c226).2) (by decide) (by decide) ?_
                exact kk_)
              have P230 := own_step (C := T198.setTop (mkF m 177 #[.val (.int pk), .val (.int qq), .val (.int md), .val (.int d0), .val (.int u1), .val (.int u2), .val (.int nn), .val (.ref b140), .val (.ref x198), .val (.int (((md.toUInt32 >>> ((16 : Int32) &&& 31).toUInt32).toInt32) &&& (7 : Int32))), .val (.int ((((md.toUInt32 >>> ((16 : Int32) &&& 31).toUInt32).toInt32) &&& (7 : Int32)) + (((md.toUInt32 >>> ((19 : Int32) &&& 31).toUInt32).toInt32) &&& (7 : Int32)))), .val (.int (md &&& (3 : Int32))), .unset, .val (.int (qq &&& (3 : Int32))), .unset] [(.int (1 : Int32)), (.int (qq &&& (3 : Int32)))])) P229 (by
                intro tt_ kk_
                refine XS.iload X198.here hx rfl (hb hby at_174) rfl ?_
                show Steps p.tables e below (T198.setTop (mkF m 176 #[.val (.int pk), .val (.int qq), .val (.int md), .val (.int d0), .val (.int u1), .val (.int u2), .val (.int nn), .val (.ref b140), .val (.ref x198), .val (.int (((md.toUInt32 >>> ((16 : Int32) &&& 31).toUInt32).toInt32) &&& (7 : Int32))), .val (.int ((((md.toUInt32 >>> ((16 : Int32) &&& 31).toUInt32).toInt32) &&& (7 : Int32)) + (((md.toUInt32 >>> ((19 : Int32) &&& 31).toUInt32).toInt32) &&& (7 : Int32)))), .val (.int (md &&& (3 : Int32))), .unset, .val (.int (qq &&& (3 : Int32))), .unset] [(.int (qq &&& (3 : Int32)))])) _
                refine XS.iconst X198.here hx rfl (hb hby at_176) ?_
                exact kk_)
              by_cases c231 : (qq &&& (3 : Int32)) = (1 : Int32)
              · have P232 := own_step (C := T198.setTop (mkF m 180 #[.val (.int pk), .val (.int qq), .val (.int md), .val (.int d0), .val (.int u1), .val (.int u2), .val (.int nn), .val (.ref b140), .val (.ref x198), .val (.int (((md.toUInt32 >>> ((16 : Int32) &&& 31).toUInt32).toInt32) &&& (7 : Int32))), .val (.int ((((md.toUInt32 >>> ((16 : Int32) &&& 31).toUInt32).toInt32) &&& (7 : Int32)) + (((md.toUInt32 >>> ((19 : Int32) &&& 31).toUInt32).toInt32) &&& (7 : Int32)))), .val (.int (md &&& (3 : Int32))), .unset, .val (.int (qq &&& (3 : Int32))), .unset] [])) P230 (by
                  intro tt_ kk_
                  refine XS.icmpNo X198.here hx rfl (hb hby at_177) rfl (teq c231).2 ?_
                  exact kk_)
                have P233 := own_step (C := T198.setTop (mkF m 216 #[.val (.int pk), .val (.int qq), .val (.int md), .val (.int d0), .val (.int u1), .val (.int u2), .val (.int nn), .val (.ref b140), .val (.ref x198), .val (.int (((md.toUInt32 >>> ((16 : Int32) &&& 31).toUInt32).toInt32) &&& (7 : Int32))), .val (.int ((((md.toUInt32 >>> ((16 : Int32) &&& 31).toUInt32).toInt32) &&& (7 : Int32)) + (((md.toUInt32 >>> ((19 : Int32) &&& 31).toUInt32).toInt32) &&& (7 : Int32)))), .val (.int (md &&& (3 : Int32))), .val (.int u1), .val (.int (qq &&& (3 : Int32))), .unset] [])) P232 (by
                  intro tt_ kk_
                  refine XS.iload X198.here hx rfl (hb hby at_180) rfl ?_
                  show Steps p.tables e below (T198.setTop (mkF m 182 #[.val (.int pk), .val (.int qq), .val (.int md), .val (.int d0), .val (.int u1), .val (.int u2), .val (.int nn), .val (.ref b140), .val (.ref x198), .val (.int (((md.toUInt32 >>> ((16 : Int32) &&& 31).toUInt32).toInt32) &&& (7 : Int32))), .val (.int ((((md.toUInt32 >>> ((16 : Int32) &&& 31).toUInt32).toInt32) &&& (7 : Int32)) + (((md.toUInt32 >>> ((19 : Int32) &&& 31).toUInt32).toInt32) &&& (7 : Int32)))), .val (.int (md &&& (3 : Int32))), .unset, .val (.int (qq &&& (3 : Int32))), .unset] [(.int u1)])) _
                  refine XS.goto X198.here hx rfl (pc0 := 182) (pc' := 200) rfl (hb hby at_182) (by decide) (by decide) ?_
                  show Steps p.tables e below (T198.setTop (mkF m 200 #[.val (.int pk), .val (.int qq), .val (.int md), .val (.int d0), .val (.int u1), .val (.int u2), .val (.int nn), .val (.ref b140), .val (.ref x198), .val (.int (((md.toUInt32 >>> ((16 : Int32) &&& 31).toUInt32).toInt32) &&& (7 : Int32))), .val (.int ((((md.toUInt32 >>> ((16 : Int32) &&& 31).toUInt32).toInt32) &&& (7 : Int32)) + (((md.toUInt32 >>> ((19 : Int32) &&& 31).toUInt32).toInt32) &&& (7 : Int32)))), .val (.int (md &&& (3 : Int32))), .unset, .val (.int (qq &&& (3 : Int32))), .unset] [(.int u1)])) _
                  refine XS.istore X198.here hx rfl (hb hby at_200) rfl (l' := #[.val (.int pk), .val (.int qq), .val (.int md), .val (.int d0), .val (.int u1), .val (.int u2), .val (.int nn), .val (.ref b140), .val (.ref x198), .val (.int (((md.toUInt32 >>> ((16 : Int32) &&& 31).toUInt32).toInt32) &&& (7 : Int32))), .val (.int ((((md.toUInt32 >>> ((16 : Int32) &&& 31).toUInt32).toInt32) &&& (7 : Int32)) + (((md.toUInt32 >>> ((19 : Int32) &&& 31).toUInt32).toInt32) &&& (7 : Int32)))), .val (.int (md &&& (3 : Int32))), .val (.int u1), .val (.int (qq &&& (3 : Int32))), .unset]) rfl ?_
                  show Steps p.tables e below (T198.setTop (mkF m 202 #[.val (.int pk), .val (.int qq), .val (.int md), .val (.int d0), .val (.int u1), .val (.int u2), .val (.int nn), .val (.ref b140), .val (.ref x198), .val (.int (((md.toUInt32 >>> ((16 : Int32) &&& 31).toUInt32).toInt32) &&& (7 : Int32))), .val (.int ((((md.toUInt32 >>> ((16 : Int32) &&& 31).toUInt32).toInt32) &&& (7 : Int32)) + (((md.toUInt32 >>> ((19 : Int32) &&& 31).toUInt32).toInt32) &&& (7 : Int32)))), .val (.int (md &&& (3 : Int32))), .val (.int u1), .val (.int (qq &&& (3 : Int32))), .unset] [])) _
                  refine XS.goto X198.here hx rfl (pc0 := 202) (pc' := 216) rfl (hb hby at_202) (by decide) (by decide) ?_
                  exact kk_)
                exact ⟨u1, .val (.int (qq &&& (3 : Int32))), Or.inr (Or.inr (Or.inr (Or.inl ⟨c213, c218, c223, c226, c231, rfl⟩))), (One.val rfl), P233⟩
              · have P234 := own_step (C := T198.setTop (mkF m 185 #[.val (.int pk), .val (.int qq), .val (.int md), .val (.int d0), .val (.int u1), .val (.int u2), .val (.int nn), .val (.ref b140), .val (.ref x198), .val (.int (((md.toUInt32 >>> ((16 : Int32) &&& 31).toUInt32).toInt32) &&& (7 : Int32))), .val (.int ((((md.toUInt32 >>> ((16 : Int32) &&& 31).toUInt32).toInt32) &&& (7 : Int32)) + (((md.toUInt32 >>> ((19 : Int32) &&& 31).toUInt32).toInt32) &&& (7 : Int32)))), .val (.int (md &&& (3 : Int32))), .unset, .val (.int (qq &&& (3 : Int32))), .unset] [])) P230 (by
                  intro tt_ kk_
                  refine XS.icmpYes X198.here hx rfl (pc0 := 177) (pc' := 185) rfl (hb hby at_177) rfl (feq c231).2 (by decide) (by decide) ?_
                  exact kk_)
                have P235 := own_step (C := T198.setTop (mkF m 188 #[.val (.int pk), .val (.int qq), .val (.int md), .val (.int d0), .val (.int u1), .val (.int u2), .val (.int nn), .val (.ref b140), .val (.ref x198), .val (.int (((md.toUInt32 >>> ((16 : Int32) &&& 31).toUInt32).toInt32) &&& (7 : Int32))), .val (.int ((((md.toUInt32 >>> ((16 : Int32) &&& 31).toUInt32).toInt32) &&& (7 : Int32)) + (((md.toUInt32 >>> ((19 : Int32) &&& 31).toUInt32).toInt32) &&& (7 : Int32)))), .val (.int (md &&& (3 : Int32))), .unset, .val (.int (qq &&& (3 : Int32))), .unset] [(.int (2 : Int32)), (.int (qq &&& (3 : Int32)))])) P234 (by
                  intro tt_ kk_
                  refine XS.iload X198.here hx rfl (hb hby at_185) rfl ?_
                  show Steps p.tables e below (T198.setTop (mkF m 187 #[.val (.int pk), .val (.int qq), .val (.int md), .val (.int d0), .val (.int u1), .val (.int u2), .val (.int nn), .val (.ref b140), .val (.ref x198), .val (.int (((md.toUInt32 >>> ((16 : Int32) &&& 31).toUInt32).toInt32) &&& (7 : Int32))), .val (.int ((((md.toUInt32 >>> ((16 : Int32) &&& 31).toUInt32).toInt32) &&& (7 : Int32)) + (((md.toUInt32 >>> ((19 : Int32) &&& 31).toUInt32).toInt32) &&& (7 : Int32)))), .val (.int (md &&& (3 : Int32))), .unset, .val (.int (qq &&& (3 : Int32))), .unset] [(.int (qq &&& (3 : Int32)))])) _
                  refine XS.iconst X198.here hx rfl (hb hby at_187) ?_
                  exact kk_)
                by_cases c236 : (qq &&& (3 : Int32)) = (2 : Int32)
                · have P237 := own_step (C := T198.setTop (mkF m 191 #[.val (.int pk), .val (.int qq), .val (.int md), .val (.int d0), .val (.int u1), .val (.int u2), .val (.int nn), .val (.ref b140), .val (.ref x198), .val (.int (((md.toUInt32 >>> ((16 : Int32) &&& 31).toUInt32).toInt32) &&& (7 : Int32))), .val (.int ((((md.toUInt32 >>> ((16 : Int32) &&& 31).toUInt32).toInt32) &&& (7 : Int32)) + (((md.toUInt32 >>> ((19 : Int32) &&& 31).toUInt32).toInt32) &&& (7 : Int32)))), .val (.int (md &&& (3 : Int32))), .unset, .val (.int (qq &&& (3 : Int32))), .unset] [])) P235 (by
                    intro tt_ kk_
                    refine XS.icmpNo X198.here hx rfl (hb hby at_188) rfl (teq c236).2 ?_
                    exact kk_)
                  have P238 := own_step (C := T198.setTop (mkF m 216 #[.val (.int pk), .val (.int qq), .val (.int md), .val (.int d0), .val (.int u1), .val (.int u2), .val (.int nn), .val (.ref b140), .val (.ref x198), .val (.int (((md.toUInt32 >>> ((16 : Int32) &&& 31).toUInt32).toInt32) &&& (7 : Int32))), .val (.int ((((md.toUInt32 >>> ((16 : Int32) &&& 31).toUInt32).toInt32) &&& (7 : Int32)) + (((md.toUInt32 >>> ((19 : Int32) &&& 31).toUInt32).toInt32) &&& (7 : Int32)))), .val (.int (md &&& (3 : Int32))), .val (.int u2), .val (.int (qq &&& (3 : Int32))), .unset] [])) P237 (by
                    intro tt_ kk_
                    refine XS.iload X198.here hx rfl (hb hby at_191) rfl ?_
                    show Steps p.tables e below (T198.setTop (mkF m 193 #[.val (.int pk), .val (.int qq), .val (.int md), .val (.int d0), .val (.int u1), .val (.int u2), .val (.int nn), .val (.ref b140), .val (.ref x198), .val (.int (((md.toUInt32 >>> ((16 : Int32) &&& 31).toUInt32).toInt32) &&& (7 : Int32))), .val (.int ((((md.toUInt32 >>> ((16 : Int32) &&& 31).toUInt32).toInt32) &&& (7 : Int32)) + (((md.toUInt32 >>> ((19 : Int32) &&& 31).toUInt32).toInt32) &&& (7 : Int32)))), .val (.int (md &&& (3 : Int32))), .unset, .val (.int (qq &&& (3 : Int32))), .unset] [(.int u2)])) _
                    refine XS.goto X198.here hx rfl (pc0 := 193) (pc' := 200) rfl (hb hby at_193) (by decide) (by decide) ?_
                    show Steps p.tables e below (T198.setTop (mkF m 200 #[.val (.int pk), .val (.int qq), .val (.int md), .val (.int d0), .val (.int u1), .val (.int u2), .val (.int nn), .val (.ref b140), .val (.ref x198), .val (.int (((md.toUInt32 >>> ((16 : Int32) &&& 31).toUInt32).toInt32) &&& (7 : Int32))), .val (.int ((((md.toUInt32 >>> ((16 : Int32) &&& 31).toUInt32).toInt32) &&& (7 : Int32)) + (((md.toUInt32 >>> ((19 : Int32) &&& 31).toUInt32).toInt32) &&& (7 : Int32)))), .val (.int (md &&& (3 : Int32))), .unset, .val (.int (qq &&& (3 : Int32))), .unset] [(.int u2)])) _
                    refine XS.istore X198.here hx rfl (hb hby at_200) rfl (l' := #[.val (.int pk), .val (.int qq), .val (.int md), .val (.int d0), .val (.int u1), .val (.int u2), .val (.int nn), .val (.ref b140), .val (.ref x198), .val (.int (((md.toUInt32 >>> ((16 : Int32) &&& 31).toUInt32).toInt32) &&& (7 : Int32))), .val (.int ((((md.toUInt32 >>> ((16 : Int32) &&& 31).toUInt32).toInt32) &&& (7 : Int32)) + (((md.toUInt32 >>> ((19 : Int32) &&& 31).toUInt32).toInt32) &&& (7 : Int32)))), .val (.int (md &&& (3 : Int32))), .val (.int u2), .val (.int (qq &&& (3 : Int32))), .unset]) rfl ?_
                    show Steps p.tables e below (T198.setTop (mkF m 202 #[.val (.int pk), .val (.int qq), .val (.int md), .val (.int d0), .val (.int u1), .val (.int u2), .val (.int nn), .val (.ref b140), .val (.ref x198), .val (.int (((md.toUInt32 >>> ((16 : Int32) &&& 31).toUInt32).toInt32) &&& (7 : Int32))), .val (.int ((((md.toUInt32 >>> ((16 : Int32) &&& 31).toUInt32).toInt32) &&& (7 : Int32)) + (((md.toUInt32 >>> ((19 : Int32) &&& 31).toUInt32).toInt32) &&& (7 : Int32)))), .val (.int (md &&& (3 : Int32))), .val (.int u2), .val (.int (qq &&& (3 : Int32))), .unset] [])) _
                    refine XS.goto X198.here hx rfl (pc0 := 202) (pc' := 216) rfl (hb hby at_202) (by decide) (by decide) ?_
                    exact kk_)
                  exact ⟨u2, .val (.int (qq &&& (3 : Int32))), Or.inr (Or.inr (Or.inr (Or.inr (Or.inl ⟨c213, c218, c223, c226, c231, c236, rfl⟩)))), (One.val rfl), P238⟩
                · have P239 := own_step (C := T198.setTop (mkF m 196 #[.val (.int pk), .val (.int qq), .val (.int md), .val (.int d0), .val (.int u1), .val (.int u2), .val (.int nn), .val (.ref b140), .val (.ref x198), .val (.int (((md.toUInt32 >>> ((16 : Int32) &&& 31).toUInt32).toInt32) &&& (7 : Int32))), .val (.int ((((md.toUInt32 >>> ((16 : Int32) &&& 31).toUInt32).toInt32) &&& (7 : Int32)) + (((md.toUInt32 >>> ((19 : Int32) &&& 31).toUInt32).toInt32) &&& (7 : Int32)))), .val (.int (md &&& (3 : Int32))), .unset, .val (.int (qq &&& (3 : Int32))), .unset] [])) P235 (by
                    intro tt_ kk_
                    refine XS.icmpYes X198.here hx rfl (pc0 := 188) (pc' := 196) rfl (hb hby at_188) rfl (feq c236).2 (by decide) (by decide) ?_
                    exact kk_)
                  have P240 := own_step (C := T198.setTop (mkF m 216 #[.val (.int pk), .val (.int qq), .val (.int md), .val (.int d0), .val (.int u1), .val (.int u2), .val (.int nn), .val (.ref b140), .val (.ref x198), .val (.int (((md.toUInt32 >>> ((16 : Int32) &&& 31).toUInt32).toInt32) &&& (7 : Int32))), .val (.int ((((md.toUInt32 >>> ((16 : Int32) &&& 31).toUInt32).toInt32) &&& (7 : Int32)) + (((md.toUInt32 >>> ((19 : Int32) &&& 31).toUInt32).toInt32) &&& (7 : Int32)))), .val (.int (md &&& (3 : Int32))), .val (.int (d0 + (64 : Int32))), .val (.int (qq &&& (3 : Int32))), .unset] [])) P239 (by
                    intro tt_ kk_
                    refine XS.iloadN X198.here hx rfl (hb hby at_196) rfl ?_
                    show Steps p.tables e below (T198.setTop (mkF m 197 #[.val (.int pk), .val (.int qq), .val (.int md), .val (.int d0), .val (.int u1), .val (.int u2), .val (.int nn), .val (.ref b140), .val (.ref x198), .val (.int (((md.toUInt32 >>> ((16 : Int32) &&& 31).toUInt32).toInt32) &&& (7 : Int32))), .val (.int ((((md.toUInt32 >>> ((16 : Int32) &&& 31).toUInt32).toInt32) &&& (7 : Int32)) + (((md.toUInt32 >>> ((19 : Int32) &&& 31).toUInt32).toInt32) &&& (7 : Int32)))), .val (.int (md &&& (3 : Int32))), .unset, .val (.int (qq &&& (3 : Int32))), .unset] [(.int d0)])) _
                    refine XS.bipush X198.here hx rfl (hb hby at_197) ?_
                    show Steps p.tables e below (T198.setTop (mkF m 199 #[.val (.int pk), .val (.int qq), .val (.int md), .val (.int d0), .val (.int u1), .val (.int u2), .val (.int nn), .val (.ref b140), .val (.ref x198), .val (.int (((md.toUInt32 >>> ((16 : Int32) &&& 31).toUInt32).toInt32) &&& (7 : Int32))), .val (.int ((((md.toUInt32 >>> ((16 : Int32) &&& 31).toUInt32).toInt32) &&& (7 : Int32)) + (((md.toUInt32 >>> ((19 : Int32) &&& 31).toUInt32).toInt32) &&& (7 : Int32)))), .val (.int (md &&& (3 : Int32))), .unset, .val (.int (qq &&& (3 : Int32))), .unset] [(.int (64 : Int32)), (.int d0)])) _
                    refine XS.iadd X198.here hx rfl (hb hby at_199) rfl ?_
                    show Steps p.tables e below (T198.setTop (mkF m 200 #[.val (.int pk), .val (.int qq), .val (.int md), .val (.int d0), .val (.int u1), .val (.int u2), .val (.int nn), .val (.ref b140), .val (.ref x198), .val (.int (((md.toUInt32 >>> ((16 : Int32) &&& 31).toUInt32).toInt32) &&& (7 : Int32))), .val (.int ((((md.toUInt32 >>> ((16 : Int32) &&& 31).toUInt32).toInt32) &&& (7 : Int32)) + (((md.toUInt32 >>> ((19 : Int32) &&& 31).toUInt32).toInt32) &&& (7 : Int32)))), .val (.int (md &&& (3 : Int32))), .unset, .val (.int (qq &&& (3 : Int32))), .unset] [(.int (d0 + (64 : Int32)))])) _
                    refine XS.istore X198.here hx rfl (hb hby at_200) rfl (l' := #[.val (.int pk), .val (.int qq), .val (.int md), .val (.int d0), .val (.int u1), .val (.int u2), .val (.int nn), .val (.ref b140), .val (.ref x198), .val (.int (((md.toUInt32 >>> ((16 : Int32) &&& 31).toUInt32).toInt32) &&& (7 : Int32))), .val (.int ((((md.toUInt32 >>> ((16 : Int32) &&& 31).toUInt32).toInt32) &&& (7 : Int32)) + (((md.toUInt32 >>> ((19 : Int32) &&& 31).toUInt32).toInt32) &&& (7 : Int32)))), .val (.int (md &&& (3 : Int32))), .val (.int (d0 + (64 : Int32))), .val (.int (qq &&& (3 : Int32))), .unset]) rfl ?_
                    show Steps p.tables e below (T198.setTop (mkF m 202 #[.val (.int pk), .val (.int qq), .val (.int md), .val (.int d0), .val (.int u1), .val (.int u2), .val (.int nn), .val (.ref b140), .val (.ref x198), .val (.int (((md.toUInt32 >>> ((16 : Int32) &&& 31).toUInt32).toInt32) &&& (7 : Int32))), .val (.int ((((md.toUInt32 >>> ((16 : Int32) &&& 31).toUInt32).toInt32) &&& (7 : Int32)) + (((md.toUInt32 >>> ((19 : Int32) &&& 31).toUInt32).toInt32) &&& (7 : Int32)))), .val (.int (md &&& (3 : Int32))), .val (.int (d0 + (64 : Int32))), .val (.int (qq &&& (3 : Int32))), .unset] [])) _
                    refine XS.goto X198.here hx rfl (pc0 := 202) (pc' := 216) rfl (hb hby at_202) (by decide) (by decide) ?_
                    exact kk_)
                  exact ⟨(d0 + (64 : Int32)), .val (.int (qq &&& (3 : Int32))), Or.inr (Or.inr (Or.inr (Or.inr (Or.inr (Or.inl ⟨c213, c218, c223, c226, c231, c236, rfl⟩))))), (One.val rfl), P240⟩
          · have P241 := own_step (C := T198.setTop (mkF m 205 #[.val (.int pk), .val (.int qq), .val (.int md), .val (.int d0), .val (.int u1), .val (.int u2), .val (.int nn), .val (.ref b140), .val (.ref x198), .val (.int (((md.toUInt32 >>> ((16 : Int32) &&& 31).toUInt32).toInt32) &&& (7 : Int32))), .val (.int ((((md.toUInt32 >>> ((16 : Int32) &&& 31).toUInt32).toInt32) &&& (7 : Int32)) + (((md.toUInt32 >>> ((19 : Int32) &&& 31).toUInt32).toInt32) &&& (7 : Int32)))), .val (.int (md &&& (3 : Int32))), .unset, .unset, .unset] [])) P222 (by
              intro tt_ kk_
              refine XS.icmpYes X198.here hx rfl (pc0 := 157) (pc' := 205) rfl (hb hby at_157) rfl (feq c223).2 (by decide) (by decide) ?_
              exact kk_)
            have P242 := own_step (C := T198.setTop (mkF m 216 #[.val (.int pk), .val (.int qq), .val (.int md), .val (.int d0), .val (.int u1), .val (.int u2), .val (.int nn), .val (.ref b140), .val (.ref x198), .val (.int (((md.toUInt32 >>> ((16 : Int32) &&& 31).toUInt32).toInt32) &&& (7 : Int32))), .val (.int ((((md.toUInt32 >>> ((16 : Int32) &&& 31).toUInt32).toInt32) &&& (7 : Int32)) + (((md.toUInt32 >>> ((19 : Int32) &&& 31).toUInt32).toInt32) &&& (7 : Int32)))), .val (.int (md &&& (3 : Int32))), .val (.int ((qq &&& (511 : Int32)) - (192 : Int32))), .unset, .unset] [])) P241 (by
              intro tt_ kk_
              refine XS.iloadN X198.here hx rfl (hb hby at_205) rfl ?_
              show Steps p.tables e below (T198.setTop (mkF m 206 #[.val (.int pk), .val (.int qq), .val (.int md), .val (.int d0), .val (.int u1), .val (.int u2), .val (.int nn), .val (.ref b140), .val (.ref x198), .val (.int (((md.toUInt32 >>> ((16 : Int32) &&& 31).toUInt32).toInt32) &&& (7 : Int32))), .val (.int ((((md.toUInt32 >>> ((16 : Int32) &&& 31).toUInt32).toInt32) &&& (7 : Int32)) + (((md.toUInt32 >>> ((19 : Int32) &&& 31).toUInt32).toInt32) &&& (7 : Int32)))), .val (.int (md &&& (3 : Int32))), .unset, .unset, .unset] [(.int qq)])) _
              refine XS.sipush X198.here hx rfl (hb hby at_206) ?_
              show Steps p.tables e below (T198.setTop (mkF m 209 #[.val (.int pk), .val (.int qq), .val (.int md), .val (.int d0), .val (.int u1), .val (.int u2), .val (.int nn), .val (.ref b140), .val (.ref x198), .val (.int (((md.toUInt32 >>> ((16 : Int32) &&& 31).toUInt32).toInt32) &&& (7 : Int32))), .val (.int ((((md.toUInt32 >>> ((16 : Int32) &&& 31).toUInt32).toInt32) &&& (7 : Int32)) + (((md.toUInt32 >>> ((19 : Int32) &&& 31).toUInt32).toInt32) &&& (7 : Int32)))), .val (.int (md &&& (3 : Int32))), .unset, .unset, .unset] [(.int (511 : Int32)), (.int qq)])) _
              refine XS.iand X198.here hx rfl (hb hby at_209) rfl ?_
              show Steps p.tables e below (T198.setTop (mkF m 210 #[.val (.int pk), .val (.int qq), .val (.int md), .val (.int d0), .val (.int u1), .val (.int u2), .val (.int nn), .val (.ref b140), .val (.ref x198), .val (.int (((md.toUInt32 >>> ((16 : Int32) &&& 31).toUInt32).toInt32) &&& (7 : Int32))), .val (.int ((((md.toUInt32 >>> ((16 : Int32) &&& 31).toUInt32).toInt32) &&& (7 : Int32)) + (((md.toUInt32 >>> ((19 : Int32) &&& 31).toUInt32).toInt32) &&& (7 : Int32)))), .val (.int (md &&& (3 : Int32))), .unset, .unset, .unset] [(.int (qq &&& (511 : Int32)))])) _
              refine XS.sipush X198.here hx rfl (hb hby at_210) ?_
              show Steps p.tables e below (T198.setTop (mkF m 213 #[.val (.int pk), .val (.int qq), .val (.int md), .val (.int d0), .val (.int u1), .val (.int u2), .val (.int nn), .val (.ref b140), .val (.ref x198), .val (.int (((md.toUInt32 >>> ((16 : Int32) &&& 31).toUInt32).toInt32) &&& (7 : Int32))), .val (.int ((((md.toUInt32 >>> ((16 : Int32) &&& 31).toUInt32).toInt32) &&& (7 : Int32)) + (((md.toUInt32 >>> ((19 : Int32) &&& 31).toUInt32).toInt32) &&& (7 : Int32)))), .val (.int (md &&& (3 : Int32))), .unset, .unset, .unset] [(.int (192 : Int32)), (.int (qq &&& (511 : Int32)))])) _
              refine XS.isub X198.here hx rfl (hb hby at_213) rfl ?_
              show Steps p.tables e below (T198.setTop (mkF m 214 #[.val (.int pk), .val (.int qq), .val (.int md), .val (.int d0), .val (.int u1), .val (.int u2), .val (.int nn), .val (.ref b140), .val (.ref x198), .val (.int (((md.toUInt32 >>> ((16 : Int32) &&& 31).toUInt32).toInt32) &&& (7 : Int32))), .val (.int ((((md.toUInt32 >>> ((16 : Int32) &&& 31).toUInt32).toInt32) &&& (7 : Int32)) + (((md.toUInt32 >>> ((19 : Int32) &&& 31).toUInt32).toInt32) &&& (7 : Int32)))), .val (.int (md &&& (3 : Int32))), .unset, .unset, .unset] [(.int ((qq &&& (511 : Int32)) - (192 : Int32)))])) _
              refine XS.istore X198.here hx rfl (hb hby at_214) rfl (l' := #[.val (.int pk), .val (.int qq), .val (.int md), .val (.int d0), .val (.int u1), .val (.int u2), .val (.int nn), .val (.ref b140), .val (.ref x198), .val (.int (((md.toUInt32 >>> ((16 : Int32) &&& 31).toUInt32).toInt32) &&& (7 : Int32))), .val (.int ((((md.toUInt32 >>> ((16 : Int32) &&& 31).toUInt32).toInt32) &&& (7 : Int32)) + (((md.toUInt32 >>> ((19 : Int32) &&& 31).toUInt32).toInt32) &&& (7 : Int32)))), .val (.int (md &&& (3 : Int32))), .val (.int ((qq &&& (511 : Int32)) - (192 : Int32))), .unset, .unset]) rfl ?_
              exact kk_)
            exact ⟨((qq &&& (511 : Int32)) - (192 : Int32)), .unset, Or.inr (Or.inr (Or.inr (Or.inr (Or.inr (Or.inr (⟨c213, c218, c223, rfl⟩)))))), One.u, P242⟩
    have P243 := own_step P209 J210
    obtain ⟨T244, h244, X244, e244, E244, A244, D244, -, st244⟩ := newO X198 hx hZ hown (hw _ (List.mem_of_getElem? (i := 29) rfl)) (hw _ (List.mem_of_getElem? (i := 30) rfl)) (hw _ (List.mem_of_getElem? (i := 31) rfl)) rfl (g := (mkF m 216 #[.val (.int pk), .val (.int qq), .val (.int md), .val (.int d0), .val (.int u1), .val (.int u2), .val (.int nn), .val (.ref b140), .val (.ref x198), .val (.int (((md.toUInt32 >>> ((16 : Int32) &&& 31).toUInt32).toInt32) &&& (7 : Int32))), .val (.int ((((md.toUInt32 >>> ((16 : Int32) &&& 31).toUInt32).toInt32) &&& (7 : Int32)) + (((md.toUInt32 >>> ((19 : Int32) &&& 31).toUInt32).toInt32) &&& (7 : Int32)))), .val (.int (md &&& (3 : Int32))), .val (.int cc), sl210_0, .unset] [])) rfl (hb hby at_216) (by decide) (by decide)
    obtain ⟨b244, g244⟩ : ∃ z, z = T198.heap.size := ⟨_, rfl⟩
    rw [← g244] at A244 D244 st244
    have ne_b140_b244 : b140 ≠ b244 := Nat.ne_of_lt (Nat.lt_of_lt_of_le f202.lt (Nat.le_of_eq g244.symm))
    have ne_b147_b244 : b147 ≠ b244 := Nat.ne_of_lt (Nat.lt_of_lt_of_le f203.lt (Nat.le_of_eq g244.symm))
    have ne_x184_b244 : x184 ≠ b244 := Nat.ne_of_lt (Nat.lt_of_lt_of_le f206.lt (Nat.le_of_eq g244.symm))
    have g_b244 : n0 ≤ b244 := Nat.le_trans Z207 (Nat.le_of_eq g244.symm)
    have f245 := f201.ext E244
    have f246 := f202.ext E244
    have f247 := f203.ext E244
    have f248 := f204.ext E244
    have f249 := f205.ext E244
    have f250 := f206.ext E244
    have Z251 : n0 ≤ h244.size := Nat.le_trans Z207 E244.1
    have f252 : Fld Z h244 b244 "com/example/gatehouse/gatehouse/pattern/NameShape" "begin" "Ljava/lang/String;" .null := D244 (Or.inr (hw _ (List.mem_of_getElem? (i := 53) rfl))) (ty := (.object "java/lang/String")) (by decide)
    have f253 : Fld Z h244 b244 "com/example/gatehouse/gatehouse/pattern/NameShape" "low" "J" (.long (0 : Int64)) := D244 (Or.inr (hw _ (List.mem_of_getElem? (i := 55) rfl))) (ty := .long) (by decide)
    have f254 : Fld Z h244 b244 "com/example/gatehouse/gatehouse/pattern/NameShape" "high" "J" (.long (0 : Int64)) := D244 (Or.inr (hw _ (List.mem_of_getElem? (i := 57) rfl))) (ty := .long) (by decide)
    have f255 : Fld Z h244 b244 "com/example/gatehouse/gatehouse/pattern/NameShape" "least" "I" (.int (0 : Int32)) := D244 (Or.inr (hw _ (List.mem_of_getElem? (i := 59) rfl))) (ty := .int) (by decide)
    have f256 : Fld Z h244 b244 "com/example/gatehouse/gatehouse/pattern/NameShape" "most" "I" (.int (0 : Int32)) := D244 (Or.inr (hw _ (List.mem_of_getElem? (i := 61) rfl))) (ty := .int) (by decide)
    have P257 := own_step (C := T244.setTop (mkF m 219 #[.val (.int pk), .val (.int qq), .val (.int md), .val (.int d0), .val (.int u1), .val (.int u2), .val (.int nn), .val (.ref b140), .val (.ref x198), .val (.int (((md.toUInt32 >>> ((16 : Int32) &&& 31).toUInt32).toInt32) &&& (7 : Int32))), .val (.int ((((md.toUInt32 >>> ((16 : Int32) &&& 31).toUInt32).toInt32) &&& (7 : Int32)) + (((md.toUInt32 >>> ((19 : Int32) &&& 31).toUInt32).toInt32) &&& (7 : Int32)))), .val (.int (md &&& (3 : Int32))), .val (.int cc), sl210_0, .unset] [(.ref b244)])) P243 (fun t_ k_ => st244 t_ k_)
    have P258 := own_step (C := T244.setTop (mkF m 228 #[.val (.int pk), .val (.int qq), .val (.int md), .val (.int d0), .val (.int u1), .val (.int u2), .val (.int nn), .val (.ref b140), .val (.ref x198), .val (.int (((md.toUInt32 >>> ((16 : Int32) &&& 31).toUInt32).toInt32) &&& (7 : Int32))), .val (.int ((((md.toUInt32 >>> ((16 : Int32) &&& 31).toUInt32).toInt32) &&& (7 : Int32)) + (((md.toUInt32 >>> ((19 : Int32) &&& 31).toUInt32).toInt32) &&& (7 : Int32)))), .val (.int (md &&& (3 : Int32))), .val (.int cc), sl210_0, .unset] [(.int ((((md.toUInt32 >>> ((16 : Int32) &&& 31).toUInt32).toInt32) &&& (7 : Int32)) + (((md.toUInt32 >>> ((19 : Int32) &&& 31).toUInt32).toInt32) &&& (7 : Int32)))), (.int (((md.toUInt32 >>> ((16 : Int32) &&& 31).toUInt32).toInt32) &&& (7 : Int32))), (.ref b140), (.ref x198), (.ref b244), (.ref b244)])) P257 (by
      intro tt_ kk_
      refine XS.dup X244.here hx rfl (hb hby at_219) rfl rfl ?_
      show Steps p.tables e below (T244.setTop (mkF m 220 #[.val (.int pk), .val (.int qq), .val (.int md), .val (.int d0), .val (.int u1), .val (.int u2), .val (.int nn), .val (.ref b140), .val (.ref x198), .val (.int (((md.toUInt32 >>> ((16 : Int32) &&& 31).toUInt32).toInt32) &&& (7 : Int32))), .val (.int ((((md.toUInt32 >>> ((16 : Int32) &&& 31).toUInt32).toInt32) &&& (7 : Int32)) + (((md.toUInt32 >>> ((19 : Int32) &&& 31).toUInt32).toInt32) &&& (7 : Int32)))), .val (.int (md &&& (3 : Int32))), .val (.int cc), sl210_0, .unset] [(.ref b244), (.ref b244)])) _
      refine XS.aload X244.here hx rfl (hb hby at_220) rfl rfl ?_
      show Steps p.tables e below (T244.setTop (mkF m 222 #[.val (.int pk), .val (.int qq), .val (.int md), .val (.int d0), .val (.int u1), .val (.int u2), .val (.int nn), .val (.ref b140), .val (.ref x198), .val (.int (((md.toUInt32 >>> ((16 : Int32) &&& 31).toUInt32).toInt32) &&& (7 : Int32))), .val (.int ((((md.toUInt32 >>> ((16 : Int32) &&& 31).toUInt32).toInt32) &&& (7 : Int32)) + (((md.toUInt32 >>> ((19 : Int32) &&& 31).toUInt32).toInt32) &&& (7 : Int32)))), .val (.int (md &&& (3 : Int32))), .val (.int cc), sl210_0, .unset] [(.ref x198), (.ref b244), (.ref b244)])) _
      refine XS.aload X244.here hx rfl (hb hby at_222) rfl rfl ?_
      show Steps p.tables e below (T244.setTop (mkF m 224 #[.val (.int pk), .val (.int qq), .val (.int md), .val (.int d0), .val (.int u1), .val (.int u2), .val (.int nn), .val (.ref b140), .val (.ref x198), .val (.int (((md.toUInt32 >>> ((16 : Int32) &&& 31).toUInt32).toInt32) &&& (7 : Int32))), .val (.int ((((md.toUInt32 >>> ((16 : Int32) &&& 31).toUInt32).toInt32) &&& (7 : Int32)) + (((md.toUInt32 >>> ((19 : Int32) &&& 31).toUInt32).toInt32) &&& (7 : Int32)))), .val (.int (md &&& (3 : Int32))), .val (.int cc), sl210_0, .unset] [(.ref b140), (.ref x198), (.ref b244), (.ref b244)])) _
      refine XS.iload X244.here hx rfl (hb hby at_224) rfl ?_
      show Steps p.tables e below (T244.setTop (mkF m 226 #[.val (.int pk), .val (.int qq), .val (.int md), .val (.int d0), .val (.int u1), .val (.int u2), .val (.int nn), .val (.ref b140), .val (.ref x198), .val (.int (((md.toUInt32 >>> ((16 : Int32) &&& 31).toUInt32).toInt32) &&& (7 : Int32))), .val (.int ((((md.toUInt32 >>> ((16 : Int32) &&& 31).toUInt32).toInt32) &&& (7 : Int32)) + (((md.toUInt32 >>> ((19 : Int32) &&& 31).toUInt32).toInt32) &&& (7 : Int32)))), .val (.int (md &&& (3 : Int32))), .val (.int cc), sl210_0, .unset] [(.int (((md.toUInt32 >>> ((16 : Int32) &&& 31).toUInt32).toInt32) &&& (7 : Int32))), (.ref b140), (.ref x198), (.ref b244), (.ref b244)])) _
      refine XS.iload X244.here hx rfl (hb hby at_226) rfl ?_
      exact kk_)
    obtain ⟨_, _, ⟨T259, L259, k259, n259⟩, -, X259, ⟨Lc259, hQ259, l259, y259, z259⟩, st259⟩ := X244.specialBack hx (y := (⟨"com/example/gatehouse/gatehouse/pattern/NameShape", "<init>", "(Ljava/lang/String;Ljava/lang/String;II)V"⟩ : MethodName)) rfl hown (mvT hZ (hw _ (List.mem_of_getElem? (i := 32) rfl))) (mvT hZ (hw _ (List.mem_of_getElem? (i := 33) rfl))) (mvT hZ (hw _ (List.mem_of_getElem? (i := 34) rfl))) (by decide) (backOf (W := 1) (rm_ns3 l Z a0 hw [] b244 x198 (((md.toUInt32 >>> ((16 : Int32) &&& 31).toUInt32).toInt32) &&& (7 : Int32)) ((((md.toUInt32 >>> ((16 : Int32) &&& 31).toUInt32).toInt32) &&& (7 : Int32)) + (((md.toUInt32 >>> ((19 : Int32) &&& 31).toUInt32).toInt32) &&& (7 : Int32))) b140 x184 kk184 (((nar .char d0).toInt8.toInt32).toInt8.toInt32) (((nar .char u1).toInt8.toInt32).toInt8.toInt32) (((nar .char u2).toInt8.toInt32).toInt8.toInt32) fm cs h244 n0 Z251 f245 Scs hcs Sfm hfm f246 f248 f249 f250 (own_b128 gd0) (own_b128 ku1) (own_b128 ku2) A244 f252 f253 f254 f255 f256 g_b244 (own_le _) (own_mo _ _)) hZ (hw _ (List.mem_of_getElem? (i := 34) rfl)) (hw _ (List.mem_of_getElem? (i := 31) rfl)) (by decide) (by decide)) (g := (mkF m 228 #[.val (.int pk), .val (.int qq), .val (.int md), .val (.int d0), .val (.int u1), .val (.int u2), .val (.int nn), .val (.ref b140), .val (.ref x198), .val (.int (((md.toUInt32 >>> ((16 : Int32) &&& 31).toUInt32).toInt32) &&& (7 : Int32))), .val (.int ((((md.toUInt32 >>> ((16 : Int32) &&& 31).toUInt32).toInt32) &&& (7 : Int32)) + (((md.toUInt32 >>> ((19 : Int32) &&& 31).toUInt32).toInt32) &&& (7 : Int32)))), .val (.int (md &&& (3 : Int32))), .val (.int cc), sl210_0, .unset] [(.int ((((md.toUInt32 >>> ((16 : Int32) &&& 31).toUInt32).toInt32) &&& (7 : Int32)) + (((md.toUInt32 >>> ((19 : Int32) &&& 31).toUInt32).toInt32) &&& (7 : Int32)))), (.int (((md.toUInt32 >>> ((16 : Int32) &&& 31).toUInt32).toInt32) &&& (7 : Int32))), (.ref b140), (.ref x198), (.ref b244), (.ref b244)])) rfl (by rw [hml]; rfl) (Steps.refl _) (a := b244) (argsL := [(.ref x198), (.ref b140), (.int (((md.toUInt32 >>> ((16 : Int32) &&& 31).toUInt32).toInt32) &&& (7 : Int32))), (.int ((((md.toUInt32 >>> ((16 : Int32) &&& 31).toUInt32).toInt32) &&& (7 : Int32)) + (((md.toUInt32 >>> ((19 : Int32) &&& 31).toUInt32).toInt32) &&& (7 : Int32))))]) (rest := [(.ref b244)]) (lenOf pd17 rfl) rfl (by show 2 * 0 + _ ≤ _; exact Nat.le_of_eq rfl) (hb hby at_228) (fun _ _ => ⟨rfl, e244, (by decide : 6 + 0 ≤ _), (by decide : 20 + 0 ≤ _)⟩)
    dsimp only [Pt.U, Pt.locs, Pt.cells, Pt.slots] at X259 l259 y259 z259 st259 hQ259
    subst l259 y259 z259
    obtain ⟨rfl, N259q, K259, f260, f261, f262⟩ := hQ259
    have N259 := Fr.app N198 N259q
    have f263 := f245.keep K259 (allS g_b244 all0)
    have f264 := f246.keep K259
    have f265 := f247.keep K259 (ninS ne_b147_b244 nin0)
    have f266 := f248.keep K259 (ninS ne_b140_b244 nin0)
    have f267 := f249.keep K259 (ninS ne_b140_b244 nin0)
    have f268 := f250.keep K259 (ninS ne_x184_b244 nin0)
    have f269 := A244.keep K259
    have Z275 : n0 ≤ T259.heap.size := Nat.le_trans Z251 K259.1
    have P276 := own_step (C := T259.setTop (mkF m 231 #[.val (.int pk), .val (.int qq), .val (.int md), .val (.int d0), .val (.int u1), .val (.int u2), .val (.int nn), .val (.ref b140), .val (.ref x198), .val (.int (((md.toUInt32 >>> ((16 : Int32) &&& 31).toUInt32).toInt32) &&& (7 : Int32))), .val (.int ((((md.toUInt32 >>> ((16 : Int32) &&& 31).toUInt32).toInt32) &&& (7 : Int32)) + (((md.toUInt32 >>> ((19 : Int32) &&& 31).toUInt32).toInt32) &&& (7 : Int32)))), .val (.int (md &&& (3 : Int32))), .val (.int cc), sl210_0, .unset] [(.ref b244)])) P258 (fun t_ k_ => st259.trans k_)
    have P277 := own_step (C := T259.setTop (mkF m 235 #[.val (.int pk), .val (.int qq), .val (.int md), .val (.int d0), .val (.int u1), .val (.int u2), .val (.int nn), .val (.ref b140), .val (.ref x198), .val (.int (((md.toUInt32 >>> ((16 : Int32) &&& 31).toUInt32).toInt32) &&& (7 : Int32))), .val (.int ((((md.toUInt32 >>> ((16 : Int32) &&& 31).toUInt32).toInt32) &&& (7 : Int32)) + (((md.toUInt32 >>> ((19 : Int32) &&& 31).toUInt32).toInt32) &&& (7 : Int32)))), .val (.int (md &&& (3 : Int32))), .val (.int cc), .val (.ref b244), .unset] [(.int nn)])) P276 (by
      intro tt_ kk_
      refine XS.astore X259.here hx rfl (hb hby at_231) rfl rfl (l' := #[.val (.int pk), .val (.int qq), .val (.int md), .val (.int d0), .val (.int u1), .val (.int u2), .val (.int nn), .val (.ref b140), .val (.ref x198), .val (.int (((md.toUInt32 >>> ((16 : Int32) &&& 31).toUInt32).toInt32) &&& (7 : Int32))), .val (.int ((((md.toUInt32 >>> ((16 : Int32) &&& 31).toUInt32).toInt32) &&& (7 : Int32)) + (((md.toUInt32 >>> ((19 : Int32) &&& 31).toUInt32).toInt32) &&& (7 : Int32)))), .val (.int (md &&& (3 : Int32))), .val (.int cc), .val (.ref b244), .unset]) (XS.store1 rfl osl210_0 rfl) ?_
      show Steps p.tables e below (T259.setTop (mkF m 233 #[.val (.int pk), .val (.int qq), .val (.int md), .val (.int d0), .val (.int u1), .val (.int u2), .val (.int nn), .val (.ref b140), .val (.ref x198), .val (.int (((md.toUInt32 >>> ((16 : Int32) &&& 31).toUInt32).toInt32) &&& (7 : Int32))), .val (.int ((((md.toUInt32 >>> ((16 : Int32) &&& 31).toUInt32).toInt32) &&& (7 : Int32)) + (((md.toUInt32 >>> ((19 : Int32) &&& 31).toUInt32).toInt32) &&& (7 : Int32)))), .val (.int (md &&& (3 : Int32))), .val (.int cc), .val (.ref b244), .unset] [])) _
      refine XS.iload X259.here hx rfl (hb hby at_233) rfl ?_
      exact kk_)
    obtain ⟨ve, hv278, J278⟩ : ∃ (ve : Int32), (((0 : Int32) < nn ∧ cc = d0 ∧ ve = (1 : Int32)) ∨ ((0 : Int32) < nn ∧ ¬ (cc = d0) ∧ cc = u1 ∧ ve = (1 : Int32)) ∨ ((0 : Int32) < nn ∧ ¬ (cc = d0) ∧ ¬ (cc = u1) ∧ cc = u2 ∧ ve = (1 : Int32)) ∨ ((0 : Int32) < nn ∧ ¬ (cc = d0) ∧ ¬ (cc = u1) ∧ ¬ (cc = u2) ∧ ve = (0 : Int32)) ∨ (¬ ((0 : Int32) < nn) ∧ ve = (0 : Int32))) ∧ own_Go p e below (T259.setTop (mkF m 235 #[.val (.int pk), .val (.int qq), .val (.int md), .val (.int d0), .val (.int u1), .val (.int u2), .val (.int nn), .val (.ref b140), .val (.ref x198), .val (.int (((md.toUInt32 >>> ((16 : Int32) &&& 31).toUInt32).toInt32) &&& (7 : Int32))), .val (.int ((((md.toUInt32 >>> ((16 : Int32) &&& 31).toUInt32).toInt32) &&& (7 : Int32)) + (((md.toUInt32 >>> ((19 : Int32) &&& 31).toUInt32).toInt32) &&& (7 : Int32)))), .val (.int (md &&& (3 : Int32))), .val (.int cc), .val (.ref b244), .unset] [(.int nn)])) (T259.setTop (mkF m 263 #[.val (.int pk), .val (.int qq), .val (.int md), .val (.int d0), .val (.int u1), .val (.int u2), .val (.int nn), .val (.ref b140), .val (.ref x198), .val (.int (((md.toUInt32 >>> ((16 : Int32) &&& 31).toUInt32).toInt32) &&& (7 : Int32))), .val (.int ((((md.toUInt32 >>> ((16 : Int32) &&& 31).toUInt32).toInt32) &&& (7 : Int32)) + (((md.toUInt32 >>> ((19 : Int32) &&& 31).toUInt32).toInt32) &&& (7 : Int32)))), .val (.int (md &&& (3 : Int32))), .val (.int cc), .val (.ref b244), .unset] [(.int ve)])) := by
      have P279 : own_Go p e below (T259.setTop (mkF m 235 #[.val (.int pk), .val (.int qq), .val (.int md), .val (.int d0), .val (.int u1), .val (.int u2), .val (.int nn), .val (.ref b140), .val (.ref x198), .val (.int (((md.toUInt32 >>> ((16 : Int32) &&& 31).toUInt32).toInt32) &&& (7 : Int32))), .val (.int ((((md.toUInt32 >>> ((16 : Int32) &&& 31).toUInt32).toInt32) &&& (7 : Int32)) + (((md.toUInt32 >>> ((19 : Int32) &&& 31).toUInt32).toInt32) &&& (7 : Int32)))), .val (.int (md &&& (3 : Int32))), .val (.int cc), .val (.ref b244), .unset] [(.int nn)])) (T259.setTop (mkF m 235 #[.val (.int pk), .val (.int qq), .val (.int md), .val (.int d0), .val (.int u1), .val (.int u2), .val (.int nn), .val (.ref b140), .val (.ref x198), .val (.int (((md.toUInt32 >>> ((16 : Int32) &&& 31).toUInt32).toInt32) &&& (7 : Int32))), .val (.int ((((md.toUInt32 >>> ((16 : Int32) &&& 31).toUInt32).toInt32) &&& (7 : Int32)) + (((md.toUInt32 >>> ((19 : Int32) &&& 31).toUInt32).toInt32) &&& (7 : Int32)))), .val (.int (md &&& (3 : Int32))), .val (.int cc), .val (.ref b244), .unset] [(.int nn)])) := fun t_ k_ => k_
      by_cases c280 : (0 : Int32) < nn
      · have P281 := own_step (C := T259.setTop (mkF m 238 #[.val (.int pk), .val (.int qq), .val (.int md), .val (.int d0), .val (.int u1), .val (.int u2), .val (.int nn), .val (.ref b140), .val (.ref x198), .val (.int (((md.toUInt32 >>> ((16 : Int32) &&& 31).toUInt32).toInt32) &&& (7 : Int32))), .val (.int ((((md.toUInt32 >>> ((16 : Int32) &&& 31).toUInt32).toInt32) &&& (7 : Int32)) + (((md.toUInt32 >>> ((19 : Int32) &&& 31).toUInt32).toInt32) &&& (7 : Int32)))), .val (.int (md &&& (3 : Int32))), .val (.int cc), .val (.ref b244), .unset] [])) P279 (by
          intro tt_ kk_
          refine XS.ifNo X259.here hx rfl (hb hby at_235) rfl ((if0 _ _).trans (tlt c280).2.2.2) ?_
          exact kk_)
        have P282 := own_step (C := T259.setTop (mkF m 241 #[.val (.int pk), .val (.int qq), .val (.int md), .val (.int d0), .val (.int u1), .val (.int u2), .val (.int nn), .val (.ref b140), .val (.ref x198), .val (.int (((md.toUInt32 >>> ((16 : Int32) &&& 31).toUInt32).toInt32) &&& (7 : Int32))), .val (.int ((((md.toUInt32 >>> ((16 : Int32) &&& 31).toUInt32).toInt32) &&& (7 : Int32)) + (((md.toUInt32 >>> ((19 : Int32) &&& 31).toUInt32).toInt32) &&& (7 : Int32)))), .val (.int (md &&& (3 : Int32))), .val (.int cc), .val (.ref b244), .unset] [(.int d0), (.int cc)])) P281 (by
          intro tt_ kk_
          refine XS.iload X259.here hx rfl (hb hby at_238) rfl ?_
          show Steps p.tables e below (T259.setTop (mkF m 240 #[.val (.int pk), .val (.int qq), .val (.int md), .val (.int d0), .val (.int u1), .val (.int u2), .val (.int nn), .val (.ref b140), .val (.ref x198), .val (.int (((md.toUInt32 >>> ((16 : Int32) &&& 31).toUInt32).toInt32) &&& (7 : Int32))), .val (.int ((((md.toUInt32 >>> ((16 : Int32) &&& 31).toUInt32).toInt32) &&& (7 : Int32)) + (((md.toUInt32 >>> ((19 : Int32) &&& 31).toUInt32).toInt32) &&& (7 : Int32)))), .val (.int (md &&& (3 : Int32))), .val (.int cc), .val (.ref b244), .unset] [(.int cc)])) _
          refine XS.iloadN X259.here hx rfl (hb hby at_240) rfl ?_
          exact kk_)
        by_cases c283 : cc = d0
        · have P284 := own_step (C := T259.setTop (mkF m 258 #[.val (.int pk), .val (.int qq), .val (.int md), .val (.int d0), .val (.int u1), .val (.int u2), .val (.int nn), .val (.ref b140), .val (.ref x198), .val (.int (((md.toUInt32 >>> ((16 : Int32) &&& 31).toUInt32).toInt32) &&& (7 : Int32))), .val (.int ((((md.toUInt32 >>> ((16 : Int32) &&& 31).toUInt32).toInt32) &&& (7 : Int32)) + (((md.toUInt32 >>> ((19 : Int32) &&& 31).toUInt32).toInt32) &&& (7 : Int32)))), .val (.int (md &&& (3 : Int32))), .val (.int cc), .val (.ref b244), .unset] [])) P282 (by
            intro tt_ kk_
            refine XS.icmpYes X259.here hx rfl (pc0 := 241) (pc' := 258) rfl (hb hby at_241) rfl (teq c283).1 (by decide) (by decide) ?_
            exact kk_)
          have P285 := own_step (C := T259.setTop (mkF m 263 #[.val (.int pk), .val (.int qq), .val (.int md), .val (.int d0), .val (.int u1), .val (.int u2), .val (.int nn), .val (.ref b140), .val (.ref x198), .val (.int (((md.toUInt32 >>> ((16 : Int32) &&& 31).toUInt32).toInt32) &&& (7 : Int32))), .val (.int ((((md.toUInt32 >>> ((16 : Int32) &&& 31).toUInt32).toInt32) &&& (7 : Int32)) + (((md.toUInt32 >>> ((19 : Int32) &&& 31).toUInt32).toInt32) &&& (7 : Int32)))), .val (.int (md &&& (3 : Int32))), .val (.int cc), .val (.ref b244), .unset] [(.int (1 : Int32))])) P284 (by
            intro tt_ kk_
            refine XS.iconst X259.here hx rfl (hb hby at_258) ?_
            show Steps p.tables e below (T259.setTop (mkF m 259 #[.val (.int pk), .val (.int qq), .val (.int md), .val (.int d0), .val (.int u1), .val (.int u2), .val (.int nn), .val (.ref b140), .val (.ref x198), .val (.int (((md.toUInt32 >>> ((16 : Int32) &&& 31).toUInt32).toInt32) &&& (7 : Int32))), .val (.int ((((md.toUInt32 >>> ((16 : Int32) &&& 31).toUInt32).toInt32) &&& (7 : Int32)) + (((md.toUInt32 >>> ((19 : Int32) &&& 31).toUInt32).toInt32) &&& (7 : Int32)))), .val (.int (md &&& (3 : Int32))), .val (.int cc), .val (.ref b244), .unset] [(.int (1 : Int32))])) _
            refine XS.goto X259.here hx rfl (pc0 := 259) (pc' := 263) rfl (hb hby at_259) (by decide) (by decide) ?_
            exact kk_)
          exact ⟨(1 : Int32), Or.inl ⟨c280, c283, rfl⟩, P285⟩
        · have P286 := own_step (C := T259.setTop (mkF m 244 #[.val (.int pk), .val (.int qq), .val (.int md), .val (.int d0), .val (.int u1), .val (.int u2), .val (.int nn), .val (.ref b140), .val (.ref x198), .val (.int (((md.toUInt32 >>> ((16 : Int32) &&& 31).toUInt32).toInt32) &&& (7 : Int32))), .val (.int ((((md.toUInt32 >>> ((16 : Int32) &&& 31).toUInt32).toInt32) &&& (7 : Int32)) + (((md.toUInt32 >>> ((19 : Int32) &&& 31).toUInt32).toInt32) &&& (7 : Int32)))), .val (.int (md &&& (3 : Int32))), .val (.int cc), .val (.ref b244), .unset] [])) P282 (by
            intro tt_ kk_
            refine XS.icmpNo X259.here hx rfl (hb hby at_241) rfl (feq c283).1 ?_
            exact kk_)
          have P287 := own_step (C := T259.setTop (mkF m 248 #[.val (.int pk), .val (.int qq), .val (.int md), .val (.int d0), .val (.int u1), .val (.int u2), .val (.int nn), .val (.ref b140), .val (.ref x198), .val (.int (((md.toUInt32 >>> ((16 : Int32) &&& 31).toUInt32).toInt32) &&& (7 : Int32))), .val (.int ((((md.toUInt32 >>> ((16 : Int32) &&& 31).toUInt32).toInt32) &&& (7 : Int32)) + (((md.toUInt32 >>> ((19 : Int32) &&& 31).toUInt32).toInt32) &&& (7 : Int32)))), .val (.int (md &&& (3 : Int32))), .val (.int cc), .val (.ref b244), .unset] [(.int u1), (.int cc)])) P286 (by
            intro tt_ kk_
            refine XS.iload X259.here hx rfl (hb hby at_244) rfl ?_
            show Steps p.tables e below (T259.setTop (mkF m 246 #[.val (.int pk), .val (.int qq), .val (.int md), .val (.int d0), .val (.int u1), .val (.int u2), .val (.int nn), .val (.ref b140), .val (.ref x198), .val (.int (((md.toUInt32 >>> ((16 : Int32) &&& 31).toUInt32).toInt32) &&& (7 : Int32))), .val (.int ((((md.toUInt32 >>> ((16 : Int32) &&& 31).toUInt32).toInt32) &&& (7 : Int32)) + (((md.toUInt32 >>> ((19 : Int32) &&& 31).toUInt32).toInt32) &&& (7 : Int32)))), .val (.int (md &&& (3 : Int32))), .val (.int cc), .val (.ref b244), .unset] [(.int cc)])) _
            refine XS.iload X259.here hx rfl (hb hby at_246) rfl ?_
            exact kk_)
          by_cases c288 : cc = u1
          · have P289 := own_step (C := T259.setTop (mkF m 258 #[.val (.int pk), .val (.int qq), .val (.int md), .val (.int d0), .val (.int u1), .val (.int u2), .val (.int nn), .val (.ref b140), .val (.ref x198), .val (.int (((md.toUInt32 >>> ((16 : Int32) &&& 31).toUInt32).toInt32) &&& (7 : Int32))), .val (.int ((((md.toUInt32 >>> ((16 : Int32) &&& 31).toUInt32).toInt32) &&& (7 : Int32)) + (((md.toUInt32 >>> ((19 : Int32) &&& 31).toUInt32).toInt32) &&& (7 : Int32)))), .val (.int (md &&& (3 : Int32))), .val (.int cc), .val (.ref b244), .unset] [])) P287 (by
              intro tt_ kk_
              refine XS.icmpYes X259.here hx rfl (pc0 := 248) (pc' := 258) rfl (hb hby at_248) rfl (teq c288).1 (by decide) (by decide) ?_
              exact kk_)
            have P290 := own_step (C := T259.setTop (mkF m 263 #[.val (.int pk), .val (.int qq), .val (.int md), .val (.int d0), .val (.int u1), .val (.int u2), .val (.int nn), .val (.ref b140), .val (.ref x198), .val (.int (((md.toUInt32 >>> ((16 : Int32) &&& 31).toUInt32).toInt32) &&& (7 : Int32))), .val (.int ((((md.toUInt32 >>> ((16 : Int32) &&& 31).toUInt32).toInt32) &&& (7 : Int32)) + (((md.toUInt32 >>> ((19 : Int32) &&& 31).toUInt32).toInt32) &&& (7 : Int32)))), .val (.int (md &&& (3 : Int32))), .val (.int cc), .val (.ref b244), .unset] [(.int (1 : Int32))])) P289 (by
              intro tt_ kk_
              refine XS.iconst X259.here hx rfl (hb hby at_258) ?_
              show Steps p.tables e below (T259.setTop (mkF m 259 #[.val (.int pk), .val (.int qq), .val (.int md), .val (.int d0), .val (.int u1), .val (.int u2), .val (.int nn), .val (.ref b140), .val (.ref x198), .val (.int (((md.toUInt32 >>> ((16 : Int32) &&& 31).toUInt32).toInt32) &&& (7 : Int32))), .val (.int ((((md.toUInt32 >>> ((16 : Int32) &&& 31).toUInt32).toInt32) &&& (7 : Int32)) + (((md.toUInt32 >>> ((19 : Int32) &&& 31).toUInt32).toInt32) &&& (7 : Int32)))), .val (.int (md &&& (3 : Int32))), .val (.int cc), .val (.ref b244), .unset] [(.int (1 : Int32))])) _
              refine XS.goto X259.here hx rfl (pc0 := 259) (pc' := 263) rfl (hb hby at_259) (by decide) (by decide) ?_
              exact kk_)
            exact ⟨(1 : Int32), Or.inr (Or.inl ⟨c280, c283, c288, rfl⟩), P290⟩
          · have P291 := own_step (C := T259.setTop (mkF m 251 #[.val (.int pk), .val (.int qq), .val (.int md), .val (.int d0), .val (.int u1), .val (.int u2), .val (.int nn), .val (.ref b140), .val (.ref x198), .val (.int (((md.toUInt32 >>> ((16 : Int32) &&& 31).toUInt32).toInt32) &&& (7 : Int32))), .val (.int ((((md.toUInt32 >>> ((16 : Int32) &&& 31).toUInt32).toInt32) &&& (7 : Int32)) + (((md.toUInt32 >>> ((19 : Int32) &&& 31).toUInt32).toInt32) &&& (7 : Int32)))), .val (.int (md &&& (3 : Int32))), .val (.int cc), .val (.ref b244), .unset] [])) P287 (by
              intro tt_ kk_
              refine XS.icmpNo X259.here hx rfl (hb hby at_248) rfl (feq c288).1 ?_
              exact kk_)
            have P292 := own_step (C := T259.setTop (mkF m 255 #[.val (.int pk), .val (.int qq), .val (.int md), .val (.int d0), .val (.int u1), .val (.int u2), .val (.int nn), .val (.ref b140), .val (.ref x198), .val (.int (((md.toUInt32 >>> ((16 : Int32) &&& 31).toUInt32).toInt32) &&& (7 : Int32))), .val (.int ((((md.toUInt32 >>> ((16 : Int32) &&& 31).toUInt32).toInt32) &&& (7 : Int32)) + (((md.toUInt32 >>> ((19 : Int32) &&& 31).toUInt32).toInt32) &&& (7 : Int32)))), .val (.int (md &&& (3 : Int32))), .val (.int cc), .val (.ref b244), .unset] [(.int u2), (.int cc)])) P291 (by
              intro tt_ kk_
              refine XS.iload X259.here hx rfl (hb hby at_251) rfl ?_
              show Steps p.tables e below (T259.setTop (mkF m 253 #[.val (.int pk), .val (.int qq), .val (.int md), .val (.int d0), .val (.int u1), .val (.int u2), .val (.int nn), .val (.ref b140), .val (.ref x198), .val (.int (((md.toUInt32 >>> ((16 : Int32) &&& 31).toUInt32).toInt32) &&& (7 : Int32))), .val (.int ((((md.toUInt32 >>> ((16 : Int32) &&& 31).toUInt32).toInt32) &&& (7 : Int32)) + (((md.toUInt32 >>> ((19 : Int32) &&& 31).toUInt32).toInt32) &&& (7 : Int32)))), .val (.int (md &&& (3 : Int32))), .val (.int cc), .val (.ref b244), .unset] [(.int cc)])) _
              refine XS.iload X259.here hx rfl (hb hby at_253) rfl ?_
              exact kk_)
            by_cases c293 : cc = u2
            · have P294 := own_step (C := T259.setTop (mkF m 258 #[.val (.int pk), .val (.int qq), .val (.int md), .val (.int d0), .val (.int u1), .val (.int u2), .val (.int nn), .val (.ref b140), .val (.ref x198), .val (.int (((md.toUInt32 >>> ((16 : Int32) &&& 31).toUInt32).toInt32) &&& (7 : Int32))), .val (.int ((((md.toUInt32 >>> ((16 : Int32) &&& 31).toUInt32).toInt32) &&& (7 : Int32)) + (((md.toUInt32 >>> ((19 : Int32) &&& 31).toUInt32).toInt32) &&& (7 : Int32)))), .val (.int (md &&& (3 : Int32))), .val (.int cc), .val (.ref b244), .unset] [])) P292 (by
                intro tt_ kk_
                refine XS.icmpNo X259.here hx rfl (hb hby at_255) rfl (teq c293).2 ?_
                exact kk_)
              have P295 := own_step (C := T259.setTop (mkF m 263 #[.val (.int pk), .val (.int qq), .val (.int md), .val (.int d0), .val (.int u1), .val (.int u2), .val (.int nn), .val (.ref b140), .val (.ref x198), .val (.int (((md.toUInt32 >>> ((16 : Int32) &&& 31).toUInt32).toInt32) &&& (7 : Int32))), .val (.int ((((md.toUInt32 >>> ((16 : Int32) &&& 31).toUInt32).toInt32) &&& (7 : Int32)) + (((md.toUInt32 >>> ((19 : Int32) &&& 31).toUInt32).toInt32) &&& (7 : Int32)))), .val (.int (md &&& (3 : Int32))), .val (.int cc), .val (.ref b244), .unset] [(.int (1 : Int32))])) P294 (by
                intro tt_ kk_
                refine XS.iconst X259.here hx rfl (hb hby at_258) ?_
                show Steps p.tables e below (T259.setTop (mkF m 259 #[.val (.int pk), .val (.int qq), .val (.int md), .val (.int d0), .val (.int u1), .val (.int u2), .val (.int nn), .val (.ref b140), .val (.ref x198), .val (.int (((md.toUInt32 >>> ((16 : Int32) &&& 31).toUInt32).toInt32) &&& (7 : Int32))), .val (.int ((((md.toUInt32 >>> ((16 : Int32) &&& 31).toUInt32).toInt32) &&& (7 : Int32)) + (((md.toUInt32 >>> ((19 : Int32) &&& 31).toUInt32).toInt32) &&& (7 : Int32)))), .val (.int (md &&& (3 : Int32))), .val (.int cc), .val (.ref b244), .unset] [(.int (1 : Int32))])) _
                refine XS.goto X259.here hx rfl (pc0 := 259) (pc' := 263) rfl (hb hby at_259) (by decide) (by decide) ?_
                exact kk_)
              exact ⟨(1 : Int32), Or.inr (Or.inr (Or.inl ⟨c280, c283, c288, c293, rfl⟩)), P295⟩
            · have P296 := own_step (C := T259.setTop (mkF m 262 #[.val (.int pk), .val (.int qq), .val (.int md), .val (.int d0), .val (.int u1), .val (.int u2), .val (.int nn), .val (.ref b140), .val (.ref x198), .val (.int (((md.toUInt32 >>> ((16 : Int32) &&& 31).toUInt32).toInt32) &&& (7 : Int32))), .val (.int ((((md.toUInt32 >>> ((16 : Int32) &&& 31).toUInt32).toInt32) &&& (7 : Int32)) + (((md.toUInt32 >>> ((19 : Int32) &&& 31).toUInt32).toInt32) &&& (7 : Int32)))), .val (.int (md &&& (3 : Int32))), .val (.int cc), .val (.ref b244), .unset] [])) P292 (by
                intro tt_ kk_
                refine XS.icmpYes X259.here hx rfl (pc0 := 255) (pc' := 262) rfl (hb hby at_255) rfl (feq c293).2 (by decide) (by decide) ?_
                exact kk_)
              have P297 := own_step (C := T259.setTop (mkF m 263 #[.val (.int pk), .val (.int qq), .val (.int md), .val (.int d0), .val (.int u1), .val (.int u2), .val (.int nn), .val (.ref b140), .val (.ref x198), .val (.int (((md.toUInt32 >>> ((16 : Int32) &&& 31).toUInt32).toInt32) &&& (7 : Int32))), .val (.int ((((md.toUInt32 >>> ((16 : Int32) &&& 31).toUInt32).toInt32) &&& (7 : Int32)) + (((md.toUInt32 >>> ((19 : Int32) &&& 31).toUInt32).toInt32) &&& (7 : Int32)))), .val (.int (md &&& (3 : Int32))), .val (.int cc), .val (.ref b244), .unset] [(.int (0 : Int32))])) P296 (by
                intro tt_ kk_
                refine XS.iconst X259.here hx rfl (hb hby at_262) ?_
                exact kk_)
              exact ⟨(0 : Int32), Or.inr (Or.inr (Or.inr (Or.inl ⟨c280, c283, c288, c293, rfl⟩))), P297⟩
      · have P298 := own_step (C := T259.setTop (mkF m 262 #[.val (.int pk), .val (.int qq), .val (.int md), .val (.int d0), .val (.int u1), .val (.int u2), .val (.int nn), .val (.ref b140), .val (.ref x198), .val (.int (((md.toUInt32 >>> ((16 : Int32) &&& 31).toUInt32).toInt32) &&& (7 : Int32))), .val (.int ((((md.toUInt32 >>> ((16 : Int32) &&& 31).toUInt32).toInt32) &&& (7 : Int32)) + (((md.toUInt32 >>> ((19 : Int32) &&& 31).toUInt32).toInt32) &&& (7 : Int32)))), .val (.int (md &&& (3 : Int32))), .val (.int cc), .val (.ref b244), .unset] [])) P279 (by
          intro tt_ kk_
          refine XS.ifYes X259.here hx rfl (pc0 := 235) (pc' := 262) rfl (hb hby at_235) rfl ((if0 _ _).trans (flt c280).2.2.2) (by decide) (by decide) ?_
          exact kk_)
        have P299 := own_step (C := T259.setTop (mkF m 263 #[.val (.int pk), .val (.int qq), .val (.int md), .val (.int d0), .val (.int u1), .val (.int u2), .val (.int nn), .val (.ref b140), .val (.ref x198), .val (.int (((md.toUInt32 >>> ((16 : Int32) &&& 31).toUInt32).toInt32) &&& (7 : Int32))), .val (.int ((((md.toUInt32 >>> ((16 : Int32) &&& 31).toUInt32).toInt32) &&& (7 : Int32)) + (((md.toUInt32 >>> ((19 : Int32) &&& 31).toUInt32).toInt32) &&& (7 : Int32)))), .val (.int (md &&& (3 : Int32))), .val (.int cc), .val (.ref b244), .unset] [(.int (0 : Int32))])) P298 (by
          intro tt_ kk_
          refine XS.iconst X259.here hx rfl (hb hby at_262) ?_
          exact kk_)
        exact ⟨(0 : Int32), Or.inr (Or.inr (Or.inr (Or.inr (⟨c280, rfl⟩)))), P299⟩
    have P300 := own_step P277 J278
    have P301 := own_step (C := T259.setTop (mkF m 269 #[.val (.int pk), .val (.int qq), .val (.int md), .val (.int d0), .val (.int u1), .val (.int u2), .val (.int nn), .val (.ref b140), .val (.ref x198), .val (.int (((md.toUInt32 >>> ((16 : Int32) &&& 31).toUInt32).toInt32) &&& (7 : Int32))), .val (.int ((((md.toUInt32 >>> ((16 : Int32) &&& 31).toUInt32).toInt32) &&& (7 : Int32)) + (((md.toUInt32 >>> ((19 : Int32) &&& 31).toUInt32).toInt32) &&& (7 : Int32)))), .val (.int (md &&& (3 : Int32))), .val (.int cc), .val (.ref b244), .val (.int ve)] [(.int cc), (.ref b244)])) P300 (by
      intro tt_ kk_
      refine XS.istore X259.here hx rfl (hb hby at_263) rfl (l' := #[.val (.int pk), .val (.int qq), .val (.int md), .val (.int d0), .val (.int u1), .val (.int u2), .val (.int nn), .val (.ref b140), .val (.ref x198), .val (.int (((md.toUInt32 >>> ((16 : Int32) &&& 31).toUInt32).toInt32) &&& (7 : Int32))), .val (.int ((((md.toUInt32 >>> ((16 : Int32) &&& 31).toUInt32).toInt32) &&& (7 : Int32)) + (((md.toUInt32 >>> ((19 : Int32) &&& 31).toUInt32).toInt32) &&& (7 : Int32)))), .val (.int (md &&& (3 : Int32))), .val (.int cc), .val (.ref b244), .val (.int ve)]) rfl ?_
      show Steps p.tables e below (T259.setTop (mkF m 265 #[.val (.int pk), .val (.int qq), .val (.int md), .val (.int d0), .val (.int u1), .val (.int u2), .val (.int nn), .val (.ref b140), .val (.ref x198), .val (.int (((md.toUInt32 >>> ((16 : Int32) &&& 31).toUInt32).toInt32) &&& (7 : Int32))), .val (.int ((((md.toUInt32 >>> ((16 : Int32) &&& 31).toUInt32).toInt32) &&& (7 : Int32)) + (((md.toUInt32 >>> ((19 : Int32) &&& 31).toUInt32).toInt32) &&& (7 : Int32)))), .val (.int (md &&& (3 : Int32))), .val (.int cc), .val (.ref b244), .val (.int ve)] [])) _
      refine XS.aload X259.here hx rfl (hb hby at_265) rfl rfl ?_
      show Steps p.tables e below (T259.setTop (mkF m 267 #[.val (.int pk), .val (.int qq), .val (.int md), .val (.int d0), .val (.int u1), .val (.int u2), .val (.int nn), .val (.ref b140), .val (.ref x198), .val (.int (((md.toUInt32 >>> ((16 : Int32) &&& 31).toUInt32).toInt32) &&& (7 : Int32))), .val (.int ((((md.toUInt32 >>> ((16 : Int32) &&& 31).toUInt32).toInt32) &&& (7 : Int32)) + (((md.toUInt32 >>> ((19 : Int32) &&& 31).toUInt32).toInt32) &&& (7 : Int32)))), .val (.int (md &&& (3 : Int32))), .val (.int cc), .val (.ref b244), .val (.int ve)] [(.ref b244)])) _
      refine XS.iload X259.here hx rfl (hb hby at_267) rfl ?_
      exact kk_)
    obtain ⟨cq302, kq302, q302a, q302b, q302c⟩ := isOf hZ rfl f260
    obtain ⟨_, _, ⟨T302, L302, k302, n302⟩, -, X302, ⟨Lc302, hQ302, l302, y302, z302⟩, st302⟩ := X259.virtualBack hx (y := (⟨"com/example/gatehouse/gatehouse/pattern/NameShape", "allows", "(I)Z"⟩ : MethodName)) (z := (⟨"com/example/gatehouse/gatehouse/pattern/NameShape", "allows", "(I)Z"⟩ : MethodName)) hown (mvT hZ (hw _ (List.mem_of_getElem? (i := 62) rfl))) (mvT hZ (hw _ (List.mem_of_getElem? (i := 63) rfl))) (notFace_of_selects (args := #[]) (mvT hZ (hw _ (List.mem_of_getElem? (i := 65) rfl)))) (mvT hZ (hw _ (List.mem_of_getElem? (i := 65) rfl))) (mvT hZ (hw _ (List.mem_of_getElem? (i := 64) rfl))) (by decide) (backOf (W := 0) (rm_own_all l Z a0 hw [] b244 cc (own_bit (0 : Int32) (64 : Int32) ((((nar .char u2).toInt8.toInt32).toInt8.toInt32) &&& (255 : Int32)) (own_bit (0 : Int32) (64 : Int32) ((((nar .char u1).toInt8.toInt32).toInt8.toInt32) &&& (255 : Int32)) (own_bit (0 : Int32) (64 : Int32) ((((nar .char d0).toInt8.toInt32).toInt8.toInt32) &&& (255 : Int32)) (0 : Int64)))) (own_bit (64 : Int32) (128 : Int32) ((((nar .char u2).toInt8.toInt32).toInt8.toInt32) &&& (255 : Int32)) (own_bit (64 : Int32) (128 : Int32) ((((nar .char u1).toInt8.toInt32).toInt8.toInt32) &&& (255 : Int32)) (own_bit (64 : Int32) (128 : Int32) ((((nar .char d0).toInt8.toInt32).toInt8.toInt32) &&& (255 : Int32)) (0 : Int64)))) T259.heap n0 Z275 f261 f262) hZ (hw _ (List.mem_of_getElem? (i := 66) rfl)) (hw _ (List.mem_of_getElem? (i := 31) rfl)) (by decide) (by decide)) q302a q302c (g := (mkF m 269 #[.val (.int pk), .val (.int qq), .val (.int md), .val (.int d0), .val (.int u1), .val (.int u2), .val (.int nn), .val (.ref b140), .val (.ref x198), .val (.int (((md.toUInt32 >>> ((16 : Int32) &&& 31).toUInt32).toInt32) &&& (7 : Int32))), .val (.int ((((md.toUInt32 >>> ((16 : Int32) &&& 31).toUInt32).toInt32) &&& (7 : Int32)) + (((md.toUInt32 >>> ((19 : Int32) &&& 31).toUInt32).toInt32) &&& (7 : Int32)))), .val (.int (md &&& (3 : Int32))), .val (.int cc), .val (.ref b244), .val (.int ve)] [(.int cc), (.ref b244)])) rfl (by rw [hml]; rfl) (Steps.refl _) (argsL := [(.int cc)]) (rest := []) (lenOf pd18 rfl) rfl (by show 2 * 0 + _ ≤ _; exact Nat.le_of_eq rfl) (hb hby at_269) (fun _ _ => ⟨rfl, rfl, (by decide : 6 + 0 ≤ _), (by decide : 20 + 0 ≤ _)⟩)
    dsimp only [Pt.U, Pt.locs, Pt.cells, Pt.slots] at X302 l302 y302 z302 st302 hQ302
    subst l302 y302 z302
    obtain ⟨rfl, N302q, e302⟩ := hQ302
    have N302 := Fr.app N259 N302q
    have P303 := own_step (C := T302.setTop (mkF m 272 #[.val (.int pk), .val (.int qq), .val (.int md), .val (.int d0), .val (.int u1), .val (.int u2), .val (.int nn), .val (.ref b140), .val (.ref x198), .val (.int (((md.toUInt32 >>> ((16 : Int32) &&& 31).toUInt32).toInt32) &&& (7 : Int32))), .val (.int ((((md.toUInt32 >>> ((16 : Int32) &&& 31).toUInt32).toInt32) &&& (7 : Int32)) + (((md.toUInt32 >>> ((19 : Int32) &&& 31).toUInt32).toInt32) &&& (7 : Int32)))), .val (.int (md &&& (3 : Int32))), .val (.int cc), .val (.ref b244), .val (.int ve)] [(.int (own_all cc (own_bit (0 : Int32) (64 : Int32) ((((nar .char u2).toInt8.toInt32).toInt8.toInt32) &&& (255 : Int32)) (own_bit (0 : Int32) (64 : Int32) ((((nar .char u1).toInt8.toInt32).toInt8.toInt32) &&& (255 : Int32)) (own_bit (0 : Int32) (64 : Int32) ((((nar .char d0).toInt8.toInt32).toInt8.toInt32) &&& (255 : Int32)) (0 : Int64)))) (own_bit (64 : Int32) (128 : Int32) ((((nar .char u2).toInt8.toInt32).toInt8.toInt32) &&& (255 : Int32)) (own_bit (64 : Int32) (128 : Int32) ((((nar .char u1).toInt8.toInt32).toInt8.toInt32) &&& (255 : Int32)) (own_bit (64 : Int32) (128 : Int32) ((((nar .char d0).toInt8.toInt32).toInt8.toInt32) &&& (255 : Int32)) (0 : Int64))))))])) P301 (fun t_ k_ => st302.trans k_)
    have P304 := own_step (C := T302.setTop (mkF m 274 #[.val (.int pk), .val (.int qq), .val (.int md), .val (.int d0), .val (.int u1), .val (.int u2), .val (.int nn), .val (.ref b140), .val (.ref x198), .val (.int (((md.toUInt32 >>> ((16 : Int32) &&& 31).toUInt32).toInt32) &&& (7 : Int32))), .val (.int ((((md.toUInt32 >>> ((16 : Int32) &&& 31).toUInt32).toInt32) &&& (7 : Int32)) + (((md.toUInt32 >>> ((19 : Int32) &&& 31).toUInt32).toInt32) &&& (7 : Int32)))), .val (.int (md &&& (3 : Int32))), .val (.int cc), .val (.ref b244), .val (.int ve)] [(.int ve), (.int (own_all cc (own_bit (0 : Int32) (64 : Int32) ((((nar .char u2).toInt8.toInt32).toInt8.toInt32) &&& (255 : Int32)) (own_bit (0 : Int32) (64 : Int32) ((((nar .char u1).toInt8.toInt32).toInt8.toInt32) &&& (255 : Int32)) (own_bit (0 : Int32) (64 : Int32) ((((nar .char d0).toInt8.toInt32).toInt8.toInt32) &&& (255 : Int32)) (0 : Int64)))) (own_bit (64 : Int32) (128 : Int32) ((((nar .char u2).toInt8.toInt32).toInt8.toInt32) &&& (255 : Int32)) (own_bit (64 : Int32) (128 : Int32) ((((nar .char u1).toInt8.toInt32).toInt8.toInt32) &&& (255 : Int32)) (own_bit (64 : Int32) (128 : Int32) ((((nar .char d0).toInt8.toInt32).toInt8.toInt32) &&& (255 : Int32)) (0 : Int64))))))])) P303 (by
      intro tt_ kk_
      refine XS.iload X302.here hx rfl (hb hby at_272) rfl ?_
      exact kk_)
    have P305 := own_step (C := T302.setTop (mkF m 277 #[.val (.int pk), .val (.int qq), .val (.int md), .val (.int d0), .val (.int u1), .val (.int u2), .val (.int nn), .val (.ref b140), .val (.ref x198), .val (.int (((md.toUInt32 >>> ((16 : Int32) &&& 31).toUInt32).toInt32) &&& (7 : Int32))), .val (.int ((((md.toUInt32 >>> ((16 : Int32) &&& 31).toUInt32).toInt32) &&& (7 : Int32)) + (((md.toUInt32 >>> ((19 : Int32) &&& 31).toUInt32).toInt32) &&& (7 : Int32)))), .val (.int (md &&& (3 : Int32))), .val (.int cc), .val (.ref b244), .val (.int ve)] [])) P304 (by
      intro tt_ kk_
      refine XS.icmpNo X302.here hx rfl (hb hby at_274) rfl (teq (own_finB gn c23 gd0 ku1 ku2 hv278)).2 ?_
      exact kk_)
    have P306 := own_step (C := T302.setTop (mkF m 282 #[.val (.int pk), .val (.int qq), .val (.int md), .val (.int d0), .val (.int u1), .val (.int u2), .val (.int nn), .val (.ref b140), .val (.ref x198), .val (.int (((md.toUInt32 >>> ((16 : Int32) &&& 31).toUInt32).toInt32) &&& (7 : Int32))), .val (.int ((((md.toUInt32 >>> ((16 : Int32) &&& 31).toUInt32).toInt32) &&& (7 : Int32)) + (((md.toUInt32 >>> ((19 : Int32) &&& 31).toUInt32).toInt32) &&& (7 : Int32)))), .val (.int (md &&& (3 : Int32))), .val (.int cc), .val (.ref b244), .val (.int ve)] [(.int (1 : Int32))])) P305 (by
      intro tt_ kk_
      refine XS.iconst X302.here hx rfl (hb hby at_277) ?_
      show Steps p.tables e below (T302.setTop (mkF m 278 #[.val (.int pk), .val (.int qq), .val (.int md), .val (.int d0), .val (.int u1), .val (.int u2), .val (.int nn), .val (.ref b140), .val (.ref x198), .val (.int (((md.toUInt32 >>> ((16 : Int32) &&& 31).toUInt32).toInt32) &&& (7 : Int32))), .val (.int ((((md.toUInt32 >>> ((16 : Int32) &&& 31).toUInt32).toInt32) &&& (7 : Int32)) + (((md.toUInt32 >>> ((19 : Int32) &&& 31).toUInt32).toInt32) &&& (7 : Int32)))), .val (.int (md &&& (3 : Int32))), .val (.int cc), .val (.ref b244), .val (.int ve)] [(.int (1 : Int32))])) _
      refine XS.goto X302.here hx rfl (pc0 := 278) (pc' := 282) rfl (hb hby at_278) (by decide) (by decide) ?_
      exact kk_)
    obtain ⟨fs, hr, hrun, hended, hW, hsame⟩ := X302.leave (v := some (.int (1 : Int32))) (fun h => by rw [Bd.returns] at h; cases h)
    refine ⟨_, _, P306 _ ?_, hrun, hended, _, _, rfl, ?_, wide ⟨⟨_, rfl⟩, hW, hsame.mono (by decide) (by decide)⟩⟩
    · exact retN X302 hx (t := .boolean) Bd.returns (by simp) (hb hby at_282) hr
    · show Q0 Z _ _ _ _ _ h0 n0 _ T302.heap _
      rw [e302]
      exact ⟨rfl, N302⟩
set_option maxRecDepth 65536 in
set_option maxHeartbeats 40000000 in
theorem comes_1 {Post : Tables → Env → Array Value → State → Outcome → State → Prop} (hpost : ∀ tb e args s v u, (limb_1_1.after args s (.returned v) u = true ∧ limb_1_2.after args s (.returned v) u = true ∧ True) → ReturnedEndW s (.returned v) u (Jvm.fieldLocs frame_1_writes args s ++ Jvm.arrayLocs frame_1_arrays args s ++ Jvm.staticLocs frame_1_statics s) 24 1152 → Post tb e args s (.returned v) u) :
    ArmFor flags0 classFile x code maxLocals ret World_1 tables_1 room_1 Calls_1 rest_1 Pre_1 Post := by
  intro l hfl _ _ p e ha hc hk s m args below hf hA hF happ hP
  obtain ⟨hcalls, hrest, hpre⟩ := hP
  obtain ⟨-, -, -, hnamed, -, -, -, hat⟩ := (Spec.applies_iff hf).mp happ
  obtain ⟨hg, hn⟩ := and_e (Cond.before_iff.mp (show (Jvm.Cond.and given_1 narrow_1).before args s = true from hpre))
  obtain ⟨hgc, hg0⟩ := and_e hg
  obtain ⟨ha0, hg1⟩ := and_e hg0
  obtain ⟨ha1, hg2⟩ := and_e hg1
  have ha2 := hg2
  obtain ⟨w0, w1, w2, rfl⟩ : ∃ w0 w1 w2 : Value, args = #[w0, w1, w2] := by
    have hs : args.size = 3 := by simpa [Cond.value, given_1] using hgc
    obtain ⟨L⟩ := args
    match L, hs with
    | [w0, w1, w2], _ => exact ⟨w0, w1, w2, rfl⟩
  have hw := fun d (hd : d ∈ tables_1) => atoms_spec (ws := Jvm.Cond.code x code maxLocals ret :: tables_1) hat d (List.mem_cons_of_mem _ hd)
  have hfit : Fit s := fun {y c} hc i hi => by
    obtain ⟨ha, rfl⟩ := Array.getElem?_eq_some_iff.mp hc
    have q := List.all_eq_true.mp ((Array.all_eq_true_iff_forall_mem.mp hF) _ (Array.getElem_mem ha)) i (List.mem_range.mpr hi)
    simpa [Array.getElem?_eq_getElem hi] using q
  obtain ⟨hsets, hown0⟩ := atoms_of _ (rest_1_c_eq ▸ (show rest_1_c.before _ s = true from hrest))
  obtain ⟨i0, ei0⟩ := is_v ha0
  obtain rfl : w0 = (.int i0) := Option.some.inj ei0
  obtain ⟨i1, ei1⟩ := is_v ha1
  obtain rfl : w1 = (.int i1) := Option.some.inj ei1
  obtain ⟨i2, ei2⟩ := is_v ha2
  obtain rfl : w2 = (.int i2) := Option.some.inj ei2
  have hheld : Jvm.Lit.constHeld s "com/example/gatehouse/gatehouse/pattern/NameShapeAllowsPinLaw" 7 := hcalls.1 _ (List.mem_of_getElem? (i := 0) rfl)
  have hcw : Jvm.Lit.compactW.before _ s = true := hsets _ (List.mem_of_getElem? (i := 2) rfl)
  obtain ⟨cs, ecs⟩ := is_v (Cond.before_iff.mp (hsets _ (List.mem_of_getElem? (i := 1) rfl)))
  have Scs := Sta.start ecs (Or.inl (hsets _ (List.mem_of_getElem? (i := 0) rfl)))
  have hcs : ¬ (cs = (0 : Int32)) := own_cs ecs hcw
  obtain ⟨fm, efm, rfm⟩ := isR_v (Cond.before_iff.mp (hsets _ (List.mem_of_getElem? (i := 8) rfl)))
  have Sfm := Sta.start efm (Or.inl (hsets _ (List.mem_of_getElem? (i := 7) rfl)))
  have hfm : fm.category = 1 := by rcases ref_cases rfm with rfl | ⟨_, rfl⟩ <;> rfl
  obtain ⟨n, o, h1, h2, h3, _, L, rfl, ⟨rfl, N⟩, hq⟩ := rm0 l s _ hw tables_1 i0 i1 i2 fm cs s.heap s.heap.size (Nat.le_refl _) (Old.start s) Scs hcs Sfm hfm hheld hcw p e ha hc hk s m _ below hf ((Spec.applies_iff_loose hf).mp happ).1 ⟨rfl, State.Warmed39.refl s, rfl, IB.start⟩ trivial
  exact ⟨n, _, h1, h2, h3, hpost _ _ _ _ _ _ ⟨Cond.after_iff.mpr rfl, Cond.after_iff.mpr (eq_i res_at (Term.int_eval (1)) rfl), trivial⟩ ⟨hq.1, hq.2.1, hq.2.2.1, (hq.2.2.2.sift fun y hy => Or.inr (N y hy)).mono (by decide) (by decide)⟩⟩
theorem main_1_1 : Claimed_1_1 := comes_1 fun _ _ _ _ _ _ h hF => ⟨h.1, hF⟩
theorem main_1_2 : Claimed_1_2 := comes_1 fun _ _ _ _ _ _ h hF => ⟨h.2.1, hF⟩
end Jvm.Pilot.@@N@@
namespace Jvm.Pilot.@@N@@
open Jvm Jvm.ClassFile Sem Op Lib Jvm.Free Jvm.Stand Jvm.Pilot.@@N@@.Jvm.D
/-! MADE BY PROGRAM (witnessworld.py) out of the Statement's table words and the real class files: 20 classes; the members and pool entries that the words name. The judged class is class 1, her method 1. -/
namespace start1
open Jvm.ClassFile
def u (s : String) : CpInfo := .utf8 (stringToUtf16 s)
/-- a pool by its gaps: so many unusable entries, then the entry; so many at the end -/
def gap : Nat → List CpInfo → List CpInfo
  | 0, r => r
  | n + 1, r => .unusable :: gap n r
def poolList (es : List (Nat × CpInfo)) (last : Nat) : List CpInfo := es.foldr (fun e r => gap e.1 (e.2 :: r)) (gap last [])
def pool (es : List (Nat × CpInfo)) (last : Nat) : Array CpInfo := ⟨poolList es last⟩
def fileOf (pool : Array CpInfo) (this : Nat) (attrs : Array Attribute := #[]) (ms : Array MethodInfo := #[]) (fl : Nat := 33) (sup : Nat := 0) (ifs : Array Nat := #[]) (fds : Array FieldInfo := #[]) : ClassFile where
  minorVersion := 0
  majorVersion := 65
  constantPool := pool
  accessFlags := fl
  thisClass := this
  superClass := sup
  interfaces := ifs
  fields := fds
  methods := ms
  attributes := attrs
def plain (name : String) (sup : Option ClassId) : Class where
  name := name
  kind := .ordinary
  loader := none
  accessFlags := 33
  super := sup
  interfaces := #[]
  cf := none
  fields := #[]
  methods := #[]
  instanceTypes := #[]
  staticTypes := #[]
  resolved := #[]
  callSites := []
  init := .initialized
  statics := none
  mirror := none

def pool0 : Array CpInfo := pool [(5, u "<init>"), (0, u "()V"), (1, .class_ 10), (1, u "java/lang/Object")] 113

def k0c0 : Code := { maxStack := 0, maxLocals := 1, code := object_method_1_code, exceptionTable := #[], attributes := #[] }
def k0m0 : Method := { name := "<init>", desc := "()V", sig := { parameters := [], returnType := none }, accessFlags := 1, code := some k0c0 }
/-- java/lang/Object -/
def k0 : Class := { plain "java/lang/Object" none with
  accessFlags := 33
  interfaces := #[]
  cf := some (fileOf pool0 8 #[] #[{ accessFlags := 1, nameIndex := 5, descriptorIndex := 6, attributes := #[] }] 33 0 #[] #[])
  fields := #[]
  methods := #[k0m0]
  instanceTypes := #[]
  staticTypes := #[]
  resolved := Array.replicate 124 none
  statics := none }

def pool1 : Array CpInfo := pool [(2, .class_ 4), (1, u "java/lang/Object"), (0, u "<init>"), (0, u "()V"), (0, .string 8), (0, u ""), (0, .class_ 10), (0, u "java/lang/String"), (0, .methodref 9 12), (0, .nameAndType 5 13), (0, u "([C)V"), (0, .methodref 9 15), (0, .nameAndType 16 17), (0, u "valueOf"), (0, u "(C)Ljava/lang/String;"), (0, .class_ 19), (0, u "com/example/gatehouse/gatehouse/pattern/NameShape"), (0, .methodref 18 21), (0, .nameAndType 5 22), (0, u "(Ljava/lang/String;Ljava/lang/String;II)V"), (0, .methodref 18 24), (0, .nameAndType 25 26), (0, u "allows"), (0, u "(I)Z"), (0, .class_ 28), (0, u "com/example/gatehouse/gatehouse/pattern/NameShapeAllowsPinLaw"), (2, u "law"), (0, u "(III)Z")] 3

def k1m0 : Method := { name := "<init>", desc := "()V", sig := { parameters := [], returnType := none }, accessFlags := 1, code := none }
def k1c1 : Code := { maxStack := 6, maxLocals := 15, code := code, exceptionTable := #[], attributes := #[] }
def k1m1 : Method := { name := "law", desc := "(III)Z", sig := { parameters := [.int, .int, .int], returnType := some .boolean }, accessFlags := 9, code := some k1c1 }
/-- com/example/gatehouse/gatehouse/pattern/NameShapeAllowsPinLaw -/
def k1 : Class := { plain "com/example/gatehouse/gatehouse/pattern/NameShapeAllowsPinLaw" (some 0) with
  accessFlags := 49
  interfaces := #[]
  cf := some (fileOf pool1 27 #[] #[{ accessFlags := 1, nameIndex := 5, descriptorIndex := 6, attributes := #[] }, { accessFlags := 9, nameIndex := 31, descriptorIndex := 32, attributes := #[] }] 49 2 #[] #[])
  fields := #[]
  methods := #[k1m0, k1m1]
  instanceTypes := #[]
  staticTypes := #[]
  resolved := Array.replicate 36 none
  statics := none }

def pool2 : Array CpInfo := pool [(1, .class_ 2), (0, u "java/io/Serializable"), (0, .class_ 4), (0, u "java/lang/Object")] 2

/-- java/io/Serializable -/
def k2 : Class := { plain "java/io/Serializable" (some 0) with
  accessFlags := 1537
  interfaces := #[]
  cf := some (fileOf pool2 1 #[] #[] 1537 3 #[] #[])
  fields := #[]
  methods := #[]
  instanceTypes := #[]
  staticTypes := #[]
  resolved := Array.replicate 7 none
  statics := none }

def pool3 : Array CpInfo := pool [(1, .class_ 2), (0, u "java/lang/Comparable"), (0, .class_ 4), (0, u "java/lang/Object")] 7

/-- java/lang/Comparable -/
def k3 : Class := { plain "java/lang/Comparable" (some 0) with
  accessFlags := 1537
  interfaces := #[]
  cf := some (fileOf pool3 1 #[] #[] 1537 3 #[] #[])
  fields := #[]
  methods := #[]
  instanceTypes := #[]
  staticTypes := #[]
  resolved := Array.replicate 12 none
  statics := none }

def pool4 : Array CpInfo := pool [(2, .class_ 4), (1, u "java/lang/CharSequence"), (42, .class_ 48), (0, u "java/lang/CharSequence$1CodePointIterator"), (10, .class_ 60), (0, u "java/lang/CharSequence$1CharIterator"), (5, .class_ 67), (0, u "java/lang/Object")] 63

/-- java/lang/CharSequence -/
def k4 : Class := { plain "java/lang/CharSequence" (some 0) with
  accessFlags := 1537
  interfaces := #[]
  cf := some (fileOf pool4 2 #[.nestMembers #[47, 59]] #[] 1537 66 #[] #[])
  fields := #[]
  methods := #[]
  instanceTypes := #[]
  staticTypes := #[]
  resolved := Array.replicate 131 none
  statics := none }

def pool5 : Array CpInfo := pool [(1, .class_ 2), (0, u "java/lang/constant/Constable"), (0, .class_ 4), (0, u "java/lang/Object")] 6

/-- java/lang/constant/Constable -/
def k5 : Class := { plain "java/lang/constant/Constable" (some 0) with
  accessFlags := 1537
  interfaces := #[]
  cf := some (fileOf pool5 1 #[] #[] 1537 3 #[] #[])
  fields := #[]
  methods := #[]
  instanceTypes := #[]
  staticTypes := #[]
  resolved := Array.replicate 11 none
  statics := none }

def pool6 : Array CpInfo := pool [(1, .class_ 2), (0, u "java/lang/constant/ConstantDesc"), (0, .class_ 4), (0, u "java/lang/Object")] 32

/-- java/lang/constant/ConstantDesc -/
def k6 : Class := { plain "java/lang/constant/ConstantDesc" (some 0) with
  accessFlags := 1537
  interfaces := #[]
  cf := some (fileOf pool6 1 #[] #[] 1537 3 #[] #[])
  fields := #[]
  methods := #[]
  instanceTypes := #[]
  staticTypes := #[]
  resolved := Array.replicate 37 none
  statics := none }

def pool7 : Array CpInfo := pool [(1, .methodref 2 3), (0, .class_ 4), (0, .nameAndType 5 6), (0, u "java/lang/Object"), (0, u "<init>"), (0, u "()V"), (2, .fieldref 10 11), (0, .class_ 12), (0, .nameAndType 13 14), (0, u "java/lang/String"), (0, u "value"), (0, u "[B"), (0, .fieldref 10 16), (0, .nameAndType 17 18), (0, u "coder"), (0, u "B"), (2, u "hash"), (0, u "I"), (2, u "hashIsZero"), (0, u "Z"), (0, .methodref 10 28), (0, .nameAndType 5 29), (0, u "([CIILjava/lang/Void;)V"), (8, .fieldref 10 39), (0, .nameAndType 40 26), (0, u "COMPACT_STRINGS"), (1, .class_ 44), (1, u "java/lang/StringUTF16"), (0, u "compress"), (1, .methodref 42 48), (0, .nameAndType 49 50), (0, u "coderFromArrayLen"), (0, u "([BI)B"), (2, u "toBytes"), (53, .class_ 109), (1, u "java/lang/StringLatin1"), (32, u "()Z"), (34, .methodref 42 178), (0, .nameAndType 45 179), (0, u "([CII)[B"), (29, .methodref 10 210), (0, .nameAndType 5 211), (0, u "([BB)V"), (122, u "()I"), (0, .methodref 10 336), (0, .nameAndType 17 337), (0, u "()B"), (25, u "([BI)C"), (5, u "(C)Z"), (21, u "(II)V"), (35, u "(I)C"), (64, .methodref 10 493), (0, .nameAndType 494 142), (0, u "isLatin1"), (0, .methodref 107 496), (0, .nameAndType 497 363), (0, u "charAt"), (3, u "checkIndex"), (5, u "length"), (67, .class_ 576), (0, u "java/lang/CharSequence"), (22, u "CASE_INSENSITIVE_ORDER"), (0, u "Ljava/util/Comparator;"), (181, u "valueOf"), (0, u "(C)Ljava/lang/String;"), (226, u "([C)V"), (4, .methodref 107 1016), (0, .nameAndType 1017 369), (0, u "canEncode"), (0, .methodref 107 1019), (0, .nameAndType 53 1020), (0, u "(C)[B"), (32, .fieldref 1054 1055), (0, .class_ 1056), (0, .nameAndType 1057 1058), (0, u "jdk/internal/util/Preconditions"), (0, u "SIOOBE_FORMATTER"), (0, u "Ljava/util/function/BiFunction;"), (0, .methodref 1054 1060), (0, .nameAndType 501 1061), (0, u "(IILjava/util/function/BiFunction;)I"), (39, u "serialPersistentFields"), (0, u "[Ljava/io/ObjectStreamField;"), (0, .class_ 1104), (0, u "java/lang/String$CaseInsensitiveComparator"), (1, .class_ 1107), (0, u "java/io/Serializable"), (0, .class_ 1109), (0, u "java/lang/Comparable"), (0, .class_ 1111), (0, u "java/lang/constant/Constable"), (0, .class_ 1113), (0, u "java/lang/constant/ConstantDesc"), (2, u "serialVersionUID"), (0, u "J"), (3, u "REPL"), (0, u "C"), (2, u "LATIN1"), (1, u "UTF16")] 323

def k7m0 : Method := { name := "<init>", desc := "()V", sig := { parameters := [], returnType := none }, accessFlags := 1, code := none }
def k7c1 : Code := { maxStack := 5, maxLocals := 2, code := jdk_42_method_3_code, exceptionTable := #[], attributes := #[] }
def k7m1 : Method := { name := "<init>", desc := "([C)V", sig := { parameters := [(.array .char)], returnType := none }, accessFlags := 1, code := some k7c1 }
def k7c2 : Code := { maxStack := 2, maxLocals := 1, code := jdk_42_method_54_code, exceptionTable := #[], attributes := #[] }
def k7m2 : Method := { name := "length", desc := "()I", sig := { parameters := [], returnType := some .int }, accessFlags := 1, code := some k7c2 }
def k7c3 : Code := { maxStack := 2, maxLocals := 2, code := jdk_42_method_56_code, exceptionTable := #[], attributes := #[] }
def k7m3 : Method := { name := "charAt", desc := "(I)C", sig := { parameters := [.int], returnType := some .char }, accessFlags := 1, code := some k7c3 }
def k7c4 : Code := { maxStack := 4, maxLocals := 1, code := jdk_42_method_139_code, exceptionTable := #[], attributes := #[] }
def k7m4 : Method := { name := "valueOf", desc := "(C)Ljava/lang/String;", sig := { parameters := [.char], returnType := some (.object "java/lang/String") }, accessFlags := 9, code := some k7c4 }
def k7c5 : Code := { maxStack := 4, maxLocals := 6, code := jdk_42_method_149_code, exceptionTable := #[], attributes := #[] }
def k7m5 : Method := { name := "<init>", desc := "([CIILjava/lang/Void;)V", sig := { parameters := [(.array .char), .int, .int, (.object "java/lang/Void")], returnType := none }, accessFlags := 2, code := some k7c5 }
def k7c6 : Code := { maxStack := 2, maxLocals := 3, code := jdk_42_method_151_code, exceptionTable := #[], attributes := #[] }
def k7m6 : Method := { name := "<init>", desc := "([BB)V", sig := { parameters := [(.array .byte), .byte], returnType := none }, accessFlags := 0, code := some k7c6 }
def k7c7 : Code := { maxStack := 1, maxLocals := 1, code := jdk_42_method_152_code, exceptionTable := #[], attributes := #[] }
def k7m7 : Method := { name := "coder", desc := "()B", sig := { parameters := [], returnType := some .byte }, accessFlags := 0, code := some k7c7 }
def k7c8 : Code := { maxStack := 1, maxLocals := 1, code := jdk_42_method_154_code, exceptionTable := #[], attributes := #[] }
def k7m8 : Method := { name := "isLatin1", desc := "()Z", sig := { parameters := [], returnType := some .boolean }, accessFlags := 0, code := some k7c8 }
def k7c9 : Code := { maxStack := 3, maxLocals := 2, code := jdk_42_method_155_code, exceptionTable := #[], attributes := #[] }
def k7m9 : Method := { name := "checkIndex", desc := "(II)V", sig := { parameters := [.int, .int], returnType := none }, accessFlags := 8, code := some k7c9 }
/-- java/lang/String -/
def k7 : Class := { plain "java/lang/String" (some 0) with
  accessFlags := 49
  interfaces := #[2, 3, 4, 5, 6]
  cf := some (fileOf pool7 10 #[.nestMembers #[1103]] #[{ accessFlags := 1, nameIndex := 5, descriptorIndex := 6, attributes := #[] }, { accessFlags := 1, nameIndex := 5, descriptorIndex := 1010, attributes := #[] }, { accessFlags := 1, nameIndex := 507, descriptorIndex := 334, attributes := #[] }, { accessFlags := 1, nameIndex := 497, descriptorIndex := 427, attributes := #[] }, { accessFlags := 9, nameIndex := 782, descriptorIndex := 783, attributes := #[] }, { accessFlags := 2, nameIndex := 5, descriptorIndex := 29, attributes := #[] }, { accessFlags := 0, nameIndex := 5, descriptorIndex := 211, attributes := #[] }, { accessFlags := 0, nameIndex := 17, descriptorIndex := 337, attributes := #[] }, { accessFlags := 0, nameIndex := 494, descriptorIndex := 142, attributes := #[] }, { accessFlags := 8, nameIndex := 501, descriptorIndex := 391, attributes := #[] }] 49 2 #[1106, 1108, 575, 1110, 1112] #[{ accessFlags := 18, nameIndex := 13, descriptorIndex := 14, attributes := #[] }, { accessFlags := 18, nameIndex := 17, descriptorIndex := 18, attributes := #[] }, { accessFlags := 2, nameIndex := 21, descriptorIndex := 22, attributes := #[] }, { accessFlags := 2, nameIndex := 25, descriptorIndex := 26, attributes := #[] }, { accessFlags := 26, nameIndex := 1116, descriptorIndex := 1117, attributes := #[] }, { accessFlags := 24, nameIndex := 40, descriptorIndex := 26, attributes := #[] }, { accessFlags := 26, nameIndex := 1101, descriptorIndex := 1102, attributes := #[] }, { accessFlags := 26, nameIndex := 1121, descriptorIndex := 1122, attributes := #[] }, { accessFlags := 25, nameIndex := 599, descriptorIndex := 600, attributes := #[] }, { accessFlags := 24, nameIndex := 1125, descriptorIndex := 18, attributes := #[] }, { accessFlags := 24, nameIndex := 1127, descriptorIndex := 18, attributes := #[] }])
  fields := #[{ name := "value", type := (.array .byte), accessFlags := 18, slot := 0, constantValue := 0 }, { name := "coder", type := .byte, accessFlags := 18, slot := 1, constantValue := 0 }, { name := "hash", type := .int, accessFlags := 2, slot := 2, constantValue := 0 }, { name := "hashIsZero", type := .boolean, accessFlags := 2, slot := 3, constantValue := 0 }, { name := "serialVersionUID", type := .long, accessFlags := 26, slot := 0, constantValue := 0 }, { name := "COMPACT_STRINGS", type := .boolean, accessFlags := 24, slot := 1, constantValue := 0 }, { name := "serialPersistentFields", type := (.array (.object "java/io/ObjectStreamField")), accessFlags := 26, slot := 2, constantValue := 0 }, { name := "REPL", type := .char, accessFlags := 26, slot := 3, constantValue := 0 }, { name := "CASE_INSENSITIVE_ORDER", type := (.object "java/util/Comparator"), accessFlags := 25, slot := 4, constantValue := 0 }, { name := "LATIN1", type := .byte, accessFlags := 24, slot := 5, constantValue := 0 }, { name := "UTF16", type := .byte, accessFlags := 24, slot := 6, constantValue := 0 }]
  methods := #[k7m0, k7m1, k7m2, k7m3, k7m4, k7m5, k7m6, k7m7, k7m8, k7m9]
  instanceTypes := #[(.array .byte), .byte, .int, .boolean]
  staticTypes := #[.long, .boolean, (.array (.object "java/io/ObjectStreamField")), .char, (.object "java/util/Comparator"), .byte, .byte]
  resolved := Array.replicate 1451 none
  statics := some 0 }

def pool8 : Array CpInfo := pool [(1, .class_ 2), (0, u "java/lang/String"), (1, .class_ 6), (1, u "java/lang/Object"), (0, u "<init>"), (0, u "()V"), (0, .methodref 1 10), (0, .nameAndType 11 12), (0, u "checkIndex"), (0, u "(II)V"), (1, .class_ 16), (1, u "java/lang/StringLatin1"), (36, u "([BI)C"), (36, u "canEncode"), (14, u "(C)Z"), (15, u "$assertionsDisabled"), (0, u "Z"), (98, .class_ 223), (1, u "java/lang/StringLatin1$LinesSpliterator"), (28, u "charAt"), (127, u "toBytes"), (1, u "(C)[B"), (7, .class_ 391), (0, u "java/lang/StringLatin1$CharsSpliterator")] 3

def k8m0 : Method := { name := "<init>", desc := "()V", sig := { parameters := [], returnType := none }, accessFlags := 0, code := none }
def k8c1 : Code := { maxStack := 2, maxLocals := 2, code := jdk_43_method_2_code, exceptionTable := #[], attributes := #[] }
def k8m1 : Method := { name := "charAt", desc := "([BI)C", sig := { parameters := [(.array .byte), .int], returnType := some .char }, accessFlags := 9, code := some k8c1 }
def k8c2 : Code := { maxStack := 2, maxLocals := 1, code := jdk_43_method_3_code, exceptionTable := #[], attributes := #[] }
def k8m2 : Method := { name := "canEncode", desc := "(C)Z", sig := { parameters := [.char], returnType := some .boolean }, accessFlags := 9, code := some k8c2 }
def k8c3 : Code := { maxStack := 4, maxLocals := 1, code := jdk_43_method_46_code, exceptionTable := #[], attributes := #[] }
def k8m3 : Method := { name := "toBytes", desc := "(C)[B", sig := { parameters := [.char], returnType := some (.array .byte) }, accessFlags := 9, code := some k8c3 }
/-- java/lang/StringLatin1 -/
def k8 : Class := { plain "java/lang/StringLatin1" (some 0) with
  accessFlags := 48
  interfaces := #[]
  cf := some (fileOf pool8 14 #[.nestMembers #[390, 221]] #[{ accessFlags := 0, nameIndex := 7, descriptorIndex := 8, attributes := #[] }, { accessFlags := 9, nameIndex := 252, descriptorIndex := 53, attributes := #[] }, { accessFlags := 9, nameIndex := 90, descriptorIndex := 105, attributes := #[] }, { accessFlags := 9, nameIndex := 380, descriptorIndex := 382, attributes := #[] }] 48 4 #[] #[{ accessFlags := 4120, nameIndex := 121, descriptorIndex := 122, attributes := #[] }])
  fields := #[{ name := "$assertionsDisabled", type := .boolean, accessFlags := 4120, slot := 0, constantValue := 0 }]
  methods := #[k8m0, k8m1, k8m2, k8m3]
  instanceTypes := #[]
  staticTypes := #[.boolean]
  resolved := Array.replicate 395 none
  statics := none }

def pool9 : Array CpInfo := pool [(1, .methodref 2 3), (0, .class_ 4), (0, .nameAndType 5 6), (0, u "com/example/gatehouse/gatehouse/pattern/NameShape"), (0, u "bits"), (0, u "(Ljava/lang/String;I)J"), (0, .methodref 2 8), (0, .nameAndType 9 10), (0, u "<init>"), (0, u "(Ljava/lang/String;JJII)V"), (9, .methodref 21 22), (0, .class_ 23), (0, .nameAndType 9 24), (0, u "java/lang/Object"), (0, u "()V"), (0, .fieldref 2 26), (0, .nameAndType 27 28), (0, u "begin"), (0, u "Ljava/lang/String;"), (0, .fieldref 2 30), (0, .nameAndType 31 32), (0, u "low"), (0, u "J"), (0, .fieldref 2 34), (0, .nameAndType 35 32), (0, u "high"), (0, .fieldref 2 37), (0, .nameAndType 38 39), (0, u "least"), (0, u "I"), (0, .fieldref 2 41), (0, .nameAndType 42 39), (0, u "most"), (0, .methodref 44 45), (0, .class_ 46), (0, .nameAndType 47 48), (0, u "java/lang/String"), (0, u "length"), (0, u "()I"), (0, .methodref 44 50), (0, .nameAndType 51 52), (0, u "charAt"), (0, u "(I)C"), (11, u "allows"), (0, u "(I)Z"), (19, u "(Ljava/lang/String;Ljava/lang/String;II)V")] 28

def k9c0 : Code := { maxStack := 8, maxLocals := 5, code := prog_36_method_1_code, exceptionTable := #[], attributes := #[] }
def k9m0 : Method := { name := "<init>", desc := "(Ljava/lang/String;Ljava/lang/String;II)V", sig := { parameters := [(.object "java/lang/String"), (.object "java/lang/String"), .int, .int], returnType := none }, accessFlags := 1, code := some k9c0 }
def k9c1 : Code := { maxStack := 3, maxLocals := 8, code := prog_36_method_2_code, exceptionTable := #[], attributes := #[] }
def k9m1 : Method := { name := "<init>", desc := "(Ljava/lang/String;JJII)V", sig := { parameters := [(.object "java/lang/String"), .long, .long, .int, .int], returnType := none }, accessFlags := 2, code := some k9c1 }
def k9c2 : Code := { maxStack := 5, maxLocals := 6, code := prog_36_method_3_code, exceptionTable := #[], attributes := #[] }
def k9m2 : Method := { name := "bits", desc := "(Ljava/lang/String;I)J", sig := { parameters := [(.object "java/lang/String"), .int], returnType := some .long }, accessFlags := 10, code := some k9c2 }
def k9c3 : Code := { maxStack := 5, maxLocals := 2, code := prog_36_method_6_code, exceptionTable := #[], attributes := #[] }
def k9m3 : Method := { name := "allows", desc := "(I)Z", sig := { parameters := [.int], returnType := some .boolean }, accessFlags := 0, code := some k9c3 }
/-- com/example/gatehouse/gatehouse/pattern/NameShape -/
def k9 : Class := { plain "com/example/gatehouse/gatehouse/pattern/NameShape" (some 0) with
  accessFlags := 49
  interfaces := #[]
  cf := some (fileOf pool9 2 #[] #[{ accessFlags := 1, nameIndex := 9, descriptorIndex := 85, attributes := #[] }, { accessFlags := 2, nameIndex := 9, descriptorIndex := 10, attributes := #[] }, { accessFlags := 10, nameIndex := 5, descriptorIndex := 6, attributes := #[] }, { accessFlags := 0, nameIndex := 64, descriptorIndex := 65, attributes := #[] }] 49 21 #[] #[{ accessFlags := 18, nameIndex := 27, descriptorIndex := 28, attributes := #[] }, { accessFlags := 18, nameIndex := 31, descriptorIndex := 32, attributes := #[] }, { accessFlags := 18, nameIndex := 35, descriptorIndex := 32, attributes := #[] }, { accessFlags := 18, nameIndex := 38, descriptorIndex := 39, attributes := #[] }, { accessFlags := 18, nameIndex := 42, descriptorIndex := 39, attributes := #[] }])
  fields := #[{ name := "begin", type := (.object "java/lang/String"), accessFlags := 18, slot := 0, constantValue := 0 }, { name := "low", type := .long, accessFlags := 18, slot := 1, constantValue := 0 }, { name := "high", type := .long, accessFlags := 18, slot := 2, constantValue := 0 }, { name := "least", type := .int, accessFlags := 18, slot := 3, constantValue := 0 }, { name := "most", type := .int, accessFlags := 18, slot := 4, constantValue := 0 }]
  methods := #[k9m0, k9m1, k9m2, k9m3]
  instanceTypes := #[(.object "java/lang/String"), .long, .long, .int, .int]
  staticTypes := #[]
  resolved := Array.replicate 114 none
  statics := none }

def pool10 : Array CpInfo := pool [(6, .class_ 8), (1, u "java/lang/Object"), (0, u "<init>"), (0, u "()V"), (1, .class_ 14), (1, u "java/lang/StringUTF16"), (31, u "$assertionsDisabled"), (0, u "Z"), (13, u "HI_BYTE_SHIFT"), (0, u "I"), (2, u "LO_BYTE_SHIFT"), (49, .methodref 12 116), (0, .nameAndType 117 118), (0, u "compress"), (0, u "([CI[BII)I"), (3, u "([CII)[B"), (138, u "coderFromArrayLen"), (0, u "([BI)B"), (106, .class_ 371), (1, u "java/lang/StringUTF16$LinesSpliterator"), (58, u "MAX_LENGTH"), (196, .class_ 628), (0, u "java/lang/StringUTF16$CodePointsSpliterator"), (0, .class_ 630), (0, u "java/lang/StringUTF16$CharsSpliterator")] 4

def k10m0 : Method := { name := "<init>", desc := "()V", sig := { parameters := [], returnType := none }, accessFlags := 0, code := none }
def k10c1 : Code := { maxStack := 2, maxLocals := 2, code := jdk_52_method_15_code, exceptionTable := #[], attributes := #[] }
def k10m1 : Method := { name := "coderFromArrayLen", desc := "([BI)B", sig := { parameters := [(.array .byte), .int], returnType := some .byte }, accessFlags := 8, code := some k10c1 }
def k10c2 : Code := { maxStack := 5, maxLocals := 6, code := jdk_52_method_16_code, exceptionTable := #[], attributes := #[] }
def k10m2 : Method := { name := "compress", desc := "([CII)[B", sig := { parameters := [(.array .char), .int, .int], returnType := some (.array .byte) }, accessFlags := 9, code := some k10c2 }
def k10c3 : Code := { maxStack := 3, maxLocals := 7, code := jdk_52_method_21_code, exceptionTable := #[], attributes := #[] }
def k10m3 : Method := { name := "compress", desc := "([CI[BII)I", sig := { parameters := [(.array .char), .int, (.array .byte), .int, .int], returnType := some .int }, accessFlags := 9, code := some k10c3 }
/-- java/lang/StringUTF16 -/
def k10 : Class := { plain "java/lang/StringUTF16" (some 0) with
  accessFlags := 48
  interfaces := #[]
  cf := some (fileOf pool10 12 #[.nestMembers #[627, 629, 369]] #[{ accessFlags := 0, nameIndex := 9, descriptorIndex := 10, attributes := #[] }, { accessFlags := 8, nameIndex := 261, descriptorIndex := 262, attributes := #[] }, { accessFlags := 9, nameIndex := 117, descriptorIndex := 122, attributes := #[] }, { accessFlags := 9, nameIndex := 117, descriptorIndex := 118, attributes := #[] }] 48 6 #[] #[{ accessFlags := 26, nameIndex := 61, descriptorIndex := 62, attributes := #[] }, { accessFlags := 26, nameIndex := 65, descriptorIndex := 62, attributes := #[] }, { accessFlags := 24, nameIndex := 430, descriptorIndex := 62, attributes := #[] }, { accessFlags := 4120, nameIndex := 46, descriptorIndex := 47, attributes := #[] }])
  fields := #[{ name := "HI_BYTE_SHIFT", type := .int, accessFlags := 26, slot := 0, constantValue := 0 }, { name := "LO_BYTE_SHIFT", type := .int, accessFlags := 26, slot := 1, constantValue := 0 }, { name := "MAX_LENGTH", type := .int, accessFlags := 24, slot := 2, constantValue := 0 }, { name := "$assertionsDisabled", type := .boolean, accessFlags := 4120, slot := 3, constantValue := 0 }]
  methods := #[k10m0, k10m1, k10m2, k10m3]
  instanceTypes := #[]
  staticTypes := #[.int, .int, .int, .boolean]
  resolved := Array.replicate 635 none
  statics := none }

def pool11 : Array CpInfo := pool [(2, .class_ 4), (1, u "java/lang/Object"), (0, u "<init>"), (0, u "()V"), (17, .class_ 26), (1, u "jdk/internal/util/Preconditions"), (6, u "checkIndex"), (21, .class_ 56), (0, u "jdk/internal/util/Preconditions$4"), (57, .class_ 115), (0, u "jdk/internal/util/Preconditions$1"), (7, u "SIOOBE_FORMATTER"), (0, u "Ljava/util/function/BiFunction;"), (0, .class_ 126), (0, u "jdk/internal/util/Preconditions$2"), (3, u "AIOOBE_FORMATTER"), (0, .class_ 132), (0, u "jdk/internal/util/Preconditions$3"), (3, u "IOOBE_FORMATTER"), (41, u "(IILjava/util/function/BiFunction;)I")] 15

def k11m0 : Method := { name := "<init>", desc := "()V", sig := { parameters := [], returnType := none }, accessFlags := 1, code := none }
def k11c1 : Code := { maxStack := 3, maxLocals := 3, code := jdk_41_method_11_code, exceptionTable := #[], attributes := #[] }
def k11m1 : Method := { name := "checkIndex", desc := "(IILjava/util/function/BiFunction;)I", sig := { parameters := [.int, .int, (.object "java/util/function/BiFunction")], returnType := some .int }, accessFlags := 9, code := some k11c1 }
/-- jdk/internal/util/Preconditions -/
def k11 : Class := { plain "jdk/internal/util/Preconditions" (some 0) with
  accessFlags := 33
  interfaces := #[]
  cf := some (fileOf pool11 24 #[.nestMembers #[55, 131, 125, 114]] #[{ accessFlags := 1, nameIndex := 5, descriptorIndex := 6, attributes := #[] }, { accessFlags := 9, nameIndex := 33, descriptorIndex := 178, attributes := #[] }] 33 2 #[] #[{ accessFlags := 25, nameIndex := 123, descriptorIndex := 124, attributes := #[] }, { accessFlags := 25, nameIndex := 130, descriptorIndex := 124, attributes := #[] }, { accessFlags := 25, nameIndex := 136, descriptorIndex := 124, attributes := #[] }])
  fields := #[{ name := "SIOOBE_FORMATTER", type := (.object "java/util/function/BiFunction"), accessFlags := 25, slot := 0, constantValue := 0 }, { name := "AIOOBE_FORMATTER", type := (.object "java/util/function/BiFunction"), accessFlags := 25, slot := 1, constantValue := 0 }, { name := "IOOBE_FORMATTER", type := (.object "java/util/function/BiFunction"), accessFlags := 25, slot := 2, constantValue := 0 }]
  methods := #[k11m0, k11m1]
  instanceTypes := #[]
  staticTypes := #[(.object "java/util/function/BiFunction"), (.object "java/util/function/BiFunction"), (.object "java/util/function/BiFunction")]
  resolved := Array.replicate 194 none
  statics := some 1 }

def pool12 : Array CpInfo := pool [(9, u "<init>"), (6, .class_ 18), (1, u "java/lang/Object"), (0, u "()V"), (1, .class_ 23), (1, u "jdk/internal/util/ArraysSupport"), (0, u "LOG2_ARRAY_LONG_INDEX_SCALE"), (0, u "I"), (2, u "U"), (0, u "Ljdk/internal/misc/Unsafe;"), (8, u "BIG_ENDIAN"), (0, u "Z"), (8, u "LOG2_BYTE_BIT_SIZE"), (4, u "LOG2_ARRAY_INT_INDEX_SCALE"), (54, u "JLA"), (0, u "Ljdk/internal/access/JavaLangAccess;"), (11, u "LOG2_ARRAY_BOOLEAN_INDEX_SCALE"), (9, u "LOG2_ARRAY_BYTE_INDEX_SCALE"), (5, u "LOG2_ARRAY_CHAR_INDEX_SCALE"), (5, u "LOG2_ARRAY_SHORT_INDEX_SCALE"), (18, u "LOG2_ARRAY_FLOAT_INDEX_SCALE"), (24, u "LOG2_ARRAY_DOUBLE_INDEX_SCALE"), (89, u "T_BOOLEAN"), (2, u "T_CHAR"), (1, u "T_FLOAT"), (1, u "T_DOUBLE"), (1, u "T_BYTE"), (1, u "T_SHORT"), (1, u "T_INT"), (1, u "T_LONG"), (1, u "SOFT_MAX_ARRAY_LENGTH")] 83

def k12m0 : Method := { name := "<init>", desc := "()V", sig := { parameters := [], returnType := none }, accessFlags := 2, code := none }
/-- jdk/internal/util/ArraysSupport -/
def k12 : Class := { plain "jdk/internal/util/ArraysSupport" (some 0) with
  accessFlags := 33
  interfaces := #[]
  cf := some (fileOf pool12 21 #[] #[{ accessFlags := 2, nameIndex := 9, descriptorIndex := 19, attributes := #[] }] 33 16 #[] #[{ accessFlags := 24, nameIndex := 28, descriptorIndex := 29, attributes := #[] }, { accessFlags := 26, nameIndex := 38, descriptorIndex := 39, attributes := #[] }, { accessFlags := 25, nameIndex := 121, descriptorIndex := 25, attributes := #[] }, { accessFlags := 25, nameIndex := 131, descriptorIndex := 25, attributes := #[] }, { accessFlags := 25, nameIndex := 137, descriptorIndex := 25, attributes := #[] }, { accessFlags := 25, nameIndex := 143, descriptorIndex := 25, attributes := #[] }, { accessFlags := 25, nameIndex := 53, descriptorIndex := 25, attributes := #[] }, { accessFlags := 25, nameIndex := 24, descriptorIndex := 25, attributes := #[] }, { accessFlags := 25, nameIndex := 162, descriptorIndex := 25, attributes := #[] }, { accessFlags := 25, nameIndex := 187, descriptorIndex := 25, attributes := #[] }, { accessFlags := 26, nameIndex := 48, descriptorIndex := 25, attributes := #[] }, { accessFlags := 25, nameIndex := 277, descriptorIndex := 25, attributes := #[] }, { accessFlags := 25, nameIndex := 280, descriptorIndex := 25, attributes := #[] }, { accessFlags := 25, nameIndex := 282, descriptorIndex := 25, attributes := #[] }, { accessFlags := 25, nameIndex := 284, descriptorIndex := 25, attributes := #[] }, { accessFlags := 25, nameIndex := 286, descriptorIndex := 25, attributes := #[] }, { accessFlags := 25, nameIndex := 288, descriptorIndex := 25, attributes := #[] }, { accessFlags := 25, nameIndex := 290, descriptorIndex := 25, attributes := #[] }, { accessFlags := 25, nameIndex := 292, descriptorIndex := 25, attributes := #[] }, { accessFlags := 26, nameIndex := 108, descriptorIndex := 109, attributes := #[] }, { accessFlags := 25, nameIndex := 294, descriptorIndex := 25, attributes := #[] }])
  fields := #[{ name := "U", type := (.object "jdk/internal/misc/Unsafe"), accessFlags := 24, slot := 0, constantValue := 0 }, { name := "BIG_ENDIAN", type := .boolean, accessFlags := 26, slot := 1, constantValue := 0 }, { name := "LOG2_ARRAY_BOOLEAN_INDEX_SCALE", type := .int, accessFlags := 25, slot := 2, constantValue := 0 }, { name := "LOG2_ARRAY_BYTE_INDEX_SCALE", type := .int, accessFlags := 25, slot := 3, constantValue := 0 }, { name := "LOG2_ARRAY_CHAR_INDEX_SCALE", type := .int, accessFlags := 25, slot := 4, constantValue := 0 }, { name := "LOG2_ARRAY_SHORT_INDEX_SCALE", type := .int, accessFlags := 25, slot := 5, constantValue := 0 }, { name := "LOG2_ARRAY_INT_INDEX_SCALE", type := .int, accessFlags := 25, slot := 6, constantValue := 0 }, { name := "LOG2_ARRAY_LONG_INDEX_SCALE", type := .int, accessFlags := 25, slot := 7, constantValue := 0 }, { name := "LOG2_ARRAY_FLOAT_INDEX_SCALE", type := .int, accessFlags := 25, slot := 8, constantValue := 0 }, { name := "LOG2_ARRAY_DOUBLE_INDEX_SCALE", type := .int, accessFlags := 25, slot := 9, constantValue := 0 }, { name := "LOG2_BYTE_BIT_SIZE", type := .int, accessFlags := 26, slot := 10, constantValue := 0 }, { name := "T_BOOLEAN", type := .int, accessFlags := 25, slot := 11, constantValue := 0 }, { name := "T_CHAR", type := .int, accessFlags := 25, slot := 12, constantValue := 0 }, { name := "T_FLOAT", type := .int, accessFlags := 25, slot := 13, constantValue := 0 }, { name := "T_DOUBLE", type := .int, accessFlags := 25, slot := 14, constantValue := 0 }, { name := "T_BYTE", type := .int, accessFlags := 25, slot := 15, constantValue := 0 }, { name := "T_SHORT", type := .int, accessFlags := 25, slot := 16, constantValue := 0 }, { name := "T_INT", type := .int, accessFlags := 25, slot := 17, constantValue := 0 }, { name := "T_LONG", type := .int, accessFlags := 25, slot := 18, constantValue := 0 }, { name := "JLA", type := (.object "jdk/internal/access/JavaLangAccess"), accessFlags := 26, slot := 19, constantValue := 0 }, { name := "SOFT_MAX_ARRAY_LENGTH", type := .int, accessFlags := 25, slot := 20, constantValue := 0 }]
  methods := #[k12m0]
  instanceTypes := #[]
  staticTypes := #[(.object "jdk/internal/misc/Unsafe"), .boolean, .int, .int, .int, .int, .int, .int, .int, .int, .int, .int, .int, .int, .int, .int, .int, .int, .int, (.object "jdk/internal/access/JavaLangAccess"), .int]
  resolved := Array.replicate 378 none
  statics := none }

def pool13 : Array CpInfo := pool [(1, u "java/lang/Cloneable"), (0, .class_ 1), (0, u "java/lang/Object"), (0, .class_ 3)] 3

/-- java/lang/Cloneable -/
def k13 : Class := { plain "java/lang/Cloneable" (some 0) with
  accessFlags := 1537
  interfaces := #[]
  cf := some (fileOf pool13 2 #[] #[] 1537 4 #[] #[])
  fields := #[]
  methods := #[]
  instanceTypes := #[]
  staticTypes := #[]
  resolved := Array.replicate 8 none
  statics := none }

/-- the primitive byte -/
def k14 : Class := { plain "byte" none with kind := .primitive 'B', accessFlags := 0x411 }
/-- [B -/
def k15 : Class := { plain "[B" (some 0) with kind := .array 14 .byte, interfaces := #[13, 2], accessFlags := 1041 }

/-- the primitive char -/
def k16 : Class := { plain "char" none with kind := .primitive 'C', accessFlags := 0x411 }
/-- [C -/
def k17 : Class := { plain "[C" (some 0) with kind := .array 16 .char, interfaces := #[13, 2], accessFlags := 1041 }

/-- the primitive int -/
def k18 : Class := { plain "int" none with kind := .primitive 'I', accessFlags := 0x411 }
/-- [I -/
def k19 : Class := { plain "[I" (some 0) with kind := .array 18 .int, interfaces := #[13, 2], accessFlags := 1041 }

def heap : Heap := #[{ cls := 7, slots := #[.long 0, .int 1, .null, .int 0, .null, .int 0, .int 0], vm := .statics 7 },
  { cls := 11, slots := #[.null, .null, .null], vm := .statics 11 }]
def classes : Array Class := #[k0, k1, k2, k3, k4, k5, k6, k7, k8, k9, k10, k11, k12, k13, k14, k15, k16, k17, k18, k19]
def interned : List (Array UInt16 × Addr) := []
def slotsUsed : Nat := 10
def theMethod : MethodId := ⟨1, 1⟩
def args0 : Array Value := #[.int 1, .int 5, .int 7]
def aboutOver (below : List Frame) : State where
  vm := { classes := classes, interned := interned.toArray }
  heap := heap
  slotsUsed := slotsUsed
  threads := #[{ frames := .invoking theMethod args0 :: below }]
def below0 : List Frame := [.native { method := ⟨0, 0⟩, args := #[] }]
def about1 : State := aboutOver below0
def p0 : Program := .bare "" "" ""
def e0 : Env := launch0.env 0 0 0
theorem w_frames : about1.frames = Frame.invoking theMethod args0 :: below0 := rfl
set_option maxRecDepth 65536 in
theorem w_args : argsFit about1.vm theMethod args0 = true := by decide +kernel
set_option maxRecDepth 65536 in
theorem w_heap : heapFits about1 = true := by decide +kernel
set_option maxRecDepth 65536 in
theorem w_runnable : about1.curStatus? = some .runnable := by decide +kernel
set_option maxRecDepth 65536 in
theorem w_alone : about1.alone = true := by decide +kernel
set_option maxRecDepth 65536 in
theorem w_named : about1.methodNamed? x = some theMethod := by decide +kernel
set_option maxRecDepth 65536 in
theorem w_hears : about1.hears theMethod below0 = true := by decide +kernel
set_option maxRecDepth 65536 in
theorem w_ripe : about1.ripe theMethod args0 below0 = true := by decide +kernel
theorem w_running : about1.status = .running := rfl
set_option maxRecDepth 65536 in
theorem w_room : about1.hasRoom e0.platform room_1 = true :=
  launch0.hasRoom_least _ room_1 (by decide +kernel) (by decide +kernel) (by decide +kernel) (by decide +kernel) (by decide +kernel) (by decide +kernel)
theorem allAtoms_all (ts : List Jvm.Cond) (a : Array Jvm.Value) (st : Jvm.State) : (allAtoms ts).before a st = ts.all (fun c => c.before a st) := by
  induction ts with
  | nil => rfl
  | cons c t ih =>
    show (Jvm.Cond.and c (allAtoms t)).before a st = _
    rw [Jvm.Cond.before_and, ih, List.all_cons]
def words1 : List Jvm.Cond := Jvm.Cond.code x code maxLocals ret :: tables_1
/-- a 'code' word, met by the world's own term for the bytes: nothing is compared byte by byte -/
theorem code_word {y : MethodName} {bytes : ByteArray} {mx : Nat} {rt : Option FieldType} {a : Array Value} {s : State} {m : MethodId} {meth : Method} {c : Code} (h1 : s.methodNamed? y = some m) (h2 : s.vm.method? m = some meth) (h3 : meth.code = some c) (h4 : c.code = bytes)
    (h5 : (c.maxLocals == mx && c.exceptionTable.isEmpty && decide (c.maxStack ≤ mostOperands) && decide (meth.sig.returnType = rt) && !meth.locks && decide (parseMethodDescriptor y.desc = some meth.sig)) = true) : (Jvm.Cond.code y bytes mx rt).before a s = true := by
  simp only [Bool.and_eq_true, beq_iff_eq, Bool.not_eq_true', decide_eq_true_eq] at h5
  obtain ⟨⟨⟨⟨⟨g1, g2⟩, g3⟩, g4⟩, g5⟩, g6⟩ := h5
  simp [Cond.before, Cond.holds, Cond.value, h1, h2, h3, h4, g1, g2, g3, g4, g5, g6]
def isCode : Jvm.Cond → Bool
  | .code _ _ _ _ => true
  | _ => false
theorem all_split {L : List Jvm.Cond} {P : Jvm.Cond → Bool} (h1 : L.all (fun c => isCode c || P c) = true) (h2 : ∀ c ∈ L.filter isCode, P c = true) : L.all P = true := by
  refine List.all_eq_true.mpr fun c hc => ?_
  have h := List.all_eq_true.mp h1 c hc
  rcases Bool.eq_false_or_eq_true (isCode c) with hi | hi
  · exact h2 c (List.mem_filter.mpr ⟨hc, hi⟩)
  · simpa [hi] using h
set_option maxRecDepth 65536 in
theorem w_c0 : (Jvm.Cond.code x code maxLocals ret).before args0 about1 = true := code_word (m := ⟨1, 1⟩) (meth := k1m1) (c := k1c1) (by decide +kernel) rfl rfl rfl (by decide +kernel)
set_option maxRecDepth 65536 in
theorem w_c1 : (Jvm.Cond.code ({ cls := "java/lang/String", name := "valueOf", desc := "(C)Ljava/lang/String;" } : Jvm.MethodName) jdk_42_method_139_code (1 : Nat) (Option.some (Jvm.ClassFile.FieldType.object "java/lang/String"))).before args0 about1 = true := code_word (m := ⟨7, 4⟩) (meth := k7m4) (c := k7c4) (by decide +kernel) rfl rfl rfl (by decide +kernel)
set_option maxRecDepth 65536 in
theorem w_c2 : (Jvm.Cond.code ({ cls := "java/lang/StringLatin1", name := "canEncode", desc := "(C)Z" } : Jvm.MethodName) jdk_43_method_3_code (1 : Nat) (Option.some Jvm.ClassFile.FieldType.boolean)).before args0 about1 = true := code_word (m := ⟨8, 2⟩) (meth := k8m2) (c := k8c2) (by decide +kernel) rfl rfl rfl (by decide +kernel)
set_option maxRecDepth 65536 in
theorem w_c3 : (Jvm.Cond.code ({ cls := "java/lang/StringLatin1", name := "toBytes", desc := "(C)[B" } : Jvm.MethodName) jdk_43_method_46_code (1 : Nat) (Option.some (Jvm.ClassFile.FieldType.array Jvm.ClassFile.FieldType.byte))).before args0 about1 = true := code_word (m := ⟨8, 3⟩) (meth := k8m3) (c := k8c3) (by decide +kernel) rfl rfl rfl (by decide +kernel)
set_option maxRecDepth 65536 in
theorem w_c4 : (Jvm.Cond.code ({ cls := "java/lang/String", name := "<init>", desc := "([BB)V" } : Jvm.MethodName) jdk_42_method_151_code (3 : Nat) (Option.none : Option Jvm.ClassFile.FieldType)).before args0 about1 = true := code_word (m := ⟨7, 6⟩) (meth := k7m6) (c := k7c6) (by decide +kernel) rfl rfl rfl (by decide +kernel)
set_option maxRecDepth 65536 in
theorem w_c5 : (Jvm.Cond.code ({ cls := "java/lang/Object", name := "<init>", desc := "()V" } : Jvm.MethodName) object_method_1_code (1 : Nat) (Option.none : Option Jvm.ClassFile.FieldType)).before args0 about1 = true := code_word (m := ⟨0, 0⟩) (meth := k0m0) (c := k0c0) (by decide +kernel) rfl rfl rfl (by decide +kernel)
set_option maxRecDepth 65536 in
theorem w_c6 : (Jvm.Cond.code ({ cls := "com/example/gatehouse/gatehouse/pattern/NameShape", name := "<init>", desc := "(Ljava/lang/String;Ljava/lang/String;II)V" } : Jvm.MethodName) prog_36_method_1_code (5 : Nat) (Option.none : Option Jvm.ClassFile.FieldType)).before args0 about1 = true := code_word (m := ⟨9, 0⟩) (meth := k9m0) (c := k9c0) (by decide +kernel) rfl rfl rfl (by decide +kernel)
set_option maxRecDepth 65536 in
theorem w_c7 : (Jvm.Cond.code ({ cls := "com/example/gatehouse/gatehouse/pattern/NameShape", name := "bits", desc := "(Ljava/lang/String;I)J" } : Jvm.MethodName) prog_36_method_3_code (6 : Nat) (Option.some Jvm.ClassFile.FieldType.long)).before args0 about1 = true := code_word (m := ⟨9, 2⟩) (meth := k9m2) (c := k9c2) (by decide +kernel) rfl rfl rfl (by decide +kernel)
set_option maxRecDepth 65536 in
theorem w_c8 : (Jvm.Cond.code ({ cls := "java/lang/String", name := "length", desc := "()I" } : Jvm.MethodName) jdk_42_method_54_code (1 : Nat) (Option.some Jvm.ClassFile.FieldType.int)).before args0 about1 = true := code_word (m := ⟨7, 2⟩) (meth := k7m2) (c := k7c2) (by decide +kernel) rfl rfl rfl (by decide +kernel)
set_option maxRecDepth 65536 in
theorem w_c9 : (Jvm.Cond.code ({ cls := "java/lang/String", name := "coder", desc := "()B" } : Jvm.MethodName) jdk_42_method_152_code (1 : Nat) (Option.some Jvm.ClassFile.FieldType.byte)).before args0 about1 = true := code_word (m := ⟨7, 7⟩) (meth := k7m7) (c := k7c7) (by decide +kernel) rfl rfl rfl (by decide +kernel)
set_option maxRecDepth 65536 in
theorem w_c10 : (Jvm.Cond.code ({ cls := "com/example/gatehouse/gatehouse/pattern/NameShape", name := "<init>", desc := "(Ljava/lang/String;JJII)V" } : Jvm.MethodName) prog_36_method_2_code (8 : Nat) (Option.none : Option Jvm.ClassFile.FieldType)).before args0 about1 = true := code_word (m := ⟨9, 1⟩) (meth := k9m1) (c := k9c1) (by decide +kernel) rfl rfl rfl (by decide +kernel)
set_option maxRecDepth 65536 in
theorem w_c11 : (Jvm.Cond.code ({ cls := "com/example/gatehouse/gatehouse/pattern/NameShape", name := "allows", desc := "(I)Z" } : Jvm.MethodName) prog_36_method_6_code (2 : Nat) (Option.some Jvm.ClassFile.FieldType.boolean)).before args0 about1 = true := code_word (m := ⟨9, 3⟩) (meth := k9m3) (c := k9c3) (by decide +kernel) rfl rfl rfl (by decide +kernel)
set_option maxRecDepth 65536 in
theorem w_c12 : (Jvm.Cond.code ({ cls := "java/lang/String", name := "<init>", desc := "([C)V" } : Jvm.MethodName) jdk_42_method_3_code (2 : Nat) (Option.none : Option Jvm.ClassFile.FieldType)).before args0 about1 = true := code_word (m := ⟨7, 1⟩) (meth := k7m1) (c := k7c1) (by decide +kernel) rfl rfl rfl (by decide +kernel)
set_option maxRecDepth 65536 in
theorem w_c13 : (Jvm.Cond.code ({ cls := "java/lang/String", name := "<init>", desc := "([CIILjava/lang/Void;)V" } : Jvm.MethodName) jdk_42_method_149_code (6 : Nat) (Option.none : Option Jvm.ClassFile.FieldType)).before args0 about1 = true := code_word (m := ⟨7, 5⟩) (meth := k7m5) (c := k7c5) (by decide +kernel) rfl rfl rfl (by decide +kernel)
set_option maxRecDepth 65536 in
theorem w_c14 : (Jvm.Cond.code ({ cls := "java/lang/StringUTF16", name := "compress", desc := "([CII)[B" } : Jvm.MethodName) jdk_52_method_16_code (6 : Nat) (Option.some (Jvm.ClassFile.FieldType.array Jvm.ClassFile.FieldType.byte))).before args0 about1 = true := code_word (m := ⟨10, 2⟩) (meth := k10m2) (c := k10c2) (by decide +kernel) rfl rfl rfl (by decide +kernel)
set_option maxRecDepth 65536 in
theorem w_c15 : (Jvm.Cond.code ({ cls := "java/lang/StringUTF16", name := "compress", desc := "([CI[BII)I" } : Jvm.MethodName) jdk_52_method_21_code (7 : Nat) (Option.some Jvm.ClassFile.FieldType.int)).before args0 about1 = true := code_word (m := ⟨10, 3⟩) (meth := k10m3) (c := k10c3) (by decide +kernel) rfl rfl rfl (by decide +kernel)
set_option maxRecDepth 65536 in
theorem w_c16 : (Jvm.Cond.code ({ cls := "java/lang/StringUTF16", name := "coderFromArrayLen", desc := "([BI)B" } : Jvm.MethodName) jdk_52_method_15_code (2 : Nat) (Option.some Jvm.ClassFile.FieldType.byte)).before args0 about1 = true := code_word (m := ⟨10, 1⟩) (meth := k10m1) (c := k10c1) (by decide +kernel) rfl rfl rfl (by decide +kernel)
set_option maxRecDepth 65536 in
theorem w_c17 : (Jvm.Cond.code ({ cls := "java/lang/String", name := "charAt", desc := "(I)C" } : Jvm.MethodName) jdk_42_method_56_code (2 : Nat) (Option.some Jvm.ClassFile.FieldType.char)).before args0 about1 = true := code_word (m := ⟨7, 3⟩) (meth := k7m3) (c := k7c3) (by decide +kernel) rfl rfl rfl (by decide +kernel)
set_option maxRecDepth 65536 in
theorem w_c18 : (Jvm.Cond.code ({ cls := "java/lang/String", name := "isLatin1", desc := "()Z" } : Jvm.MethodName) jdk_42_method_154_code (1 : Nat) (Option.some Jvm.ClassFile.FieldType.boolean)).before args0 about1 = true := code_word (m := ⟨7, 8⟩) (meth := k7m8) (c := k7c8) (by decide +kernel) rfl rfl rfl (by decide +kernel)
set_option maxRecDepth 65536 in
theorem w_c19 : (Jvm.Cond.code ({ cls := "java/lang/StringLatin1", name := "charAt", desc := "([BI)C" } : Jvm.MethodName) jdk_43_method_2_code (2 : Nat) (Option.some Jvm.ClassFile.FieldType.char)).before args0 about1 = true := code_word (m := ⟨8, 1⟩) (meth := k8m1) (c := k8c1) (by decide +kernel) rfl rfl rfl (by decide +kernel)
set_option maxRecDepth 65536 in
theorem w_c20 : (Jvm.Cond.code ({ cls := "java/lang/String", name := "checkIndex", desc := "(II)V" } : Jvm.MethodName) jdk_42_method_155_code (2 : Nat) (Option.none : Option Jvm.ClassFile.FieldType)).before args0 about1 = true := code_word (m := ⟨7, 9⟩) (meth := k7m9) (c := k7c9) (by decide +kernel) rfl rfl rfl (by decide +kernel)
set_option maxRecDepth 65536 in
theorem w_c21 : (Jvm.Cond.code ({ cls := "jdk/internal/util/Preconditions", name := "checkIndex", desc := "(IILjava/util/function/BiFunction;)I" } : Jvm.MethodName) jdk_41_method_11_code (3 : Nat) (Option.some Jvm.ClassFile.FieldType.int)).before args0 about1 = true := code_word (m := ⟨11, 1⟩) (meth := k11m1) (c := k11c1) (by decide +kernel) rfl rfl rfl (by decide +kernel)
def codes1 : List Jvm.Cond := [Jvm.Cond.code x code maxLocals ret, Jvm.Cond.code ({ cls := "java/lang/String", name := "valueOf", desc := "(C)Ljava/lang/String;" } : Jvm.MethodName) jdk_42_method_139_code (1 : Nat) (Option.some (Jvm.ClassFile.FieldType.object "java/lang/String")), Jvm.Cond.code ({ cls := "java/lang/StringLatin1", name := "canEncode", desc := "(C)Z" } : Jvm.MethodName) jdk_43_method_3_code (1 : Nat) (Option.some Jvm.ClassFile.FieldType.boolean), Jvm.Cond.code ({ cls := "java/lang/StringLatin1", name := "toBytes", desc := "(C)[B" } : Jvm.MethodName) jdk_43_method_46_code (1 : Nat) (Option.some (Jvm.ClassFile.FieldType.array Jvm.ClassFile.FieldType.byte)), Jvm.Cond.code ({ cls := "java/lang/String", name := "<init>", desc := "([BB)V" } : Jvm.MethodName) jdk_42_method_151_code (3 : Nat) (Option.none : Option Jvm.ClassFile.FieldType), Jvm.Cond.code ({ cls := "java/lang/Object", name := "<init>", desc := "()V" } : Jvm.MethodName) object_method_1_code (1 : Nat) (Option.none : Option Jvm.ClassFile.FieldType), Jvm.Cond.code ({ cls := "com/example/gatehouse/gatehouse/pattern/NameShape", name := "<init>", desc := "(Ljava/lang/String;Ljava/lang/String;II)V" } : Jvm.MethodName) prog_36_method_1_code (5 : Nat) (Option.none : Option Jvm.ClassFile.FieldType), Jvm.Cond.code ({ cls := "com/example/gatehouse/gatehouse/pattern/NameShape", name := "bits", desc := "(Ljava/lang/String;I)J" } : Jvm.MethodName) prog_36_method_3_code (6 : Nat) (Option.some Jvm.ClassFile.FieldType.long), Jvm.Cond.code ({ cls := "java/lang/String", name := "length", desc := "()I" } : Jvm.MethodName) jdk_42_method_54_code (1 : Nat) (Option.some Jvm.ClassFile.FieldType.int), Jvm.Cond.code ({ cls := "java/lang/String", name := "coder", desc := "()B" } : Jvm.MethodName) jdk_42_method_152_code (1 : Nat) (Option.some Jvm.ClassFile.FieldType.byte), Jvm.Cond.code ({ cls := "com/example/gatehouse/gatehouse/pattern/NameShape", name := "<init>", desc := "(Ljava/lang/String;JJII)V" } : Jvm.MethodName) prog_36_method_2_code (8 : Nat) (Option.none : Option Jvm.ClassFile.FieldType), Jvm.Cond.code ({ cls := "com/example/gatehouse/gatehouse/pattern/NameShape", name := "allows", desc := "(I)Z" } : Jvm.MethodName) prog_36_method_6_code (2 : Nat) (Option.some Jvm.ClassFile.FieldType.boolean), Jvm.Cond.code ({ cls := "java/lang/String", name := "<init>", desc := "([C)V" } : Jvm.MethodName) jdk_42_method_3_code (2 : Nat) (Option.none : Option Jvm.ClassFile.FieldType), Jvm.Cond.code ({ cls := "java/lang/String", name := "<init>", desc := "([CIILjava/lang/Void;)V" } : Jvm.MethodName) jdk_42_method_149_code (6 : Nat) (Option.none : Option Jvm.ClassFile.FieldType), Jvm.Cond.code ({ cls := "java/lang/StringUTF16", name := "compress", desc := "([CII)[B" } : Jvm.MethodName) jdk_52_method_16_code (6 : Nat) (Option.some (Jvm.ClassFile.FieldType.array Jvm.ClassFile.FieldType.byte)), Jvm.Cond.code ({ cls := "java/lang/StringUTF16", name := "compress", desc := "([CI[BII)I" } : Jvm.MethodName) jdk_52_method_21_code (7 : Nat) (Option.some Jvm.ClassFile.FieldType.int), Jvm.Cond.code ({ cls := "java/lang/StringUTF16", name := "coderFromArrayLen", desc := "([BI)B" } : Jvm.MethodName) jdk_52_method_15_code (2 : Nat) (Option.some Jvm.ClassFile.FieldType.byte), Jvm.Cond.code ({ cls := "java/lang/String", name := "charAt", desc := "(I)C" } : Jvm.MethodName) jdk_42_method_56_code (2 : Nat) (Option.some Jvm.ClassFile.FieldType.char), Jvm.Cond.code ({ cls := "java/lang/String", name := "isLatin1", desc := "()Z" } : Jvm.MethodName) jdk_42_method_154_code (1 : Nat) (Option.some Jvm.ClassFile.FieldType.boolean), Jvm.Cond.code ({ cls := "java/lang/StringLatin1", name := "charAt", desc := "([BI)C" } : Jvm.MethodName) jdk_43_method_2_code (2 : Nat) (Option.some Jvm.ClassFile.FieldType.char), Jvm.Cond.code ({ cls := "java/lang/String", name := "checkIndex", desc := "(II)V" } : Jvm.MethodName) jdk_42_method_155_code (2 : Nat) (Option.none : Option Jvm.ClassFile.FieldType), Jvm.Cond.code ({ cls := "jdk/internal/util/Preconditions", name := "checkIndex", desc := "(IILjava/util/function/BiFunction;)I" } : Jvm.MethodName) jdk_41_method_11_code (3 : Nat) (Option.some Jvm.ClassFile.FieldType.int)]
set_option maxRecDepth 65536 in
theorem codes_eq : words1.filter isCode = codes1 := rfl
theorem w_codes : ∀ c ∈ words1.filter isCode, c.before args0 about1 = true := by
  rw [codes_eq]
  intro c hc
  simp only [codes1, List.mem_cons, List.not_mem_nil, or_false] at hc
  rcases hc with rfl | rfl | rfl | rfl | rfl | rfl | rfl | rfl | rfl | rfl | rfl | rfl | rfl | rfl | rfl | rfl | rfl | rfl | rfl | rfl | rfl | rfl
  · exact w_c0
  · exact w_c1
  · exact w_c2
  · exact w_c3
  · exact w_c4
  · exact w_c5
  · exact w_c6
  · exact w_c7
  · exact w_c8
  · exact w_c9
  · exact w_c10
  · exact w_c11
  · exact w_c12
  · exact w_c13
  · exact w_c14
  · exact w_c15
  · exact w_c16
  · exact w_c17
  · exact w_c18
  · exact w_c19
  · exact w_c20
  · exact w_c21
set_option maxRecDepth 65536 in
theorem w_t1 : (words1.take 24).all (fun c => isCode c || c.before args0 about1) = true := by decide +kernel
set_option maxRecDepth 65536 in
theorem w_t2 : ((words1.drop 24).take 24).all (fun c => isCode c || c.before args0 about1) = true := by decide +kernel
set_option maxRecDepth 65536 in
theorem w_t3 : (((words1.drop 24).drop 24).take 24).all (fun c => isCode c || c.before args0 about1) = true := by decide +kernel
set_option maxRecDepth 65536 in
theorem w_t4 : ((((words1.drop 24).drop 24).drop 24).take 24).all (fun c => isCode c || c.before args0 about1) = true := by decide +kernel
set_option maxRecDepth 65536 in
theorem w_t5 : ((((words1.drop 24).drop 24).drop 24).drop 24).all (fun c => isCode c || c.before args0 about1) = true := by decide +kernel
theorem w_tables : (allAtoms (Jvm.Cond.code x code maxLocals ret :: tables_1)).before args0 about1 = true := by
  rw [allAtoms_all]
  show words1.all (fun c => c.before args0 about1) = true
  refine all_split ?_ w_codes
  rw [← List.take_append_drop 24 words1, List.all_append, w_t1, ← List.take_append_drop 24 (words1.drop 24), List.all_append, w_t2, ← List.take_append_drop 24 ((words1.drop 24).drop 24), List.all_append, w_t3, ← List.take_append_drop 24 (((words1.drop 24).drop 24).drop 24), List.all_append, w_t4, w_t5]
  rfl
set_option maxRecDepth 65536 in
theorem w_rest : rest_1_c.before args0 about1 = true := by decide +kernel
set_option maxRecDepth 65536 in
theorem w_case : (Jvm.Cond.and given_1 narrow_1).before args0 about1 = true := by decide +kernel
set_option maxRecDepth 65536 in
theorem w_consts : constsHeld consts_1 about1 := Jvm.Lit.constsHeldB_iff.mp (by decide +kernel)
theorem w_applies : (headSpec (Jvm.Cond.code x code maxLocals ret :: tables_1) room_1).applies x e0.platform about1 = true :=
  (Spec.applies_iff w_frames).mpr ⟨w_running, w_runnable, w_alone, w_named, w_hears, w_ripe, w_room, w_tables⟩
theorem atStart : AtStart classFile x code maxLocals ret World_1 tables_1 room_1 Calls_1 rest_1 Pre_1 launch0 p0 e0 about1 theMethod args0 below0 :=
  ⟨lists_1, trivial, launch0.admits_env _ _ _, launch0.least_env, fairChoices_fair.cas, fairChoices_fair.clock, w_frames, w_args, w_heap, w_applies, ⟨w_consts, trivial⟩, w_rest, w_case⟩
end start1
theorem witness_1 : WitnessClaimed_1 := ⟨start1.p0, start1.e0, start1.about1, start1.theMethod, start1.args0, start1.below0, start1.atStart⟩
end Jvm.Pilot.@@N@@
