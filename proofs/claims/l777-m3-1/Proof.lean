import JvmDerived
import JvmDerived.Pilot.@@N@@Statement
import JvmDerived.Pilot.@@N@@Code
set_option linter.unusedVariables false
set_option linter.unusedSimpArgs false
namespace Jvm.RoadKit
open Sem ClassFile Op Lib Jvm.Stand Jvm.Free Jvm.LawKit
abbrev own_Go (p : Program) (e : Env) (below : List Frame) (A B : State) : Prop := ∀ t, Steps p.tables e below B t → Steps p.tables e below A t
theorem own_name {p : Program} {e : Env} {below : List Frame} {A : State} {α : Type} {F : α → State} (x : α) (P : own_Go p e below A (F x)) : ∃ z, z = x ∧ own_Go p e below A (F z) := ⟨x, rfl, P⟩
theorem own_step {p : Program} {e : Env} {below : List Frame} {A B C : State} (P : own_Go p e below A B) (q : own_Go p e below B C) : own_Go p e below A C := fun t_ k_ => P t_ (q t_ k_)
theorem own_IB {Z s U : State} {Ts : List String} (I : IB Z s.vm Ts) (w : s.WarmedH U.vm) : IB Z U.vm Ts := by
  obtain ⟨more, e, hm⟩ := I
  exact ⟨more, w.interned_eq.trans e, hm⟩
theorem own_backI {p : Program} {l : Launch} {e : Env} {R : Room} {s Z : State} {args a0 : Array Value} {below : List Frame} {h : Heap} {y : MethodName} {bytes : ByteArray} {maxL : Nat} {ret : Option FieldType} {rm : Room} {len W : Nat} {as' : Array Value} {Ts : List String} {Q : Option Value → Heap → List Loc → Prop}
    (hM : MetFree l y (head1 [Cond.code y bytes maxL ret] rm) (fun a U => a = as' ∧ Z.Warmed39 U.vm ∧ U.heap = h ∧ IB Z U.vm Ts) (fun _ _ _ _ _ => True) (fun _ U o U' => ∃ v L, o = .returned v ∧ Q v U'.heap L ∧ ReturnedEndW U o U' L rm.cells rm.slots))
    (hZ : Z.Warmed39 s.vm) (hI : IB Z s.vm Ts) (wc : (Cond.code y bytes maxL ret).before a0 Z = true) (wz : (Cond.initialized y.cls).before a0 Z = true) (hf : rm.frames + 1 ≤ R.frames) (hl : W + (maxL + 11) + rm.locals ≤ R.locals) :
    BackS l R p e below s args y len W (fun A a => a = as' ∧ A.U.heap = h ∧ A.cells + rm.cells ≤ R.cells ∧ A.slots + rm.slots ≤ R.slots) (fun A _ v B => ∃ L, Q v B.U.heap L ∧ B.locs = A.locs ++ L ∧ B.cells = A.cells + rm.cells ∧ B.slots = A.slots + rm.slots) := by
  refine BackS.of_freeW (bytes := bytes) (maxL := maxL) (ret := ret) (E := fun _ _ o t L k n => k = rm.cells ∧ n = rm.slots ∧ ∃ v, o = .returned v ∧ Q v t.heap L) hM hf hl ?_ ?_ (fun _ _ _ _ _ _ _ _ _ => trivial) ?_ ?_
  · intro m meth c A a Y hp
    have hU : Z.Warmed39 A.U.vm := wtrans hZ Y.warmed
    refine ⟨?_, mv hU wc, mv hU wz, hp.2.2.1, hp.2.2.2⟩
    show (Cond.and _ .tt).before a A.U = true
    rw [Cond.before_and, mv hU wc]; rfl
  · intro m meth c A a g mk Y hp
    exact ⟨hp.1, wtrans hZ Y.warmed, hp.2.1, own_IB hI Y.warmed⟩
  · rintro _ _ _ _ ⟨v, L, h1, h2, h3⟩
    exact ⟨L, _, _, h3, rfl, rfl, v, h1, h2⟩
  · intro m meth c A a g mk v t L k n Y hp _ _ q
    obtain ⟨e1, e2, v', e3, e4⟩ := q
    cases e3; subst e1 e2; exact ⟨L, e4, rfl, rfl, rfl⟩
section New
variable {p : Program} {l : Launch} {e : Env} {R : Room} {s : State} {m : MethodId} {args : Array Value} {below : List Frame} {meth : Method} {c : Code} {T : State} {locs : List Loc} {cells slots : Nat}
theorem retI (X : Stand p l e R s m args below meth c T locs cells slots) (hx : p.tables.exec = Jvm.exec) {pc : Nat} {Ls : Array Slot} {z : Int32} {rest : List Value} (hret : meth.sig.returnType = some .int) (hd : decode c.code pc = .ok (.ireturn, 1)) {fs : List Frame}
    (hl : ∀ (f : JFrame) (acts : List Action), f.method = m → f.locked = none → f.entered = [] → (doReturn e (T.setTop f) acts (some (.int z))).1 = T.setFrames fs) : Steps p.tables e below (T.setTop (mkF m pc Ls (.int z :: rest))) (T.setFrames fs) := by
  have hm' : T.vm.method? m = some meth := X.method'
  have hn : narrow .int (.int z) = .int z := rfl
  show Steps p.tables e below (T.setTop { method := m, pc := pc, locals := Ls, stack := _ :: rest, locked := none }) _
  jvm_step X.here [X.here.top, hx, hd, hm', hret, hn]
  first | (intro acts; rw [hl _ acts rfl rfl rfl]) | rw [hl _ _ rfl rfl rfl]
  exact Steps.refl _
end New
end Jvm.RoadKit
namespace Jvm.Pilot.@@N@@
open Jvm Jvm.ClassFile Sem Op Lib Jvm.Free Jvm.Stand Jvm.LawKit Jvm.RoadKit Bundle Jvm.Pilot.@@N@@.Jvm.D
theorem own_wS : ∀ d ∈ Bundle.stringAtoms, d ∈ tables_1 := by
  intro d hd
  simp only [Bundle.stringAtoms, Bundle.sN, List.mem_cons, List.not_mem_nil, or_false] at hd
  rcases hd with rfl | rfl | rfl | rfl | rfl | rfl | rfl
  all_goals (simp only [tables_1, List.mem_cons, List.not_mem_nil, or_false]; simp)

theorem own_shr0 (z : Int32) : z >>> ((0 : Int32) &&& 31) = z := by
  rw [← Int32.toInt_inj, c_ishr z 0 0 (by decide)]; simp
theorem own_nc (x : Int32) : nar .char ((x &&& (255 : Int32)).toUInt32.toUInt16.toUInt32.toInt32) = x &&& (255 : Int32) := by
  show (((x &&& (255 : Int32)).toUInt32.toUInt16.toUInt32.toInt32).toUInt32.toUInt16.toUInt32.toInt32) = _
  rw [i2c_mask, i2c_mask]
theorem own_nc1 (x : Int32) : nar .char (x &&& (255 : Int32)) = x &&& (255 : Int32) := i2c_mask x
def own_bit (B B' c : Int32) (acc : Int64) : Int64 := if c < B then acc else if c < B' then (acc ||| ((1 : Int64) <<< (c &&& 0x3f).toInt64)) else acc
theorem own_bitE {B B' c : Int32} {q acc : Int64} (h : (c < B ∧ q = acc) ∨ (¬ (c < B) ∧ c < B' ∧ q = (acc ||| ((1 : Int64) <<< (c &&& 0x3f).toInt64))) ∨ (¬ (c < B) ∧ ¬ (c < B') ∧ q = acc)) : q = own_bit B B' c acc := by
  unfold own_bit; rcases h with ⟨h1, rfl⟩ | ⟨h1, h2, rfl⟩ | ⟨h1, h2, rfl⟩
  · rw [if_pos h1]
  · rw [if_neg h1, if_pos h2]
  · rw [if_neg h1, if_neg h2]
theorem d12_0 : decode jdk_42_method_152_code 0 = .ok (.getstatic 38, 3) := by decide +kernel
theorem d12_3 : decode jdk_42_method_152_code 3 = .ok (.ifCond .eq 10, 3) := by decide +kernel
theorem d12_6 : decode jdk_42_method_152_code 6 = .ok (.aload_n 0, 1) := by decide +kernel
theorem d12_7 : decode jdk_42_method_152_code 7 = .ok (.getfield 15, 3) := by decide +kernel
theorem d12_10 : decode jdk_42_method_152_code 10 = .ok (.goto 4, 3) := by decide +kernel
theorem d12_14 : decode jdk_42_method_152_code 14 = .ok (.ireturn, 1) := by decide +kernel
theorem ef__coder0 (m : MethodId) (x0 : Addr) : entryFrame m #[(.ref x0)] 1 = mkF m 0 #[.val (.ref x0)] [] := by first | (simp [entryFrame, mkF, argsToLocals, Value.category]; done) | rfl
def Q_coder0 (Z : State) (a : Addr) (cs : Int32) (h0 : Heap) (n0 : Nat) (v_ : Option Value) (h : Heap) (L_ : List Loc) : Prop := v_ = some (.int (0 : Int32)) ∧ Fr n0 L_ ∧ h = h0
theorem pn0 : plainName "java/lang/String" = true := by first | (simp [plainName, overriddenIn]; done) | decide +kernel
set_option maxRecDepth 65536 in
set_option maxHeartbeats 40000000 in
theorem rm_coder0 (l : Launch) (Z : State) (a0 : Array Value) (hw : ∀ d ∈ tables_1, d.before a0 Z = true) (ws : List Jvm.Cond) (a : Addr) (cs : Int32) (h0 : Heap) (n0 : Nat) (Z0 : n0 ≤ h0.size) (O : Old Z n0 h0) (Scs : Sta Z Z.heap "java/lang/String" "COMPACT_STRINGS" "Z" (.int cs)) (hcs : ¬ (cs = (0 : Int32))) (Fc : Fld Z h0 a "java/lang/String" "coder" "B" (.int (0 : Int32))) :
    MetFree l (⟨"java/lang/String", "coder", "()B"⟩ : MethodName) (head1 (Jvm.Cond.code (⟨"java/lang/String", "coder", "()B"⟩ : MethodName) jdk_42_method_152_code 1 (some .byte) :: ws) ({ frames := 0, cells := 0, slots := 0, locals := 0 } : Room)) (fun a_ U_ => a_ = #[(.ref a)] ∧ Z.Warmed39 U_.vm ∧ U_.heap = h0) (fun _ _ _ _ _ => True) (fun _ U_ o_ V_ => ∃ v_ L_, o_ = .returned v_ ∧ Q_coder0 Z a cs h0 n0 v_ V_.heap L_ ∧ FrameEnd U_ o_ V_ L_ ({ frames := 0, cells := 0, slots := 0, locals := 0 } : Room).cells ({ frames := 0, cells := 0, slots := 0, locals := 0 } : Room).slots) := by
  refine MetFree.of_bodySF (plainFor_of_name pn0) hisR ?_
  intro p e s m args below meth c s₁ Bd hml0 hP hK
  obtain ⟨rfl, hZ, hh⟩ := hP
  have hx := Bd.exec
  have hby := Bd.bytes
  have hml : c.maxLocals = 1 := hml0
  have hown : s.vm.findClass "java/lang/String" = some m.cls := findClass_of_methodNamed Bd.named
  have hnm := (name_of_methodNamed Bd.named Bd.method).1
  have X0 : Stand p l e ({ frames := 0, cells := 0, slots := 0, locals := 0 } : Room) s m #[(.ref a)] below meth c s₁ [] 0 0 := Stand.of_body Bd
  have e0 : s₁.heap = h0 := by rw [← hh, Bd.state]; rfl
  have N0 := Fr.nil n0
  have pre0 : own_Go p e below (s₁.setTop (entryFrame m #[(.ref a)] 1)) (s₁.setTop (mkF m 0 #[.val (.ref a)] [])) := fun t_ k_ => castTop (ef__coder0 m a) k_
  obtain ⟨T1, X1, e1, st1⟩ := getS2 X0 hx hZ hown (host := "") (Or.inl (hw _ (List.mem_of_getElem? (i := 10) rfl))) Via.refl e0 (Scs.ext O.2) (g := (mkF m 0 #[.val (.ref a)] [])) rfl (hb hby d12_0)
  have P2 := own_step (C := T1.setTop (mkF m 3 #[.val (.ref a)] [(.int cs)])) pre0 (fun t_ k_ => st1 t_ k_)
  have P3 := own_step (C := T1.setTop (mkF m 6 #[.val (.ref a)] [])) P2 (by
    intro tt_ kk_
    refine XS.ifNo X1.here hx rfl (hb hby d12_3) rfl ((if0 _ _).trans (feq hcs).1) ?_
    exact kk_)
  have P4 := own_step (C := T1.setTop (mkF m 7 #[.val (.ref a)] [(.ref a)])) P3 (by
    intro tt_ kk_
    refine XS.aloadN X1.here hx rfl (hb hby d12_6) rfl rfl ?_
    exact kk_)
  obtain ⟨T5, X5, e5, st5⟩ := getF X1 hx hZ hown (host := "") (Or.inl (hw _ (List.mem_of_getElem? (i := 30) rfl))) Via.refl e1 Fc (g := (mkF m 7 #[.val (.ref a)] [(.ref a)])) rfl rfl (hb hby d12_7)
  have P6 := own_step (C := T5.setTop (mkF m 10 #[.val (.ref a)] [(.int (0 : Int32))])) P4 (fun t_ k_ => st5 t_ k_)
  have P7 := own_step (C := T5.setTop (mkF m 14 #[.val (.ref a)] [(.int (0 : Int32))])) P6 (by
    intro tt_ kk_
    refine XS.goto X5.here hx rfl (pc0 := 10) (pc' := 14) rfl (hb hby d12_10) (by decide) (by decide) ?_
    exact kk_)
  obtain ⟨fs, hr, hrun, hended, hW, hsame⟩ := X5.leave (v := some (.int (0 : Int32))) (fun h => by rw [Bd.returns] at h; cases h)
  refine ⟨_, _, P7 _ ?_, hrun, hended, _, _, rfl, ?_, ⟨_, rfl⟩, hW, hsame.mono (by decide) (by decide)⟩
  · exact retN X5 hx (t := .byte) Bd.returns (by simp) (hb hby d12_14) hr
  · show Q_coder0 Z _ _ h0 n0 _ T5.heap _
    rw [e5]
    exact ⟨rfl, N0, rfl⟩
theorem pd0 : parseMethodDescriptor "()B" = some ⟨[], some .byte⟩ := by decide +kernel
theorem d11_0 : decode jdk_42_method_54_code 0 = .ok (.aload_n 0, 1) := by decide +kernel
theorem d11_1 : decode jdk_42_method_54_code 1 = .ok (.getfield 9, 3) := by decide +kernel
theorem d11_4 : decode jdk_42_method_54_code 4 = .ok (.arraylength, 1) := by decide +kernel
theorem d11_5 : decode jdk_42_method_54_code 5 = .ok (.aload_n 0, 1) := by decide +kernel
theorem d11_6 : decode jdk_42_method_54_code 6 = .ok (.invokevirtual 335, 3) := by decide +kernel
theorem d11_9 : decode jdk_42_method_54_code 9 = .ok (.ishr, 1) := by decide +kernel
theorem d11_10 : decode jdk_42_method_54_code 10 = .ok (.ireturn, 1) := by decide +kernel
theorem ef__length (m : MethodId) (x0 : Addr) : entryFrame m #[(.ref x0)] 1 = mkF m 0 #[.val (.ref x0)] [] := by first | (simp [entryFrame, mkF, argsToLocals, Value.category]; done) | rfl
def Q_length (Z : State) (a : Addr) (b : Addr) (k : ClassId) (z : Int32) (vs : List Value) (cs : Int32) (h0 : Heap) (n0 : Nat) (v_ : Option Value) (h : Heap) (L_ : List Loc) : Prop := v_ = some (.int z) ∧ Fr n0 L_ ∧ h = h0
set_option maxRecDepth 65536 in
set_option maxHeartbeats 40000000 in
theorem rm_length (l : Launch) (Z : State) (a0 : Array Value) (hw : ∀ d ∈ tables_1, d.before a0 Z = true) (ws : List Jvm.Cond) (a : Addr) (b : Addr) (k : ClassId) (z : Int32) (vs : List Value) (cs : Int32) (h0 : Heap) (n0 : Nat) (Z0 : n0 ≤ h0.size) (O : Old Z n0 h0) (Scs : Sta Z Z.heap "java/lang/String" "COMPACT_STRINGS" "Z" (.int cs)) (hcs : ¬ (cs = (0 : Int32))) (Ea : Exa Z h0 a "java/lang/String") (Fc : Fld Z h0 a "java/lang/String" "coder" "B" (.int (0 : Int32))) (Fv : Fld Z h0 a "java/lang/String" "value" "[B" (.ref b)) (Vb : Arv Z h0 b k .byte z vs (.int 0)) :
    MetFree l (⟨"java/lang/String", "length", "()I"⟩ : MethodName) (head1 (Jvm.Cond.code (⟨"java/lang/String", "length", "()I"⟩ : MethodName) jdk_42_method_54_code 1 (some .int) :: ws) ({ frames := 1, cells := 0, slots := 0, locals := 13 } : Room)) (fun a_ U_ => a_ = #[(.ref a)] ∧ Z.Warmed39 U_.vm ∧ U_.heap = h0) (fun _ _ _ _ _ => True) (fun _ U_ o_ V_ => ∃ v_ L_, o_ = .returned v_ ∧ Q_length Z a b k z vs cs h0 n0 v_ V_.heap L_ ∧ FrameEnd U_ o_ V_ L_ ({ frames := 1, cells := 0, slots := 0, locals := 13 } : Room).cells ({ frames := 1, cells := 0, slots := 0, locals := 13 } : Room).slots) := by
  refine MetFree.of_bodySF (plainFor_of_name pn0) hisR ?_
  intro p e s m args below meth c s₁ Bd hml0 hP hK
  obtain ⟨rfl, hZ, hh⟩ := hP
  have hx := Bd.exec
  have hby := Bd.bytes
  have hml : c.maxLocals = 1 := hml0
  have hown : s.vm.findClass "java/lang/String" = some m.cls := findClass_of_methodNamed Bd.named
  have hnm := (name_of_methodNamed Bd.named Bd.method).1
  have X0 : Stand p l e ({ frames := 1, cells := 0, slots := 0, locals := 13 } : Room) s m #[(.ref a)] below meth c s₁ [] 0 0 := Stand.of_body Bd
  have e0 : s₁.heap = h0 := by rw [← hh, Bd.state]; rfl
  have N0 := Fr.nil n0
  have pre0 : own_Go p e below (s₁.setTop (entryFrame m #[(.ref a)] 1)) (s₁.setTop (mkF m 0 #[.val (.ref a)] [])) := fun t_ k_ => castTop (ef__length m a) k_
  have P1 := own_step (C := s₁.setTop (mkF m 1 #[.val (.ref a)] [(.ref a)])) pre0 (by
    intro tt_ kk_
    refine XS.aloadN X0.here hx rfl (hb hby d11_0) rfl rfl ?_
    exact kk_)
  obtain ⟨T2, X2, e2, st2⟩ := getF X0 hx hZ hown (host := "") (Or.inl (hw _ (List.mem_of_getElem? (i := 28) rfl))) Via.refl e0 Fv (g := (mkF m 1 #[.val (.ref a)] [(.ref a)])) rfl rfl (hb hby d11_1)
  have P3 := own_step (C := T2.setTop (mkF m 4 #[.val (.ref a)] [(.ref b)])) P1 (fun t_ k_ => st2 t_ k_)
  obtain ⟨cl4, Ar4, q4, S4, M4, H4, G4⟩ := id Vb
  have P5 := own_step (C := T2.setTop (mkF m 5 #[.val (.ref a)] [(.int z)])) P3 (by
    intro tt_ kk_
    refine X2.arraylength hx (by rw [e2]; exact Ar4.1) (State.isArrayOf_alike hZ.alike Ar4.2.1) (g := (mkF m 4 #[.val (.ref a)] [(.ref b)])) rfl rfl (hb hby d11_4) _ ?_
    rw [len_of S4 M4]
    exact kk_)
  have P6 := own_step (C := T2.setTop (mkF m 6 #[.val (.ref a)] [(.ref a), (.int z)])) P5 (by
    intro tt_ kk_
    refine XS.aloadN X2.here hx rfl (hb hby d11_5) rfl rfl ?_
    exact kk_)
  obtain ⟨cq7, kq7, q7a, q7b, q7c⟩ := isOf hZ e2 Ea
  obtain ⟨_, _, ⟨T7, L7, k7, n7⟩, -, X7, ⟨Lc7, hQ7, l7, y7, z7⟩, st7⟩ := X2.virtualBack hx (y := (⟨"java/lang/String", "coder", "()B"⟩ : MethodName)) (z := (⟨"java/lang/String", "coder", "()B"⟩ : MethodName)) hown (mvT hZ (hw _ (List.mem_of_getElem? (i := 56) rfl))) (mvT hZ (hw _ (List.mem_of_getElem? (i := 57) rfl))) (notFace_of_selects (args := #[]) (mvT hZ (hw _ (List.mem_of_getElem? (i := 59) rfl)))) (mvT hZ (hw _ (List.mem_of_getElem? (i := 59) rfl))) (mvT hZ (hw _ (List.mem_of_getElem? (i := 58) rfl))) (by decide) (backOf (W := 1) (rm_coder0 l Z a0 hw [] a cs h0 n0 Z0 O Scs hcs Fc) hZ (hw _ (List.mem_of_getElem? (i := 60) rfl)) (hw _ (List.mem_of_getElem? (i := 8) rfl)) (by decide) (by decide)) q7a q7c (g := (mkF m 6 #[.val (.ref a)] [(.ref a), (.int z)])) rfl (by rw [hml]; rfl) (Steps.refl _) (argsL := []) (rest := [(.int z)]) (lenOf pd0 rfl) rfl (by show 2 * 0 + _ ≤ _; exact Nat.le_of_eq rfl) (hb hby d11_6) (fun _ _ => ⟨rfl, e2, (by decide : 0 + 0 ≤ _), (by decide : 0 + 0 ≤ _)⟩)
  dsimp only [Pt.U, Pt.locs, Pt.cells, Pt.slots] at X7 l7 y7 z7 st7 hQ7
  subst l7 y7 z7
  obtain ⟨rfl, N7q, e7⟩ := hQ7
  have N7 := Fr.app N0 N7q
  have P8 := own_step (C := T7.setTop (mkF m 9 #[.val (.ref a)] [(.int (0 : Int32)), (.int z)])) P6 (fun t_ k_ => st7.trans k_)
  have P9 := own_step (C := T7.setTop (mkF m 10 #[.val (.ref a)] [(.int (z >>> ((0 : Int32) &&& 31)))])) P8 (by
    intro tt_ kk_
    refine XS.ishr X7.here hx rfl (hb hby d11_9) rfl ?_
    exact kk_)
  obtain ⟨fs, hr, hrun, hended, hW, hsame⟩ := X7.leave (v := some (.int (z >>> ((0 : Int32) &&& 31)))) (fun h => by rw [Bd.returns] at h; cases h)
  refine ⟨_, _, P9 _ ?_, hrun, hended, _, _, rfl, ?_, ⟨_, rfl⟩, hW, hsame.mono (by decide) (by decide)⟩
  · exact retI X7 hx Bd.returns (hb hby d11_10) hr
  · show Q_length Z _ _ _ _ _ _ h0 n0 _ T7.heap _
    rw [e7]
    exact ⟨by rw [own_shr0], N7, rfl⟩
theorem pd1 : parseMethodDescriptor "()I" = some ⟨[], some .int⟩ := by decide +kernel
theorem d10_0 : decode prog_36_method_3_code 0 = .ok (.lconst 0, 1) := by decide +kernel
theorem d10_1 : decode prog_36_method_3_code 1 = .ok (.lstore_n 2, 1) := by decide +kernel
theorem d10_2 : decode prog_36_method_3_code 2 = .ok (.iconst 0, 1) := by decide +kernel
theorem d10_3 : decode prog_36_method_3_code 3 = .ok (.istore 4, 2) := by decide +kernel
theorem d10_5 : decode prog_36_method_3_code 5 = .ok (.iload 4, 2) := by decide +kernel
theorem d10_7 : decode prog_36_method_3_code 7 = .ok (.aload_n 0, 1) := by decide +kernel
theorem d10_8 : decode prog_36_method_3_code 8 = .ok (.invokevirtual 43, 3) := by decide +kernel
theorem d10_11 : decode prog_36_method_3_code 11 = .ok (.if_icmp .ge 62, 3) := by decide +kernel
theorem d10_73 : decode prog_36_method_3_code 73 = .ok (.lload_n 2, 1) := by decide +kernel
theorem d10_74 : decode prog_36_method_3_code 74 = .ok (.lreturn, 1) := by decide +kernel
theorem ef__bits0_0 (m : MethodId) (x0 : Addr) (x1 : Int32) : entryFrame m #[(.ref x0), (.int x1)] 6 = mkF m 0 #[.val (.ref x0), .val (.int x1), .unset, .unset, .unset, .unset] [] := by first | (simp [entryFrame, mkF, argsToLocals, Value.category]; done) | rfl
def Q_bits0_0 (Z : State) (sa : Addr) (sb : Addr) (sk : ClassId) (fm : Value) (cs : Int32) (h0 : Heap) (n0 : Nat) (v_ : Option Value) (h : Heap) (L_ : List Loc) : Prop := v_ = some (.long (0 : Int64)) ∧ Fr n0 L_ ∧ h = h0
theorem pn1 : plainName "com/example/gatehouse/gatehouse/pattern/NameShape" = true := by first | (simp [plainName, overriddenIn]; done) | decide +kernel
set_option maxRecDepth 65536 in
set_option maxHeartbeats 40000000 in
theorem rm_bits0_0 (l : Launch) (Z : State) (a0 : Array Value) (hw : ∀ d ∈ tables_1, d.before a0 Z = true) (ws : List Jvm.Cond) (sa : Addr) (sb : Addr) (sk : ClassId) (fm : Value) (cs : Int32) (h0 : Heap) (n0 : Nat) (Z0 : n0 ≤ h0.size) (O : Old Z n0 h0) (Scs : Sta Z Z.heap "java/lang/String" "COMPACT_STRINGS" "Z" (.int cs)) (hcs : ¬ (cs = (0 : Int32))) (Sfm : Sta Z Z.heap "jdk/internal/util/Preconditions" "SIOOBE_FORMATTER" "Ljava/util/function/BiFunction;" fm) (hfm : fm.category = 1) (Es : Exa Z h0 sa "java/lang/String") (Fsc : Fld Z h0 sa "java/lang/String" "coder" "B" (.int (0 : Int32))) (Fsv : Fld Z h0 sa "java/lang/String" "value" "[B" (.ref sb)) (Vs : Arv Z h0 sb sk .byte (0 : Int32) [] (.int 0)) :
    MetFree l (⟨"com/example/gatehouse/gatehouse/pattern/NameShape", "bits", "(Ljava/lang/String;I)J"⟩ : MethodName) (head1 (Jvm.Cond.code (⟨"com/example/gatehouse/gatehouse/pattern/NameShape", "bits", "(Ljava/lang/String;I)J"⟩ : MethodName) prog_36_method_3_code 6 (some .long) :: ws) ({ frames := 2, cells := 0, slots := 0, locals := 26 } : Room)) (fun a_ U_ => a_ = #[(.ref sa), (.int (0 : Int32))] ∧ Z.Warmed39 U_.vm ∧ U_.heap = h0) (fun _ _ _ _ _ => True) (fun _ U_ o_ V_ => ∃ v_ L_, o_ = .returned v_ ∧ Q_bits0_0 Z sa sb sk fm cs h0 n0 v_ V_.heap L_ ∧ FrameEnd U_ o_ V_ L_ ({ frames := 2, cells := 0, slots := 0, locals := 26 } : Room).cells ({ frames := 2, cells := 0, slots := 0, locals := 26 } : Room).slots) := by
  refine MetFree.of_bodySF (plainFor_of_name pn1) hisR ?_
  intro p e s m args below meth c s₁ Bd hml0 hP hK
  obtain ⟨rfl, hZ, hh⟩ := hP
  have hx := Bd.exec
  have hby := Bd.bytes
  have hml : c.maxLocals = 6 := hml0
  have hown : s.vm.findClass "com/example/gatehouse/gatehouse/pattern/NameShape" = some m.cls := findClass_of_methodNamed Bd.named
  have hnm := (name_of_methodNamed Bd.named Bd.method).1
  have X0 : Stand p l e ({ frames := 2, cells := 0, slots := 0, locals := 26 } : Room) s m #[(.ref sa), (.int (0 : Int32))] below meth c s₁ [] 0 0 := Stand.of_body Bd
  have e0 : s₁.heap = h0 := by rw [← hh, Bd.state]; rfl
  have N0 := Fr.nil n0
  have pre0 : own_Go p e below (s₁.setTop (entryFrame m #[(.ref sa), (.int (0 : Int32))] 6)) (s₁.setTop (mkF m 0 #[.val (.ref sa), .val (.int (0 : Int32)), .unset, .unset, .unset, .unset] [])) := fun t_ k_ => castTop (ef__bits0_0 m sa (0 : Int32)) k_
  have P1 := own_step (C := s₁.setTop (mkF m 8 #[.val (.ref sa), .val (.int (0 : Int32)), .val (.long (0 : Int64)), .second, .val (.int (0 : Int32)), .unset] [(.ref sa), (.int (0 : Int32))])) pre0 (by
    intro tt_ kk_
    refine XS.lconst X0.here hx rfl (hb hby d10_0) ?_
    refine XS.lstoreN X0.here hx rfl (hb hby d10_1) rfl (l' := #[.val (.ref sa), .val (.int (0 : Int32)), .val (.long (0 : Int64)), .second, .unset, .unset]) rfl ?_
    refine XS.iconst X0.here hx rfl (hb hby d10_2) ?_
    refine XS.istore X0.here hx rfl (hb hby d10_3) rfl (l' := #[.val (.ref sa), .val (.int (0 : Int32)), .val (.long (0 : Int64)), .second, .val (.int (0 : Int32)), .unset]) rfl ?_
    refine XS.iload X0.here hx rfl (hb hby d10_5) rfl ?_
    refine XS.aloadN X0.here hx rfl (hb hby d10_7) rfl rfl ?_
    exact kk_)
  obtain ⟨cq2, kq2, q2a, q2b, q2c⟩ := isOf hZ e0 Es
  obtain ⟨_, _, ⟨T2, L2, k2, n2⟩, -, X2, ⟨Lc2, hQ2, l2, y2, z2⟩, st2⟩ := X0.virtualBack hx (y := (⟨"java/lang/String", "length", "()I"⟩ : MethodName)) (z := (⟨"java/lang/String", "length", "()I"⟩ : MethodName)) hown (mvT hZ (hw _ (List.mem_of_getElem? (i := 51) rfl))) (mvT hZ (hw _ (List.mem_of_getElem? (i := 52) rfl))) (notFace_of_selects (args := #[]) (mvT hZ (hw _ (List.mem_of_getElem? (i := 54) rfl)))) (mvT hZ (hw _ (List.mem_of_getElem? (i := 54) rfl))) (mvT hZ (hw _ (List.mem_of_getElem? (i := 53) rfl))) (by decide) (backOf (W := 1) (rm_length l Z a0 hw [] sa sb sk (0 : Int32) _ cs h0 n0 Z0 O Scs hcs Es Fsc Fsv Vs) hZ (hw _ (List.mem_of_getElem? (i := 55) rfl)) (hw _ (List.mem_of_getElem? (i := 8) rfl)) (by decide) (by decide)) q2a q2c (g := (mkF m 8 #[.val (.ref sa), .val (.int (0 : Int32)), .val (.long (0 : Int64)), .second, .val (.int (0 : Int32)), .unset] [(.ref sa), (.int (0 : Int32))])) rfl (by rw [hml]; rfl) (Steps.refl _) (argsL := []) (rest := [(.int (0 : Int32))]) (lenOf pd1 rfl) rfl (by show 2 * 0 + _ ≤ _; exact Nat.le_of_eq rfl) (hb hby d10_8) (fun _ _ => ⟨rfl, e0, (by decide : 0 + 0 ≤ _), (by decide : 0 + 0 ≤ _)⟩)
  dsimp only [Pt.U, Pt.locs, Pt.cells, Pt.slots] at X2 l2 y2 z2 st2 hQ2
  subst l2 y2 z2
  obtain ⟨rfl, N2q, e2⟩ := hQ2
  have N2 := Fr.app N0 N2q
  have P3 := own_step (C := T2.setTop (mkF m 11 #[.val (.ref sa), .val (.int (0 : Int32)), .val (.long (0 : Int64)), .second, .val (.int (0 : Int32)), .unset] [(.int (0 : Int32)), (.int (0 : Int32))])) P1 (fun t_ k_ => st2.trans k_)
  have P4 := own_step (C := T2.setTop (mkF m 73 #[.val (.ref sa), .val (.int (0 : Int32)), .val (.long (0 : Int64)), .second, .val (.int (0 : Int32)), .unset] [])) P3 (by
    intro tt_ kk_
    refine XS.icmpYes X2.here hx rfl (pc0 := 11) (pc' := 73) rfl (hb hby d10_11) rfl (flt (by decide : ¬ ((0 : Int32) < (0 : Int32)))).2.1 (by decide) (by decide) ?_
    exact kk_)
  have P5 := own_step (C := T2.setTop (mkF m 74 #[.val (.ref sa), .val (.int (0 : Int32)), .val (.long (0 : Int64)), .second, .val (.int (0 : Int32)), .unset] [(.long (0 : Int64))])) P4 (by
    intro tt_ kk_
    refine XS.lloadN X2.here hx rfl (hb hby d10_73) rfl ?_
    exact kk_)
  obtain ⟨fs, hr, hrun, hended, hW, hsame⟩ := X2.leave (v := some (.long (0 : Int64))) (fun h => by rw [Bd.returns] at h; cases h)
  refine ⟨_, _, P5 _ ?_, hrun, hended, _, _, rfl, ?_, ⟨_, rfl⟩, hW, hsame.mono (by decide) (by decide)⟩
  · exact retOut X2 hx Bd.returns rfl (Or.inr (Or.inl ⟨rfl, rfl, _, rfl⟩)) (hb hby d10_74) hr
  · show Q_bits0_0 Z _ _ _ _ _ h0 n0 _ T2.heap _
    rw [e2]
    exact ⟨rfl, N2, rfl⟩
theorem ef__bits0_64 (m : MethodId) (x0 : Addr) (x1 : Int32) : entryFrame m #[(.ref x0), (.int x1)] 6 = mkF m 0 #[.val (.ref x0), .val (.int x1), .unset, .unset, .unset, .unset] [] := by first | (simp [entryFrame, mkF, argsToLocals, Value.category]; done) | rfl
def Q_bits0_64 (Z : State) (sa : Addr) (sb : Addr) (sk : ClassId) (fm : Value) (cs : Int32) (h0 : Heap) (n0 : Nat) (v_ : Option Value) (h : Heap) (L_ : List Loc) : Prop := v_ = some (.long (0 : Int64)) ∧ Fr n0 L_ ∧ h = h0
set_option maxRecDepth 65536 in
set_option maxHeartbeats 40000000 in
theorem rm_bits0_64 (l : Launch) (Z : State) (a0 : Array Value) (hw : ∀ d ∈ tables_1, d.before a0 Z = true) (ws : List Jvm.Cond) (sa : Addr) (sb : Addr) (sk : ClassId) (fm : Value) (cs : Int32) (h0 : Heap) (n0 : Nat) (Z0 : n0 ≤ h0.size) (O : Old Z n0 h0) (Scs : Sta Z Z.heap "java/lang/String" "COMPACT_STRINGS" "Z" (.int cs)) (hcs : ¬ (cs = (0 : Int32))) (Sfm : Sta Z Z.heap "jdk/internal/util/Preconditions" "SIOOBE_FORMATTER" "Ljava/util/function/BiFunction;" fm) (hfm : fm.category = 1) (Es : Exa Z h0 sa "java/lang/String") (Fsc : Fld Z h0 sa "java/lang/String" "coder" "B" (.int (0 : Int32))) (Fsv : Fld Z h0 sa "java/lang/String" "value" "[B" (.ref sb)) (Vs : Arv Z h0 sb sk .byte (0 : Int32) [] (.int 0)) :
    MetFree l (⟨"com/example/gatehouse/gatehouse/pattern/NameShape", "bits", "(Ljava/lang/String;I)J"⟩ : MethodName) (head1 (Jvm.Cond.code (⟨"com/example/gatehouse/gatehouse/pattern/NameShape", "bits", "(Ljava/lang/String;I)J"⟩ : MethodName) prog_36_method_3_code 6 (some .long) :: ws) ({ frames := 2, cells := 0, slots := 0, locals := 26 } : Room)) (fun a_ U_ => a_ = #[(.ref sa), (.int (64 : Int32))] ∧ Z.Warmed39 U_.vm ∧ U_.heap = h0) (fun _ _ _ _ _ => True) (fun _ U_ o_ V_ => ∃ v_ L_, o_ = .returned v_ ∧ Q_bits0_64 Z sa sb sk fm cs h0 n0 v_ V_.heap L_ ∧ FrameEnd U_ o_ V_ L_ ({ frames := 2, cells := 0, slots := 0, locals := 26 } : Room).cells ({ frames := 2, cells := 0, slots := 0, locals := 26 } : Room).slots) := by
  refine MetFree.of_bodySF (plainFor_of_name pn1) hisR ?_
  intro p e s m args below meth c s₁ Bd hml0 hP hK
  obtain ⟨rfl, hZ, hh⟩ := hP
  have hx := Bd.exec
  have hby := Bd.bytes
  have hml : c.maxLocals = 6 := hml0
  have hown : s.vm.findClass "com/example/gatehouse/gatehouse/pattern/NameShape" = some m.cls := findClass_of_methodNamed Bd.named
  have hnm := (name_of_methodNamed Bd.named Bd.method).1
  have X0 : Stand p l e ({ frames := 2, cells := 0, slots := 0, locals := 26 } : Room) s m #[(.ref sa), (.int (64 : Int32))] below meth c s₁ [] 0 0 := Stand.of_body Bd
  have e0 : s₁.heap = h0 := by rw [← hh, Bd.state]; rfl
  have N0 := Fr.nil n0
  have pre0 : own_Go p e below (s₁.setTop (entryFrame m #[(.ref sa), (.int (64 : Int32))] 6)) (s₁.setTop (mkF m 0 #[.val (.ref sa), .val (.int (64 : Int32)), .unset, .unset, .unset, .unset] [])) := fun t_ k_ => castTop (ef__bits0_64 m sa (64 : Int32)) k_
  have P1 := own_step (C := s₁.setTop (mkF m 8 #[.val (.ref sa), .val (.int (64 : Int32)), .val (.long (0 : Int64)), .second, .val (.int (0 : Int32)), .unset] [(.ref sa), (.int (0 : Int32))])) pre0 (by
    intro tt_ kk_
    refine XS.lconst X0.here hx rfl (hb hby d10_0) ?_
    refine XS.lstoreN X0.here hx rfl (hb hby d10_1) rfl (l' := #[.val (.ref sa), .val (.int (64 : Int32)), .val (.long (0 : Int64)), .second, .unset, .unset]) rfl ?_
    refine XS.iconst X0.here hx rfl (hb hby d10_2) ?_
    refine XS.istore X0.here hx rfl (hb hby d10_3) rfl (l' := #[.val (.ref sa), .val (.int (64 : Int32)), .val (.long (0 : Int64)), .second, .val (.int (0 : Int32)), .unset]) rfl ?_
    refine XS.iload X0.here hx rfl (hb hby d10_5) rfl ?_
    refine XS.aloadN X0.here hx rfl (hb hby d10_7) rfl rfl ?_
    exact kk_)
  obtain ⟨cq2, kq2, q2a, q2b, q2c⟩ := isOf hZ e0 Es
  obtain ⟨_, _, ⟨T2, L2, k2, n2⟩, -, X2, ⟨Lc2, hQ2, l2, y2, z2⟩, st2⟩ := X0.virtualBack hx (y := (⟨"java/lang/String", "length", "()I"⟩ : MethodName)) (z := (⟨"java/lang/String", "length", "()I"⟩ : MethodName)) hown (mvT hZ (hw _ (List.mem_of_getElem? (i := 51) rfl))) (mvT hZ (hw _ (List.mem_of_getElem? (i := 52) rfl))) (notFace_of_selects (args := #[]) (mvT hZ (hw _ (List.mem_of_getElem? (i := 54) rfl)))) (mvT hZ (hw _ (List.mem_of_getElem? (i := 54) rfl))) (mvT hZ (hw _ (List.mem_of_getElem? (i := 53) rfl))) (by decide) (backOf (W := 1) (rm_length l Z a0 hw [] sa sb sk (0 : Int32) _ cs h0 n0 Z0 O Scs hcs Es Fsc Fsv Vs) hZ (hw _ (List.mem_of_getElem? (i := 55) rfl)) (hw _ (List.mem_of_getElem? (i := 8) rfl)) (by decide) (by decide)) q2a q2c (g := (mkF m 8 #[.val (.ref sa), .val (.int (64 : Int32)), .val (.long (0 : Int64)), .second, .val (.int (0 : Int32)), .unset] [(.ref sa), (.int (0 : Int32))])) rfl (by rw [hml]; rfl) (Steps.refl _) (argsL := []) (rest := [(.int (0 : Int32))]) (lenOf pd1 rfl) rfl (by show 2 * 0 + _ ≤ _; exact Nat.le_of_eq rfl) (hb hby d10_8) (fun _ _ => ⟨rfl, e0, (by decide : 0 + 0 ≤ _), (by decide : 0 + 0 ≤ _)⟩)
  dsimp only [Pt.U, Pt.locs, Pt.cells, Pt.slots] at X2 l2 y2 z2 st2 hQ2
  subst l2 y2 z2
  obtain ⟨rfl, N2q, e2⟩ := hQ2
  have N2 := Fr.app N0 N2q
  have P3 := own_step (C := T2.setTop (mkF m 11 #[.val (.ref sa), .val (.int (64 : Int32)), .val (.long (0 : Int64)), .second, .val (.int (0 : Int32)), .unset] [(.int (0 : Int32)), (.int (0 : Int32))])) P1 (fun t_ k_ => st2.trans k_)
  have P4 := own_step (C := T2.setTop (mkF m 73 #[.val (.ref sa), .val (.int (64 : Int32)), .val (.long (0 : Int64)), .second, .val (.int (0 : Int32)), .unset] [])) P3 (by
    intro tt_ kk_
    refine XS.icmpYes X2.here hx rfl (pc0 := 11) (pc' := 73) rfl (hb hby d10_11) rfl (flt (by decide : ¬ ((0 : Int32) < (0 : Int32)))).2.1 (by decide) (by decide) ?_
    exact kk_)
  have P5 := own_step (C := T2.setTop (mkF m 74 #[.val (.ref sa), .val (.int (64 : Int32)), .val (.long (0 : Int64)), .second, .val (.int (0 : Int32)), .unset] [(.long (0 : Int64))])) P4 (by
    intro tt_ kk_
    refine XS.lloadN X2.here hx rfl (hb hby d10_73) rfl ?_
    exact kk_)
  obtain ⟨fs, hr, hrun, hended, hW, hsame⟩ := X2.leave (v := some (.long (0 : Int64))) (fun h => by rw [Bd.returns] at h; cases h)
  refine ⟨_, _, P5 _ ?_, hrun, hended, _, _, rfl, ?_, ⟨_, rfl⟩, hW, hsame.mono (by decide) (by decide)⟩
  · exact retOut X2 hx Bd.returns rfl (Or.inr (Or.inl ⟨rfl, rfl, _, rfl⟩)) (hb hby d10_74) hr
  · show Q_bits0_64 Z _ _ _ _ _ h0 n0 _ T2.heap _
    rw [e2]
    exact ⟨rfl, N2, rfl⟩
theorem d13_0 : decode prog_36_method_2_code 0 = .ok (.aload_n 0, 1) := by decide +kernel
theorem d13_1 : decode prog_36_method_2_code 1 = .ok (.invokespecial 20, 3) := by decide +kernel
theorem d13_4 : decode prog_36_method_2_code 4 = .ok (.aload_n 0, 1) := by decide +kernel
theorem d13_5 : decode prog_36_method_2_code 5 = .ok (.aload_n 1, 1) := by decide +kernel
theorem d13_6 : decode prog_36_method_2_code 6 = .ok (.putfield 25, 3) := by decide +kernel
theorem d13_9 : decode prog_36_method_2_code 9 = .ok (.aload_n 0, 1) := by decide +kernel
theorem d13_10 : decode prog_36_method_2_code 10 = .ok (.lload_n 2, 1) := by decide +kernel
theorem d13_11 : decode prog_36_method_2_code 11 = .ok (.putfield 29, 3) := by decide +kernel
theorem d13_14 : decode prog_36_method_2_code 14 = .ok (.aload_n 0, 1) := by decide +kernel
theorem d13_15 : decode prog_36_method_2_code 15 = .ok (.lload 4, 2) := by decide +kernel
theorem d13_17 : decode prog_36_method_2_code 17 = .ok (.putfield 33, 3) := by decide +kernel
theorem d13_20 : decode prog_36_method_2_code 20 = .ok (.aload_n 0, 1) := by decide +kernel
theorem d13_21 : decode prog_36_method_2_code 21 = .ok (.iload 6, 2) := by decide +kernel
theorem d13_23 : decode prog_36_method_2_code 23 = .ok (.putfield 36, 3) := by decide +kernel
theorem d13_26 : decode prog_36_method_2_code 26 = .ok (.aload_n 0, 1) := by decide +kernel
theorem d13_27 : decode prog_36_method_2_code 27 = .ok (.iload 7, 2) := by decide +kernel
theorem d13_29 : decode prog_36_method_2_code 29 = .ok (.putfield 40, 3) := by decide +kernel
theorem d13_32 : decode prog_36_method_2_code 32 = .ok (.return_, 1) := by decide +kernel
theorem ef__ns0 (m : MethodId) (x0 : Addr) (x1 : Addr) (x2 : Int64) (x3 : Int64) (x4 : Int32) (x5 : Int32) : entryFrame m #[(.ref x0), (.ref x1), (.long x2), (.long x3), (.int x4), (.int x5)] 8 = mkF m 0 #[.val (.ref x0), .val (.ref x1), .val (.long x2), .second, .val (.long x3), .second, .val (.int x4), .val (.int x5)] [] := by first | (simp [entryFrame, mkF, argsToLocals, Value.category]; done) | rfl
def Q_ns0 (Z : State) (a : Addr) (bg : Addr) (lo : Int64) (hi : Int64) (le : Int32) (mo : Int32) (h0 : Heap) (n0 : Nat) (v_ : Option Value) (h : Heap) (L_ : List Loc) : Prop := v_ = none ∧ Fr n0 L_ ∧ Keep h0 h [a] ∧ Exa Z h a "com/example/gatehouse/gatehouse/pattern/NameShape" ∧ Fld Z h a "com/example/gatehouse/gatehouse/pattern/NameShape" "low" "J" (.long lo) ∧ Fld Z h a "com/example/gatehouse/gatehouse/pattern/NameShape" "high" "J" (.long hi)
set_option maxRecDepth 65536 in
set_option maxHeartbeats 40000000 in
theorem rm_ns0 (l : Launch) (Z : State) (a0 : Array Value) (hw : ∀ d ∈ tables_1, d.before a0 Z = true) (ws : List Jvm.Cond) (a : Addr) (bg : Addr) (lo : Int64) (hi : Int64) (le : Int32) (mo : Int32) (h0 : Heap) (n0 : Nat) (Z0 : n0 ≤ h0.size) (O : Old Z n0 h0) (Ea : Exa Z h0 a "com/example/gatehouse/gatehouse/pattern/NameShape") (Fbegin : Fld Z h0 a "com/example/gatehouse/gatehouse/pattern/NameShape" "begin" "Ljava/lang/String;" .null) (Flow : Fld Z h0 a "com/example/gatehouse/gatehouse/pattern/NameShape" "low" "J" (.long (0 : Int64))) (Fhigh : Fld Z h0 a "com/example/gatehouse/gatehouse/pattern/NameShape" "high" "J" (.long (0 : Int64))) (Fleast : Fld Z h0 a "com/example/gatehouse/gatehouse/pattern/NameShape" "least" "I" (.int (0 : Int32))) (Fmost : Fld Z h0 a "com/example/gatehouse/gatehouse/pattern/NameShape" "most" "I" (.int (0 : Int32))) (ga : n0 ≤ a) :
    MetFree l (⟨"com/example/gatehouse/gatehouse/pattern/NameShape", "<init>", "(Ljava/lang/String;JJII)V"⟩ : MethodName) (head1 (Jvm.Cond.code (⟨"com/example/gatehouse/gatehouse/pattern/NameShape", "<init>", "(Ljava/lang/String;JJII)V"⟩ : MethodName) prog_36_method_2_code 8 none :: ws) ({ frames := 1, cells := 0, slots := 0, locals := 12 } : Room)) (fun a_ U_ => a_ = #[(.ref a), (.ref bg), (.long lo), (.long hi), (.int le), (.int mo)] ∧ Z.Warmed39 U_.vm ∧ U_.heap = h0) (fun _ _ _ _ _ => True) (fun _ U_ o_ V_ => ∃ v_ L_, o_ = .returned v_ ∧ Q_ns0 Z a bg lo hi le mo h0 n0 v_ V_.heap L_ ∧ FrameEnd U_ o_ V_ L_ ({ frames := 1, cells := 0, slots := 0, locals := 12 } : Room).cells ({ frames := 1, cells := 0, slots := 0, locals := 12 } : Room).slots) := by
  refine MetFree.of_bodySF (plainFor_of_name pn1) hisR ?_
  intro p e s m args below meth c s₁ Bd hml0 hP hK
  obtain ⟨rfl, hZ, hh⟩ := hP
  have hx := Bd.exec
  have hby := Bd.bytes
  have hml : c.maxLocals = 8 := hml0
  have hown : s.vm.findClass "com/example/gatehouse/gatehouse/pattern/NameShape" = some m.cls := findClass_of_methodNamed Bd.named
  have hnm := (name_of_methodNamed Bd.named Bd.method).1
  have X0 : Stand p l e ({ frames := 1, cells := 0, slots := 0, locals := 12 } : Room) s m #[(.ref a), (.ref bg), (.long lo), (.long hi), (.int le), (.int mo)] below meth c s₁ [] 0 0 := Stand.of_body Bd
  have e0 : s₁.heap = h0 := by rw [← hh, Bd.state]; rfl
  have N0 := Fr.nil n0
  have pre0 : own_Go p e below (s₁.setTop (entryFrame m #[(.ref a), (.ref bg), (.long lo), (.long hi), (.int le), (.int mo)] 8)) (s₁.setTop (mkF m 0 #[.val (.ref a), .val (.ref bg), .val (.long lo), .second, .val (.long hi), .second, .val (.int le), .val (.int mo)] [])) := fun t_ k_ => castTop (ef__ns0 m a bg lo hi le mo) k_
  have P1 := own_step (C := s₁.setTop (mkF m 1 #[.val (.ref a), .val (.ref bg), .val (.long lo), .second, .val (.long hi), .second, .val (.int le), .val (.int mo)] [(.ref a)])) pre0 (by
    intro tt_ kk_
    refine XS.aloadN X0.here hx rfl (hb hby d13_0) rfl rfl ?_
    exact kk_)
  obtain ⟨T2, X2, e2, st2⟩ := initO X0 hx hZ hown (hw _ (List.mem_of_getElem? (i := 64) rfl)) (hw _ (List.mem_of_getElem? (i := 26) rfl)) (hw _ (List.mem_of_getElem? (i := 27) rfl)) e0 (g := (mkF m 1 #[.val (.ref a), .val (.ref bg), .val (.long lo), .second, .val (.long hi), .second, .val (.int le), .val (.int mo)] [(.ref a)])) rfl (by rw [hml]; rfl) rfl (hb hby d13_1) (by decide) (W := 0) (by show 2 * 0 + _ ≤ _; exact Nat.le_of_eq rfl) (by decide)
  have P3 := own_step (C := T2.setTop (mkF m 4 #[.val (.ref a), .val (.ref bg), .val (.long lo), .second, .val (.long hi), .second, .val (.int le), .val (.int mo)] [])) P1 (fun t_ k_ => st2 t_ k_)
  have P4 := own_step (C := T2.setTop (mkF m 6 #[.val (.ref a), .val (.ref bg), .val (.long lo), .second, .val (.long hi), .second, .val (.int le), .val (.int mo)] [(.ref bg), (.ref a)])) P3 (by
    intro tt_ kk_
    refine XS.aloadN X2.here hx rfl (hb hby d13_4) rfl rfl ?_
    refine XS.aloadN X2.here hx rfl (hb hby d13_5) rfl rfl ?_
    exact kk_)
  obtain ⟨T5, h5, X5, e5, W5, st5⟩ := putF X2 hx hZ hown (host := "") (Or.inl (hw _ (List.mem_of_getElem? (i := 65) rfl))) Via.refl e2 Fbegin Ea (Or.inr ⟨(hw _ (List.mem_of_getElem? (i := 66) rfl)), rfl, hnm⟩) (hw _ (List.mem_of_getElem? (i := 33) rfl)) (ty := (.object "java/lang/String")) (by decide) rfl rfl (g := (mkF m 6 #[.val (.ref a), .val (.ref bg), .val (.long lo), .second, .val (.long hi), .second, .val (.int le), .val (.int mo)] [(.ref bg), (.ref a)])) rfl rfl (hb hby d13_6)
  have f6 := O.wr W5 ga
  have f7 := Ea.wr W5
  have f8 := (Keep.refl h0 [a]).wr W5 (Or.inl (List.mem_of_getElem? (i := 0) rfl))
  have f9 := Fbegin.same W5
  have f10 := Flow.other W5 (Or.inr (slot_ne (Or.inr (hw _ (List.mem_of_getElem? (i := 68) rfl))) (Or.inr (hw _ (List.mem_of_getElem? (i := 66) rfl))) (by decide) (t := .long) (t' := (.object "java/lang/String")) (by decide) (by decide)))
  have f11 := Fhigh.other W5 (Or.inr (slot_ne (Or.inr (hw _ (List.mem_of_getElem? (i := 70) rfl))) (Or.inr (hw _ (List.mem_of_getElem? (i := 66) rfl))) (by decide) (t := .long) (t' := (.object "java/lang/String")) (by decide) (by decide)))
  have f12 := Fleast.other W5 (Or.inr (slot_ne (Or.inr (hw _ (List.mem_of_getElem? (i := 72) rfl))) (Or.inr (hw _ (List.mem_of_getElem? (i := 66) rfl))) (by decide) (t := .int) (t' := (.object "java/lang/String")) (by decide) (by decide)))
  have f13 := Fmost.other W5 (Or.inr (slot_ne (Or.inr (hw _ (List.mem_of_getElem? (i := 74) rfl))) (Or.inr (hw _ (List.mem_of_getElem? (i := 66) rfl))) (by decide) (t := .int) (t' := (.object "java/lang/String")) (by decide) (by decide)))
  have Z14 : n0 ≤ h5.size := Nat.le_trans Z0 (Keep.of_wr W5).1
  have N5 := Fr.snoc X5 N0 ga
  have P15 := own_step (C := T5.setTop (mkF m 9 #[.val (.ref a), .val (.ref bg), .val (.long lo), .second, .val (.long hi), .second, .val (.int le), .val (.int mo)] [])) P4 (fun t_ k_ => st5 t_ k_)
  have P16 := own_step (C := T5.setTop (mkF m 11 #[.val (.ref a), .val (.ref bg), .val (.long lo), .second, .val (.long hi), .second, .val (.int le), .val (.int mo)] [(.long lo), (.ref a)])) P15 (by
    intro tt_ kk_
    refine XS.aloadN X5.here hx rfl (hb hby d13_9) rfl rfl ?_
    refine XS.lloadN X5.here hx rfl (hb hby d13_10) rfl ?_
    exact kk_)
  obtain ⟨T17, h17, X17, e17, W17, st17⟩ := putF X5 hx hZ hown (host := "") (Or.inl (hw _ (List.mem_of_getElem? (i := 67) rfl))) Via.refl e5 f10 f7 (Or.inr ⟨(hw _ (List.mem_of_getElem? (i := 68) rfl)), rfl, hnm⟩) (hw _ (List.mem_of_getElem? (i := 33) rfl)) (ty := .long) (by decide) rfl rfl (g := (mkF m 11 #[.val (.ref a), .val (.ref bg), .val (.long lo), .second, .val (.long hi), .second, .val (.int le), .val (.int mo)] [(.long lo), (.ref a)])) rfl rfl (hb hby d13_11)
  have f18 := f6.wr W17 ga
  have f19 := f7.wr W17
  have f20 := f8.wr W17 (Or.inl (List.mem_of_getElem? (i := 0) rfl))
  have f21 := f9.other W17 (Or.inr (slot_ne (Or.inr (hw _ (List.mem_of_getElem? (i := 66) rfl))) (Or.inr (hw _ (List.mem_of_getElem? (i := 68) rfl))) (by decide) (t := (.object "java/lang/String")) (t' := .long) (by decide) (by decide)))
  have f22 := f10.same W17
  have f23 := f11.other W17 (Or.inr (slot_ne (Or.inr (hw _ (List.mem_of_getElem? (i := 70) rfl))) (Or.inr (hw _ (List.mem_of_getElem? (i := 68) rfl))) (by decide) (t := .long) (t' := .long) (by decide) (by decide)))
  have f24 := f12.other W17 (Or.inr (slot_ne (Or.inr (hw _ (List.mem_of_getElem? (i := 72) rfl))) (Or.inr (hw _ (List.mem_of_getElem? (i := 68) rfl))) (by decide) (t := .int) (t' := .long) (by decide) (by decide)))
  have f25 := f13.other W17 (Or.inr (slot_ne (Or.inr (hw _ (List.mem_of_getElem? (i := 74) rfl))) (Or.inr (hw _ (List.mem_of_getElem? (i := 68) rfl))) (by decide) (t := .int) (t' := .long) (by decide) (by decide)))
  have Z26 : n0 ≤ h17.size := Nat.le_trans Z14 (Keep.of_wr W17).1
  have N17 := Fr.snoc X17 N5 ga
  have P27 := own_step (C := T17.setTop (mkF m 14 #[.val (.ref a), .val (.ref bg), .val (.long lo), .second, .val (.long hi), .second, .val (.int le), .val (.int mo)] [])) P16 (fun t_ k_ => st17 t_ k_)
  have P28 := own_step (C := T17.setTop (mkF m 17 #[.val (.ref a), .val (.ref bg), .val (.long lo), .second, .val (.long hi), .second, .val (.int le), .val (.int mo)] [(.long hi), (.ref a)])) P27 (by
    intro tt_ kk_
    refine XS.aloadN X17.here hx rfl (hb hby d13_14) rfl rfl ?_
    refine XS.lload X17.here hx rfl (hb hby d13_15) rfl ?_
    exact kk_)
  obtain ⟨T29, h29, X29, e29, W29, st29⟩ := putF X17 hx hZ hown (host := "") (Or.inl (hw _ (List.mem_of_getElem? (i := 69) rfl))) Via.refl e17 f23 f19 (Or.inr ⟨(hw _ (List.mem_of_getElem? (i := 70) rfl)), rfl, hnm⟩) (hw _ (List.mem_of_getElem? (i := 33) rfl)) (ty := .long) (by decide) rfl rfl (g := (mkF m 17 #[.val (.ref a), .val (.ref bg), .val (.long lo), .second, .val (.long hi), .second, .val (.int le), .val (.int mo)] [(.long hi), (.ref a)])) rfl rfl (hb hby d13_17)
  have f30 := f18.wr W29 ga
  have f31 := f19.wr W29
  have f32 := f20.wr W29 (Or.inl (List.mem_of_getElem? (i := 0) rfl))
  have f33 := f21.other W29 (Or.inr (slot_ne (Or.inr (hw _ (List.mem_of_getElem? (i := 66) rfl))) (Or.inr (hw _ (List.mem_of_getElem? (i := 70) rfl))) (by decide) (t := (.object "java/lang/String")) (t' := .long) (by decide) (by decide)))
  have f34 := f22.other W29 (Or.inr (slot_ne (Or.inr (hw _ (List.mem_of_getElem? (i := 68) rfl))) (Or.inr (hw _ (List.mem_of_getElem? (i := 70) rfl))) (by decide) (t := .long) (t' := .long) (by decide) (by decide)))
  have f35 := f23.same W29
  have f36 := f24.other W29 (Or.inr (slot_ne (Or.inr (hw _ (List.mem_of_getElem? (i := 72) rfl))) (Or.inr (hw _ (List.mem_of_getElem? (i := 70) rfl))) (by decide) (t := .int) (t' := .long) (by decide) (by decide)))
  have f37 := f25.other W29 (Or.inr (slot_ne (Or.inr (hw _ (List.mem_of_getElem? (i := 74) rfl))) (Or.inr (hw _ (List.mem_of_getElem? (i := 70) rfl))) (by decide) (t := .int) (t' := .long) (by decide) (by decide)))
  have Z38 : n0 ≤ h29.size := Nat.le_trans Z26 (Keep.of_wr W29).1
  have N29 := Fr.snoc X29 N17 ga
  have P39 := own_step (C := T29.setTop (mkF m 20 #[.val (.ref a), .val (.ref bg), .val (.long lo), .second, .val (.long hi), .second, .val (.int le), .val (.int mo)] [])) P28 (fun t_ k_ => st29 t_ k_)
  have P40 := own_step (C := T29.setTop (mkF m 23 #[.val (.ref a), .val (.ref bg), .val (.long lo), .second, .val (.long hi), .second, .val (.int le), .val (.int mo)] [(.int le), (.ref a)])) P39 (by
    intro tt_ kk_
    refine XS.aloadN X29.here hx rfl (hb hby d13_20) rfl rfl ?_
    refine XS.iload X29.here hx rfl (hb hby d13_21) rfl ?_
    exact kk_)
  obtain ⟨T41, h41, X41, e41, W41, st41⟩ := putF X29 hx hZ hown (host := "") (Or.inl (hw _ (List.mem_of_getElem? (i := 71) rfl))) Via.refl e29 f36 f31 (Or.inr ⟨(hw _ (List.mem_of_getElem? (i := 72) rfl)), rfl, hnm⟩) (hw _ (List.mem_of_getElem? (i := 33) rfl)) (ty := .int) (by decide) rfl rfl (g := (mkF m 23 #[.val (.ref a), .val (.ref bg), .val (.long lo), .second, .val (.long hi), .second, .val (.int le), .val (.int mo)] [(.int le), (.ref a)])) rfl rfl (hb hby d13_23)
  have f42 := f30.wr W41 ga
  have f43 := f31.wr W41
  have f44 := f32.wr W41 (Or.inl (List.mem_of_getElem? (i := 0) rfl))
  have f45 := f33.other W41 (Or.inr (slot_ne (Or.inr (hw _ (List.mem_of_getElem? (i := 66) rfl))) (Or.inr (hw _ (List.mem_of_getElem? (i := 72) rfl))) (by decide) (t := (.object "java/lang/String")) (t' := .int) (by decide) (by decide)))
  have f46 := f34.other W41 (Or.inr (slot_ne (Or.inr (hw _ (List.mem_of_getElem? (i := 68) rfl))) (Or.inr (hw _ (List.mem_of_getElem? (i := 72) rfl))) (by decide) (t := .long) (t' := .int) (by decide) (by decide)))
  have f47 := f35.other W41 (Or.inr (slot_ne (Or.inr (hw _ (List.mem_of_getElem? (i := 70) rfl))) (Or.inr (hw _ (List.mem_of_getElem? (i := 72) rfl))) (by decide) (t := .long) (t' := .int) (by decide) (by decide)))
  have f48 := f36.same W41
  have f49 := f37.other W41 (Or.inr (slot_ne (Or.inr (hw _ (List.mem_of_getElem? (i := 74) rfl))) (Or.inr (hw _ (List.mem_of_getElem? (i := 72) rfl))) (by decide) (t := .int) (t' := .int) (by decide) (by decide)))
  have Z50 : n0 ≤ h41.size := Nat.le_trans Z38 (Keep.of_wr W41).1
  have N41 := Fr.snoc X41 N29 ga
  have P51 := own_step (C := T41.setTop (mkF m 26 #[.val (.ref a), .val (.ref bg), .val (.long lo), .second, .val (.long hi), .second, .val (.int le), .val (.int mo)] [])) P40 (fun t_ k_ => st41 t_ k_)
  have P52 := own_step (C := T41.setTop (mkF m 29 #[.val (.ref a), .val (.ref bg), .val (.long lo), .second, .val (.long hi), .second, .val (.int le), .val (.int mo)] [(.int mo), (.ref a)])) P51 (by
    intro tt_ kk_
    refine XS.aloadN X41.here hx rfl (hb hby d13_26) rfl rfl ?_
    refine XS.iload X41.here hx rfl (hb hby d13_27) rfl ?_
    exact kk_)
  obtain ⟨T53, h53, X53, e53, W53, st53⟩ := putF X41 hx hZ hown (host := "") (Or.inl (hw _ (List.mem_of_getElem? (i := 73) rfl))) Via.refl e41 f49 f43 (Or.inr ⟨(hw _ (List.mem_of_getElem? (i := 74) rfl)), rfl, hnm⟩) (hw _ (List.mem_of_getElem? (i := 33) rfl)) (ty := .int) (by decide) rfl rfl (g := (mkF m 29 #[.val (.ref a), .val (.ref bg), .val (.long lo), .second, .val (.long hi), .second, .val (.int le), .val (.int mo)] [(.int mo), (.ref a)])) rfl rfl (hb hby d13_29)
  have f54 := f42.wr W53 ga
  have f55 := f43.wr W53
  have f56 := f44.wr W53 (Or.inl (List.mem_of_getElem? (i := 0) rfl))
  have f57 := f45.other W53 (Or.inr (slot_ne (Or.inr (hw _ (List.mem_of_getElem? (i := 66) rfl))) (Or.inr (hw _ (List.mem_of_getElem? (i := 74) rfl))) (by decide) (t := (.object "java/lang/String")) (t' := .int) (by decide) (by decide)))
  have f58 := f46.other W53 (Or.inr (slot_ne (Or.inr (hw _ (List.mem_of_getElem? (i := 68) rfl))) (Or.inr (hw _ (List.mem_of_getElem? (i := 74) rfl))) (by decide) (t := .long) (t' := .int) (by decide) (by decide)))
  have f59 := f47.other W53 (Or.inr (slot_ne (Or.inr (hw _ (List.mem_of_getElem? (i := 70) rfl))) (Or.inr (hw _ (List.mem_of_getElem? (i := 74) rfl))) (by decide) (t := .long) (t' := .int) (by decide) (by decide)))
  have f60 := f48.other W53 (Or.inr (slot_ne (Or.inr (hw _ (List.mem_of_getElem? (i := 72) rfl))) (Or.inr (hw _ (List.mem_of_getElem? (i := 74) rfl))) (by decide) (t := .int) (t' := .int) (by decide) (by decide)))
  have f61 := f49.same W53
  have Z62 : n0 ≤ h53.size := Nat.le_trans Z50 (Keep.of_wr W53).1
  have N53 := Fr.snoc X53 N41 ga
  have P63 := own_step (C := T53.setTop (mkF m 32 #[.val (.ref a), .val (.ref bg), .val (.long lo), .second, .val (.long hi), .second, .val (.int le), .val (.int mo)] [])) P52 (fun t_ k_ => st53 t_ k_)
  obtain ⟨fs, hr, hrun, hended, hW, hsame⟩ := X53.leave (v := none) (fun _ => rfl)
  refine ⟨_, _, P63 _ ?_, hrun, hended, _, _, rfl, ?_, ⟨_, rfl⟩, hW, hsame.mono (by decide) (by decide)⟩
  · exact X53.returnOut hx Bd.returns (hb hby d13_32) hr
  · show Q_ns0 Z _ _ _ _ _ _ h0 n0 _ T53.heap _
    rw [e53]
    exact ⟨rfl, N53, f56, f55, f58, f59⟩
theorem pd2 : parseMethodDescriptor "(Ljava/lang/String;I)J" = some ⟨[(.object "java/lang/String"), .int], some .long⟩ := by decide +kernel
theorem pd3 : parseMethodDescriptor "(Ljava/lang/String;JJII)V" = some ⟨[(.object "java/lang/String"), .long, .long, .int, .int], none⟩ := by decide +kernel
theorem d9_0 : decode prog_36_method_1_code 0 = .ok (.aload_n 0, 1) := by decide +kernel
theorem d9_1 : decode prog_36_method_1_code 1 = .ok (.aload_n 1, 1) := by decide +kernel
theorem d9_2 : decode prog_36_method_1_code 2 = .ok (.aload_n 2, 1) := by decide +kernel
theorem d9_3 : decode prog_36_method_1_code 3 = .ok (.iconst 0, 1) := by decide +kernel
theorem d9_4 : decode prog_36_method_1_code 4 = .ok (.invokestatic 1, 3) := by decide +kernel
theorem d9_7 : decode prog_36_method_1_code 7 = .ok (.aload_n 2, 1) := by decide +kernel
theorem d9_8 : decode prog_36_method_1_code 8 = .ok (.bipush 64, 2) := by decide +kernel
theorem d9_10 : decode prog_36_method_1_code 10 = .ok (.invokestatic 1, 3) := by decide +kernel
theorem d9_13 : decode prog_36_method_1_code 13 = .ok (.iload_n 3, 1) := by decide +kernel
theorem d9_14 : decode prog_36_method_1_code 14 = .ok (.iload 4, 2) := by decide +kernel
theorem d9_16 : decode prog_36_method_1_code 16 = .ok (.invokespecial 7, 3) := by decide +kernel
theorem d9_19 : decode prog_36_method_1_code 19 = .ok (.iload_n 3, 1) := by decide +kernel
theorem d9_20 : decode prog_36_method_1_code 20 = .ok (.ifCond .lt 9, 3) := by decide +kernel
theorem d9_23 : decode prog_36_method_1_code 23 = .ok (.iload_n 3, 1) := by decide +kernel
theorem d9_24 : decode prog_36_method_1_code 24 = .ok (.iload 4, 2) := by decide +kernel
theorem d9_26 : decode prog_36_method_1_code 26 = .ok (.if_icmp .le 19, 3) := by decide +kernel
theorem d9_45 : decode prog_36_method_1_code 45 = .ok (.return_, 1) := by decide +kernel
theorem ef__nsE (m : MethodId) (x0 : Addr) (x1 : Addr) (x2 : Addr) (x3 : Int32) (x4 : Int32) : entryFrame m #[(.ref x0), (.ref x1), (.ref x2), (.int x3), (.int x4)] 5 = mkF m 0 #[.val (.ref x0), .val (.ref x1), .val (.ref x2), .val (.int x3), .val (.int x4)] [] := by first | (simp [entryFrame, mkF, argsToLocals, Value.category]; done) | rfl
def Q_nsE (Z : State) (a : Addr) (bg : Addr) (le : Int32) (mo : Int32) (sa : Addr) (sb : Addr) (sk : ClassId) (fm : Value) (cs : Int32) (h0 : Heap) (n0 : Nat) (v_ : Option Value) (h : Heap) (L_ : List Loc) : Prop := v_ = none ∧ Fr n0 L_ ∧ Keep h0 h [a] ∧ Exa Z h a "com/example/gatehouse/gatehouse/pattern/NameShape" ∧ Fld Z h a "com/example/gatehouse/gatehouse/pattern/NameShape" "low" "J" (.long (0 : Int64)) ∧ Fld Z h a "com/example/gatehouse/gatehouse/pattern/NameShape" "high" "J" (.long (0 : Int64))
set_option maxRecDepth 65536 in
set_option maxHeartbeats 40000000 in
theorem rm_nsE (l : Launch) (Z : State) (a0 : Array Value) (hw : ∀ d ∈ tables_1, d.before a0 Z = true) (ws : List Jvm.Cond) (a : Addr) (bg : Addr) (le : Int32) (mo : Int32) (sa : Addr) (sb : Addr) (sk : ClassId) (fm : Value) (cs : Int32) (h0 : Heap) (n0 : Nat) (Z0 : n0 ≤ h0.size) (O : Old Z n0 h0) (Scs : Sta Z Z.heap "java/lang/String" "COMPACT_STRINGS" "Z" (.int cs)) (hcs : ¬ (cs = (0 : Int32))) (Sfm : Sta Z Z.heap "jdk/internal/util/Preconditions" "SIOOBE_FORMATTER" "Ljava/util/function/BiFunction;" fm) (hfm : fm.category = 1) (Es : Exa Z h0 sa "java/lang/String") (Fsc : Fld Z h0 sa "java/lang/String" "coder" "B" (.int (0 : Int32))) (Fsv : Fld Z h0 sa "java/lang/String" "value" "[B" (.ref sb)) (Vs : Arv Z h0 sb sk .byte (0 : Int32) [] (.int 0)) (Ea : Exa Z h0 a "com/example/gatehouse/gatehouse/pattern/NameShape") (Fbegin : Fld Z h0 a "com/example/gatehouse/gatehouse/pattern/NameShape" "begin" "Ljava/lang/String;" .null) (Flow : Fld Z h0 a "com/example/gatehouse/gatehouse/pattern/NameShape" "low" "J" (.long (0 : Int64))) (Fhigh : Fld Z h0 a "com/example/gatehouse/gatehouse/pattern/NameShape" "high" "J" (.long (0 : Int64))) (Fleast : Fld Z h0 a "com/example/gatehouse/gatehouse/pattern/NameShape" "least" "I" (.int (0 : Int32))) (Fmost : Fld Z h0 a "com/example/gatehouse/gatehouse/pattern/NameShape" "most" "I" (.int (0 : Int32))) (ga : n0 ≤ a) (hl : ¬ (le < (0 : Int32))) (hm : ¬ (mo < le)) :
    MetFree l (⟨"com/example/gatehouse/gatehouse/pattern/NameShape", "<init>", "(Ljava/lang/String;Ljava/lang/String;II)V"⟩ : MethodName) (head1 (Jvm.Cond.code (⟨"com/example/gatehouse/gatehouse/pattern/NameShape", "<init>", "(Ljava/lang/String;Ljava/lang/String;II)V"⟩ : MethodName) prog_36_method_1_code 5 none :: ws) ({ frames := 3, cells := 0, slots := 0, locals := 47 } : Room)) (fun a_ U_ => a_ = #[(.ref a), (.ref bg), (.ref sa), (.int le), (.int mo)] ∧ Z.Warmed39 U_.vm ∧ U_.heap = h0) (fun _ _ _ _ _ => True) (fun _ U_ o_ V_ => ∃ v_ L_, o_ = .returned v_ ∧ Q_nsE Z a bg le mo sa sb sk fm cs h0 n0 v_ V_.heap L_ ∧ FrameEnd U_ o_ V_ L_ ({ frames := 3, cells := 0, slots := 0, locals := 47 } : Room).cells ({ frames := 3, cells := 0, slots := 0, locals := 47 } : Room).slots) := by
  refine MetFree.of_bodySF (plainFor_of_name pn1) hisR ?_
  intro p e s m args below meth c s₁ Bd hml0 hP hK
  obtain ⟨rfl, hZ, hh⟩ := hP
  have hx := Bd.exec
  have hby := Bd.bytes
  have hml : c.maxLocals = 5 := hml0
  have hown : s.vm.findClass "com/example/gatehouse/gatehouse/pattern/NameShape" = some m.cls := findClass_of_methodNamed Bd.named
  have hnm := (name_of_methodNamed Bd.named Bd.method).1
  have X0 : Stand p l e ({ frames := 3, cells := 0, slots := 0, locals := 47 } : Room) s m #[(.ref a), (.ref bg), (.ref sa), (.int le), (.int mo)] below meth c s₁ [] 0 0 := Stand.of_body Bd
  have e0 : s₁.heap = h0 := by rw [← hh, Bd.state]; rfl
  have N0 := Fr.nil n0
  have pre0 : own_Go p e below (s₁.setTop (entryFrame m #[(.ref a), (.ref bg), (.ref sa), (.int le), (.int mo)] 5)) (s₁.setTop (mkF m 0 #[.val (.ref a), .val (.ref bg), .val (.ref sa), .val (.int le), .val (.int mo)] [])) := fun t_ k_ => castTop (ef__nsE m a bg sa le mo) k_
  have ne_sa_a : sa ≠ a := ne_exa Es Ea (by decide)
  obtain ⟨clV, ArV, -⟩ := id Vs
  have ne_sb_a : sb ≠ a := Ne.symm (ne_arr Ea (hw _ (List.mem_of_getElem? (i := 33) rfl)) ArV)
  have P1 := own_step (C := s₁.setTop (mkF m 4 #[.val (.ref a), .val (.ref bg), .val (.ref sa), .val (.int le), .val (.int mo)] [(.int (0 : Int32)), (.ref sa), (.ref bg), (.ref a)])) pre0 (by
    intro tt_ kk_
    refine XS.aloadN X0.here hx rfl (hb hby d9_0) rfl rfl ?_
    refine XS.aloadN X0.here hx rfl (hb hby d9_1) rfl rfl ?_
    refine XS.aloadN X0.here hx rfl (hb hby d9_2) rfl rfl ?_
    refine XS.iconst X0.here hx rfl (hb hby d9_3) ?_
    exact kk_)
  obtain ⟨_, _, ⟨T2, L2, k2, n2⟩, -, X2, ⟨Lc2, hQ2, l2, y2, z2⟩, st2⟩ := Jvm.LawKit.callS X0 hx (y := (⟨"com/example/gatehouse/gatehouse/pattern/NameShape", "bits", "(Ljava/lang/String;I)J"⟩ : MethodName)) hown (mvT hZ (hw _ (List.mem_of_getElem? (i := 48) rfl))) (mvT hZ (hw _ (List.mem_of_getElem? (i := 49) rfl))) (mvT hZ (hw _ (List.mem_of_getElem? (i := 34) rfl))) (mvT hZ (hw _ (List.mem_of_getElem? (i := 50) rfl))) (by decide) (backOf (W := 2) (rm_bits0_0 l Z a0 hw [] sa sb sk  fm cs h0 n0 Z0 O Scs hcs Sfm hfm Es Fsc Fsv Vs ) hZ (hw _ (List.mem_of_getElem? (i := 50) rfl)) (hw _ (List.mem_of_getElem? (i := 34) rfl)) (by decide) (by decide)) (g := (mkF m 4 #[.val (.ref a), .val (.ref bg), .val (.ref sa), .val (.int le), .val (.int mo)] [(.int (0 : Int32)), (.ref sa), (.ref bg), (.ref a)])) rfl (by rw [hml]; rfl) (argsL := [(.ref sa), (.int (0 : Int32))]) (rest := [(.ref bg), (.ref a)]) (lenOf pd2 rfl) rfl (by show 2 * 0 + _ ≤ _; exact Nat.le_of_eq rfl) (hb hby d9_4) (fun _ _ => ⟨rfl, e0, (by decide : 0 + 0 ≤ _), (by decide : 0 + 0 ≤ _)⟩)
  dsimp only [Pt.U, Pt.locs, Pt.cells, Pt.slots] at X2 l2 y2 z2 st2 hQ2
  subst l2 y2 z2
  obtain ⟨rfl, N2q, e2⟩ := hQ2
  have N2 := Fr.app N0 N2q
  have P3 := own_step (C := T2.setTop (mkF m 7 #[.val (.ref a), .val (.ref bg), .val (.ref sa), .val (.int le), .val (.int mo)] [(.long (0 : Int64)), (.ref bg), (.ref a)])) P1 (fun t_ k_ => st2 t_ k_)
  have P4 := own_step (C := T2.setTop (mkF m 10 #[.val (.ref a), .val (.ref bg), .val (.ref sa), .val (.int le), .val (.int mo)] [(.int (64 : Int32)), (.ref sa), (.long (0 : Int64)), (.ref bg), (.ref a)])) P3 (by
    intro tt_ kk_
    refine XS.aloadN X2.here hx rfl (hb hby d9_7) rfl rfl ?_
    refine XS.bipush X2.here hx rfl (hb hby d9_8) ?_
    exact kk_)
  obtain ⟨_, _, ⟨T5, L5, k5, n5⟩, -, X5, ⟨Lc5, hQ5, l5, y5, z5⟩, st5⟩ := Jvm.LawKit.callS X2 hx (y := (⟨"com/example/gatehouse/gatehouse/pattern/NameShape", "bits", "(Ljava/lang/String;I)J"⟩ : MethodName)) hown (mvT hZ (hw _ (List.mem_of_getElem? (i := 48) rfl))) (mvT hZ (hw _ (List.mem_of_getElem? (i := 49) rfl))) (mvT hZ (hw _ (List.mem_of_getElem? (i := 34) rfl))) (mvT hZ (hw _ (List.mem_of_getElem? (i := 50) rfl))) (by decide) (backOf (W := 4) (rm_bits0_64 l Z a0 hw [] sa sb sk  fm cs h0 n0 Z0 O Scs hcs Sfm hfm Es Fsc Fsv Vs ) hZ (hw _ (List.mem_of_getElem? (i := 50) rfl)) (hw _ (List.mem_of_getElem? (i := 34) rfl)) (by decide) (by decide)) (g := (mkF m 10 #[.val (.ref a), .val (.ref bg), .val (.ref sa), .val (.int le), .val (.int mo)] [(.int (64 : Int32)), (.ref sa), (.long (0 : Int64)), (.ref bg), (.ref a)])) rfl (by rw [hml]; rfl) (argsL := [(.ref sa), (.int (64 : Int32))]) (rest := [(.long (0 : Int64)), (.ref bg), (.ref a)]) (lenOf pd2 rfl) rfl (by show 2 * 0 + _ ≤ _; exact Nat.le_of_eq rfl) (hb hby d9_10) (fun _ _ => ⟨rfl, e2, (by decide : 0 + 0 ≤ _), (by decide : 0 + 0 ≤ _)⟩)
  dsimp only [Pt.U, Pt.locs, Pt.cells, Pt.slots] at X5 l5 y5 z5 st5 hQ5
  subst l5 y5 z5
  obtain ⟨rfl, N5q, e5⟩ := hQ5
  have N5 := Fr.app N2 N5q
  have P6 := own_step (C := T5.setTop (mkF m 13 #[.val (.ref a), .val (.ref bg), .val (.ref sa), .val (.int le), .val (.int mo)] [(.long (0 : Int64)), (.long (0 : Int64)), (.ref bg), (.ref a)])) P4 (fun t_ k_ => st5 t_ k_)
  have P7 := own_step (C := T5.setTop (mkF m 16 #[.val (.ref a), .val (.ref bg), .val (.ref sa), .val (.int le), .val (.int mo)] [(.int mo), (.int le), (.long (0 : Int64)), (.long (0 : Int64)), (.ref bg), (.ref a)])) P6 (by
    intro tt_ kk_
    refine XS.iloadN X5.here hx rfl (hb hby d9_13) rfl ?_
    refine XS.iload X5.here hx rfl (hb hby d9_14) rfl ?_
    exact kk_)
  obtain ⟨_, _, ⟨T8, L8, k8, n8⟩, -, X8, ⟨Lc8, hQ8, l8, y8, z8⟩, st8⟩ := X5.specialBack hx (y := (⟨"com/example/gatehouse/gatehouse/pattern/NameShape", "<init>", "(Ljava/lang/String;JJII)V"⟩ : MethodName)) rfl hown (mvT hZ (hw _ (List.mem_of_getElem? (i := 61) rfl))) (mvT hZ (hw _ (List.mem_of_getElem? (i := 62) rfl))) (mvT hZ (hw _ (List.mem_of_getElem? (i := 63) rfl))) (by decide) (backOf (W := 0) (rm_ns0 l Z a0 hw [] a bg (0 : Int64) (0 : Int64) le mo h0 n0 Z0 O Ea Fbegin Flow Fhigh Fleast Fmost ga) hZ (hw _ (List.mem_of_getElem? (i := 63) rfl)) (hw _ (List.mem_of_getElem? (i := 34) rfl)) (by decide) (by decide)) (g := (mkF m 16 #[.val (.ref a), .val (.ref bg), .val (.ref sa), .val (.int le), .val (.int mo)] [(.int mo), (.int le), (.long (0 : Int64)), (.long (0 : Int64)), (.ref bg), (.ref a)])) rfl (by rw [hml]; rfl) (Steps.refl _) (a := a) (argsL := [(.ref bg), (.long (0 : Int64)), (.long (0 : Int64)), (.int le), (.int mo)]) (rest := []) (lenOf pd3 rfl) rfl (by show 2 * 0 + _ ≤ _; exact Nat.le_of_eq rfl) (hb hby d9_16) (fun _ _ => ⟨rfl, e5, (by decide : 0 + 0 ≤ _), (by decide : 0 + 0 ≤ _)⟩)
  dsimp only [Pt.U, Pt.locs, Pt.cells, Pt.slots] at X8 l8 y8 z8 st8 hQ8
  subst l8 y8 z8
  obtain ⟨rfl, N8q, K8, f9, f10, f11⟩ := hQ8
  have N8 := Fr.app N5 N8q
  have f12 := O.keep K8 (allS ga all0)
  have f13 := Ea.keep K8
  have f14 := (Keep.refl h0 [a]).trans K8 (allS (Or.inl (List.mem_of_getElem? (i := 0) rfl)) all0)
  have f20 := Es.keep K8
  have f21 := Fsc.keep K8 (ninS ne_sa_a nin0)
  have f22 := Fsv.keep K8 (ninS ne_sa_a nin0)
  have f23 := Vs.keep K8 (ninS ne_sb_a nin0)
  have Z24 : n0 ≤ T8.heap.size := Nat.le_trans Z0 K8.1
  have P25 := own_step (C := T8.setTop (mkF m 19 #[.val (.ref a), .val (.ref bg), .val (.ref sa), .val (.int le), .val (.int mo)] [])) P7 (fun t_ k_ => st8.trans k_)
  have P26 := own_step (C := T8.setTop (mkF m 20 #[.val (.ref a), .val (.ref bg), .val (.ref sa), .val (.int le), .val (.int mo)] [(.int le)])) P25 (by
    intro tt_ kk_
    refine XS.iloadN X8.here hx rfl (hb hby d9_19) rfl ?_
    exact kk_)
  have P27 := own_step (C := T8.setTop (mkF m 23 #[.val (.ref a), .val (.ref bg), .val (.ref sa), .val (.int le), .val (.int mo)] [])) P26 (by
    intro tt_ kk_
    refine XS.ifNo X8.here hx rfl (hb hby d9_20) rfl ((if0 _ _).trans (flt hl).1) ?_
    exact kk_)
  have P28 := own_step (C := T8.setTop (mkF m 26 #[.val (.ref a), .val (.ref bg), .val (.ref sa), .val (.int le), .val (.int mo)] [(.int mo), (.int le)])) P27 (by
    intro tt_ kk_
    refine XS.iloadN X8.here hx rfl (hb hby d9_23) rfl ?_
    refine XS.iload X8.here hx rfl (hb hby d9_24) rfl ?_
    exact kk_)
  have P29 := own_step (C := T8.setTop (mkF m 45 #[.val (.ref a), .val (.ref bg), .val (.ref sa), .val (.int le), .val (.int mo)] [])) P28 (by
    intro tt_ kk_
    refine XS.icmpYes X8.here hx rfl (pc0 := 26) (pc' := 45) rfl (hb hby d9_26) rfl (flt hm).2.2.2 (by decide) (by decide) ?_
    exact kk_)
  obtain ⟨fs, hr, hrun, hended, hW, hsame⟩ := X8.leave (v := none) (fun _ => rfl)
  refine ⟨_, _, P29 _ ?_, hrun, hended, _, _, rfl, ?_, ⟨_, rfl⟩, hW, hsame.mono (by decide) (by decide)⟩
  · exact X8.returnOut hx Bd.returns (hb hby d9_45) hr
  · show Q_nsE Z _ _ _ _ _ _ _ _ _ h0 n0 _ T8.heap _
    exact ⟨rfl, N8, f14, f9, f10, f11⟩
theorem d20_0 : decode jdk_42_method_154_code 0 = .ok (.getstatic 38, 3) := by decide +kernel
theorem d20_3 : decode jdk_42_method_154_code 3 = .ok (.ifCond .eq 14, 3) := by decide +kernel
theorem d20_6 : decode jdk_42_method_154_code 6 = .ok (.aload_n 0, 1) := by decide +kernel
theorem d20_7 : decode jdk_42_method_154_code 7 = .ok (.getfield 15, 3) := by decide +kernel
theorem d20_10 : decode jdk_42_method_154_code 10 = .ok (.ifCond .ne 7, 3) := by decide +kernel
theorem d20_13 : decode jdk_42_method_154_code 13 = .ok (.iconst 1, 1) := by decide +kernel
theorem d20_14 : decode jdk_42_method_154_code 14 = .ok (.goto 4, 3) := by decide +kernel
theorem d20_18 : decode jdk_42_method_154_code 18 = .ok (.ireturn, 1) := by decide +kernel
theorem ef__lat0 (m : MethodId) (x0 : Addr) : entryFrame m #[(.ref x0)] 1 = mkF m 0 #[.val (.ref x0)] [] := by first | (simp [entryFrame, mkF, argsToLocals, Value.category]; done) | rfl
def Q_lat0 (Z : State) (a : Addr) (cs : Int32) (h0 : Heap) (n0 : Nat) (v_ : Option Value) (h : Heap) (L_ : List Loc) : Prop := v_ = some (.int (1 : Int32)) ∧ Fr n0 L_ ∧ h = h0
set_option maxRecDepth 65536 in
set_option maxHeartbeats 40000000 in
theorem rm_lat0 (l : Launch) (Z : State) (a0 : Array Value) (hw : ∀ d ∈ tables_1, d.before a0 Z = true) (ws : List Jvm.Cond) (a : Addr) (cs : Int32) (h0 : Heap) (n0 : Nat) (Z0 : n0 ≤ h0.size) (O : Old Z n0 h0) (Scs : Sta Z Z.heap "java/lang/String" "COMPACT_STRINGS" "Z" (.int cs)) (hcs : ¬ (cs = (0 : Int32))) (Fc : Fld Z h0 a "java/lang/String" "coder" "B" (.int (0 : Int32))) :
    MetFree l (⟨"java/lang/String", "isLatin1", "()Z"⟩ : MethodName) (head1 (Jvm.Cond.code (⟨"java/lang/String", "isLatin1", "()Z"⟩ : MethodName) jdk_42_method_154_code 1 (some .boolean) :: ws) ({ frames := 0, cells := 0, slots := 0, locals := 0 } : Room)) (fun a_ U_ => a_ = #[(.ref a)] ∧ Z.Warmed39 U_.vm ∧ U_.heap = h0) (fun _ _ _ _ _ => True) (fun _ U_ o_ V_ => ∃ v_ L_, o_ = .returned v_ ∧ Q_lat0 Z a cs h0 n0 v_ V_.heap L_ ∧ FrameEnd U_ o_ V_ L_ ({ frames := 0, cells := 0, slots := 0, locals := 0 } : Room).cells ({ frames := 0, cells := 0, slots := 0, locals := 0 } : Room).slots) := by
  refine MetFree.of_bodySF (plainFor_of_name pn0) hisR ?_
  intro p e s m args below meth c s₁ Bd hml0 hP hK
  obtain ⟨rfl, hZ, hh⟩ := hP
  have hx := Bd.exec
  have hby := Bd.bytes
  have hml : c.maxLocals = 1 := hml0
  have hown : s.vm.findClass "java/lang/String" = some m.cls := findClass_of_methodNamed Bd.named
  have hnm := (name_of_methodNamed Bd.named Bd.method).1
  have X0 : Stand p l e ({ frames := 0, cells := 0, slots := 0, locals := 0 } : Room) s m #[(.ref a)] below meth c s₁ [] 0 0 := Stand.of_body Bd
  have e0 : s₁.heap = h0 := by rw [← hh, Bd.state]; rfl
  have N0 := Fr.nil n0
  have pre0 : own_Go p e below (s₁.setTop (entryFrame m #[(.ref a)] 1)) (s₁.setTop (mkF m 0 #[.val (.ref a)] [])) := fun t_ k_ => castTop (ef__lat0 m a) k_
  obtain ⟨T1, X1, e1, st1⟩ := getS2 X0 hx hZ hown (host := "") (Or.inl (hw _ (List.mem_of_getElem? (i := 10) rfl))) Via.refl e0 (Scs.ext O.2) (g := (mkF m 0 #[.val (.ref a)] [])) rfl (hb hby d20_0)
  have P2 := own_step (C := T1.setTop (mkF m 3 #[.val (.ref a)] [(.int cs)])) pre0 (fun t_ k_ => st1 t_ k_)
  have P3 := own_step (C := T1.setTop (mkF m 6 #[.val (.ref a)] [])) P2 (by
    intro tt_ kk_
    refine XS.ifNo X1.here hx rfl (hb hby d20_3) rfl ((if0 _ _).trans (feq hcs).1) ?_
    exact kk_)
  have P4 := own_step (C := T1.setTop (mkF m 7 #[.val (.ref a)] [(.ref a)])) P3 (by
    intro tt_ kk_
    refine XS.aloadN X1.here hx rfl (hb hby d20_6) rfl rfl ?_
    exact kk_)
  obtain ⟨T5, X5, e5, st5⟩ := getF X1 hx hZ hown (host := "") (Or.inl (hw _ (List.mem_of_getElem? (i := 30) rfl))) Via.refl e1 Fc (g := (mkF m 7 #[.val (.ref a)] [(.ref a)])) rfl rfl (hb hby d20_7)
  have P6 := own_step (C := T5.setTop (mkF m 10 #[.val (.ref a)] [(.int (0 : Int32))])) P4 (fun t_ k_ => st5 t_ k_)
  have P7 := own_step (C := T5.setTop (mkF m 13 #[.val (.ref a)] [])) P6 (by
    intro tt_ kk_
    refine XS.ifNo X5.here hx rfl (hb hby d20_10) rfl ((if0 _ _).trans (teq (by decide : (0 : Int32) = (0 : Int32))).2) ?_
    exact kk_)
  have P8 := own_step (C := T5.setTop (mkF m 18 #[.val (.ref a)] [(.int (1 : Int32))])) P7 (by
    intro tt_ kk_
    refine XS.iconst X5.here hx rfl (hb hby d20_13) ?_
    refine XS.goto X5.here hx rfl (pc0 := 14) (pc' := 18) rfl (hb hby d20_14) (by decide) (by decide) ?_
    exact kk_)
  obtain ⟨fs, hr, hrun, hended, hW, hsame⟩ := X5.leave (v := some (.int (1 : Int32))) (fun h => by rw [Bd.returns] at h; cases h)
  refine ⟨_, _, P8 _ ?_, hrun, hended, _, _, rfl, ?_, ⟨_, rfl⟩, hW, hsame.mono (by decide) (by decide)⟩
  · exact retN X5 hx (t := .boolean) Bd.returns (by simp) (hb hby d20_18) hr
  · show Q_lat0 Z _ _ h0 n0 _ T5.heap _
    rw [e5]
    exact ⟨rfl, N0, rfl⟩
theorem d23_0 : decode jdk_41_method_11_code 0 = .ok (.iload_n 0, 1) := by decide +kernel
theorem d23_1 : decode jdk_41_method_11_code 1 = .ok (.ifCond .lt 8, 3) := by decide +kernel
theorem d23_4 : decode jdk_41_method_11_code 4 = .ok (.iload_n 0, 1) := by decide +kernel
theorem d23_5 : decode jdk_41_method_11_code 5 = .ok (.iload_n 1, 1) := by decide +kernel
theorem d23_6 : decode jdk_41_method_11_code 6 = .ok (.if_icmp .lt 10, 3) := by decide +kernel
theorem d23_16 : decode jdk_41_method_11_code 16 = .ok (.iload_n 0, 1) := by decide +kernel
theorem d23_17 : decode jdk_41_method_11_code 17 = .ok (.ireturn, 1) := by decide +kernel
theorem ef__chk0 (m : MethodId) (x0 : Int32) (x1 : Int32) (x2 : Value) (hx2 : x2.category = 1) : entryFrame m #[(.int x0), (.int x1), x2] 3 = mkF m 0 #[.val (.int x0), .val (.int x1), .val x2] [] := by cases x2 <;> first | (exfalso; simp [Value.category] at hx2; done) | (first | (simp [entryFrame, mkF, argsToLocals, Value.category]; done) | rfl)
def Q_chk0 (Z : State) (j : Int32) (n : Int32) (fm : Value) (h0 : Heap) (n0 : Nat) (v_ : Option Value) (h : Heap) (L_ : List Loc) : Prop := v_ = some (.int j) ∧ Fr n0 L_ ∧ h = h0
theorem pn2 : plainName "jdk/internal/util/Preconditions" = true := by first | (simp [plainName, overriddenIn]; done) | decide +kernel
set_option maxRecDepth 65536 in
set_option maxHeartbeats 40000000 in
theorem rm_chk0 (l : Launch) (Z : State) (a0 : Array Value) (hw : ∀ d ∈ tables_1, d.before a0 Z = true) (ws : List Jvm.Cond) (j : Int32) (n : Int32) (fm : Value) (h0 : Heap) (n0 : Nat) (Z0 : n0 ≤ h0.size) (hfm : fm.category = 1) (hj0 : ¬ (j < (0 : Int32))) (hjn : j < n) :
    MetFree l (⟨"jdk/internal/util/Preconditions", "checkIndex", "(IILjava/util/function/BiFunction;)I"⟩ : MethodName) (head1 (Jvm.Cond.code (⟨"jdk/internal/util/Preconditions", "checkIndex", "(IILjava/util/function/BiFunction;)I"⟩ : MethodName) jdk_41_method_11_code 3 (some .int) :: ws) ({ frames := 0, cells := 0, slots := 0, locals := 0 } : Room)) (fun a_ U_ => a_ = #[(.int j), (.int n), fm] ∧ Z.Warmed39 U_.vm ∧ U_.heap = h0) (fun _ _ _ _ _ => True) (fun _ U_ o_ V_ => ∃ v_ L_, o_ = .returned v_ ∧ Q_chk0 Z j n fm h0 n0 v_ V_.heap L_ ∧ FrameEnd U_ o_ V_ L_ ({ frames := 0, cells := 0, slots := 0, locals := 0 } : Room).cells ({ frames := 0, cells := 0, slots := 0, locals := 0 } : Room).slots) := by
  refine MetFree.of_bodySF (plainFor_of_name pn2) hisR ?_
  intro p e s m args below meth c s₁ Bd hml0 hP hK
  obtain ⟨rfl, hZ, hh⟩ := hP
  have hx := Bd.exec
  have hby := Bd.bytes
  have hml : c.maxLocals = 3 := hml0
  have hown : s.vm.findClass "jdk/internal/util/Preconditions" = some m.cls := findClass_of_methodNamed Bd.named
  have hnm := (name_of_methodNamed Bd.named Bd.method).1
  have X0 : Stand p l e ({ frames := 0, cells := 0, slots := 0, locals := 0 } : Room) s m #[(.int j), (.int n), fm] below meth c s₁ [] 0 0 := Stand.of_body Bd
  have e0 : s₁.heap = h0 := by rw [← hh, Bd.state]; rfl
  have N0 := Fr.nil n0
  have pre0 : own_Go p e below (s₁.setTop (entryFrame m #[(.int j), (.int n), fm] 3)) (s₁.setTop (mkF m 0 #[.val (.int j), .val (.int n), .val fm] [])) := fun t_ k_ => castTop (ef__chk0 m j n fm hfm) k_
  have P1 := own_step (C := s₁.setTop (mkF m 1 #[.val (.int j), .val (.int n), .val fm] [(.int j)])) pre0 (by
    intro tt_ kk_
    refine XS.iloadN X0.here hx rfl (hb hby d23_0) rfl ?_
    exact kk_)
  have P2 := own_step (C := s₁.setTop (mkF m 4 #[.val (.int j), .val (.int n), .val fm] [])) P1 (by
    intro tt_ kk_
    refine XS.ifNo X0.here hx rfl (hb hby d23_1) rfl ((if0 _ _).trans (flt hj0).1) ?_
    exact kk_)
  have P3 := own_step (C := s₁.setTop (mkF m 6 #[.val (.int j), .val (.int n), .val fm] [(.int n), (.int j)])) P2 (by
    intro tt_ kk_
    refine XS.iloadN X0.here hx rfl (hb hby d23_4) rfl ?_
    refine XS.iloadN X0.here hx rfl (hb hby d23_5) rfl ?_
    exact kk_)
  have P4 := own_step (C := s₁.setTop (mkF m 16 #[.val (.int j), .val (.int n), .val fm] [])) P3 (by
    intro tt_ kk_
    refine XS.icmpYes X0.here hx rfl (pc0 := 6) (pc' := 16) rfl (hb hby d23_6) rfl (tlt hjn).1 (by decide) (by decide) ?_
    exact kk_)
  have P5 := own_step (C := s₁.setTop (mkF m 17 #[.val (.int j), .val (.int n), .val fm] [(.int j)])) P4 (by
    intro tt_ kk_
    refine XS.iloadN X0.here hx rfl (hb hby d23_16) rfl ?_
    exact kk_)
  obtain ⟨fs, hr, hrun, hended, hW, hsame⟩ := X0.leave (v := some (.int j)) (fun h => by rw [Bd.returns] at h; cases h)
  refine ⟨_, _, P5 _ ?_, hrun, hended, _, _, rfl, ?_, ⟨_, rfl⟩, hW, hsame.mono (by decide) (by decide)⟩
  · exact retI X0 hx Bd.returns (hb hby d23_17) hr
  · show Q_chk0 Z _ _ _ h0 n0 _ s₁.heap _
    rw [e0]
    exact ⟨rfl, N0, rfl⟩
theorem pd4 : parseMethodDescriptor "(IILjava/util/function/BiFunction;)I" = some ⟨[.int, .int, (.object "java/util/function/BiFunction")], some .int⟩ := by decide +kernel
theorem d22_0 : decode jdk_42_method_155_code 0 = .ok (.iload_n 0, 1) := by decide +kernel
theorem d22_1 : decode jdk_42_method_155_code 1 = .ok (.iload_n 1, 1) := by decide +kernel
theorem d22_2 : decode jdk_42_method_155_code 2 = .ok (.getstatic 1053, 3) := by decide +kernel
theorem d22_5 : decode jdk_42_method_155_code 5 = .ok (.invokestatic 1059, 3) := by decide +kernel
theorem d22_8 : decode jdk_42_method_155_code 8 = .ok (.pop, 1) := by decide +kernel
theorem d22_9 : decode jdk_42_method_155_code 9 = .ok (.return_, 1) := by decide +kernel
theorem ef__chk (m : MethodId) (x0 : Int32) (x1 : Int32) : entryFrame m #[(.int x0), (.int x1)] 2 = mkF m 0 #[.val (.int x0), .val (.int x1)] [] := by first | (simp [entryFrame, mkF, argsToLocals, Value.category]; done) | rfl
def Q_chk (Z : State) (j : Int32) (n : Int32) (fm : Value) (h0 : Heap) (n0 : Nat) (v_ : Option Value) (h : Heap) (L_ : List Loc) : Prop := v_ = none ∧ Fr n0 L_ ∧ h = h0
set_option maxRecDepth 65536 in
set_option maxHeartbeats 40000000 in
theorem rm_chk (l : Launch) (Z : State) (a0 : Array Value) (hw : ∀ d ∈ tables_1, d.before a0 Z = true) (ws : List Jvm.Cond) (j : Int32) (n : Int32) (fm : Value) (h0 : Heap) (n0 : Nat) (Z0 : n0 ≤ h0.size) (O : Old Z n0 h0) (Sfm : Sta Z Z.heap "jdk/internal/util/Preconditions" "SIOOBE_FORMATTER" "Ljava/util/function/BiFunction;" fm) (hfm : fm.category = 1) (hj0 : ¬ (j < (0 : Int32))) (hjn : j < n) :
    MetFree l (⟨"java/lang/String", "checkIndex", "(II)V"⟩ : MethodName) (head1 (Jvm.Cond.code (⟨"java/lang/String", "checkIndex", "(II)V"⟩ : MethodName) jdk_42_method_155_code 2 none :: ws) ({ frames := 1, cells := 0, slots := 0, locals := 14 } : Room)) (fun a_ U_ => a_ = #[(.int j), (.int n)] ∧ Z.Warmed39 U_.vm ∧ U_.heap = h0) (fun _ _ _ _ _ => True) (fun _ U_ o_ V_ => ∃ v_ L_, o_ = .returned v_ ∧ Q_chk Z j n fm h0 n0 v_ V_.heap L_ ∧ FrameEnd U_ o_ V_ L_ ({ frames := 1, cells := 0, slots := 0, locals := 14 } : Room).cells ({ frames := 1, cells := 0, slots := 0, locals := 14 } : Room).slots) := by
  refine MetFree.of_bodySF (plainFor_of_name pn0) hisR ?_
  intro p e s m args below meth c s₁ Bd hml0 hP hK
  obtain ⟨rfl, hZ, hh⟩ := hP
  have hx := Bd.exec
  have hby := Bd.bytes
  have hml : c.maxLocals = 2 := hml0
  have hown : s.vm.findClass "java/lang/String" = some m.cls := findClass_of_methodNamed Bd.named
  have hnm := (name_of_methodNamed Bd.named Bd.method).1
  have X0 : Stand p l e ({ frames := 1, cells := 0, slots := 0, locals := 14 } : Room) s m #[(.int j), (.int n)] below meth c s₁ [] 0 0 := Stand.of_body Bd
  have e0 : s₁.heap = h0 := by rw [← hh, Bd.state]; rfl
  have N0 := Fr.nil n0
  have pre0 : own_Go p e below (s₁.setTop (entryFrame m #[(.int j), (.int n)] 2)) (s₁.setTop (mkF m 0 #[.val (.int j), .val (.int n)] [])) := fun t_ k_ => castTop (ef__chk m j n) k_
  have P1 := own_step (C := s₁.setTop (mkF m 2 #[.val (.int j), .val (.int n)] [(.int n), (.int j)])) pre0 (by
    intro tt_ kk_
    refine XS.iloadN X0.here hx rfl (hb hby d22_0) rfl ?_
    refine XS.iloadN X0.here hx rfl (hb hby d22_1) rfl ?_
    exact kk_)
  obtain ⟨T2, X2, e2, st2⟩ := getS2 X0 hx hZ hown (host := "") (Or.inl (hw _ (List.mem_of_getElem? (i := 110) rfl))) Via.refl e0 (Sfm.ext O.2) (g := (mkF m 2 #[.val (.int j), .val (.int n)] [(.int n), (.int j)])) rfl (hb hby d22_2)
  have P3 := own_step (C := T2.setTop (mkF m 5 #[.val (.int j), .val (.int n)] [fm, (.int n), (.int j)])) P1 (fun t_ k_ => st2 t_ k_)
  obtain ⟨_, _, ⟨T4, L4, k4, n4⟩, -, X4, ⟨Lc4, hQ4, l4, y4, z4⟩, st4⟩ := Jvm.LawKit.callS X2 hx (y := (⟨"jdk/internal/util/Preconditions", "checkIndex", "(IILjava/util/function/BiFunction;)I"⟩ : MethodName)) hown (mvT hZ (hw _ (List.mem_of_getElem? (i := 112) rfl))) (mvT hZ (hw _ (List.mem_of_getElem? (i := 113) rfl))) (mvT hZ (hw _ (List.mem_of_getElem? (i := 111) rfl))) (mvT hZ (hw _ (List.mem_of_getElem? (i := 114) rfl))) (by decide) (backOf (W := 0) (rm_chk0 l Z a0 hw [] j n fm h0 n0 Z0 hfm hj0 hjn) hZ (hw _ (List.mem_of_getElem? (i := 114) rfl)) (hw _ (List.mem_of_getElem? (i := 111) rfl)) (by decide) (by decide)) (g := (mkF m 5 #[.val (.int j), .val (.int n)] [fm, (.int n), (.int j)])) rfl (by rw [hml]; rfl) (argsL := [(.int j), (.int n), fm]) (rest := []) (lenOf pd4 rfl) rfl (by show 2 * 0 + _ ≤ _; exact Nat.le_of_eq rfl) (hb hby d22_5) (fun _ _ => ⟨rfl, e2, (by decide : 0 + 0 ≤ _), (by decide : 0 + 0 ≤ _)⟩)
  dsimp only [Pt.U, Pt.locs, Pt.cells, Pt.slots] at X4 l4 y4 z4 st4 hQ4
  subst l4 y4 z4
  obtain ⟨rfl, N4q, e4⟩ := hQ4
  have N4 := Fr.app N0 N4q
  have P5 := own_step (C := T4.setTop (mkF m 8 #[.val (.int j), .val (.int n)] [(.int j)])) P3 (fun t_ k_ => st4 t_ k_)
  have P6 := own_step (C := T4.setTop (mkF m 9 #[.val (.int j), .val (.int n)] [])) P5 (by
    intro tt_ kk_
    refine XS.pop X4.here hx rfl (hb hby d22_8) rfl rfl ?_
    exact kk_)
  obtain ⟨fs, hr, hrun, hended, hW, hsame⟩ := X4.leave (v := none) (fun _ => rfl)
  refine ⟨_, _, P6 _ ?_, hrun, hended, _, _, rfl, ?_, ⟨_, rfl⟩, hW, hsame.mono (by decide) (by decide)⟩
  · exact X4.returnOut hx Bd.returns (hb hby d22_9) hr
  · show Q_chk Z _ _ _ h0 n0 _ T4.heap _
    rw [e4]
    exact ⟨rfl, N4, rfl⟩
theorem pd5 : parseMethodDescriptor "(II)V" = some ⟨[.int, .int], none⟩ := by decide +kernel
theorem d21_0 : decode jdk_43_method_2_code 0 = .ok (.iload_n 1, 1) := by decide +kernel
theorem d21_1 : decode jdk_43_method_2_code 1 = .ok (.aload_n 0, 1) := by decide +kernel
theorem d21_2 : decode jdk_43_method_2_code 2 = .ok (.arraylength, 1) := by decide +kernel
theorem d21_3 : decode jdk_43_method_2_code 3 = .ok (.invokestatic 9, 3) := by decide +kernel
theorem d21_6 : decode jdk_43_method_2_code 6 = .ok (.aload_n 0, 1) := by decide +kernel
theorem d21_7 : decode jdk_43_method_2_code 7 = .ok (.iload_n 1, 1) := by decide +kernel
theorem d21_8 : decode jdk_43_method_2_code 8 = .ok (.baload, 1) := by decide +kernel
theorem d21_9 : decode jdk_43_method_2_code 9 = .ok (.sipush 255, 3) := by decide +kernel
theorem d21_12 : decode jdk_43_method_2_code 12 = .ok (.iand, 1) := by decide +kernel
theorem d21_13 : decode jdk_43_method_2_code 13 = .ok (.i2c, 1) := by decide +kernel
theorem d21_14 : decode jdk_43_method_2_code 14 = .ok (.ireturn, 1) := by decide +kernel
theorem ef__chL (m : MethodId) (x0 : Addr) (x1 : Int32) : entryFrame m #[(.ref x0), (.int x1)] 2 = mkF m 0 #[.val (.ref x0), .val (.int x1)] [] := by first | (simp [entryFrame, mkF, argsToLocals, Value.category]; done) | rfl
def Q_chL (Z : State) (b : Addr) (k : ClassId) (z : Int32) (vs : List Value) (j : Int32) (x : Int32) (fm : Value) (h0 : Heap) (n0 : Nat) (v_ : Option Value) (h : Heap) (L_ : List Loc) : Prop := v_ = some (.int (x &&& (255 : Int32))) ∧ Fr n0 L_ ∧ h = h0
theorem pn3 : plainName "java/lang/StringLatin1" = true := by first | (simp [plainName, overriddenIn]; done) | decide +kernel
set_option maxRecDepth 65536 in
set_option maxHeartbeats 40000000 in
theorem rm_chL (l : Launch) (Z : State) (a0 : Array Value) (hw : ∀ d ∈ tables_1, d.before a0 Z = true) (ws : List Jvm.Cond) (b : Addr) (k : ClassId) (z : Int32) (vs : List Value) (j : Int32) (x : Int32) (fm : Value) (h0 : Heap) (n0 : Nat) (Z0 : n0 ≤ h0.size) (O : Old Z n0 h0) (Vb : Arv Z h0 b k .byte z vs (.int 0)) (Sfm : Sta Z Z.heap "jdk/internal/util/Preconditions" "SIOOBE_FORMATTER" "Ljava/util/function/BiFunction;" fm) (hfm : fm.category = 1) (hin : ¬ (j < (0 : Int32)) ∧ j < z) (hu : vs.getD j.toNatClampNeg (.int 0) = .int x) :
    MetFree l (⟨"java/lang/StringLatin1", "charAt", "([BI)C"⟩ : MethodName) (head1 (Jvm.Cond.code (⟨"java/lang/StringLatin1", "charAt", "([BI)C"⟩ : MethodName) jdk_43_method_2_code 2 (some .char) :: ws) ({ frames := 2, cells := 0, slots := 0, locals := 27 } : Room)) (fun a_ U_ => a_ = #[(.ref b), (.int j)] ∧ Z.Warmed39 U_.vm ∧ U_.heap = h0) (fun _ _ _ _ _ => True) (fun _ U_ o_ V_ => ∃ v_ L_, o_ = .returned v_ ∧ Q_chL Z b k z vs j x fm h0 n0 v_ V_.heap L_ ∧ FrameEnd U_ o_ V_ L_ ({ frames := 2, cells := 0, slots := 0, locals := 27 } : Room).cells ({ frames := 2, cells := 0, slots := 0, locals := 27 } : Room).slots) := by
  refine MetFree.of_bodySF (plainFor_of_name pn3) hisR ?_
  intro p e s m args below meth c s₁ Bd hml0 hP hK
  obtain ⟨rfl, hZ, hh⟩ := hP
  have hx := Bd.exec
  have hby := Bd.bytes
  have hml : c.maxLocals = 2 := hml0
  have hown : s.vm.findClass "java/lang/StringLatin1" = some m.cls := findClass_of_methodNamed Bd.named
  have hnm := (name_of_methodNamed Bd.named Bd.method).1
  have X0 : Stand p l e ({ frames := 2, cells := 0, slots := 0, locals := 27 } : Room) s m #[(.ref b), (.int j)] below meth c s₁ [] 0 0 := Stand.of_body Bd
  have e0 : s₁.heap = h0 := by rw [← hh, Bd.state]; rfl
  have N0 := Fr.nil n0
  have pre0 : own_Go p e below (s₁.setTop (entryFrame m #[(.ref b), (.int j)] 2)) (s₁.setTop (mkF m 0 #[.val (.ref b), .val (.int j)] [])) := fun t_ k_ => castTop (ef__chL m b j) k_
  have P1 := own_step (C := s₁.setTop (mkF m 2 #[.val (.ref b), .val (.int j)] [(.ref b), (.int j)])) pre0 (by
    intro tt_ kk_
    refine XS.iloadN X0.here hx rfl (hb hby d21_0) rfl ?_
    refine XS.aloadN X0.here hx rfl (hb hby d21_1) rfl rfl ?_
    exact kk_)
  obtain ⟨cl2, Ar2, q2, S2, M2, H2, G2⟩ := id Vb
  have P3 := own_step (C := s₁.setTop (mkF m 3 #[.val (.ref b), .val (.int j)] [(.int z), (.int j)])) P1 (by
    intro tt_ kk_
    refine X0.arraylength hx (by rw [e0]; exact Ar2.1) (State.isArrayOf_alike hZ.alike Ar2.2.1) (g := (mkF m 2 #[.val (.ref b), .val (.int j)] [(.ref b), (.int j)])) rfl rfl (hb hby d21_2) _ ?_
    rw [len_of S2 M2]
    exact kk_)
  obtain ⟨_, _, ⟨T4, L4, k4, n4⟩, -, X4, ⟨Lc4, hQ4, l4, y4, z4⟩, st4⟩ := Jvm.LawKit.callS X0 hx (y := (⟨"java/lang/String", "checkIndex", "(II)V"⟩ : MethodName)) hown (mvT hZ (hw _ (List.mem_of_getElem? (i := 107) rfl))) (mvT hZ (hw _ (List.mem_of_getElem? (i := 108) rfl))) (mvT hZ (hw _ (List.mem_of_getElem? (i := 8) rfl))) (mvT hZ (hw _ (List.mem_of_getElem? (i := 109) rfl))) (by decide) (backOf (W := 0) (rm_chk l Z a0 hw [] j z fm h0 n0 Z0 O Sfm hfm hin.1 hin.2) hZ (hw _ (List.mem_of_getElem? (i := 109) rfl)) (hw _ (List.mem_of_getElem? (i := 8) rfl)) (by decide) (by decide)) (g := (mkF m 3 #[.val (.ref b), .val (.int j)] [(.int z), (.int j)])) rfl (by rw [hml]; rfl) (argsL := [(.int j), (.int z)]) (rest := []) (lenOf pd5 rfl) rfl (by show 2 * 0 + _ ≤ _; exact Nat.le_of_eq rfl) (hb hby d21_3) (fun _ _ => ⟨rfl, e0, (by decide : 0 + 0 ≤ _), (by decide : 0 + 0 ≤ _)⟩)
  dsimp only [Pt.U, Pt.locs, Pt.cells, Pt.slots] at X4 l4 y4 z4 st4 hQ4
  subst l4 y4 z4
  obtain ⟨rfl, N4q, e4⟩ := hQ4
  have N4 := Fr.app N0 N4q
  have P5 := own_step (C := T4.setTop (mkF m 6 #[.val (.ref b), .val (.int j)] [])) P3 (fun t_ k_ => st4 t_ k_)
  have P6 := own_step (C := T4.setTop (mkF m 8 #[.val (.ref b), .val (.int j)] [(.int j), (.ref b)])) P5 (by
    intro tt_ kk_
    refine XS.aloadN X4.here hx rfl (hb hby d21_6) rfl rfl ?_
    refine XS.iloadN X4.here hx rfl (hb hby d21_7) rfl ?_
    exact kk_)
  obtain ⟨cl7, Ar7, q7, S7, M7, H7, G7⟩ := id Vb
  have hin7 := inb_of S7 hin
  have hat7 := Has.at H7 hin7 hu
  have P8 := own_step (C := T4.setTop (mkF m 9 #[.val (.ref b), .val (.int j)] [(.int x)])) P6 (by
    intro tt_ kk_
    refine X4.baloadBytes hx (j := j) (v := (.int x)) (by rw [e4]; exact Ar7.1) (State.isArrayOf_alike hZ.alike Ar7.2.1) Ar7.2.2 hin7 hat7 (g := (mkF m 8 #[.val (.ref b), .val (.int j)] [(.int j), (.ref b)])) rfl rfl (hb hby d21_8) _ ?_
    exact kk_)
  have P9 := own_step (C := T4.setTop (mkF m 14 #[.val (.ref b), .val (.int j)] [(.int ((x &&& (255 : Int32)).toUInt32.toUInt16.toUInt32.toInt32))])) P8 (by
    intro tt_ kk_
    refine XS.sipush X4.here hx rfl (hb hby d21_9) ?_
    refine XS.iand X4.here hx rfl (hb hby d21_12) rfl ?_
    refine XS.i2c X4.here hx rfl (hb hby d21_13) rfl ?_
    exact kk_)
  obtain ⟨fs, hr, hrun, hended, hW, hsame⟩ := X4.leave (v := some (.int (nar .char ((x &&& (255 : Int32)).toUInt32.toUInt16.toUInt32.toInt32)))) (fun h => by rw [Bd.returns] at h; cases h)
  refine ⟨_, _, P9 _ ?_, hrun, hended, _, _, rfl, ?_, ⟨_, rfl⟩, hW, hsame.mono (by decide) (by decide)⟩
  · exact retN X4 hx (t := .char) Bd.returns (by simp) (hb hby d21_14) hr
  · show Q_chL Z _ _ _ _ _ _ _ h0 n0 _ T4.heap _
    rw [e4]
    exact ⟨by rw [own_nc], N4, rfl⟩
theorem pd6 : parseMethodDescriptor "()Z" = some ⟨[], some .boolean⟩ := by decide +kernel
theorem pd7 : parseMethodDescriptor "([BI)C" = some ⟨[(.array .byte), .int], some .char⟩ := by decide +kernel
theorem d19_0 : decode jdk_42_method_56_code 0 = .ok (.aload_n 0, 1) := by decide +kernel
theorem d19_1 : decode jdk_42_method_56_code 1 = .ok (.invokevirtual 492, 3) := by decide +kernel
theorem d19_4 : decode jdk_42_method_56_code 4 = .ok (.ifCond .eq 12, 3) := by decide +kernel
theorem d19_7 : decode jdk_42_method_56_code 7 = .ok (.aload_n 0, 1) := by decide +kernel
theorem d19_8 : decode jdk_42_method_56_code 8 = .ok (.getfield 9, 3) := by decide +kernel
theorem d19_11 : decode jdk_42_method_56_code 11 = .ok (.iload_n 1, 1) := by decide +kernel
theorem d19_12 : decode jdk_42_method_56_code 12 = .ok (.invokestatic 495, 3) := by decide +kernel
theorem d19_15 : decode jdk_42_method_56_code 15 = .ok (.ireturn, 1) := by decide +kernel
theorem ef__charAt (m : MethodId) (x0 : Addr) (x1 : Int32) : entryFrame m #[(.ref x0), (.int x1)] 2 = mkF m 0 #[.val (.ref x0), .val (.int x1)] [] := by first | (simp [entryFrame, mkF, argsToLocals, Value.category]; done) | rfl
def Q_charAt (Z : State) (a : Addr) (b : Addr) (k : ClassId) (z : Int32) (vs : List Value) (j : Int32) (x : Int32) (fm : Value) (cs : Int32) (h0 : Heap) (n0 : Nat) (v_ : Option Value) (h : Heap) (L_ : List Loc) : Prop := v_ = some (.int (x &&& (255 : Int32))) ∧ Fr n0 L_ ∧ h = h0
set_option maxRecDepth 65536 in
set_option maxHeartbeats 40000000 in
theorem rm_charAt (l : Launch) (Z : State) (a0 : Array Value) (hw : ∀ d ∈ tables_1, d.before a0 Z = true) (ws : List Jvm.Cond) (a : Addr) (b : Addr) (k : ClassId) (z : Int32) (vs : List Value) (j : Int32) (x : Int32) (fm : Value) (cs : Int32) (h0 : Heap) (n0 : Nat) (Z0 : n0 ≤ h0.size) (O : Old Z n0 h0) (Scs : Sta Z Z.heap "java/lang/String" "COMPACT_STRINGS" "Z" (.int cs)) (hcs : ¬ (cs = (0 : Int32))) (Ea : Exa Z h0 a "java/lang/String") (Fc : Fld Z h0 a "java/lang/String" "coder" "B" (.int (0 : Int32))) (Fv : Fld Z h0 a "java/lang/String" "value" "[B" (.ref b)) (Vb : Arv Z h0 b k .byte z vs (.int 0)) (Sfm : Sta Z Z.heap "jdk/internal/util/Preconditions" "SIOOBE_FORMATTER" "Ljava/util/function/BiFunction;" fm) (hfm : fm.category = 1) (hin : ¬ (j < (0 : Int32)) ∧ j < z) (hu : vs.getD j.toNatClampNeg (.int 0) = .int x) :
    MetFree l (⟨"java/lang/String", "charAt", "(I)C"⟩ : MethodName) (head1 (Jvm.Cond.code (⟨"java/lang/String", "charAt", "(I)C"⟩ : MethodName) jdk_42_method_56_code 2 (some .char) :: ws) ({ frames := 3, cells := 0, slots := 0, locals := 40 } : Room)) (fun a_ U_ => a_ = #[(.ref a), (.int j)] ∧ Z.Warmed39 U_.vm ∧ U_.heap = h0) (fun _ _ _ _ _ => True) (fun _ U_ o_ V_ => ∃ v_ L_, o_ = .returned v_ ∧ Q_charAt Z a b k z vs j x fm cs h0 n0 v_ V_.heap L_ ∧ FrameEnd U_ o_ V_ L_ ({ frames := 3, cells := 0, slots := 0, locals := 40 } : Room).cells ({ frames := 3, cells := 0, slots := 0, locals := 40 } : Room).slots) := by
  refine MetFree.of_bodySF (plainFor_of_name pn0) hisR ?_
  intro p e s m args below meth c s₁ Bd hml0 hP hK
  obtain ⟨rfl, hZ, hh⟩ := hP
  have hx := Bd.exec
  have hby := Bd.bytes
  have hml : c.maxLocals = 2 := hml0
  have hown : s.vm.findClass "java/lang/String" = some m.cls := findClass_of_methodNamed Bd.named
  have hnm := (name_of_methodNamed Bd.named Bd.method).1
  have X0 : Stand p l e ({ frames := 3, cells := 0, slots := 0, locals := 40 } : Room) s m #[(.ref a), (.int j)] below meth c s₁ [] 0 0 := Stand.of_body Bd
  have e0 : s₁.heap = h0 := by rw [← hh, Bd.state]; rfl
  have N0 := Fr.nil n0
  have pre0 : own_Go p e below (s₁.setTop (entryFrame m #[(.ref a), (.int j)] 2)) (s₁.setTop (mkF m 0 #[.val (.ref a), .val (.int j)] [])) := fun t_ k_ => castTop (ef__charAt m a j) k_
  have P1 := own_step (C := s₁.setTop (mkF m 1 #[.val (.ref a), .val (.int j)] [(.ref a)])) pre0 (by
    intro tt_ kk_
    refine XS.aloadN X0.here hx rfl (hb hby d19_0) rfl rfl ?_
    exact kk_)
  obtain ⟨cq2, kq2, q2a, q2b, q2c⟩ := isOf hZ e0 Ea
  obtain ⟨_, _, ⟨T2, L2, k2, n2⟩, -, X2, ⟨Lc2, hQ2, l2, y2, z2⟩, st2⟩ := X0.virtualBack hx (y := (⟨"java/lang/String", "isLatin1", "()Z"⟩ : MethodName)) (z := (⟨"java/lang/String", "isLatin1", "()Z"⟩ : MethodName)) hown (mvT hZ (hw _ (List.mem_of_getElem? (i := 99) rfl))) (mvT hZ (hw _ (List.mem_of_getElem? (i := 100) rfl))) (notFace_of_selects (args := #[]) (mvT hZ (hw _ (List.mem_of_getElem? (i := 102) rfl)))) (mvT hZ (hw _ (List.mem_of_getElem? (i := 102) rfl))) (mvT hZ (hw _ (List.mem_of_getElem? (i := 101) rfl))) (by decide) (backOf (W := 0) (rm_lat0 l Z a0 hw [] a cs h0 n0 Z0 O Scs hcs Fc) hZ (hw _ (List.mem_of_getElem? (i := 103) rfl)) (hw _ (List.mem_of_getElem? (i := 8) rfl)) (by decide) (by decide)) q2a q2c (g := (mkF m 1 #[.val (.ref a), .val (.int j)] [(.ref a)])) rfl (by rw [hml]; rfl) (Steps.refl _) (argsL := []) (rest := []) (lenOf pd6 rfl) rfl (by show 2 * 0 + _ ≤ _; exact Nat.le_of_eq rfl) (hb hby d19_1) (fun _ _ => ⟨rfl, e0, (by decide : 0 + 0 ≤ _), (by decide : 0 + 0 ≤ _)⟩)
  dsimp only [Pt.U, Pt.locs, Pt.cells, Pt.slots] at X2 l2 y2 z2 st2 hQ2
  subst l2 y2 z2
  obtain ⟨rfl, N2q, e2⟩ := hQ2
  have N2 := Fr.app N0 N2q
  have P3 := own_step (C := T2.setTop (mkF m 4 #[.val (.ref a), .val (.int j)] [(.int (1 : Int32))])) P1 (fun t_ k_ => st2.trans k_)
  have P4 := own_step (C := T2.setTop (mkF m 7 #[.val (.ref a), .val (.int j)] [])) P3 (by
    intro tt_ kk_
    refine XS.ifNo X2.here hx rfl (hb hby d19_4) rfl ((if0 _ _).trans (feq (by decide : ¬ ((1 : Int32) = (0 : Int32)))).1) ?_
    exact kk_)
  have P5 := own_step (C := T2.setTop (mkF m 8 #[.val (.ref a), .val (.int j)] [(.ref a)])) P4 (by
    intro tt_ kk_
    refine XS.aloadN X2.here hx rfl (hb hby d19_7) rfl rfl ?_
    exact kk_)
  obtain ⟨T6, X6, e6, st6⟩ := getF X2 hx hZ hown (host := "") (Or.inl (hw _ (List.mem_of_getElem? (i := 28) rfl))) Via.refl e2 Fv (g := (mkF m 8 #[.val (.ref a), .val (.int j)] [(.ref a)])) rfl rfl (hb hby d19_8)
  have P7 := own_step (C := T6.setTop (mkF m 11 #[.val (.ref a), .val (.int j)] [(.ref b)])) P5 (fun t_ k_ => st6 t_ k_)
  have P8 := own_step (C := T6.setTop (mkF m 12 #[.val (.ref a), .val (.int j)] [(.int j), (.ref b)])) P7 (by
    intro tt_ kk_
    refine XS.iloadN X6.here hx rfl (hb hby d19_11) rfl ?_
    exact kk_)
  obtain ⟨_, _, ⟨T9, L9, k9, n9⟩, -, X9, ⟨Lc9, hQ9, l9, y9, z9⟩, st9⟩ := Jvm.LawKit.callS X6 hx (y := (⟨"java/lang/StringLatin1", "charAt", "([BI)C"⟩ : MethodName)) hown (mvT hZ (hw _ (List.mem_of_getElem? (i := 104) rfl))) (mvT hZ (hw _ (List.mem_of_getElem? (i := 105) rfl))) (mvT hZ (hw _ (List.mem_of_getElem? (i := 13) rfl))) (mvT hZ (hw _ (List.mem_of_getElem? (i := 106) rfl))) (by decide) (backOf (W := 0) (rm_chL l Z a0 hw [] b k z vs j x fm h0 n0 Z0 O Vb Sfm hfm hin hu) hZ (hw _ (List.mem_of_getElem? (i := 106) rfl)) (hw _ (List.mem_of_getElem? (i := 13) rfl)) (by decide) (by decide)) (g := (mkF m 12 #[.val (.ref a), .val (.int j)] [(.int j), (.ref b)])) rfl (by rw [hml]; rfl) (argsL := [(.ref b), (.int j)]) (rest := []) (lenOf pd7 rfl) rfl (by show 2 * 0 + _ ≤ _; exact Nat.le_of_eq rfl) (hb hby d19_12) (fun _ _ => ⟨rfl, e6, (by decide : 0 + 0 ≤ _), (by decide : 0 + 0 ≤ _)⟩)
  dsimp only [Pt.U, Pt.locs, Pt.cells, Pt.slots] at X9 l9 y9 z9 st9 hQ9
  subst l9 y9 z9
  obtain ⟨rfl, N9q, e9⟩ := hQ9
  have N9 := Fr.app N2 N9q
  have P10 := own_step (C := T9.setTop (mkF m 15 #[.val (.ref a), .val (.int j)] [(.int (x &&& (255 : Int32)))])) P8 (fun t_ k_ => st9 t_ k_)
  obtain ⟨fs, hr, hrun, hended, hW, hsame⟩ := X9.leave (v := some (.int (nar .char (x &&& (255 : Int32))))) (fun h => by rw [Bd.returns] at h; cases h)
  refine ⟨_, _, P10 _ ?_, hrun, hended, _, _, rfl, ?_, ⟨_, rfl⟩, hW, hsame.mono (by decide) (by decide)⟩
  · exact retN X9 hx (t := .char) Bd.returns (by simp) (hb hby d19_15) hr
  · show Q_charAt Z _ _ _ _ _ _ _ _ _ h0 n0 _ T9.heap _
    rw [e9]
    exact ⟨by rw [own_nc1], N9, rfl⟩
theorem pd8 : parseMethodDescriptor "(I)C" = some ⟨[.int], some .char⟩ := by decide +kernel
theorem d10_14 : decode prog_36_method_3_code 14 = .ok (.aload_n 0, 1) := by decide +kernel
theorem d10_15 : decode prog_36_method_3_code 15 = .ok (.iload 4, 2) := by decide +kernel
theorem d10_17 : decode prog_36_method_3_code 17 = .ok (.invokevirtual 49, 3) := by decide +kernel
theorem d10_20 : decode prog_36_method_3_code 20 = .ok (.istore 5, 2) := by decide +kernel
theorem d10_22 : decode prog_36_method_3_code 22 = .ok (.iload 5, 2) := by decide +kernel
theorem d10_24 : decode prog_36_method_3_code 24 = .ok (.sipush 128, 3) := by decide +kernel
theorem d10_27 : decode prog_36_method_3_code 27 = .ok (.if_icmp .lt 18, 3) := by decide +kernel
theorem d10_45 : decode prog_36_method_3_code 45 = .ok (.iload 5, 2) := by decide +kernel
theorem d10_47 : decode prog_36_method_3_code 47 = .ok (.iload_n 1, 1) := by decide +kernel
theorem d10_48 : decode prog_36_method_3_code 48 = .ok (.if_icmp .lt 19, 3) := by decide +kernel
theorem d10_51 : decode prog_36_method_3_code 51 = .ok (.iload 5, 2) := by decide +kernel
theorem d10_53 : decode prog_36_method_3_code 53 = .ok (.iload_n 1, 1) := by decide +kernel
theorem d10_54 : decode prog_36_method_3_code 54 = .ok (.bipush 64, 2) := by decide +kernel
theorem d10_56 : decode prog_36_method_3_code 56 = .ok (.iadd, 1) := by decide +kernel
theorem d10_57 : decode prog_36_method_3_code 57 = .ok (.if_icmp .ge 10, 3) := by decide +kernel
theorem d10_60 : decode prog_36_method_3_code 60 = .ok (.lload_n 2, 1) := by decide +kernel
theorem d10_61 : decode prog_36_method_3_code 61 = .ok (.lconst 1, 1) := by decide +kernel
theorem d10_62 : decode prog_36_method_3_code 62 = .ok (.iload 5, 2) := by decide +kernel
theorem d10_64 : decode prog_36_method_3_code 64 = .ok (.lshl, 1) := by decide +kernel
theorem d10_65 : decode prog_36_method_3_code 65 = .ok (.lor, 1) := by decide +kernel
theorem d10_66 : decode prog_36_method_3_code 66 = .ok (.lstore_n 2, 1) := by decide +kernel
theorem d10_67 : decode prog_36_method_3_code 67 = .ok (.iinc 4 1, 3) := by decide +kernel
theorem d10_70 : decode prog_36_method_3_code 70 = .ok (.goto (-65), 3) := by decide +kernel
theorem ef__bits1_0 (m : MethodId) (x0 : Addr) (x1 : Int32) : entryFrame m #[(.ref x0), (.int x1)] 6 = mkF m 0 #[.val (.ref x0), .val (.int x1), .unset, .unset, .unset, .unset] [] := by first | (simp [entryFrame, mkF, argsToLocals, Value.category]; done) | rfl
def Q_bits1_0 (Z : State) (sa : Addr) (sb : Addr) (sk : ClassId) (x0 : Int32) (fm : Value) (cs : Int32) (h0 : Heap) (n0 : Nat) (v_ : Option Value) (h : Heap) (L_ : List Loc) : Prop := v_ = some (.long (own_bit (0 : Int32) (64 : Int32) (x0 &&& (255 : Int32)) (0 : Int64))) ∧ Fr n0 L_ ∧ h = h0
set_option maxRecDepth 65536 in
set_option maxHeartbeats 40000000 in
theorem rm_bits1_0 (l : Launch) (Z : State) (a0 : Array Value) (hw : ∀ d ∈ tables_1, d.before a0 Z = true) (ws : List Jvm.Cond) (sa : Addr) (sb : Addr) (sk : ClassId) (x0 : Int32) (fm : Value) (cs : Int32) (h0 : Heap) (n0 : Nat) (Z0 : n0 ≤ h0.size) (O : Old Z n0 h0) (Scs : Sta Z Z.heap "java/lang/String" "COMPACT_STRINGS" "Z" (.int cs)) (hcs : ¬ (cs = (0 : Int32))) (Sfm : Sta Z Z.heap "jdk/internal/util/Preconditions" "SIOOBE_FORMATTER" "Ljava/util/function/BiFunction;" fm) (hfm : fm.category = 1) (Es : Exa Z h0 sa "java/lang/String") (Fsc : Fld Z h0 sa "java/lang/String" "coder" "B" (.int (0 : Int32))) (Fsv : Fld Z h0 sa "java/lang/String" "value" "[B" (.ref sb)) (Vs : Arv Z h0 sb sk .byte (1 : Int32) [(.int x0)] (.int 0)) (hx0 : (x0 &&& (255 : Int32)) < (128 : Int32)) :
    MetFree l (⟨"com/example/gatehouse/gatehouse/pattern/NameShape", "bits", "(Ljava/lang/String;I)J"⟩ : MethodName) (head1 (Jvm.Cond.code (⟨"com/example/gatehouse/gatehouse/pattern/NameShape", "bits", "(Ljava/lang/String;I)J"⟩ : MethodName) prog_36_method_3_code 6 (some .long) :: ws) ({ frames := 4, cells := 0, slots := 0, locals := 53 } : Room)) (fun a_ U_ => a_ = #[(.ref sa), (.int (0 : Int32))] ∧ Z.Warmed39 U_.vm ∧ U_.heap = h0) (fun _ _ _ _ _ => True) (fun _ U_ o_ V_ => ∃ v_ L_, o_ = .returned v_ ∧ Q_bits1_0 Z sa sb sk x0 fm cs h0 n0 v_ V_.heap L_ ∧ FrameEnd U_ o_ V_ L_ ({ frames := 4, cells := 0, slots := 0, locals := 53 } : Room).cells ({ frames := 4, cells := 0, slots := 0, locals := 53 } : Room).slots) := by
  refine MetFree.of_bodySF (plainFor_of_name pn1) hisR ?_
  intro p e s m args below meth c s₁ Bd hml0 hP hK
  obtain ⟨rfl, hZ, hh⟩ := hP
  have hx := Bd.exec
  have hby := Bd.bytes
  have hml : c.maxLocals = 6 := hml0
  have hown : s.vm.findClass "com/example/gatehouse/gatehouse/pattern/NameShape" = some m.cls := findClass_of_methodNamed Bd.named
  have hnm := (name_of_methodNamed Bd.named Bd.method).1
  have X0 : Stand p l e ({ frames := 4, cells := 0, slots := 0, locals := 53 } : Room) s m #[(.ref sa), (.int (0 : Int32))] below meth c s₁ [] 0 0 := Stand.of_body Bd
  have e0 : s₁.heap = h0 := by rw [← hh, Bd.state]; rfl
  have N0 := Fr.nil n0
  have pre0 : own_Go p e below (s₁.setTop (entryFrame m #[(.ref sa), (.int (0 : Int32))] 6)) (s₁.setTop (mkF m 0 #[.val (.ref sa), .val (.int (0 : Int32)), .unset, .unset, .unset, .unset] [])) := fun t_ k_ => castTop (ef__bits1_0 m sa (0 : Int32)) k_
  have P1 := own_step (C := s₁.setTop (mkF m 8 #[.val (.ref sa), .val (.int (0 : Int32)), .val (.long (0 : Int64)), .second, .val (.int (0 : Int32)), .unset] [(.ref sa), (.int (0 : Int32))])) pre0 (by
    intro tt_ kk_
    refine XS.lconst X0.here hx rfl (hb hby d10_0) ?_
    refine XS.lstoreN X0.here hx rfl (hb hby d10_1) rfl (l' := #[.val (.ref sa), .val (.int (0 : Int32)), .val (.long (0 : Int64)), .second, .unset, .unset]) rfl ?_
    refine XS.iconst X0.here hx rfl (hb hby d10_2) ?_
    refine XS.istore X0.here hx rfl (hb hby d10_3) rfl (l' := #[.val (.ref sa), .val (.int (0 : Int32)), .val (.long (0 : Int64)), .second, .val (.int (0 : Int32)), .unset]) rfl ?_
    refine XS.iload X0.here hx rfl (hb hby d10_5) rfl ?_
    refine XS.aloadN X0.here hx rfl (hb hby d10_7) rfl rfl ?_
    exact kk_)
  obtain ⟨cq2, kq2, q2a, q2b, q2c⟩ := isOf hZ e0 Es
  obtain ⟨_, _, ⟨T2, L2, k2, n2⟩, -, X2, ⟨Lc2, hQ2, l2, y2, z2⟩, st2⟩ := X0.virtualBack hx (y := (⟨"java/lang/String", "length", "()I"⟩ : MethodName)) (z := (⟨"java/lang/String", "length", "()I"⟩ : MethodName)) hown (mvT hZ (hw _ (List.mem_of_getElem? (i := 51) rfl))) (mvT hZ (hw _ (List.mem_of_getElem? (i := 52) rfl))) (notFace_of_selects (args := #[]) (mvT hZ (hw _ (List.mem_of_getElem? (i := 54) rfl)))) (mvT hZ (hw _ (List.mem_of_getElem? (i := 54) rfl))) (mvT hZ (hw _ (List.mem_of_getElem? (i := 53) rfl))) (by decide) (backOf (W := 1) (rm_length l Z a0 hw [] sa sb sk (1 : Int32) _ cs h0 n0 Z0 O Scs hcs Es Fsc Fsv Vs) hZ (hw _ (List.mem_of_getElem? (i := 55) rfl)) (hw _ (List.mem_of_getElem? (i := 8) rfl)) (by decide) (by decide)) q2a q2c (g := (mkF m 8 #[.val (.ref sa), .val (.int (0 : Int32)), .val (.long (0 : Int64)), .second, .val (.int (0 : Int32)), .unset] [(.ref sa), (.int (0 : Int32))])) rfl (by rw [hml]; rfl) (Steps.refl _) (argsL := []) (rest := [(.int (0 : Int32))]) (lenOf pd1 rfl) rfl (by show 2 * 0 + _ ≤ _; exact Nat.le_of_eq rfl) (hb hby d10_8) (fun _ _ => ⟨rfl, e0, (by decide : 0 + 0 ≤ _), (by decide : 0 + 0 ≤ _)⟩)
  dsimp only [Pt.U, Pt.locs, Pt.cells, Pt.slots] at X2 l2 y2 z2 st2 hQ2
  subst l2 y2 z2
  obtain ⟨rfl, N2q, e2⟩ := hQ2
  have N2 := Fr.app N0 N2q
  have P3 := own_step (C := T2.setTop (mkF m 11 #[.val (.ref sa), .val (.int (0 : Int32)), .val (.long (0 : Int64)), .second, .val (.int (0 : Int32)), .unset] [(.int (1 : Int32)), (.int (0 : Int32))])) P1 (fun t_ k_ => st2.trans k_)
  have P4 := own_step (C := T2.setTop (mkF m 14 #[.val (.ref sa), .val (.int (0 : Int32)), .val (.long (0 : Int64)), .second, .val (.int (0 : Int32)), .unset] [])) P3 (by
    intro tt_ kk_
    refine XS.icmpNo X2.here hx rfl (hb hby d10_11) rfl (tlt (by decide : (0 : Int32) < (1 : Int32))).2.1 ?_
    exact kk_)
  have P5 := own_step (C := T2.setTop (mkF m 17 #[.val (.ref sa), .val (.int (0 : Int32)), .val (.long (0 : Int64)), .second, .val (.int (0 : Int32)), .unset] [(.int (0 : Int32)), (.ref sa)])) P4 (by
    intro tt_ kk_
    refine XS.aloadN X2.here hx rfl (hb hby d10_14) rfl rfl ?_
    refine XS.iload X2.here hx rfl (hb hby d10_15) rfl ?_
    exact kk_)
  obtain ⟨cq6, kq6, q6a, q6b, q6c⟩ := isOf hZ e2 Es
  obtain ⟨_, _, ⟨T6, L6, k6, n6⟩, -, X6, ⟨Lc6, hQ6, l6, y6, z6⟩, st6⟩ := X2.virtualBack hx (y := (⟨"java/lang/String", "charAt", "(I)C"⟩ : MethodName)) (z := (⟨"java/lang/String", "charAt", "(I)C"⟩ : MethodName)) hown (mvT hZ (hw _ (List.mem_of_getElem? (i := 94) rfl))) (mvT hZ (hw _ (List.mem_of_getElem? (i := 95) rfl))) (notFace_of_selects (args := #[]) (mvT hZ (hw _ (List.mem_of_getElem? (i := 97) rfl)))) (mvT hZ (hw _ (List.mem_of_getElem? (i := 97) rfl))) (mvT hZ (hw _ (List.mem_of_getElem? (i := 96) rfl))) (by decide) (backOf (W := 0) (rm_charAt l Z a0 hw [] sa sb sk (1 : Int32) _ (0 : Int32) x0 fm cs h0 n0 Z0 O Scs hcs Es Fsc Fsv Vs Sfm hfm (by decide : ¬ (0 : Int32) < (0 : Int32) ∧ (0 : Int32) < (1 : Int32)) rfl) hZ (hw _ (List.mem_of_getElem? (i := 98) rfl)) (hw _ (List.mem_of_getElem? (i := 8) rfl)) (by decide) (by decide)) q6a q6c (g := (mkF m 17 #[.val (.ref sa), .val (.int (0 : Int32)), .val (.long (0 : Int64)), .second, .val (.int (0 : Int32)), .unset] [(.int (0 : Int32)), (.ref sa)])) rfl (by rw [hml]; rfl) (Steps.refl _) (argsL := [(.int (0 : Int32))]) (rest := []) (lenOf pd8 rfl) rfl (by show 2 * 0 + _ ≤ _; exact Nat.le_of_eq rfl) (hb hby d10_17) (fun _ _ => ⟨rfl, e2, (by decide : 0 + 0 ≤ _), (by decide : 0 + 0 ≤ _)⟩)
  dsimp only [Pt.U, Pt.locs, Pt.cells, Pt.slots] at X6 l6 y6 z6 st6 hQ6
  subst l6 y6 z6
  obtain ⟨rfl, N6q, e6⟩ := hQ6
  have N6 := Fr.app N2 N6q
  have P7 := own_step (C := T6.setTop (mkF m 20 #[.val (.ref sa), .val (.int (0 : Int32)), .val (.long (0 : Int64)), .second, .val (.int (0 : Int32)), .unset] [(.int (x0 &&& (255 : Int32)))])) P5 (fun t_ k_ => st6.trans k_)
  have P8 := own_step (C := T6.setTop (mkF m 27 #[.val (.ref sa), .val (.int (0 : Int32)), .val (.long (0 : Int64)), .second, .val (.int (0 : Int32)), .val (.int (x0 &&& (255 : Int32)))] [(.int (128 : Int32)), (.int (x0 &&& (255 : Int32)))])) P7 (by
    intro tt_ kk_
    refine XS.istore X6.here hx rfl (hb hby d10_20) rfl (l' := #[.val (.ref sa), .val (.int (0 : Int32)), .val (.long (0 : Int64)), .second, .val (.int (0 : Int32)), .val (.int (x0 &&& (255 : Int32)))]) rfl ?_
    refine XS.iload X6.here hx rfl (hb hby d10_22) rfl ?_
    refine XS.sipush X6.here hx rfl (hb hby d10_24) ?_
    exact kk_)
  have P9 := own_step (C := T6.setTop (mkF m 45 #[.val (.ref sa), .val (.int (0 : Int32)), .val (.long (0 : Int64)), .second, .val (.int (0 : Int32)), .val (.int (x0 &&& (255 : Int32)))] [])) P8 (by
    intro tt_ kk_
    refine XS.icmpYes X6.here hx rfl (pc0 := 27) (pc' := 45) rfl (hb hby d10_27) rfl (tlt hx0).1 (by decide) (by decide) ?_
    exact kk_)
  obtain ⟨q0, hv10, J10⟩ : ∃ (q0 : Int64), (((x0 &&& (255 : Int32)) < (0 : Int32) ∧ q0 = (0 : Int64)) ∨ (¬ ((x0 &&& (255 : Int32)) < (0 : Int32)) ∧ (x0 &&& (255 : Int32)) < (64 : Int32) ∧ q0 = ((0 : Int64) ||| ((1 : Int64) <<< ((x0 &&& (255 : Int32)) &&& 0x3f).toInt64))) ∨ (¬ ((x0 &&& (255 : Int32)) < (0 : Int32)) ∧ ¬ ((x0 &&& (255 : Int32)) < (64 : Int32)) ∧ q0 = (0 : Int64))) ∧ own_Go p e below (T6.setTop (mkF m 45 #[.val (.ref sa), .val (.int (0 : Int32)), .val (.long (0 : Int64)), .second, .val (.int (0 : Int32)), .val (.int (x0 &&& (255 : Int32)))] [])) (T6.setTop (mkF m 67 #[.val (.ref sa), .val (.int (0 : Int32)), .val (.long q0), .second, .val (.int (0 : Int32)), .val (.int (x0 &&& (255 : Int32)))] [])) := by
    have P11 : own_Go p e below (T6.setTop (mkF m 45 #[.val (.ref sa), .val (.int (0 : Int32)), .val (.long (0 : Int64)), .second, .val (.int (0 : Int32)), .val (.int (x0 &&& (255 : Int32)))] [])) (T6.setTop (mkF m 45 #[.val (.ref sa), .val (.int (0 : Int32)), .val (.long (0 : Int64)), .second, .val (.int (0 : Int32)), .val (.int (x0 &&& (255 : Int32)))] [])) := fun t_ k_ => k_
    have P12 := own_step (C := T6.setTop (mkF m 48 #[.val (.ref sa), .val (.int (0 : Int32)), .val (.long (0 : Int64)), .second, .val (.int (0 : Int32)), .val (.int (x0 &&& (255 : Int32)))] [(.int (0 : Int32)), (.int (x0 &&& (255 : Int32)))])) P11 (by
      intro tt_ kk_
      refine XS.iload X6.here hx rfl (hb hby d10_45) rfl ?_
      refine XS.iloadN X6.here hx rfl (hb hby d10_47) rfl ?_
      exact kk_)
    by_cases c13 : (x0 &&& (255 : Int32)) < (0 : Int32)
    · have P14 := own_step (C := T6.setTop (mkF m 67 #[.val (.ref sa), .val (.int (0 : Int32)), .val (.long (0 : Int64)), .second, .val (.int (0 : Int32)), .val (.int (x0 &&& (255 : Int32)))] [])) P12 (by
        intro tt_ kk_
        refine XS.icmpYes X6.here hx rfl (pc0 := 48) (pc' := 67) rfl (hb hby d10_48) rfl (tlt c13).1 (by decide) (by decide) ?_
        exact kk_)
      exact ⟨(0 : Int64), Or.inl ⟨c13, rfl⟩, P14⟩
    · have P15 := own_step (C := T6.setTop (mkF m 51 #[.val (.ref sa), .val (.int (0 : Int32)), .val (.long (0 : Int64)), .second, .val (.int (0 : Int32)), .val (.int (x0 &&& (255 : Int32)))] [])) P12 (by
        intro tt_ kk_
        refine XS.icmpNo X6.here hx rfl (hb hby d10_48) rfl (flt c13).1 ?_
        exact kk_)
      have P16 := own_step (C := T6.setTop (mkF m 57 #[.val (.ref sa), .val (.int (0 : Int32)), .val (.long (0 : Int64)), .second, .val (.int (0 : Int32)), .val (.int (x0 &&& (255 : Int32)))] [(.int (64 : Int32)), (.int (x0 &&& (255 : Int32)))])) P15 (by
        intro tt_ kk_
        refine XS.iload X6.here hx rfl (hb hby d10_51) rfl ?_
        refine XS.iloadN X6.here hx rfl (hb hby d10_53) rfl ?_
        refine XS.bipush X6.here hx rfl (hb hby d10_54) ?_
        refine XS.iadd X6.here hx rfl (hb hby d10_56) rfl ?_
        exact kk_)
      by_cases c17 : (x0 &&& (255 : Int32)) < (64 : Int32)
      · have P18 := own_step (C := T6.setTop (mkF m 60 #[.val (.ref sa), .val (.int (0 : Int32)), .val (.long (0 : Int64)), .second, .val (.int (0 : Int32)), .val (.int (x0 &&& (255 : Int32)))] [])) P16 (by
          intro tt_ kk_
          refine XS.icmpNo X6.here hx rfl (hb hby d10_57) rfl (tlt c17).2.1 ?_
          exact kk_)
        have P19 := own_step (C := T6.setTop (mkF m 67 #[.val (.ref sa), .val (.int (0 : Int32)), .val (.long ((0 : Int64) ||| ((1 : Int64) <<< ((x0 &&& (255 : Int32)) &&& 0x3f).toInt64))), .second, .val (.int (0 : Int32)), .val (.int (x0 &&& (255 : Int32)))] [])) P18 (by
          intro tt_ kk_
          refine XS.lloadN X6.here hx rfl (hb hby d10_60) rfl ?_
          refine XS.lconst X6.here hx rfl (hb hby d10_61) ?_
          refine XS.iload X6.here hx rfl (hb hby d10_62) rfl ?_
          refine XS.lshl X6.here hx rfl (hb hby d10_64) rfl ?_
          refine XS.lor X6.here hx rfl (hb hby d10_65) rfl ?_
          refine XS.lstoreN X6.here hx rfl (hb hby d10_66) rfl (l' := #[.val (.ref sa), .val (.int (0 : Int32)), .val (.long ((0 : Int64) ||| ((1 : Int64) <<< ((x0 &&& (255 : Int32)) &&& 0x3f).toInt64))), .second, .val (.int (0 : Int32)), .val (.int (x0 &&& (255 : Int32)))]) rfl ?_
          exact kk_)
        exact ⟨((0 : Int64) ||| ((1 : Int64) <<< ((x0 &&& (255 : Int32)) &&& 0x3f).toInt64)), Or.inr (Or.inl ⟨c13, c17, rfl⟩), P19⟩
      · have P20 := own_step (C := T6.setTop (mkF m 67 #[.val (.ref sa), .val (.int (0 : Int32)), .val (.long (0 : Int64)), .second, .val (.int (0 : Int32)), .val (.int (x0 &&& (255 : Int32)))] [])) P16 (by
          intro tt_ kk_
          refine XS.icmpYes X6.here hx rfl (pc0 := 57) (pc' := 67) rfl (hb hby d10_57) rfl (flt c17).2.1 (by decide) (by decide) ?_
          exact kk_)
        exact ⟨(0 : Int64), Or.inr (Or.inr (⟨c13, c17, rfl⟩)), P20⟩
  have P21 := own_step P9 J10
  have P22 := own_step (C := T6.setTop (mkF m 8 #[.val (.ref sa), .val (.int (0 : Int32)), .val (.long q0), .second, .val (.int (1 : Int32)), .val (.int (x0 &&& (255 : Int32)))] [(.ref sa), (.int (1 : Int32))])) P21 (by
    intro tt_ kk_
    refine XS.iinc X6.here hx rfl (hb hby d10_67) rfl (l' := #[.val (.ref sa), .val (.int (0 : Int32)), .val (.long q0), .second, .val (.int (1 : Int32)), .val (.int (x0 &&& (255 : Int32)))]) rfl ?_
    show Steps p.tables e below (T6.setTop (mkF m 70 #[.val (.ref sa), .val (.int (0 : Int32)), .val (.long q0), .second, .val (.int (1 : Int32)), .val (.int (x0 &&& (255 : Int32)))] [])) _
    refine XS.goto X6.here hx rfl (pc0 := 70) (pc' := 5) rfl (hb hby d10_70) (by decide) (by decide) ?_
    refine XS.iload X6.here hx rfl (hb hby d10_5) rfl ?_
    refine XS.aloadN X6.here hx rfl (hb hby d10_7) rfl rfl ?_
    exact kk_)
  obtain ⟨cq23, kq23, q23a, q23b, q23c⟩ := isOf hZ e6 Es
  obtain ⟨_, _, ⟨T23, L23, k23, n23⟩, -, X23, ⟨Lc23, hQ23, l23, y23, z23⟩, st23⟩ := X6.virtualBack hx (y := (⟨"java/lang/String", "length", "()I"⟩ : MethodName)) (z := (⟨"java/lang/String", "length", "()I"⟩ : MethodName)) hown (mvT hZ (hw _ (List.mem_of_getElem? (i := 51) rfl))) (mvT hZ (hw _ (List.mem_of_getElem? (i := 52) rfl))) (notFace_of_selects (args := #[]) (mvT hZ (hw _ (List.mem_of_getElem? (i := 54) rfl)))) (mvT hZ (hw _ (List.mem_of_getElem? (i := 54) rfl))) (mvT hZ (hw _ (List.mem_of_getElem? (i := 53) rfl))) (by decide) (backOf (W := 1) (rm_length l Z a0 hw [] sa sb sk (1 : Int32) _ cs h0 n0 Z0 O Scs hcs Es Fsc Fsv Vs) hZ (hw _ (List.mem_of_getElem? (i := 55) rfl)) (hw _ (List.mem_of_getElem? (i := 8) rfl)) (by decide) (by decide)) q23a q23c (g := (mkF m 8 #[.val (.ref sa), .val (.int (0 : Int32)), .val (.long q0), .second, .val (.int (1 : Int32)), .val (.int (x0 &&& (255 : Int32)))] [(.ref sa), (.int (1 : Int32))])) rfl (by rw [hml]; rfl) (Steps.refl _) (argsL := []) (rest := [(.int (1 : Int32))]) (lenOf pd1 rfl) rfl (by show 2 * 0 + _ ≤ _; exact Nat.le_of_eq rfl) (hb hby d10_8) (fun _ _ => ⟨rfl, e6, (by decide : 0 + 0 ≤ _), (by decide : 0 + 0 ≤ _)⟩)
  dsimp only [Pt.U, Pt.locs, Pt.cells, Pt.slots] at X23 l23 y23 z23 st23 hQ23
  subst l23 y23 z23
  obtain ⟨rfl, N23q, e23⟩ := hQ23
  have N23 := Fr.app N6 N23q
  have P24 := own_step (C := T23.setTop (mkF m 11 #[.val (.ref sa), .val (.int (0 : Int32)), .val (.long q0), .second, .val (.int (1 : Int32)), .val (.int (x0 &&& (255 : Int32)))] [(.int (1 : Int32)), (.int (1 : Int32))])) P22 (fun t_ k_ => st23.trans k_)
  have P25 := own_step (C := T23.setTop (mkF m 73 #[.val (.ref sa), .val (.int (0 : Int32)), .val (.long q0), .second, .val (.int (1 : Int32)), .val (.int (x0 &&& (255 : Int32)))] [])) P24 (by
    intro tt_ kk_
    refine XS.icmpYes X23.here hx rfl (pc0 := 11) (pc' := 73) rfl (hb hby d10_11) rfl (flt (by decide : ¬ ((1 : Int32) < (1 : Int32)))).2.1 (by decide) (by decide) ?_
    exact kk_)
  have P26 := own_step (C := T23.setTop (mkF m 74 #[.val (.ref sa), .val (.int (0 : Int32)), .val (.long q0), .second, .val (.int (1 : Int32)), .val (.int (x0 &&& (255 : Int32)))] [(.long q0)])) P25 (by
    intro tt_ kk_
    refine XS.lloadN X23.here hx rfl (hb hby d10_73) rfl ?_
    exact kk_)
  obtain ⟨fs, hr, hrun, hended, hW, hsame⟩ := X23.leave (v := some (.long q0)) (fun h => by rw [Bd.returns] at h; cases h)
  refine ⟨_, _, P26 _ ?_, hrun, hended, _, _, rfl, ?_, ⟨_, rfl⟩, hW, hsame.mono (by decide) (by decide)⟩
  · exact retOut X23 hx Bd.returns rfl (Or.inr (Or.inl ⟨rfl, rfl, _, rfl⟩)) (hb hby d10_74) hr
  · show Q_bits1_0 Z _ _ _ _ _ _ h0 n0 _ T23.heap _
    rw [e23]
    exact ⟨by rw [own_bitE hv10], N23, rfl⟩
theorem ef__bits1_64 (m : MethodId) (x0 : Addr) (x1 : Int32) : entryFrame m #[(.ref x0), (.int x1)] 6 = mkF m 0 #[.val (.ref x0), .val (.int x1), .unset, .unset, .unset, .unset] [] := by first | (simp [entryFrame, mkF, argsToLocals, Value.category]; done) | rfl
def Q_bits1_64 (Z : State) (sa : Addr) (sb : Addr) (sk : ClassId) (x0 : Int32) (fm : Value) (cs : Int32) (h0 : Heap) (n0 : Nat) (v_ : Option Value) (h : Heap) (L_ : List Loc) : Prop := v_ = some (.long (own_bit (64 : Int32) (128 : Int32) (x0 &&& (255 : Int32)) (0 : Int64))) ∧ Fr n0 L_ ∧ h = h0
set_option maxRecDepth 65536 in
set_option maxHeartbeats 40000000 in
theorem rm_bits1_64 (l : Launch) (Z : State) (a0 : Array Value) (hw : ∀ d ∈ tables_1, d.before a0 Z = true) (ws : List Jvm.Cond) (sa : Addr) (sb : Addr) (sk : ClassId) (x0 : Int32) (fm : Value) (cs : Int32) (h0 : Heap) (n0 : Nat) (Z0 : n0 ≤ h0.size) (O : Old Z n0 h0) (Scs : Sta Z Z.heap "java/lang/String" "COMPACT_STRINGS" "Z" (.int cs)) (hcs : ¬ (cs = (0 : Int32))) (Sfm : Sta Z Z.heap "jdk/internal/util/Preconditions" "SIOOBE_FORMATTER" "Ljava/util/function/BiFunction;" fm) (hfm : fm.category = 1) (Es : Exa Z h0 sa "java/lang/String") (Fsc : Fld Z h0 sa "java/lang/String" "coder" "B" (.int (0 : Int32))) (Fsv : Fld Z h0 sa "java/lang/String" "value" "[B" (.ref sb)) (Vs : Arv Z h0 sb sk .byte (1 : Int32) [(.int x0)] (.int 0)) (hx0 : (x0 &&& (255 : Int32)) < (128 : Int32)) :
    MetFree l (⟨"com/example/gatehouse/gatehouse/pattern/NameShape", "bits", "(Ljava/lang/String;I)J"⟩ : MethodName) (head1 (Jvm.Cond.code (⟨"com/example/gatehouse/gatehouse/pattern/NameShape", "bits", "(Ljava/lang/String;I)J"⟩ : MethodName) prog_36_method_3_code 6 (some .long) :: ws) ({ frames := 4, cells := 0, slots := 0, locals := 53 } : Room)) (fun a_ U_ => a_ = #[(.ref sa), (.int (64 : Int32))] ∧ Z.Warmed39 U_.vm ∧ U_.heap = h0) (fun _ _ _ _ _ => True) (fun _ U_ o_ V_ => ∃ v_ L_, o_ = .returned v_ ∧ Q_bits1_64 Z sa sb sk x0 fm cs h0 n0 v_ V_.heap L_ ∧ FrameEnd U_ o_ V_ L_ ({ frames := 4, cells := 0, slots := 0, locals := 53 } : Room).cells ({ frames := 4, cells := 0, slots := 0, locals := 53 } : Room).slots) := by
  refine MetFree.of_bodySF (plainFor_of_name pn1) hisR ?_
  intro p e s m args below meth c s₁ Bd hml0 hP hK
  obtain ⟨rfl, hZ, hh⟩ := hP
  have hx := Bd.exec
  have hby := Bd.bytes
  have hml : c.maxLocals = 6 := hml0
  have hown : s.vm.findClass "com/example/gatehouse/gatehouse/pattern/NameShape" = some m.cls := findClass_of_methodNamed Bd.named
  have hnm := (name_of_methodNamed Bd.named Bd.method).1
  have X0 : Stand p l e ({ frames := 4, cells := 0, slots := 0, locals := 53 } : Room) s m #[(.ref sa), (.int (64 : Int32))] below meth c s₁ [] 0 0 := Stand.of_body Bd
  have e0 : s₁.heap = h0 := by rw [← hh, Bd.state]; rfl
  have N0 := Fr.nil n0
  have pre0 : own_Go p e below (s₁.setTop (entryFrame m #[(.ref sa), (.int (64 : Int32))] 6)) (s₁.setTop (mkF m 0 #[.val (.ref sa), .val (.int (64 : Int32)), .unset, .unset, .unset, .unset] [])) := fun t_ k_ => castTop (ef__bits1_64 m sa (64 : Int32)) k_
  have P1 := own_step (C := s₁.setTop (mkF m 8 #[.val (.ref sa), .val (.int (64 : Int32)), .val (.long (0 : Int64)), .second, .val (.int (0 : Int32)), .unset] [(.ref sa), (.int (0 : Int32))])) pre0 (by
    intro tt_ kk_
    refine XS.lconst X0.here hx rfl (hb hby d10_0) ?_
    refine XS.lstoreN X0.here hx rfl (hb hby d10_1) rfl (l' := #[.val (.ref sa), .val (.int (64 : Int32)), .val (.long (0 : Int64)), .second, .unset, .unset]) rfl ?_
    refine XS.iconst X0.here hx rfl (hb hby d10_2) ?_
    refine XS.istore X0.here hx rfl (hb hby d10_3) rfl (l' := #[.val (.ref sa), .val (.int (64 : Int32)), .val (.long (0 : Int64)), .second, .val (.int (0 : Int32)), .unset]) rfl ?_
    refine XS.iload X0.here hx rfl (hb hby d10_5) rfl ?_
    refine XS.aloadN X0.here hx rfl (hb hby d10_7) rfl rfl ?_
    exact kk_)
  obtain ⟨cq2, kq2, q2a, q2b, q2c⟩ := isOf hZ e0 Es
  obtain ⟨_, _, ⟨T2, L2, k2, n2⟩, -, X2, ⟨Lc2, hQ2, l2, y2, z2⟩, st2⟩ := X0.virtualBack hx (y := (⟨"java/lang/String", "length", "()I"⟩ : MethodName)) (z := (⟨"java/lang/String", "length", "()I"⟩ : MethodName)) hown (mvT hZ (hw _ (List.mem_of_getElem? (i := 51) rfl))) (mvT hZ (hw _ (List.mem_of_getElem? (i := 52) rfl))) (notFace_of_selects (args := #[]) (mvT hZ (hw _ (List.mem_of_getElem? (i := 54) rfl)))) (mvT hZ (hw _ (List.mem_of_getElem? (i := 54) rfl))) (mvT hZ (hw _ (List.mem_of_getElem? (i := 53) rfl))) (by decide) (backOf (W := 1) (rm_length l Z a0 hw [] sa sb sk (1 : Int32) _ cs h0 n0 Z0 O Scs hcs Es Fsc Fsv Vs) hZ (hw _ (List.mem_of_getElem? (i := 55) rfl)) (hw _ (List.mem_of_getElem? (i := 8) rfl)) (by decide) (by decide)) q2a q2c (g := (mkF m 8 #[.val (.ref sa), .val (.int (64 : Int32)), .val (.long (0 : Int64)), .second, .val (.int (0 : Int32)), .unset] [(.ref sa), (.int (0 : Int32))])) rfl (by rw [hml]; rfl) (Steps.refl _) (argsL := []) (rest := [(.int (0 : Int32))]) (lenOf pd1 rfl) rfl (by show 2 * 0 + _ ≤ _; exact Nat.le_of_eq rfl) (hb hby d10_8) (fun _ _ => ⟨rfl, e0, (by decide : 0 + 0 ≤ _), (by decide : 0 + 0 ≤ _)⟩)
  dsimp only [Pt.U, Pt.locs, Pt.cells, Pt.slots] at X2 l2 y2 z2 st2 hQ2
  subst l2 y2 z2
  obtain ⟨rfl, N2q, e2⟩ := hQ2
  have N2 := Fr.app N0 N2q
  have P3 := own_step (C := T2.setTop (mkF m 11 #[.val (.ref sa), .val (.int (64 : Int32)), .val (.long (0 : Int64)), .second, .val (.int (0 : Int32)), .unset] [(.int (1 : Int32)), (.int (0 : Int32))])) P1 (fun t_ k_ => st2.trans k_)
  have P4 := own_step (C := T2.setTop (mkF m 14 #[.val (.ref sa), .val (.int (64 : Int32)), .val (.long (0 : Int64)), .second, .val (.int (0 : Int32)), .unset] [])) P3 (by
    intro tt_ kk_
    refine XS.icmpNo X2.here hx rfl (hb hby d10_11) rfl (tlt (by decide : (0 : Int32) < (1 : Int32))).2.1 ?_
    exact kk_)
  have P5 := own_step (C := T2.setTop (mkF m 17 #[.val (.ref sa), .val (.int (64 : Int32)), .val (.long (0 : Int64)), .second, .val (.int (0 : Int32)), .unset] [(.int (0 : Int32)), (.ref sa)])) P4 (by
    intro tt_ kk_
    refine XS.aloadN X2.here hx rfl (hb hby d10_14) rfl rfl ?_
    refine XS.iload X2.here hx rfl (hb hby d10_15) rfl ?_
    exact kk_)
  obtain ⟨cq6, kq6, q6a, q6b, q6c⟩ := isOf hZ e2 Es
  obtain ⟨_, _, ⟨T6, L6, k6, n6⟩, -, X6, ⟨Lc6, hQ6, l6, y6, z6⟩, st6⟩ := X2.virtualBack hx (y := (⟨"java/lang/String", "charAt", "(I)C"⟩ : MethodName)) (z := (⟨"java/lang/String", "charAt", "(I)C"⟩ : MethodName)) hown (mvT hZ (hw _ (List.mem_of_getElem? (i := 94) rfl))) (mvT hZ (hw _ (List.mem_of_getElem? (i := 95) rfl))) (notFace_of_selects (args := #[]) (mvT hZ (hw _ (List.mem_of_getElem? (i := 97) rfl)))) (mvT hZ (hw _ (List.mem_of_getElem? (i := 97) rfl))) (mvT hZ (hw _ (List.mem_of_getElem? (i := 96) rfl))) (by decide) (backOf (W := 0) (rm_charAt l Z a0 hw [] sa sb sk (1 : Int32) _ (0 : Int32) x0 fm cs h0 n0 Z0 O Scs hcs Es Fsc Fsv Vs Sfm hfm (by decide : ¬ (0 : Int32) < (0 : Int32) ∧ (0 : Int32) < (1 : Int32)) rfl) hZ (hw _ (List.mem_of_getElem? (i := 98) rfl)) (hw _ (List.mem_of_getElem? (i := 8) rfl)) (by decide) (by decide)) q6a q6c (g := (mkF m 17 #[.val (.ref sa), .val (.int (64 : Int32)), .val (.long (0 : Int64)), .second, .val (.int (0 : Int32)), .unset] [(.int (0 : Int32)), (.ref sa)])) rfl (by rw [hml]; rfl) (Steps.refl _) (argsL := [(.int (0 : Int32))]) (rest := []) (lenOf pd8 rfl) rfl (by show 2 * 0 + _ ≤ _; exact Nat.le_of_eq rfl) (hb hby d10_17) (fun _ _ => ⟨rfl, e2, (by decide : 0 + 0 ≤ _), (by decide : 0 + 0 ≤ _)⟩)
  dsimp only [Pt.U, Pt.locs, Pt.cells, Pt.slots] at X6 l6 y6 z6 st6 hQ6
  subst l6 y6 z6
  obtain ⟨rfl, N6q, e6⟩ := hQ6
  have N6 := Fr.app N2 N6q
  have P7 := own_step (C := T6.setTop (mkF m 20 #[.val (.ref sa), .val (.int (64 : Int32)), .val (.long (0 : Int64)), .second, .val (.int (0 : Int32)), .unset] [(.int (x0 &&& (255 : Int32)))])) P5 (fun t_ k_ => st6.trans k_)
  have P8 := own_step (C := T6.setTop (mkF m 27 #[.val (.ref sa), .val (.int (64 : Int32)), .val (.long (0 : Int64)), .second, .val (.int (0 : Int32)), .val (.int (x0 &&& (255 : Int32)))] [(.int (128 : Int32)), (.int (x0 &&& (255 : Int32)))])) P7 (by
    intro tt_ kk_
    refine XS.istore X6.here hx rfl (hb hby d10_20) rfl (l' := #[.val (.ref sa), .val (.int (64 : Int32)), .val (.long (0 : Int64)), .second, .val (.int (0 : Int32)), .val (.int (x0 &&& (255 : Int32)))]) rfl ?_
    refine XS.iload X6.here hx rfl (hb hby d10_22) rfl ?_
    refine XS.sipush X6.here hx rfl (hb hby d10_24) ?_
    exact kk_)
  have P9 := own_step (C := T6.setTop (mkF m 45 #[.val (.ref sa), .val (.int (64 : Int32)), .val (.long (0 : Int64)), .second, .val (.int (0 : Int32)), .val (.int (x0 &&& (255 : Int32)))] [])) P8 (by
    intro tt_ kk_
    refine XS.icmpYes X6.here hx rfl (pc0 := 27) (pc' := 45) rfl (hb hby d10_27) rfl (tlt hx0).1 (by decide) (by decide) ?_
    exact kk_)
  obtain ⟨q0, hv10, J10⟩ : ∃ (q0 : Int64), (((x0 &&& (255 : Int32)) < (64 : Int32) ∧ q0 = (0 : Int64)) ∨ (¬ ((x0 &&& (255 : Int32)) < (64 : Int32)) ∧ (x0 &&& (255 : Int32)) < (128 : Int32) ∧ q0 = ((0 : Int64) ||| ((1 : Int64) <<< ((x0 &&& (255 : Int32)) &&& 0x3f).toInt64))) ∨ (¬ ((x0 &&& (255 : Int32)) < (64 : Int32)) ∧ ¬ ((x0 &&& (255 : Int32)) < (128 : Int32)) ∧ q0 = (0 : Int64))) ∧ own_Go p e below (T6.setTop (mkF m 45 #[.val (.ref sa), .val (.int (64 : Int32)), .val (.long (0 : Int64)), .second, .val (.int (0 : Int32)), .val (.int (x0 &&& (255 : Int32)))] [])) (T6.setTop (mkF m 67 #[.val (.ref sa), .val (.int (64 : Int32)), .val (.long q0), .second, .val (.int (0 : Int32)), .val (.int (x0 &&& (255 : Int32)))] [])) := by
    have P11 : own_Go p e below (T6.setTop (mkF m 45 #[.val (.ref sa), .val (.int (64 : Int32)), .val (.long (0 : Int64)), .second, .val (.int (0 : Int32)), .val (.int (x0 &&& (255 : Int32)))] [])) (T6.setTop (mkF m 45 #[.val (.ref sa), .val (.int (64 : Int32)), .val (.long (0 : Int64)), .second, .val (.int (0 : Int32)), .val (.int (x0 &&& (255 : Int32)))] [])) := fun t_ k_ => k_
    have P12 := own_step (C := T6.setTop (mkF m 48 #[.val (.ref sa), .val (.int (64 : Int32)), .val (.long (0 : Int64)), .second, .val (.int (0 : Int32)), .val (.int (x0 &&& (255 : Int32)))] [(.int (64 : Int32)), (.int (x0 &&& (255 : Int32)))])) P11 (by
      intro tt_ kk_
      refine XS.iload X6.here hx rfl (hb hby d10_45) rfl ?_
      refine XS.iloadN X6.here hx rfl (hb hby d10_47) rfl ?_
      exact kk_)
    by_cases c13 : (x0 &&& (255 : Int32)) < (64 : Int32)
    · have P14 := own_step (C := T6.setTop (mkF m 67 #[.val (.ref sa), .val (.int (64 : Int32)), .val (.long (0 : Int64)), .second, .val (.int (0 : Int32)), .val (.int (x0 &&& (255 : Int32)))] [])) P12 (by
        intro tt_ kk_
        refine XS.icmpYes X6.here hx rfl (pc0 := 48) (pc' := 67) rfl (hb hby d10_48) rfl (tlt c13).1 (by decide) (by decide) ?_
        exact kk_)
      exact ⟨(0 : Int64), Or.inl ⟨c13, rfl⟩, P14⟩
    · have P15 := own_step (C := T6.setTop (mkF m 51 #[.val (.ref sa), .val (.int (64 : Int32)), .val (.long (0 : Int64)), .second, .val (.int (0 : Int32)), .val (.int (x0 &&& (255 : Int32)))] [])) P12 (by
        intro tt_ kk_
        refine XS.icmpNo X6.here hx rfl (hb hby d10_48) rfl (flt c13).1 ?_
        exact kk_)
      have P16 := own_step (C := T6.setTop (mkF m 57 #[.val (.ref sa), .val (.int (64 : Int32)), .val (.long (0 : Int64)), .second, .val (.int (0 : Int32)), .val (.int (x0 &&& (255 : Int32)))] [(.int (128 : Int32)), (.int (x0 &&& (255 : Int32)))])) P15 (by
        intro tt_ kk_
        refine XS.iload X6.here hx rfl (hb hby d10_51) rfl ?_
        refine XS.iloadN X6.here hx rfl (hb hby d10_53) rfl ?_
        refine XS.bipush X6.here hx rfl (hb hby d10_54) ?_
        refine XS.iadd X6.here hx rfl (hb hby d10_56) rfl ?_
        exact kk_)
      by_cases c17 : (x0 &&& (255 : Int32)) < (128 : Int32)
      · have P18 := own_step (C := T6.setTop (mkF m 60 #[.val (.ref sa), .val (.int (64 : Int32)), .val (.long (0 : Int64)), .second, .val (.int (0 : Int32)), .val (.int (x0 &&& (255 : Int32)))] [])) P16 (by
          intro tt_ kk_
          refine XS.icmpNo X6.here hx rfl (hb hby d10_57) rfl (tlt c17).2.1 ?_
          exact kk_)
        have P19 := own_step (C := T6.setTop (mkF m 67 #[.val (.ref sa), .val (.int (64 : Int32)), .val (.long ((0 : Int64) ||| ((1 : Int64) <<< ((x0 &&& (255 : Int32)) &&& 0x3f).toInt64))), .second, .val (.int (0 : Int32)), .val (.int (x0 &&& (255 : Int32)))] [])) P18 (by
          intro tt_ kk_
          refine XS.lloadN X6.here hx rfl (hb hby d10_60) rfl ?_
          refine XS.lconst X6.here hx rfl (hb hby d10_61) ?_
          refine XS.iload X6.here hx rfl (hb hby d10_62) rfl ?_
          refine XS.lshl X6.here hx rfl (hb hby d10_64) rfl ?_
          refine XS.lor X6.here hx rfl (hb hby d10_65) rfl ?_
          refine XS.lstoreN X6.here hx rfl (hb hby d10_66) rfl (l' := #[.val (.ref sa), .val (.int (64 : Int32)), .val (.long ((0 : Int64) ||| ((1 : Int64) <<< ((x0 &&& (255 : Int32)) &&& 0x3f).toInt64))), .second, .val (.int (0 : Int32)), .val (.int (x0 &&& (255 : Int32)))]) rfl ?_
          exact kk_)
        exact ⟨((0 : Int64) ||| ((1 : Int64) <<< ((x0 &&& (255 : Int32)) &&& 0x3f).toInt64)), Or.inr (Or.inl ⟨c13, c17, rfl⟩), P19⟩
      · have P20 := own_step (C := T6.setTop (mkF m 67 #[.val (.ref sa), .val (.int (64 : Int32)), .val (.long (0 : Int64)), .second, .val (.int (0 : Int32)), .val (.int (x0 &&& (255 : Int32)))] [])) P16 (by
          intro tt_ kk_
          refine XS.icmpYes X6.here hx rfl (pc0 := 57) (pc' := 67) rfl (hb hby d10_57) rfl (flt c17).2.1 (by decide) (by decide) ?_
          exact kk_)
        exact ⟨(0 : Int64), Or.inr (Or.inr (⟨c13, c17, rfl⟩)), P20⟩
  have P21 := own_step P9 J10
  have P22 := own_step (C := T6.setTop (mkF m 8 #[.val (.ref sa), .val (.int (64 : Int32)), .val (.long q0), .second, .val (.int (1 : Int32)), .val (.int (x0 &&& (255 : Int32)))] [(.ref sa), (.int (1 : Int32))])) P21 (by
    intro tt_ kk_
    refine XS.iinc X6.here hx rfl (hb hby d10_67) rfl (l' := #[.val (.ref sa), .val (.int (64 : Int32)), .val (.long q0), .second, .val (.int (1 : Int32)), .val (.int (x0 &&& (255 : Int32)))]) rfl ?_
    show Steps p.tables e below (T6.setTop (mkF m 70 #[.val (.ref sa), .val (.int (64 : Int32)), .val (.long q0), .second, .val (.int (1 : Int32)), .val (.int (x0 &&& (255 : Int32)))] [])) _
    refine XS.goto X6.here hx rfl (pc0 := 70) (pc' := 5) rfl (hb hby d10_70) (by decide) (by decide) ?_
    refine XS.iload X6.here hx rfl (hb hby d10_5) rfl ?_
    refine XS.aloadN X6.here hx rfl (hb hby d10_7) rfl rfl ?_
    exact kk_)
  obtain ⟨cq23, kq23, q23a, q23b, q23c⟩ := isOf hZ e6 Es
  obtain ⟨_, _, ⟨T23, L23, k23, n23⟩, -, X23, ⟨Lc23, hQ23, l23, y23, z23⟩, st23⟩ := X6.virtualBack hx (y := (⟨"java/lang/String", "length", "()I"⟩ : MethodName)) (z := (⟨"java/lang/String", "length", "()I"⟩ : MethodName)) hown (mvT hZ (hw _ (List.mem_of_getElem? (i := 51) rfl))) (mvT hZ (hw _ (List.mem_of_getElem? (i := 52) rfl))) (notFace_of_selects (args := #[]) (mvT hZ (hw _ (List.mem_of_getElem? (i := 54) rfl)))) (mvT hZ (hw _ (List.mem_of_getElem? (i := 54) rfl))) (mvT hZ (hw _ (List.mem_of_getElem? (i := 53) rfl))) (by decide) (backOf (W := 1) (rm_length l Z a0 hw [] sa sb sk (1 : Int32) _ cs h0 n0 Z0 O Scs hcs Es Fsc Fsv Vs) hZ (hw _ (List.mem_of_getElem? (i := 55) rfl)) (hw _ (List.mem_of_getElem? (i := 8) rfl)) (by decide) (by decide)) q23a q23c (g := (mkF m 8 #[.val (.ref sa), .val (.int (64 : Int32)), .val (.long q0), .second, .val (.int (1 : Int32)), .val (.int (x0 &&& (255 : Int32)))] [(.ref sa), (.int (1 : Int32))])) rfl (by rw [hml]; rfl) (Steps.refl _) (argsL := []) (rest := [(.int (1 : Int32))]) (lenOf pd1 rfl) rfl (by show 2 * 0 + _ ≤ _; exact Nat.le_of_eq rfl) (hb hby d10_8) (fun _ _ => ⟨rfl, e6, (by decide : 0 + 0 ≤ _), (by decide : 0 + 0 ≤ _)⟩)
  dsimp only [Pt.U, Pt.locs, Pt.cells, Pt.slots] at X23 l23 y23 z23 st23 hQ23
  subst l23 y23 z23
  obtain ⟨rfl, N23q, e23⟩ := hQ23
  have N23 := Fr.app N6 N23q
  have P24 := own_step (C := T23.setTop (mkF m 11 #[.val (.ref sa), .val (.int (64 : Int32)), .val (.long q0), .second, .val (.int (1 : Int32)), .val (.int (x0 &&& (255 : Int32)))] [(.int (1 : Int32)), (.int (1 : Int32))])) P22 (fun t_ k_ => st23.trans k_)
  have P25 := own_step (C := T23.setTop (mkF m 73 #[.val (.ref sa), .val (.int (64 : Int32)), .val (.long q0), .second, .val (.int (1 : Int32)), .val (.int (x0 &&& (255 : Int32)))] [])) P24 (by
    intro tt_ kk_
    refine XS.icmpYes X23.here hx rfl (pc0 := 11) (pc' := 73) rfl (hb hby d10_11) rfl (flt (by decide : ¬ ((1 : Int32) < (1 : Int32)))).2.1 (by decide) (by decide) ?_
    exact kk_)
  have P26 := own_step (C := T23.setTop (mkF m 74 #[.val (.ref sa), .val (.int (64 : Int32)), .val (.long q0), .second, .val (.int (1 : Int32)), .val (.int (x0 &&& (255 : Int32)))] [(.long q0)])) P25 (by
    intro tt_ kk_
    refine XS.lloadN X23.here hx rfl (hb hby d10_73) rfl ?_
    exact kk_)
  obtain ⟨fs, hr, hrun, hended, hW, hsame⟩ := X23.leave (v := some (.long q0)) (fun h => by rw [Bd.returns] at h; cases h)
  refine ⟨_, _, P26 _ ?_, hrun, hended, _, _, rfl, ?_, ⟨_, rfl⟩, hW, hsame.mono (by decide) (by decide)⟩
  · exact retOut X23 hx Bd.returns rfl (Or.inr (Or.inl ⟨rfl, rfl, _, rfl⟩)) (hb hby d10_74) hr
  · show Q_bits1_64 Z _ _ _ _ _ _ h0 n0 _ T23.heap _
    rw [e23]
    exact ⟨by rw [own_bitE hv10], N23, rfl⟩
theorem ef__ns1 (m : MethodId) (x0 : Addr) (x1 : Addr) (x2 : Addr) (x3 : Int32) (x4 : Int32) : entryFrame m #[(.ref x0), (.ref x1), (.ref x2), (.int x3), (.int x4)] 5 = mkF m 0 #[.val (.ref x0), .val (.ref x1), .val (.ref x2), .val (.int x3), .val (.int x4)] [] := by first | (simp [entryFrame, mkF, argsToLocals, Value.category]; done) | rfl
def Q_ns1 (Z : State) (a : Addr) (bg : Addr) (le : Int32) (mo : Int32) (sa : Addr) (sb : Addr) (sk : ClassId) (x0 : Int32) (fm : Value) (cs : Int32) (h0 : Heap) (n0 : Nat) (v_ : Option Value) (h : Heap) (L_ : List Loc) : Prop := v_ = none ∧ Fr n0 L_ ∧ Keep h0 h [a] ∧ Exa Z h a "com/example/gatehouse/gatehouse/pattern/NameShape" ∧ Fld Z h a "com/example/gatehouse/gatehouse/pattern/NameShape" "low" "J" (.long (own_bit (0 : Int32) (64 : Int32) (x0 &&& (255 : Int32)) (0 : Int64))) ∧ Fld Z h a "com/example/gatehouse/gatehouse/pattern/NameShape" "high" "J" (.long (own_bit (64 : Int32) (128 : Int32) (x0 &&& (255 : Int32)) (0 : Int64)))
set_option maxRecDepth 65536 in
set_option maxHeartbeats 40000000 in
theorem rm_ns1 (l : Launch) (Z : State) (a0 : Array Value) (hw : ∀ d ∈ tables_1, d.before a0 Z = true) (ws : List Jvm.Cond) (a : Addr) (bg : Addr) (le : Int32) (mo : Int32) (sa : Addr) (sb : Addr) (sk : ClassId) (x0 : Int32) (fm : Value) (cs : Int32) (h0 : Heap) (n0 : Nat) (Z0 : n0 ≤ h0.size) (O : Old Z n0 h0) (Scs : Sta Z Z.heap "java/lang/String" "COMPACT_STRINGS" "Z" (.int cs)) (hcs : ¬ (cs = (0 : Int32))) (Sfm : Sta Z Z.heap "jdk/internal/util/Preconditions" "SIOOBE_FORMATTER" "Ljava/util/function/BiFunction;" fm) (hfm : fm.category = 1) (Es : Exa Z h0 sa "java/lang/String") (Fsc : Fld Z h0 sa "java/lang/String" "coder" "B" (.int (0 : Int32))) (Fsv : Fld Z h0 sa "java/lang/String" "value" "[B" (.ref sb)) (Vs : Arv Z h0 sb sk .byte (1 : Int32) [(.int x0)] (.int 0)) (hx0 : (x0 &&& (255 : Int32)) < (128 : Int32)) (Ea : Exa Z h0 a "com/example/gatehouse/gatehouse/pattern/NameShape") (Fbegin : Fld Z h0 a "com/example/gatehouse/gatehouse/pattern/NameShape" "begin" "Ljava/lang/String;" .null) (Flow : Fld Z h0 a "com/example/gatehouse/gatehouse/pattern/NameShape" "low" "J" (.long (0 : Int64))) (Fhigh : Fld Z h0 a "com/example/gatehouse/gatehouse/pattern/NameShape" "high" "J" (.long (0 : Int64))) (Fleast : Fld Z h0 a "com/example/gatehouse/gatehouse/pattern/NameShape" "least" "I" (.int (0 : Int32))) (Fmost : Fld Z h0 a "com/example/gatehouse/gatehouse/pattern/NameShape" "most" "I" (.int (0 : Int32))) (ga : n0 ≤ a) (hl : ¬ (le < (0 : Int32))) (hm : ¬ (mo < le)) :
    MetFree l (⟨"com/example/gatehouse/gatehouse/pattern/NameShape", "<init>", "(Ljava/lang/String;Ljava/lang/String;II)V"⟩ : MethodName) (head1 (Jvm.Cond.code (⟨"com/example/gatehouse/gatehouse/pattern/NameShape", "<init>", "(Ljava/lang/String;Ljava/lang/String;II)V"⟩ : MethodName) prog_36_method_1_code 5 none :: ws) ({ frames := 5, cells := 0, slots := 0, locals := 74 } : Room)) (fun a_ U_ => a_ = #[(.ref a), (.ref bg), (.ref sa), (.int le), (.int mo)] ∧ Z.Warmed39 U_.vm ∧ U_.heap = h0) (fun _ _ _ _ _ => True) (fun _ U_ o_ V_ => ∃ v_ L_, o_ = .returned v_ ∧ Q_ns1 Z a bg le mo sa sb sk x0 fm cs h0 n0 v_ V_.heap L_ ∧ FrameEnd U_ o_ V_ L_ ({ frames := 5, cells := 0, slots := 0, locals := 74 } : Room).cells ({ frames := 5, cells := 0, slots := 0, locals := 74 } : Room).slots) := by
  refine MetFree.of_bodySF (plainFor_of_name pn1) hisR ?_
  intro p e s m args below meth c s₁ Bd hml0 hP hK
  obtain ⟨rfl, hZ, hh⟩ := hP
  have hx := Bd.exec
  have hby := Bd.bytes
  have hml : c.maxLocals = 5 := hml0
  have hown : s.vm.findClass "com/example/gatehouse/gatehouse/pattern/NameShape" = some m.cls := findClass_of_methodNamed Bd.named
  have hnm := (name_of_methodNamed Bd.named Bd.method).1
  have X0 : Stand p l e ({ frames := 5, cells := 0, slots := 0, locals := 74 } : Room) s m #[(.ref a), (.ref bg), (.ref sa), (.int le), (.int mo)] below meth c s₁ [] 0 0 := Stand.of_body Bd
  have e0 : s₁.heap = h0 := by rw [← hh, Bd.state]; rfl
  have N0 := Fr.nil n0
  have pre0 : own_Go p e below (s₁.setTop (entryFrame m #[(.ref a), (.ref bg), (.ref sa), (.int le), (.int mo)] 5)) (s₁.setTop (mkF m 0 #[.val (.ref a), .val (.ref bg), .val (.ref sa), .val (.int le), .val (.int mo)] [])) := fun t_ k_ => castTop (ef__ns1 m a bg sa le mo) k_
  have ne_sa_a : sa ≠ a := ne_exa Es Ea (by decide)
  obtain ⟨clV, ArV, -⟩ := id Vs
  have ne_sb_a : sb ≠ a := Ne.symm (ne_arr Ea (hw _ (List.mem_of_getElem? (i := 33) rfl)) ArV)
  have P1 := own_step (C := s₁.setTop (mkF m 4 #[.val (.ref a), .val (.ref bg), .val (.ref sa), .val (.int le), .val (.int mo)] [(.int (0 : Int32)), (.ref sa), (.ref bg), (.ref a)])) pre0 (by
    intro tt_ kk_
    refine XS.aloadN X0.here hx rfl (hb hby d9_0) rfl rfl ?_
    refine XS.aloadN X0.here hx rfl (hb hby d9_1) rfl rfl ?_
    refine XS.aloadN X0.here hx rfl (hb hby d9_2) rfl rfl ?_
    refine XS.iconst X0.here hx rfl (hb hby d9_3) ?_
    exact kk_)
  obtain ⟨_, _, ⟨T2, L2, k2, n2⟩, -, X2, ⟨Lc2, hQ2, l2, y2, z2⟩, st2⟩ := Jvm.LawKit.callS X0 hx (y := (⟨"com/example/gatehouse/gatehouse/pattern/NameShape", "bits", "(Ljava/lang/String;I)J"⟩ : MethodName)) hown (mvT hZ (hw _ (List.mem_of_getElem? (i := 48) rfl))) (mvT hZ (hw _ (List.mem_of_getElem? (i := 49) rfl))) (mvT hZ (hw _ (List.mem_of_getElem? (i := 34) rfl))) (mvT hZ (hw _ (List.mem_of_getElem? (i := 50) rfl))) (by decide) (backOf (W := 2) (rm_bits1_0 l Z a0 hw [] sa sb sk x0 fm cs h0 n0 Z0 O Scs hcs Sfm hfm Es Fsc Fsv Vs hx0) hZ (hw _ (List.mem_of_getElem? (i := 50) rfl)) (hw _ (List.mem_of_getElem? (i := 34) rfl)) (by decide) (by decide)) (g := (mkF m 4 #[.val (.ref a), .val (.ref bg), .val (.ref sa), .val (.int le), .val (.int mo)] [(.int (0 : Int32)), (.ref sa), (.ref bg), (.ref a)])) rfl (by rw [hml]; rfl) (argsL := [(.ref sa), (.int (0 : Int32))]) (rest := [(.ref bg), (.ref a)]) (lenOf pd2 rfl) rfl (by show 2 * 0 + _ ≤ _; exact Nat.le_of_eq rfl) (hb hby d9_4) (fun _ _ => ⟨rfl, e0, (by decide : 0 + 0 ≤ _), (by decide : 0 + 0 ≤ _)⟩)
  dsimp only [Pt.U, Pt.locs, Pt.cells, Pt.slots] at X2 l2 y2 z2 st2 hQ2
  subst l2 y2 z2
  obtain ⟨rfl, N2q, e2⟩ := hQ2
  have N2 := Fr.app N0 N2q
  have P3 := own_step (C := T2.setTop (mkF m 7 #[.val (.ref a), .val (.ref bg), .val (.ref sa), .val (.int le), .val (.int mo)] [(.long (own_bit (0 : Int32) (64 : Int32) (x0 &&& (255 : Int32)) (0 : Int64))), (.ref bg), (.ref a)])) P1 (fun t_ k_ => st2 t_ k_)
  have P4 := own_step (C := T2.setTop (mkF m 10 #[.val (.ref a), .val (.ref bg), .val (.ref sa), .val (.int le), .val (.int mo)] [(.int (64 : Int32)), (.ref sa), (.long (own_bit (0 : Int32) (64 : Int32) (x0 &&& (255 : Int32)) (0 : Int64))), (.ref bg), (.ref a)])) P3 (by
    intro tt_ kk_
    refine XS.aloadN X2.here hx rfl (hb hby d9_7) rfl rfl ?_
    refine XS.bipush X2.here hx rfl (hb hby d9_8) ?_
    exact kk_)
  obtain ⟨_, _, ⟨T5, L5, k5, n5⟩, -, X5, ⟨Lc5, hQ5, l5, y5, z5⟩, st5⟩ := Jvm.LawKit.callS X2 hx (y := (⟨"com/example/gatehouse/gatehouse/pattern/NameShape", "bits", "(Ljava/lang/String;I)J"⟩ : MethodName)) hown (mvT hZ (hw _ (List.mem_of_getElem? (i := 48) rfl))) (mvT hZ (hw _ (List.mem_of_getElem? (i := 49) rfl))) (mvT hZ (hw _ (List.mem_of_getElem? (i := 34) rfl))) (mvT hZ (hw _ (List.mem_of_getElem? (i := 50) rfl))) (by decide) (backOf (W := 4) (rm_bits1_64 l Z a0 hw [] sa sb sk x0 fm cs h0 n0 Z0 O Scs hcs Sfm hfm Es Fsc Fsv Vs hx0) hZ (hw _ (List.mem_of_getElem? (i := 50) rfl)) (hw _ (List.mem_of_getElem? (i := 34) rfl)) (by decide) (by decide)) (g := (mkF m 10 #[.val (.ref a), .val (.ref bg), .val (.ref sa), .val (.int le), .val (.int mo)] [(.int (64 : Int32)), (.ref sa), (.long (own_bit (0 : Int32) (64 : Int32) (x0 &&& (255 : Int32)) (0 : Int64))), (.ref bg), (.ref a)])) rfl (by rw [hml]; rfl) (argsL := [(.ref sa), (.int (64 : Int32))]) (rest := [(.long (own_bit (0 : Int32) (64 : Int32) (x0 &&& (255 : Int32)) (0 : Int64))), (.ref bg), (.ref a)]) (lenOf pd2 rfl) rfl (by show 2 * 0 + _ ≤ _; exact Nat.le_of_eq rfl) (hb hby d9_10) (fun _ _ => ⟨rfl, e2, (by decide : 0 + 0 ≤ _), (by decide : 0 + 0 ≤ _)⟩)
  dsimp only [Pt.U, Pt.locs, Pt.cells, Pt.slots] at X5 l5 y5 z5 st5 hQ5
  subst l5 y5 z5
  obtain ⟨rfl, N5q, e5⟩ := hQ5
  have N5 := Fr.app N2 N5q
  have P6 := own_step (C := T5.setTop (mkF m 13 #[.val (.ref a), .val (.ref bg), .val (.ref sa), .val (.int le), .val (.int mo)] [(.long (own_bit (64 : Int32) (128 : Int32) (x0 &&& (255 : Int32)) (0 : Int64))), (.long (own_bit (0 : Int32) (64 : Int32) (x0 &&& (255 : Int32)) (0 : Int64))), (.ref bg), (.ref a)])) P4 (fun t_ k_ => st5 t_ k_)
  have P7 := own_step (C := T5.setTop (mkF m 16 #[.val (.ref a), .val (.ref bg), .val (.ref sa), .val (.int le), .val (.int mo)] [(.int mo), (.int le), (.long (own_bit (64 : Int32) (128 : Int32) (x0 &&& (255 : Int32)) (0 : Int64))), (.long (own_bit (0 : Int32) (64 : Int32) (x0 &&& (255 : Int32)) (0 : Int64))), (.ref bg), (.ref a)])) P6 (by
    intro tt_ kk_
    refine XS.iloadN X5.here hx rfl (hb hby d9_13) rfl ?_
    refine XS.iload X5.here hx rfl (hb hby d9_14) rfl ?_
    exact kk_)
  obtain ⟨_, _, ⟨T8, L8, k8, n8⟩, -, X8, ⟨Lc8, hQ8, l8, y8, z8⟩, st8⟩ := X5.specialBack hx (y := (⟨"com/example/gatehouse/gatehouse/pattern/NameShape", "<init>", "(Ljava/lang/String;JJII)V"⟩ : MethodName)) rfl hown (mvT hZ (hw _ (List.mem_of_getElem? (i := 61) rfl))) (mvT hZ (hw _ (List.mem_of_getElem? (i := 62) rfl))) (mvT hZ (hw _ (List.mem_of_getElem? (i := 63) rfl))) (by decide) (backOf (W := 0) (rm_ns0 l Z a0 hw [] a bg (own_bit (0 : Int32) (64 : Int32) (x0 &&& (255 : Int32)) (0 : Int64)) (own_bit (64 : Int32) (128 : Int32) (x0 &&& (255 : Int32)) (0 : Int64)) le mo h0 n0 Z0 O Ea Fbegin Flow Fhigh Fleast Fmost ga) hZ (hw _ (List.mem_of_getElem? (i := 63) rfl)) (hw _ (List.mem_of_getElem? (i := 34) rfl)) (by decide) (by decide)) (g := (mkF m 16 #[.val (.ref a), .val (.ref bg), .val (.ref sa), .val (.int le), .val (.int mo)] [(.int mo), (.int le), (.long (own_bit (64 : Int32) (128 : Int32) (x0 &&& (255 : Int32)) (0 : Int64))), (.long (own_bit (0 : Int32) (64 : Int32) (x0 &&& (255 : Int32)) (0 : Int64))), (.ref bg), (.ref a)])) rfl (by rw [hml]; rfl) (Steps.refl _) (a := a) (argsL := [(.ref bg), (.long (own_bit (0 : Int32) (64 : Int32) (x0 &&& (255 : Int32)) (0 : Int64))), (.long (own_bit (64 : Int32) (128 : Int32) (x0 &&& (255 : Int32)) (0 : Int64))), (.int le), (.int mo)]) (rest := []) (lenOf pd3 rfl) rfl (by show 2 * 0 + _ ≤ _; exact Nat.le_of_eq rfl) (hb hby d9_16) (fun _ _ => ⟨rfl, e5, (by decide : 0 + 0 ≤ _), (by decide : 0 + 0 ≤ _)⟩)
  dsimp only [Pt.U, Pt.locs, Pt.cells, Pt.slots] at X8 l8 y8 z8 st8 hQ8
  subst l8 y8 z8
  obtain ⟨rfl, N8q, K8, f9, f10, f11⟩ := hQ8
  have N8 := Fr.app N5 N8q
  have f12 := O.keep K8 (allS ga all0)
  have f13 := Ea.keep K8
  have f14 := (Keep.refl h0 [a]).trans K8 (allS (Or.inl (List.mem_of_getElem? (i := 0) rfl)) all0)
  have f20 := Es.keep K8
  have f21 := Fsc.keep K8 (ninS ne_sa_a nin0)
  have f22 := Fsv.keep K8 (ninS ne_sa_a nin0)
  have f23 := Vs.keep K8 (ninS ne_sb_a nin0)
  have Z24 : n0 ≤ T8.heap.size := Nat.le_trans Z0 K8.1
  have P25 := own_step (C := T8.setTop (mkF m 19 #[.val (.ref a), .val (.ref bg), .val (.ref sa), .val (.int le), .val (.int mo)] [])) P7 (fun t_ k_ => st8.trans k_)
  have P26 := own_step (C := T8.setTop (mkF m 20 #[.val (.ref a), .val (.ref bg), .val (.ref sa), .val (.int le), .val (.int mo)] [(.int le)])) P25 (by
    intro tt_ kk_
    refine XS.iloadN X8.here hx rfl (hb hby d9_19) rfl ?_
    exact kk_)
  have P27 := own_step (C := T8.setTop (mkF m 23 #[.val (.ref a), .val (.ref bg), .val (.ref sa), .val (.int le), .val (.int mo)] [])) P26 (by
    intro tt_ kk_
    refine XS.ifNo X8.here hx rfl (hb hby d9_20) rfl ((if0 _ _).trans (flt hl).1) ?_
    exact kk_)
  have P28 := own_step (C := T8.setTop (mkF m 26 #[.val (.ref a), .val (.ref bg), .val (.ref sa), .val (.int le), .val (.int mo)] [(.int mo), (.int le)])) P27 (by
    intro tt_ kk_
    refine XS.iloadN X8.here hx rfl (hb hby d9_23) rfl ?_
    refine XS.iload X8.here hx rfl (hb hby d9_24) rfl ?_
    exact kk_)
  have P29 := own_step (C := T8.setTop (mkF m 45 #[.val (.ref a), .val (.ref bg), .val (.ref sa), .val (.int le), .val (.int mo)] [])) P28 (by
    intro tt_ kk_
    refine XS.icmpYes X8.here hx rfl (pc0 := 26) (pc' := 45) rfl (hb hby d9_26) rfl (flt hm).2.2.2 (by decide) (by decide) ?_
    exact kk_)
  obtain ⟨fs, hr, hrun, hended, hW, hsame⟩ := X8.leave (v := none) (fun _ => rfl)
  refine ⟨_, _, P29 _ ?_, hrun, hended, _, _, rfl, ?_, ⟨_, rfl⟩, hW, hsame.mono (by decide) (by decide)⟩
  · exact X8.returnOut hx Bd.returns (hb hby d9_45) hr
  · show Q_ns1 Z _ _ _ _ _ _ _ _ _ _ h0 n0 _ T8.heap _
    exact ⟨rfl, N8, f14, f9, f10, f11⟩
theorem ef__bits2_0 (m : MethodId) (x0 : Addr) (x1 : Int32) : entryFrame m #[(.ref x0), (.int x1)] 6 = mkF m 0 #[.val (.ref x0), .val (.int x1), .unset, .unset, .unset, .unset] [] := by first | (simp [entryFrame, mkF, argsToLocals, Value.category]; done) | rfl
def Q_bits2_0 (Z : State) (sa : Addr) (sb : Addr) (sk : ClassId) (x0 : Int32) (x1 : Int32) (fm : Value) (cs : Int32) (h0 : Heap) (n0 : Nat) (v_ : Option Value) (h : Heap) (L_ : List Loc) : Prop := v_ = some (.long (own_bit (0 : Int32) (64 : Int32) (x1 &&& (255 : Int32)) (own_bit (0 : Int32) (64 : Int32) (x0 &&& (255 : Int32)) (0 : Int64)))) ∧ Fr n0 L_ ∧ h = h0
set_option maxRecDepth 65536 in
set_option maxHeartbeats 40000000 in
theorem rm_bits2_0 (l : Launch) (Z : State) (a0 : Array Value) (hw : ∀ d ∈ tables_1, d.before a0 Z = true) (ws : List Jvm.Cond) (sa : Addr) (sb : Addr) (sk : ClassId) (x0 : Int32) (x1 : Int32) (fm : Value) (cs : Int32) (h0 : Heap) (n0 : Nat) (Z0 : n0 ≤ h0.size) (O : Old Z n0 h0) (Scs : Sta Z Z.heap "java/lang/String" "COMPACT_STRINGS" "Z" (.int cs)) (hcs : ¬ (cs = (0 : Int32))) (Sfm : Sta Z Z.heap "jdk/internal/util/Preconditions" "SIOOBE_FORMATTER" "Ljava/util/function/BiFunction;" fm) (hfm : fm.category = 1) (Es : Exa Z h0 sa "java/lang/String") (Fsc : Fld Z h0 sa "java/lang/String" "coder" "B" (.int (0 : Int32))) (Fsv : Fld Z h0 sa "java/lang/String" "value" "[B" (.ref sb)) (Vs : Arv Z h0 sb sk .byte (2 : Int32) [(.int x0), (.int x1)] (.int 0)) (hx0 : (x0 &&& (255 : Int32)) < (128 : Int32)) (hx1 : (x1 &&& (255 : Int32)) < (128 : Int32)) :
    MetFree l (⟨"com/example/gatehouse/gatehouse/pattern/NameShape", "bits", "(Ljava/lang/String;I)J"⟩ : MethodName) (head1 (Jvm.Cond.code (⟨"com/example/gatehouse/gatehouse/pattern/NameShape", "bits", "(Ljava/lang/String;I)J"⟩ : MethodName) prog_36_method_3_code 6 (some .long) :: ws) ({ frames := 4, cells := 0, slots := 0, locals := 53 } : Room)) (fun a_ U_ => a_ = #[(.ref sa), (.int (0 : Int32))] ∧ Z.Warmed39 U_.vm ∧ U_.heap = h0) (fun _ _ _ _ _ => True) (fun _ U_ o_ V_ => ∃ v_ L_, o_ = .returned v_ ∧ Q_bits2_0 Z sa sb sk x0 x1 fm cs h0 n0 v_ V_.heap L_ ∧ FrameEnd U_ o_ V_ L_ ({ frames := 4, cells := 0, slots := 0, locals := 53 } : Room).cells ({ frames := 4, cells := 0, slots := 0, locals := 53 } : Room).slots) := by
  refine MetFree.of_bodySF (plainFor_of_name pn1) hisR ?_
  intro p e s m args below meth c s₁ Bd hml0 hP hK
  obtain ⟨rfl, hZ, hh⟩ := hP
  have hx := Bd.exec
  have hby := Bd.bytes
  have hml : c.maxLocals = 6 := hml0
  have hown : s.vm.findClass "com/example/gatehouse/gatehouse/pattern/NameShape" = some m.cls := findClass_of_methodNamed Bd.named
  have hnm := (name_of_methodNamed Bd.named Bd.method).1
  have X0 : Stand p l e ({ frames := 4, cells := 0, slots := 0, locals := 53 } : Room) s m #[(.ref sa), (.int (0 : Int32))] below meth c s₁ [] 0 0 := Stand.of_body Bd
  have e0 : s₁.heap = h0 := by rw [← hh, Bd.state]; rfl
  have N0 := Fr.nil n0
  have pre0 : own_Go p e below (s₁.setTop (entryFrame m #[(.ref sa), (.int (0 : Int32))] 6)) (s₁.setTop (mkF m 0 #[.val (.ref sa), .val (.int (0 : Int32)), .unset, .unset, .unset, .unset] [])) := fun t_ k_ => castTop (ef__bits2_0 m sa (0 : Int32)) k_
  have P1 := own_step (C := s₁.setTop (mkF m 8 #[.val (.ref sa), .val (.int (0 : Int32)), .val (.long (0 : Int64)), .second, .val (.int (0 : Int32)), .unset] [(.ref sa), (.int (0 : Int32))])) pre0 (by
    intro tt_ kk_
    refine XS.lconst X0.here hx rfl (hb hby d10_0) ?_
    refine XS.lstoreN X0.here hx rfl (hb hby d10_1) rfl (l' := #[.val (.ref sa), .val (.int (0 : Int32)), .val (.long (0 : Int64)), .second, .unset, .unset]) rfl ?_
    refine XS.iconst X0.here hx rfl (hb hby d10_2) ?_
    refine XS.istore X0.here hx rfl (hb hby d10_3) rfl (l' := #[.val (.ref sa), .val (.int (0 : Int32)), .val (.long (0 : Int64)), .second, .val (.int (0 : Int32)), .unset]) rfl ?_
    refine XS.iload X0.here hx rfl (hb hby d10_5) rfl ?_
    refine XS.aloadN X0.here hx rfl (hb hby d10_7) rfl rfl ?_
    exact kk_)
  obtain ⟨cq2, kq2, q2a, q2b, q2c⟩ := isOf hZ e0 Es
  obtain ⟨_, _, ⟨T2, L2, k2, n2⟩, -, X2, ⟨Lc2, hQ2, l2, y2, z2⟩, st2⟩ := X0.virtualBack hx (y := (⟨"java/lang/String", "length", "()I"⟩ : MethodName)) (z := (⟨"java/lang/String", "length", "()I"⟩ : MethodName)) hown (mvT hZ (hw _ (List.mem_of_getElem? (i := 51) rfl))) (mvT hZ (hw _ (List.mem_of_getElem? (i := 52) rfl))) (notFace_of_selects (args := #[]) (mvT hZ (hw _ (List.mem_of_getElem? (i := 54) rfl)))) (mvT hZ (hw _ (List.mem_of_getElem? (i := 54) rfl))) (mvT hZ (hw _ (List.mem_of_getElem? (i := 53) rfl))) (by decide) (backOf (W := 1) (rm_length l Z a0 hw [] sa sb sk (2 : Int32) _ cs h0 n0 Z0 O Scs hcs Es Fsc Fsv Vs) hZ (hw _ (List.mem_of_getElem? (i := 55) rfl)) (hw _ (List.mem_of_getElem? (i := 8) rfl)) (by decide) (by decide)) q2a q2c (g := (mkF m 8 #[.val (.ref sa), .val (.int (0 : Int32)), .val (.long (0 : Int64)), .second, .val (.int (0 : Int32)), .unset] [(.ref sa), (.int (0 : Int32))])) rfl (by rw [hml]; rfl) (Steps.refl _) (argsL := []) (rest := [(.int (0 : Int32))]) (lenOf pd1 rfl) rfl (by show 2 * 0 + _ ≤ _; exact Nat.le_of_eq rfl) (hb hby d10_8) (fun _ _ => ⟨rfl, e0, (by decide : 0 + 0 ≤ _), (by decide : 0 + 0 ≤ _)⟩)
  dsimp only [Pt.U, Pt.locs, Pt.cells, Pt.slots] at X2 l2 y2 z2 st2 hQ2
  subst l2 y2 z2
  obtain ⟨rfl, N2q, e2⟩ := hQ2
  have N2 := Fr.app N0 N2q
  have P3 := own_step (C := T2.setTop (mkF m 11 #[.val (.ref sa), .val (.int (0 : Int32)), .val (.long (0 : Int64)), .second, .val (.int (0 : Int32)), .unset] [(.int (2 : Int32)), (.int (0 : Int32))])) P1 (fun t_ k_ => st2.trans k_)
  have P4 := own_step (C := T2.setTop (mkF m 14 #[.val (.ref sa), .val (.int (0 : Int32)), .val (.long (0 : Int64)), .second, .val (.int (0 : Int32)), .unset] [])) P3 (by
    intro tt_ kk_
    refine XS.icmpNo X2.here hx rfl (hb hby d10_11) rfl (tlt (by decide : (0 : Int32) < (2 : Int32))).2.1 ?_
    exact kk_)
  have P5 := own_step (C := T2.setTop (mkF m 17 #[.val (.ref sa), .val (.int (0 : Int32)), .val (.long (0 : Int64)), .second, .val (.int (0 : Int32)), .unset] [(.int (0 : Int32)), (.ref sa)])) P4 (by
    intro tt_ kk_
    refine XS.aloadN X2.here hx rfl (hb hby d10_14) rfl rfl ?_
    refine XS.iload X2.here hx rfl (hb hby d10_15) rfl ?_
    exact kk_)
  obtain ⟨cq6, kq6, q6a, q6b, q6c⟩ := isOf hZ e2 Es
  obtain ⟨_, _, ⟨T6, L6, k6, n6⟩, -, X6, ⟨Lc6, hQ6, l6, y6, z6⟩, st6⟩ := X2.virtualBack hx (y := (⟨"java/lang/String", "charAt", "(I)C"⟩ : MethodName)) (z := (⟨"java/lang/String", "charAt", "(I)C"⟩ : MethodName)) hown (mvT hZ (hw _ (List.mem_of_getElem? (i := 94) rfl))) (mvT hZ (hw _ (List.mem_of_getElem? (i := 95) rfl))) (notFace_of_selects (args := #[]) (mvT hZ (hw _ (List.mem_of_getElem? (i := 97) rfl)))) (mvT hZ (hw _ (List.mem_of_getElem? (i := 97) rfl))) (mvT hZ (hw _ (List.mem_of_getElem? (i := 96) rfl))) (by decide) (backOf (W := 0) (rm_charAt l Z a0 hw [] sa sb sk (2 : Int32) _ (0 : Int32) x0 fm cs h0 n0 Z0 O Scs hcs Es Fsc Fsv Vs Sfm hfm (by decide : ¬ (0 : Int32) < (0 : Int32) ∧ (0 : Int32) < (2 : Int32)) rfl) hZ (hw _ (List.mem_of_getElem? (i := 98) rfl)) (hw _ (List.mem_of_getElem? (i := 8) rfl)) (by decide) (by decide)) q6a q6c (g := (mkF m 17 #[.val (.ref sa), .val (.int (0 : Int32)), .val (.long (0 : Int64)), .second, .val (.int (0 : Int32)), .unset] [(.int (0 : Int32)), (.ref sa)])) rfl (by rw [hml]; rfl) (Steps.refl _) (argsL := [(.int (0 : Int32))]) (rest := []) (lenOf pd8 rfl) rfl (by show 2 * 0 + _ ≤ _; exact Nat.le_of_eq rfl) (hb hby d10_17) (fun _ _ => ⟨rfl, e2, (by decide : 0 + 0 ≤ _), (by decide : 0 + 0 ≤ _)⟩)
  dsimp only [Pt.U, Pt.locs, Pt.cells, Pt.slots] at X6 l6 y6 z6 st6 hQ6
  subst l6 y6 z6
  obtain ⟨rfl, N6q, e6⟩ := hQ6
  have N6 := Fr.app N2 N6q
  have P7 := own_step (C := T6.setTop (mkF m 20 #[.val (.ref sa), .val (.int (0 : Int32)), .val (.long (0 : Int64)), .second, .val (.int (0 : Int32)), .unset] [(.int (x0 &&& (255 : Int32)))])) P5 (fun t_ k_ => st6.trans k_)
  have P8 := own_step (C := T6.setTop (mkF m 27 #[.val (.ref sa), .val (.int (0 : Int32)), .val (.long (0 : Int64)), .second, .val (.int (0 : Int32)), .val (.int (x0 &&& (255 : Int32)))] [(.int (128 : Int32)), (.int (x0 &&& (255 : Int32)))])) P7 (by
    intro tt_ kk_
    refine XS.istore X6.here hx rfl (hb hby d10_20) rfl (l' := #[.val (.ref sa), .val (.int (0 : Int32)), .val (.long (0 : Int64)), .second, .val (.int (0 : Int32)), .val (.int (x0 &&& (255 : Int32)))]) rfl ?_
    refine XS.iload X6.here hx rfl (hb hby d10_22) rfl ?_
    refine XS.sipush X6.here hx rfl (hb hby d10_24) ?_
    exact kk_)
  have P9 := own_step (C := T6.setTop (mkF m 45 #[.val (.ref sa), .val (.int (0 : Int32)), .val (.long (0 : Int64)), .second, .val (.int (0 : Int32)), .val (.int (x0 &&& (255 : Int32)))] [])) P8 (by
    intro tt_ kk_
    refine XS.icmpYes X6.here hx rfl (pc0 := 27) (pc' := 45) rfl (hb hby d10_27) rfl (tlt hx0).1 (by decide) (by decide) ?_
    exact kk_)
  obtain ⟨q0, hv10, J10⟩ : ∃ (q0 : Int64), (((x0 &&& (255 : Int32)) < (0 : Int32) ∧ q0 = (0 : Int64)) ∨ (¬ ((x0 &&& (255 : Int32)) < (0 : Int32)) ∧ (x0 &&& (255 : Int32)) < (64 : Int32) ∧ q0 = ((0 : Int64) ||| ((1 : Int64) <<< ((x0 &&& (255 : Int32)) &&& 0x3f).toInt64))) ∨ (¬ ((x0 &&& (255 : Int32)) < (0 : Int32)) ∧ ¬ ((x0 &&& (255 : Int32)) < (64 : Int32)) ∧ q0 = (0 : Int64))) ∧ own_Go p e below (T6.setTop (mkF m 45 #[.val (.ref sa), .val (.int (0 : Int32)), .val (.long (0 : Int64)), .second, .val (.int (0 : Int32)), .val (.int (x0 &&& (255 : Int32)))] [])) (T6.setTop (mkF m 67 #[.val (.ref sa), .val (.int (0 : Int32)), .val (.long q0), .second, .val (.int (0 : Int32)), .val (.int (x0 &&& (255 : Int32)))] [])) := by
    have P11 : own_Go p e below (T6.setTop (mkF m 45 #[.val (.ref sa), .val (.int (0 : Int32)), .val (.long (0 : Int64)), .second, .val (.int (0 : Int32)), .val (.int (x0 &&& (255 : Int32)))] [])) (T6.setTop (mkF m 45 #[.val (.ref sa), .val (.int (0 : Int32)), .val (.long (0 : Int64)), .second, .val (.int (0 : Int32)), .val (.int (x0 &&& (255 : Int32)))] [])) := fun t_ k_ => k_
    have P12 := own_step (C := T6.setTop (mkF m 48 #[.val (.ref sa), .val (.int (0 : Int32)), .val (.long (0 : Int64)), .second, .val (.int (0 : Int32)), .val (.int (x0 &&& (255 : Int32)))] [(.int (0 : Int32)), (.int (x0 &&& (255 : Int32)))])) P11 (by
      intro tt_ kk_
      refine XS.iload X6.here hx rfl (hb hby d10_45) rfl ?_
      refine XS.iloadN X6.here hx rfl (hb hby d10_47) rfl ?_
      exact kk_)
    by_cases c13 : (x0 &&& (255 : Int32)) < (0 : Int32)
    · have P14 := own_step (C := T6.setTop (mkF m 67 #[.val (.ref sa), .val (.int (0 : Int32)), .val (.long (0 : Int64)), .second, .val (.int (0 : Int32)), .val (.int (x0 &&& (255 : Int32)))] [])) P12 (by
        intro tt_ kk_
        refine XS.icmpYes X6.here hx rfl (pc0 := 48) (pc' := 67) rfl (hb hby d10_48) rfl (tlt c13).1 (by decide) (by decide) ?_
        exact kk_)
      exact ⟨(0 : Int64), Or.inl ⟨c13, rfl⟩, P14⟩
    · have P15 := own_step (C := T6.setTop (mkF m 51 #[.val (.ref sa), .val (.int (0 : Int32)), .val (.long (0 : Int64)), .second, .val (.int (0 : Int32)), .val (.int (x0 &&& (255 : Int32)))] [])) P12 (by
        intro tt_ kk_
        refine XS.icmpNo X6.here hx rfl (hb hby d10_48) rfl (flt c13).1 ?_
        exact kk_)
      have P16 := own_step (C := T6.setTop (mkF m 57 #[.val (.ref sa), .val (.int (0 : Int32)), .val (.long (0 : Int64)), .second, .val (.int (0 : Int32)), .val (.int (x0 &&& (255 : Int32)))] [(.int (64 : Int32)), (.int (x0 &&& (255 : Int32)))])) P15 (by
        intro tt_ kk_
        refine XS.iload X6.here hx rfl (hb hby d10_51) rfl ?_
        refine XS.iloadN X6.here hx rfl (hb hby d10_53) rfl ?_
        refine XS.bipush X6.here hx rfl (hb hby d10_54) ?_
        refine XS.iadd X6.here hx rfl (hb hby d10_56) rfl ?_
        exact kk_)
      by_cases c17 : (x0 &&& (255 : Int32)) < (64 : Int32)
      · have P18 := own_step (C := T6.setTop (mkF m 60 #[.val (.ref sa), .val (.int (0 : Int32)), .val (.long (0 : Int64)), .second, .val (.int (0 : Int32)), .val (.int (x0 &&& (255 : Int32)))] [])) P16 (by
          intro tt_ kk_
          refine XS.icmpNo X6.here hx rfl (hb hby d10_57) rfl (tlt c17).2.1 ?_
          exact kk_)
        have P19 := own_step (C := T6.setTop (mkF m 67 #[.val (.ref sa), .val (.int (0 : Int32)), .val (.long ((0 : Int64) ||| ((1 : Int64) <<< ((x0 &&& (255 : Int32)) &&& 0x3f).toInt64))), .second, .val (.int (0 : Int32)), .val (.int (x0 &&& (255 : Int32)))] [])) P18 (by
          intro tt_ kk_
          refine XS.lloadN X6.here hx rfl (hb hby d10_60) rfl ?_
          refine XS.lconst X6.here hx rfl (hb hby d10_61) ?_
          refine XS.iload X6.here hx rfl (hb hby d10_62) rfl ?_
          refine XS.lshl X6.here hx rfl (hb hby d10_64) rfl ?_
          refine XS.lor X6.here hx rfl (hb hby d10_65) rfl ?_
          refine XS.lstoreN X6.here hx rfl (hb hby d10_66) rfl (l' := #[.val (.ref sa), .val (.int (0 : Int32)), .val (.long ((0 : Int64) ||| ((1 : Int64) <<< ((x0 &&& (255 : Int32)) &&& 0x3f).toInt64))), .second, .val (.int (0 : Int32)), .val (.int (x0 &&& (255 : Int32)))]) rfl ?_
          exact kk_)
        exact ⟨((0 : Int64) ||| ((1 : Int64) <<< ((x0 &&& (255 : Int32)) &&& 0x3f).toInt64)), Or.inr (Or.inl ⟨c13, c17, rfl⟩), P19⟩
      · have P20 := own_step (C := T6.setTop (mkF m 67 #[.val (.ref sa), .val (.int (0 : Int32)), .val (.long (0 : Int64)), .second, .val (.int (0 : Int32)), .val (.int (x0 &&& (255 : Int32)))] [])) P16 (by
          intro tt_ kk_
          refine XS.icmpYes X6.here hx rfl (pc0 := 57) (pc' := 67) rfl (hb hby d10_57) rfl (flt c17).2.1 (by decide) (by decide) ?_
          exact kk_)
        exact ⟨(0 : Int64), Or.inr (Or.inr (⟨c13, c17, rfl⟩)), P20⟩
  have P21 := own_step P9 J10
  have P22 := own_step (C := T6.setTop (mkF m 8 #[.val (.ref sa), .val (.int (0 : Int32)), .val (.long q0), .second, .val (.int (1 : Int32)), .val (.int (x0 &&& (255 : Int32)))] [(.ref sa), (.int (1 : Int32))])) P21 (by
    intro tt_ kk_
    refine XS.iinc X6.here hx rfl (hb hby d10_67) rfl (l' := #[.val (.ref sa), .val (.int (0 : Int32)), .val (.long q0), .second, .val (.int (1 : Int32)), .val (.int (x0 &&& (255 : Int32)))]) rfl ?_
    show Steps p.tables e below (T6.setTop (mkF m 70 #[.val (.ref sa), .val (.int (0 : Int32)), .val (.long q0), .second, .val (.int (1 : Int32)), .val (.int (x0 &&& (255 : Int32)))] [])) _
    refine XS.goto X6.here hx rfl (pc0 := 70) (pc' := 5) rfl (hb hby d10_70) (by decide) (by decide) ?_
    refine XS.iload X6.here hx rfl (hb hby d10_5) rfl ?_
    refine XS.aloadN X6.here hx rfl (hb hby d10_7) rfl rfl ?_
    exact kk_)
  obtain ⟨cq23, kq23, q23a, q23b, q23c⟩ := isOf hZ e6 Es
  obtain ⟨_, _, ⟨T23, L23, k23, n23⟩, -, X23, ⟨Lc23, hQ23, l23, y23, z23⟩, st23⟩ := X6.virtualBack hx (y := (⟨"java/lang/String", "length", "()I"⟩ : MethodName)) (z := (⟨"java/lang/String", "length", "()I"⟩ : MethodName)) hown (mvT hZ (hw _ (List.mem_of_getElem? (i := 51) rfl))) (mvT hZ (hw _ (List.mem_of_getElem? (i := 52) rfl))) (notFace_of_selects (args := #[]) (mvT hZ (hw _ (List.mem_of_getElem? (i := 54) rfl)))) (mvT hZ (hw _ (List.mem_of_getElem? (i := 54) rfl))) (mvT hZ (hw _ (List.mem_of_getElem? (i := 53) rfl))) (by decide) (backOf (W := 1) (rm_length l Z a0 hw [] sa sb sk (2 : Int32) _ cs h0 n0 Z0 O Scs hcs Es Fsc Fsv Vs) hZ (hw _ (List.mem_of_getElem? (i := 55) rfl)) (hw _ (List.mem_of_getElem? (i := 8) rfl)) (by decide) (by decide)) q23a q23c (g := (mkF m 8 #[.val (.ref sa), .val (.int (0 : Int32)), .val (.long q0), .second, .val (.int (1 : Int32)), .val (.int (x0 &&& (255 : Int32)))] [(.ref sa), (.int (1 : Int32))])) rfl (by rw [hml]; rfl) (Steps.refl _) (argsL := []) (rest := [(.int (1 : Int32))]) (lenOf pd1 rfl) rfl (by show 2 * 0 + _ ≤ _; exact Nat.le_of_eq rfl) (hb hby d10_8) (fun _ _ => ⟨rfl, e6, (by decide : 0 + 0 ≤ _), (by decide : 0 + 0 ≤ _)⟩)
  dsimp only [Pt.U, Pt.locs, Pt.cells, Pt.slots] at X23 l23 y23 z23 st23 hQ23
  subst l23 y23 z23
  obtain ⟨rfl, N23q, e23⟩ := hQ23
  have N23 := Fr.app N6 N23q
  have P24 := own_step (C := T23.setTop (mkF m 11 #[.val (.ref sa), .val (.int (0 : Int32)), .val (.long q0), .second, .val (.int (1 : Int32)), .val (.int (x0 &&& (255 : Int32)))] [(.int (2 : Int32)), (.int (1 : Int32))])) P22 (fun t_ k_ => st23.trans k_)
  have P25 := own_step (C := T23.setTop (mkF m 14 #[.val (.ref sa), .val (.int (0 : Int32)), .val (.long q0), .second, .val (.int (1 : Int32)), .val (.int (x0 &&& (255 : Int32)))] [])) P24 (by
    intro tt_ kk_
    refine XS.icmpNo X23.here hx rfl (hb hby d10_11) rfl (tlt (by decide : (1 : Int32) < (2 : Int32))).2.1 ?_
    exact kk_)
  have P26 := own_step (C := T23.setTop (mkF m 17 #[.val (.ref sa), .val (.int (0 : Int32)), .val (.long q0), .second, .val (.int (1 : Int32)), .val (.int (x0 &&& (255 : Int32)))] [(.int (1 : Int32)), (.ref sa)])) P25 (by
    intro tt_ kk_
    refine XS.aloadN X23.here hx rfl (hb hby d10_14) rfl rfl ?_
    refine XS.iload X23.here hx rfl (hb hby d10_15) rfl ?_
    exact kk_)
  obtain ⟨cq27, kq27, q27a, q27b, q27c⟩ := isOf hZ e23 Es
  obtain ⟨_, _, ⟨T27, L27, k27, n27⟩, -, X27, ⟨Lc27, hQ27, l27, y27, z27⟩, st27⟩ := X23.virtualBack hx (y := (⟨"java/lang/String", "charAt", "(I)C"⟩ : MethodName)) (z := (⟨"java/lang/String", "charAt", "(I)C"⟩ : MethodName)) hown (mvT hZ (hw _ (List.mem_of_getElem? (i := 94) rfl))) (mvT hZ (hw _ (List.mem_of_getElem? (i := 95) rfl))) (notFace_of_selects (args := #[]) (mvT hZ (hw _ (List.mem_of_getElem? (i := 97) rfl)))) (mvT hZ (hw _ (List.mem_of_getElem? (i := 97) rfl))) (mvT hZ (hw _ (List.mem_of_getElem? (i := 96) rfl))) (by decide) (backOf (W := 0) (rm_charAt l Z a0 hw [] sa sb sk (2 : Int32) _ (1 : Int32) x1 fm cs h0 n0 Z0 O Scs hcs Es Fsc Fsv Vs Sfm hfm (by decide : ¬ (1 : Int32) < (0 : Int32) ∧ (1 : Int32) < (2 : Int32)) rfl) hZ (hw _ (List.mem_of_getElem? (i := 98) rfl)) (hw _ (List.mem_of_getElem? (i := 8) rfl)) (by decide) (by decide)) q27a q27c (g := (mkF m 17 #[.val (.ref sa), .val (.int (0 : Int32)), .val (.long q0), .second, .val (.int (1 : Int32)), .val (.int (x0 &&& (255 : Int32)))] [(.int (1 : Int32)), (.ref sa)])) rfl (by rw [hml]; rfl) (Steps.refl _) (argsL := [(.int (1 : Int32))]) (rest := []) (lenOf pd8 rfl) rfl (by show 2 * 0 + _ ≤ _; exact Nat.le_of_eq rfl) (hb hby d10_17) (fun _ _ => ⟨rfl, e23, (by decide : 0 + 0 ≤ _), (by decide : 0 + 0 ≤ _)⟩)
  dsimp only [Pt.U, Pt.locs, Pt.cells, Pt.slots] at X27 l27 y27 z27 st27 hQ27
  subst l27 y27 z27
  obtain ⟨rfl, N27q, e27⟩ := hQ27
  have N27 := Fr.app N23 N27q
  have P28 := own_step (C := T27.setTop (mkF m 20 #[.val (.ref sa), .val (.int (0 : Int32)), .val (.long q0), .second, .val (.int (1 : Int32)), .val (.int (x0 &&& (255 : Int32)))] [(.int (x1 &&& (255 : Int32)))])) P26 (fun t_ k_ => st27.trans k_)
  have P29 := own_step (C := T27.setTop (mkF m 27 #[.val (.ref sa), .val (.int (0 : Int32)), .val (.long q0), .second, .val (.int (1 : Int32)), .val (.int (x1 &&& (255 : Int32)))] [(.int (128 : Int32)), (.int (x1 &&& (255 : Int32)))])) P28 (by
    intro tt_ kk_
    refine XS.istore X27.here hx rfl (hb hby d10_20) rfl (l' := #[.val (.ref sa), .val (.int (0 : Int32)), .val (.long q0), .second, .val (.int (1 : Int32)), .val (.int (x1 &&& (255 : Int32)))]) rfl ?_
    refine XS.iload X27.here hx rfl (hb hby d10_22) rfl ?_
    refine XS.sipush X27.here hx rfl (hb hby d10_24) ?_
    exact kk_)
  have P30 := own_step (C := T27.setTop (mkF m 45 #[.val (.ref sa), .val (.int (0 : Int32)), .val (.long q0), .second, .val (.int (1 : Int32)), .val (.int (x1 &&& (255 : Int32)))] [])) P29 (by
    intro tt_ kk_
    refine XS.icmpYes X27.here hx rfl (pc0 := 27) (pc' := 45) rfl (hb hby d10_27) rfl (tlt hx1).1 (by decide) (by decide) ?_
    exact kk_)
  obtain ⟨q1, hv31, J31⟩ : ∃ (q1 : Int64), (((x1 &&& (255 : Int32)) < (0 : Int32) ∧ q1 = q0) ∨ (¬ ((x1 &&& (255 : Int32)) < (0 : Int32)) ∧ (x1 &&& (255 : Int32)) < (64 : Int32) ∧ q1 = (q0 ||| ((1 : Int64) <<< ((x1 &&& (255 : Int32)) &&& 0x3f).toInt64))) ∨ (¬ ((x1 &&& (255 : Int32)) < (0 : Int32)) ∧ ¬ ((x1 &&& (255 : Int32)) < (64 : Int32)) ∧ q1 = q0)) ∧ own_Go p e below (T27.setTop (mkF m 45 #[.val (.ref sa), .val (.int (0 : Int32)), .val (.long q0), .second, .val (.int (1 : Int32)), .val (.int (x1 &&& (255 : Int32)))] [])) (T27.setTop (mkF m 67 #[.val (.ref sa), .val (.int (0 : Int32)), .val (.long q1), .second, .val (.int (1 : Int32)), .val (.int (x1 &&& (255 : Int32)))] [])) := by
    have P32 : own_Go p e below (T27.setTop (mkF m 45 #[.val (.ref sa), .val (.int (0 : Int32)), .val (.long q0), .second, .val (.int (1 : Int32)), .val (.int (x1 &&& (255 : Int32)))] [])) (T27.setTop (mkF m 45 #[.val (.ref sa), .val (.int (0 : Int32)), .val (.long q0), .second, .val (.int (1 : Int32)), .val (.int (x1 &&& (255 : Int32)))] [])) := fun t_ k_ => k_
    have P33 := own_step (C := T27.setTop (mkF m 48 #[.val (.ref sa), .val (.int (0 : Int32)), .val (.long q0), .second, .val (.int (1 : Int32)), .val (.int (x1 &&& (255 : Int32)))] [(.int (0 : Int32)), (.int (x1 &&& (255 : Int32)))])) P32 (by
      intro tt_ kk_
      refine XS.iload X27.here hx rfl (hb hby d10_45) rfl ?_
      refine XS.iloadN X27.here hx rfl (hb hby d10_47) rfl ?_
      exact kk_)
    by_cases c34 : (x1 &&& (255 : Int32)) < (0 : Int32)
    · have P35 := own_step (C := T27.setTop (mkF m 67 #[.val (.ref sa), .val (.int (0 : Int32)), .val (.long q0), .second, .val (.int (1 : Int32)), .val (.int (x1 &&& (255 : Int32)))] [])) P33 (by
        intro tt_ kk_
        refine XS.icmpYes X27.here hx rfl (pc0 := 48) (pc' := 67) rfl (hb hby d10_48) rfl (tlt c34).1 (by decide) (by decide) ?_
        exact kk_)
      exact ⟨q0, Or.inl ⟨c34, rfl⟩, P35⟩
    · have P36 := own_step (C := T27.setTop (mkF m 51 #[.val (.ref sa), .val (.int (0 : Int32)), .val (.long q0), .second, .val (.int (1 : Int32)), .val (.int (x1 &&& (255 : Int32)))] [])) P33 (by
        intro tt_ kk_
        refine XS.icmpNo X27.here hx rfl (hb hby d10_48) rfl (flt c34).1 ?_
        exact kk_)
      have P37 := own_step (C := T27.setTop (mkF m 57 #[.val (.ref sa), .val (.int (0 : Int32)), .val (.long q0), .second, .val (.int (1 : Int32)), .val (.int (x1 &&& (255 : Int32)))] [(.int (64 : Int32)), (.int (x1 &&& (255 : Int32)))])) P36 (by
        intro tt_ kk_
        refine XS.iload X27.here hx rfl (hb hby d10_51) rfl ?_
        refine XS.iloadN X27.here hx rfl (hb hby d10_53) rfl ?_
        refine XS.bipush X27.here hx rfl (hb hby d10_54) ?_
        refine XS.iadd X27.here hx rfl (hb hby d10_56) rfl ?_
        exact kk_)
      by_cases c38 : (x1 &&& (255 : Int32)) < (64 : Int32)
      · have P39 := own_step (C := T27.setTop (mkF m 60 #[.val (.ref sa), .val (.int (0 : Int32)), .val (.long q0), .second, .val (.int (1 : Int32)), .val (.int (x1 &&& (255 : Int32)))] [])) P37 (by
          intro tt_ kk_
          refine XS.icmpNo X27.here hx rfl (hb hby d10_57) rfl (tlt c38).2.1 ?_
          exact kk_)
        have P40 := own_step (C := T27.setTop (mkF m 67 #[.val (.ref sa), .val (.int (0 : Int32)), .val (.long (q0 ||| ((1 : Int64) <<< ((x1 &&& (255 : Int32)) &&& 0x3f).toInt64))), .second, .val (.int (1 : Int32)), .val (.int (x1 &&& (255 : Int32)))] [])) P39 (by
          intro tt_ kk_
          refine XS.lloadN X27.here hx rfl (hb hby d10_60) rfl ?_
          refine XS.lconst X27.here hx rfl (hb hby d10_61) ?_
          refine XS.iload X27.here hx rfl (hb hby d10_62) rfl ?_
          refine XS.lshl X27.here hx rfl (hb hby d10_64) rfl ?_
          refine XS.lor X27.here hx rfl (hb hby d10_65) rfl ?_
          refine XS.lstoreN X27.here hx rfl (hb hby d10_66) rfl (l' := #[.val (.ref sa), .val (.int (0 : Int32)), .val (.long (q0 ||| ((1 : Int64) <<< ((x1 &&& (255 : Int32)) &&& 0x3f).toInt64))), .second, .val (.int (1 : Int32)), .val (.int (x1 &&& (255 : Int32)))]) rfl ?_
          exact kk_)
        exact ⟨(q0 ||| ((1 : Int64) <<< ((x1 &&& (255 : Int32)) &&& 0x3f).toInt64)), Or.inr (Or.inl ⟨c34, c38, rfl⟩), P40⟩
      · have P41 := own_step (C := T27.setTop (mkF m 67 #[.val (.ref sa), .val (.int (0 : Int32)), .val (.long q0), .second, .val (.int (1 : Int32)), .val (.int (x1 &&& (255 : Int32)))] [])) P37 (by
          intro tt_ kk_
          refine XS.icmpYes X27.here hx rfl (pc0 := 57) (pc' := 67) rfl (hb hby d10_57) rfl (flt c38).2.1 (by decide) (by decide) ?_
          exact kk_)
        exact ⟨q0, Or.inr (Or.inr (⟨c34, c38, rfl⟩)), P41⟩
  have P42 := own_step P30 J31
  have P43 := own_step (C := T27.setTop (mkF m 8 #[.val (.ref sa), .val (.int (0 : Int32)), .val (.long q1), .second, .val (.int (2 : Int32)), .val (.int (x1 &&& (255 : Int32)))] [(.ref sa), (.int (2 : Int32))])) P42 (by
    intro tt_ kk_
    refine XS.iinc X27.here hx rfl (hb hby d10_67) rfl (l' := #[.val (.ref sa), .val (.int (0 : Int32)), .val (.long q1), .second, .val (.int (2 : Int32)), .val (.int (x1 &&& (255 : Int32)))]) rfl ?_
    show Steps p.tables e below (T27.setTop (mkF m 70 #[.val (.ref sa), .val (.int (0 : Int32)), .val (.long q1), .second, .val (.int (2 : Int32)), .val (.int (x1 &&& (255 : Int32)))] [])) _
    refine XS.goto X27.here hx rfl (pc0 := 70) (pc' := 5) rfl (hb hby d10_70) (by decide) (by decide) ?_
    refine XS.iload X27.here hx rfl (hb hby d10_5) rfl ?_
    refine XS.aloadN X27.here hx rfl (hb hby d10_7) rfl rfl ?_
    exact kk_)
  obtain ⟨cq44, kq44, q44a, q44b, q44c⟩ := isOf hZ e27 Es
  obtain ⟨_, _, ⟨T44, L44, k44, n44⟩, -, X44, ⟨Lc44, hQ44, l44, y44, z44⟩, st44⟩ := X27.virtualBack hx (y := (⟨"java/lang/String", "length", "()I"⟩ : MethodName)) (z := (⟨"java/lang/String", "length", "()I"⟩ : MethodName)) hown (mvT hZ (hw _ (List.mem_of_getElem? (i := 51) rfl))) (mvT hZ (hw _ (List.mem_of_getElem? (i := 52) rfl))) (notFace_of_selects (args := #[]) (mvT hZ (hw _ (List.mem_of_getElem? (i := 54) rfl)))) (mvT hZ (hw _ (List.mem_of_getElem? (i := 54) rfl))) (mvT hZ (hw _ (List.mem_of_getElem? (i := 53) rfl))) (by decide) (backOf (W := 1) (rm_length l Z a0 hw [] sa sb sk (2 : Int32) _ cs h0 n0 Z0 O Scs hcs Es Fsc Fsv Vs) hZ (hw _ (List.mem_of_getElem? (i := 55) rfl)) (hw _ (List.mem_of_getElem? (i := 8) rfl)) (by decide) (by decide)) q44a q44c (g := (mkF m 8 #[.val (.ref sa), .val (.int (0 : Int32)), .val (.long q1), .second, .val (.int (2 : Int32)), .val (.int (x1 &&& (255 : Int32)))] [(.ref sa), (.int (2 : Int32))])) rfl (by rw [hml]; rfl) (Steps.refl _) (argsL := []) (rest := [(.int (2 : Int32))]) (lenOf pd1 rfl) rfl (by show 2 * 0 + _ ≤ _; exact Nat.le_of_eq rfl) (hb hby d10_8) (fun _ _ => ⟨rfl, e27, (by decide : 0 + 0 ≤ _), (by decide : 0 + 0 ≤ _)⟩)
  dsimp only [Pt.U, Pt.locs, Pt.cells, Pt.slots] at X44 l44 y44 z44 st44 hQ44
  subst l44 y44 z44
  obtain ⟨rfl, N44q, e44⟩ := hQ44
  have N44 := Fr.app N27 N44q
  have P45 := own_step (C := T44.setTop (mkF m 11 #[.val (.ref sa), .val (.int (0 : Int32)), .val (.long q1), .second, .val (.int (2 : Int32)), .val (.int (x1 &&& (255 : Int32)))] [(.int (2 : Int32)), (.int (2 : Int32))])) P43 (fun t_ k_ => st44.trans k_)
  have P46 := own_step (C := T44.setTop (mkF m 73 #[.val (.ref sa), .val (.int (0 : Int32)), .val (.long q1), .second, .val (.int (2 : Int32)), .val (.int (x1 &&& (255 : Int32)))] [])) P45 (by
    intro tt_ kk_
    refine XS.icmpYes X44.here hx rfl (pc0 := 11) (pc' := 73) rfl (hb hby d10_11) rfl (flt (by decide : ¬ ((2 : Int32) < (2 : Int32)))).2.1 (by decide) (by decide) ?_
    exact kk_)
  have P47 := own_step (C := T44.setTop (mkF m 74 #[.val (.ref sa), .val (.int (0 : Int32)), .val (.long q1), .second, .val (.int (2 : Int32)), .val (.int (x1 &&& (255 : Int32)))] [(.long q1)])) P46 (by
    intro tt_ kk_
    refine XS.lloadN X44.here hx rfl (hb hby d10_73) rfl ?_
    exact kk_)
  obtain ⟨fs, hr, hrun, hended, hW, hsame⟩ := X44.leave (v := some (.long q1)) (fun h => by rw [Bd.returns] at h; cases h)
  refine ⟨_, _, P47 _ ?_, hrun, hended, _, _, rfl, ?_, ⟨_, rfl⟩, hW, hsame.mono (by decide) (by decide)⟩
  · exact retOut X44 hx Bd.returns rfl (Or.inr (Or.inl ⟨rfl, rfl, _, rfl⟩)) (hb hby d10_74) hr
  · show Q_bits2_0 Z _ _ _ _ _ _ _ h0 n0 _ T44.heap _
    rw [e44]
    exact ⟨by rw [own_bitE hv31, own_bitE hv10], N44, rfl⟩
theorem ef__bits2_64 (m : MethodId) (x0 : Addr) (x1 : Int32) : entryFrame m #[(.ref x0), (.int x1)] 6 = mkF m 0 #[.val (.ref x0), .val (.int x1), .unset, .unset, .unset, .unset] [] := by first | (simp [entryFrame, mkF, argsToLocals, Value.category]; done) | rfl
def Q_bits2_64 (Z : State) (sa : Addr) (sb : Addr) (sk : ClassId) (x0 : Int32) (x1 : Int32) (fm : Value) (cs : Int32) (h0 : Heap) (n0 : Nat) (v_ : Option Value) (h : Heap) (L_ : List Loc) : Prop := v_ = some (.long (own_bit (64 : Int32) (128 : Int32) (x1 &&& (255 : Int32)) (own_bit (64 : Int32) (128 : Int32) (x0 &&& (255 : Int32)) (0 : Int64)))) ∧ Fr n0 L_ ∧ h = h0
set_option maxRecDepth 65536 in
set_option maxHeartbeats 40000000 in
theorem rm_bits2_64 (l : Launch) (Z : State) (a0 : Array Value) (hw : ∀ d ∈ tables_1, d.before a0 Z = true) (ws : List Jvm.Cond) (sa : Addr) (sb : Addr) (sk : ClassId) (x0 : Int32) (x1 : Int32) (fm : Value) (cs : Int32) (h0 : Heap) (n0 : Nat) (Z0 : n0 ≤ h0.size) (O : Old Z n0 h0) (Scs : Sta Z Z.heap "java/lang/String" "COMPACT_STRINGS" "Z" (.int cs)) (hcs : ¬ (cs = (0 : Int32))) (Sfm : Sta Z Z.heap "jdk/internal/util/Preconditions" "SIOOBE_FORMATTER" "Ljava/util/function/BiFunction;" fm) (hfm : fm.category = 1) (Es : Exa Z h0 sa "java/lang/String") (Fsc : Fld Z h0 sa "java/lang/String" "coder" "B" (.int (0 : Int32))) (Fsv : Fld Z h0 sa "java/lang/String" "value" "[B" (.ref sb)) (Vs : Arv Z h0 sb sk .byte (2 : Int32) [(.int x0), (.int x1)] (.int 0)) (hx0 : (x0 &&& (255 : Int32)) < (128 : Int32)) (hx1 : (x1 &&& (255 : Int32)) < (128 : Int32)) :
    MetFree l (⟨"com/example/gatehouse/gatehouse/pattern/NameShape", "bits", "(Ljava/lang/String;I)J"⟩ : MethodName) (head1 (Jvm.Cond.code (⟨"com/example/gatehouse/gatehouse/pattern/NameShape", "bits", "(Ljava/lang/String;I)J"⟩ : MethodName) prog_36_method_3_code 6 (some .long) :: ws) ({ frames := 4, cells := 0, slots := 0, locals := 53 } : Room)) (fun a_ U_ => a_ = #[(.ref sa), (.int (64 : Int32))] ∧ Z.Warmed39 U_.vm ∧ U_.heap = h0) (fun _ _ _ _ _ => True) (fun _ U_ o_ V_ => ∃ v_ L_, o_ = .returned v_ ∧ Q_bits2_64 Z sa sb sk x0 x1 fm cs h0 n0 v_ V_.heap L_ ∧ FrameEnd U_ o_ V_ L_ ({ frames := 4, cells := 0, slots := 0, locals := 53 } : Room).cells ({ frames := 4, cells := 0, slots := 0, locals := 53 } : Room).slots) := by
  refine MetFree.of_bodySF (plainFor_of_name pn1) hisR ?_
  intro p e s m args below meth c s₁ Bd hml0 hP hK
  obtain ⟨rfl, hZ, hh⟩ := hP
  have hx := Bd.exec
  have hby := Bd.bytes
  have hml : c.maxLocals = 6 := hml0
  have hown : s.vm.findClass "com/example/gatehouse/gatehouse/pattern/NameShape" = some m.cls := findClass_of_methodNamed Bd.named
  have hnm := (name_of_methodNamed Bd.named Bd.method).1
  have X0 : Stand p l e ({ frames := 4, cells := 0, slots := 0, locals := 53 } : Room) s m #[(.ref sa), (.int (64 : Int32))] below meth c s₁ [] 0 0 := Stand.of_body Bd
  have e0 : s₁.heap = h0 := by rw [← hh, Bd.state]; rfl
  have N0 := Fr.nil n0
  have pre0 : own_Go p e below (s₁.setTop (entryFrame m #[(.ref sa), (.int (64 : Int32))] 6)) (s₁.setTop (mkF m 0 #[.val (.ref sa), .val (.int (64 : Int32)), .unset, .unset, .unset, .unset] [])) := fun t_ k_ => castTop (ef__bits2_64 m sa (64 : Int32)) k_
  have P1 := own_step (C := s₁.setTop (mkF m 8 #[.val (.ref sa), .val (.int (64 : Int32)), .val (.long (0 : Int64)), .second, .val (.int (0 : Int32)), .unset] [(.ref sa), (.int (0 : Int32))])) pre0 (by
    intro tt_ kk_
    refine XS.lconst X0.here hx rfl (hb hby d10_0) ?_
    refine XS.lstoreN X0.here hx rfl (hb hby d10_1) rfl (l' := #[.val (.ref sa), .val (.int (64 : Int32)), .val (.long (0 : Int64)), .second, .unset, .unset]) rfl ?_
    refine XS.iconst X0.here hx rfl (hb hby d10_2) ?_
    refine XS.istore X0.here hx rfl (hb hby d10_3) rfl (l' := #[.val (.ref sa), .val (.int (64 : Int32)), .val (.long (0 : Int64)), .second, .val (.int (0 : Int32)), .unset]) rfl ?_
    refine XS.iload X0.here hx rfl (hb hby d10_5) rfl ?_
    refine XS.aloadN X0.here hx rfl (hb hby d10_7) rfl rfl ?_
    exact kk_)
  obtain ⟨cq2, kq2, q2a, q2b, q2c⟩ := isOf hZ e0 Es
  obtain ⟨_, _, ⟨T2, L2, k2, n2⟩, -, X2, ⟨Lc2, hQ2, l2, y2, z2⟩, st2⟩ := X0.virtualBack hx (y := (⟨"java/lang/String", "length", "()I"⟩ : MethodName)) (z := (⟨"java/lang/String", "length", "()I"⟩ : MethodName)) hown (mvT hZ (hw _ (List.mem_of_getElem? (i := 51) rfl))) (mvT hZ (hw _ (List.mem_of_getElem? (i := 52) rfl))) (notFace_of_selects (args := #[]) (mvT hZ (hw _ (List.mem_of_getElem? (i := 54) rfl)))) (mvT hZ (hw _ (List.mem_of_getElem? (i := 54) rfl))) (mvT hZ (hw _ (List.mem_of_getElem? (i := 53) rfl))) (by decide) (backOf (W := 1) (rm_length l Z a0 hw [] sa sb sk (2 : Int32) _ cs h0 n0 Z0 O Scs hcs Es Fsc Fsv Vs) hZ (hw _ (List.mem_of_getElem? (i := 55) rfl)) (hw _ (List.mem_of_getElem? (i := 8) rfl)) (by decide) (by decide)) q2a q2c (g := (mkF m 8 #[.val (.ref sa), .val (.int (64 : Int32)), .val (.long (0 : Int64)), .second, .val (.int (0 : Int32)), .unset] [(.ref sa), (.int (0 : Int32))])) rfl (by rw [hml]; rfl) (Steps.refl _) (argsL := []) (rest := [(.int (0 : Int32))]) (lenOf pd1 rfl) rfl (by show 2 * 0 + _ ≤ _; exact Nat.le_of_eq rfl) (hb hby d10_8) (fun _ _ => ⟨rfl, e0, (by decide : 0 + 0 ≤ _), (by decide : 0 + 0 ≤ _)⟩)
  dsimp only [Pt.U, Pt.locs, Pt.cells, Pt.slots] at X2 l2 y2 z2 st2 hQ2
  subst l2 y2 z2
  obtain ⟨rfl, N2q, e2⟩ := hQ2
  have N2 := Fr.app N0 N2q
  have P3 := own_step (C := T2.setTop (mkF m 11 #[.val (.ref sa), .val (.int (64 : Int32)), .val (.long (0 : Int64)), .second, .val (.int (0 : Int32)), .unset] [(.int (2 : Int32)), (.int (0 : Int32))])) P1 (fun t_ k_ => st2.trans k_)
  have P4 := own_step (C := T2.setTop (mkF m 14 #[.val (.ref sa), .val (.int (64 : Int32)), .val (.long (0 : Int64)), .second, .val (.int (0 : Int32)), .unset] [])) P3 (by
    intro tt_ kk_
    refine XS.icmpNo X2.here hx rfl (hb hby d10_11) rfl (tlt (by decide : (0 : Int32) < (2 : Int32))).2.1 ?_
    exact kk_)
  have P5 := own_step (C := T2.setTop (mkF m 17 #[.val (.ref sa), .val (.int (64 : Int32)), .val (.long (0 : Int64)), .second, .val (.int (0 : Int32)), .unset] [(.int (0 : Int32)), (.ref sa)])) P4 (by
    intro tt_ kk_
    refine XS.aloadN X2.here hx rfl (hb hby d10_14) rfl rfl ?_
    refine XS.iload X2.here hx rfl (hb hby d10_15) rfl ?_
    exact kk_)
  obtain ⟨cq6, kq6, q6a, q6b, q6c⟩ := isOf hZ e2 Es
  obtain ⟨_, _, ⟨T6, L6, k6, n6⟩, -, X6, ⟨Lc6, hQ6, l6, y6, z6⟩, st6⟩ := X2.virtualBack hx (y := (⟨"java/lang/String", "charAt", "(I)C"⟩ : MethodName)) (z := (⟨"java/lang/String", "charAt", "(I)C"⟩ : MethodName)) hown (mvT hZ (hw _ (List.mem_of_getElem? (i := 94) rfl))) (mvT hZ (hw _ (List.mem_of_getElem? (i := 95) rfl))) (notFace_of_selects (args := #[]) (mvT hZ (hw _ (List.mem_of_getElem? (i := 97) rfl)))) (mvT hZ (hw _ (List.mem_of_getElem? (i := 97) rfl))) (mvT hZ (hw _ (List.mem_of_getElem? (i := 96) rfl))) (by decide) (backOf (W := 0) (rm_charAt l Z a0 hw [] sa sb sk (2 : Int32) _ (0 : Int32) x0 fm cs h0 n0 Z0 O Scs hcs Es Fsc Fsv Vs Sfm hfm (by decide : ¬ (0 : Int32) < (0 : Int32) ∧ (0 : Int32) < (2 : Int32)) rfl) hZ (hw _ (List.mem_of_getElem? (i := 98) rfl)) (hw _ (List.mem_of_getElem? (i := 8) rfl)) (by decide) (by decide)) q6a q6c (g := (mkF m 17 #[.val (.ref sa), .val (.int (64 : Int32)), .val (.long (0 : Int64)), .second, .val (.int (0 : Int32)), .unset] [(.int (0 : Int32)), (.ref sa)])) rfl (by rw [hml]; rfl) (Steps.refl _) (argsL := [(.int (0 : Int32))]) (rest := []) (lenOf pd8 rfl) rfl (by show 2 * 0 + _ ≤ _; exact Nat.le_of_eq rfl) (hb hby d10_17) (fun _ _ => ⟨rfl, e2, (by decide : 0 + 0 ≤ _), (by decide : 0 + 0 ≤ _)⟩)
  dsimp only [Pt.U, Pt.locs, Pt.cells, Pt.slots] at X6 l6 y6 z6 st6 hQ6
  subst l6 y6 z6
  obtain ⟨rfl, N6q, e6⟩ := hQ6
  have N6 := Fr.app N2 N6q
  have P7 := own_step (C := T6.setTop (mkF m 20 #[.val (.ref sa), .val (.int (64 : Int32)), .val (.long (0 : Int64)), .second, .val (.int (0 : Int32)), .unset] [(.int (x0 &&& (255 : Int32)))])) P5 (fun t_ k_ => st6.trans k_)
  have P8 := own_step (C := T6.setTop (mkF m 27 #[.val (.ref sa), .val (.int (64 : Int32)), .val (.long (0 : Int64)), .second, .val (.int (0 : Int32)), .val (.int (x0 &&& (255 : Int32)))] [(.int (128 : Int32)), (.int (x0 &&& (255 : Int32)))])) P7 (by
    intro tt_ kk_
    refine XS.istore X6.here hx rfl (hb hby d10_20) rfl (l' := #[.val (.ref sa), .val (.int (64 : Int32)), .val (.long (0 : Int64)), .second, .val (.int (0 : Int32)), .val (.int (x0 &&& (255 : Int32)))]) rfl ?_
    refine XS.iload X6.here hx rfl (hb hby d10_22) rfl ?_
    refine XS.sipush X6.here hx rfl (hb hby d10_24) ?_
    exact kk_)
  have P9 := own_step (C := T6.setTop (mkF m 45 #[.val (.ref sa), .val (.int (64 : Int32)), .val (.long (0 : Int64)), .second, .val (.int (0 : Int32)), .val (.int (x0 &&& (255 : Int32)))] [])) P8 (by
    intro tt_ kk_
    refine XS.icmpYes X6.here hx rfl (pc0 := 27) (pc' := 45) rfl (hb hby d10_27) rfl (tlt hx0).1 (by decide) (by decide) ?_
    exact kk_)
  obtain ⟨q0, hv10, J10⟩ : ∃ (q0 : Int64), (((x0 &&& (255 : Int32)) < (64 : Int32) ∧ q0 = (0 : Int64)) ∨ (¬ ((x0 &&& (255 : Int32)) < (64 : Int32)) ∧ (x0 &&& (255 : Int32)) < (128 : Int32) ∧ q0 = ((0 : Int64) ||| ((1 : Int64) <<< ((x0 &&& (255 : Int32)) &&& 0x3f).toInt64))) ∨ (¬ ((x0 &&& (255 : Int32)) < (64 : Int32)) ∧ ¬ ((x0 &&& (255 : Int32)) < (128 : Int32)) ∧ q0 = (0 : Int64))) ∧ own_Go p e below (T6.setTop (mkF m 45 #[.val (.ref sa), .val (.int (64 : Int32)), .val (.long (0 : Int64)), .second, .val (.int (0 : Int32)), .val (.int (x0 &&& (255 : Int32)))] [])) (T6.setTop (mkF m 67 #[.val (.ref sa), .val (.int (64 : Int32)), .val (.long q0), .second, .val (.int (0 : Int32)), .val (.int (x0 &&& (255 : Int32)))] [])) := by
    have P11 : own_Go p e below (T6.setTop (mkF m 45 #[.val (.ref sa), .val (.int (64 : Int32)), .val (.long (0 : Int64)), .second, .val (.int (0 : Int32)), .val (.int (x0 &&& (255 : Int32)))] [])) (T6.setTop (mkF m 45 #[.val (.ref sa), .val (.int (64 : Int32)), .val (.long (0 : Int64)), .second, .val (.int (0 : Int32)), .val (.int (x0 &&& (255 : Int32)))] [])) := fun t_ k_ => k_
    have P12 := own_step (C := T6.setTop (mkF m 48 #[.val (.ref sa), .val (.int (64 : Int32)), .val (.long (0 : Int64)), .second, .val (.int (0 : Int32)), .val (.int (x0 &&& (255 : Int32)))] [(.int (64 : Int32)), (.int (x0 &&& (255 : Int32)))])) P11 (by
      intro tt_ kk_
      refine XS.iload X6.here hx rfl (hb hby d10_45) rfl ?_
      refine XS.iloadN X6.here hx rfl (hb hby d10_47) rfl ?_
      exact kk_)
    by_cases c13 : (x0 &&& (255 : Int32)) < (64 : Int32)
    · have P14 := own_step (C := T6.setTop (mkF m 67 #[.val (.ref sa), .val (.int (64 : Int32)), .val (.long (0 : Int64)), .second, .val (.int (0 : Int32)), .val (.int (x0 &&& (255 : Int32)))] [])) P12 (by
        intro tt_ kk_
        refine XS.icmpYes X6.here hx rfl (pc0 := 48) (pc' := 67) rfl (hb hby d10_48) rfl (tlt c13).1 (by decide) (by decide) ?_
        exact kk_)
      exact ⟨(0 : Int64), Or.inl ⟨c13, rfl⟩, P14⟩
    · have P15 := own_step (C := T6.setTop (mkF m 51 #[.val (.ref sa), .val (.int (64 : Int32)), .val (.long (0 : Int64)), .second, .val (.int (0 : Int32)), .val (.int (x0 &&& (255 : Int32)))] [])) P12 (by
        intro tt_ kk_
        refine XS.icmpNo X6.here hx rfl (hb hby d10_48) rfl (flt c13).1 ?_
        exact kk_)
      have P16 := own_step (C := T6.setTop (mkF m 57 #[.val (.ref sa), .val (.int (64 : Int32)), .val (.long (0 : Int64)), .second, .val (.int (0 : Int32)), .val (.int (x0 &&& (255 : Int32)))] [(.int (128 : Int32)), (.int (x0 &&& (255 : Int32)))])) P15 (by
        intro tt_ kk_
        refine XS.iload X6.here hx rfl (hb hby d10_51) rfl ?_
        refine XS.iloadN X6.here hx rfl (hb hby d10_53) rfl ?_
        refine XS.bipush X6.here hx rfl (hb hby d10_54) ?_
        refine XS.iadd X6.here hx rfl (hb hby d10_56) rfl ?_
        exact kk_)
      by_cases c17 : (x0 &&& (255 : Int32)) < (128 : Int32)
      · have P18 := own_step (C := T6.setTop (mkF m 60 #[.val (.ref sa), .val (.int (64 : Int32)), .val (.long (0 : Int64)), .second, .val (.int (0 : Int32)), .val (.int (x0 &&& (255 : Int32)))] [])) P16 (by
          intro tt_ kk_
          refine XS.icmpNo X6.here hx rfl (hb hby d10_57) rfl (tlt c17).2.1 ?_
          exact kk_)
        have P19 := own_step (C := T6.setTop (mkF m 67 #[.val (.ref sa), .val (.int (64 : Int32)), .val (.long ((0 : Int64) ||| ((1 : Int64) <<< ((x0 &&& (255 : Int32)) &&& 0x3f).toInt64))), .second, .val (.int (0 : Int32)), .val (.int (x0 &&& (255 : Int32)))] [])) P18 (by
          intro tt_ kk_
          refine XS.lloadN X6.here hx rfl (hb hby d10_60) rfl ?_
          refine XS.lconst X6.here hx rfl (hb hby d10_61) ?_
          refine XS.iload X6.here hx rfl (hb hby d10_62) rfl ?_
          refine XS.lshl X6.here hx rfl (hb hby d10_64) rfl ?_
          refine XS.lor X6.here hx rfl (hb hby d10_65) rfl ?_
          refine XS.lstoreN X6.here hx rfl (hb hby d10_66) rfl (l' := #[.val (.ref sa), .val (.int (64 : Int32)), .val (.long ((0 : Int64) ||| ((1 : Int64) <<< ((x0 &&& (255 : Int32)) &&& 0x3f).toInt64))), .second, .val (.int (0 : Int32)), .val (.int (x0 &&& (255 : Int32)))]) rfl ?_
          exact kk_)
        exact ⟨((0 : Int64) ||| ((1 : Int64) <<< ((x0 &&& (255 : Int32)) &&& 0x3f).toInt64)), Or.inr (Or.inl ⟨c13, c17, rfl⟩), P19⟩
      · have P20 := own_step (C := T6.setTop (mkF m 67 #[.val (.ref sa), .val (.int (64 : Int32)), .val (.long (0 : Int64)), .second, .val (.int (0 : Int32)), .val (.int (x0 &&& (255 : Int32)))] [])) P16 (by
          intro tt_ kk_
          refine XS.icmpYes X6.here hx rfl (pc0 := 57) (pc' := 67) rfl (hb hby d10_57) rfl (flt c17).2.1 (by decide) (by decide) ?_
          exact kk_)
        exact ⟨(0 : Int64), Or.inr (Or.inr (⟨c13, c17, rfl⟩)), P20⟩
  have P21 := own_step P9 J10
  have P22 := own_step (C := T6.setTop (mkF m 8 #[.val (.ref sa), .val (.int (64 : Int32)), .val (.long q0), .second, .val (.int (1 : Int32)), .val (.int (x0 &&& (255 : Int32)))] [(.ref sa), (.int (1 : Int32))])) P21 (by
    intro tt_ kk_
    refine XS.iinc X6.here hx rfl (hb hby d10_67) rfl (l' := #[.val (.ref sa), .val (.int (64 : Int32)), .val (.long q0), .second, .val (.int (1 : Int32)), .val (.int (x0 &&& (255 : Int32)))]) rfl ?_
    show Steps p.tables e below (T6.setTop (mkF m 70 #[.val (.ref sa), .val (.int (64 : Int32)), .val (.long q0), .second, .val (.int (1 : Int32)), .val (.int (x0 &&& (255 : Int32)))] [])) _
    refine XS.goto X6.here hx rfl (pc0 := 70) (pc' := 5) rfl (hb hby d10_70) (by decide) (by decide) ?_
    refine XS.iload X6.here hx rfl (hb hby d10_5) rfl ?_
    refine XS.aloadN X6.here hx rfl (hb hby d10_7) rfl rfl ?_
    exact kk_)
  obtain ⟨cq23, kq23, q23a, q23b, q23c⟩ := isOf hZ e6 Es
  obtain ⟨_, _, ⟨T23, L23, k23, n23⟩, -, X23, ⟨Lc23, hQ23, l23, y23, z23⟩, st23⟩ := X6.virtualBack hx (y := (⟨"java/lang/String", "length", "()I"⟩ : MethodName)) (z := (⟨"java/lang/String", "length", "()I"⟩ : MethodName)) hown (mvT hZ (hw _ (List.mem_of_getElem? (i := 51) rfl))) (mvT hZ (hw _ (List.mem_of_getElem? (i := 52) rfl))) (notFace_of_selects (args := #[]) (mvT hZ (hw _ (List.mem_of_getElem? (i := 54) rfl)))) (mvT hZ (hw _ (List.mem_of_getElem? (i := 54) rfl))) (mvT hZ (hw _ (List.mem_of_getElem? (i := 53) rfl))) (by decide) (backOf (W := 1) (rm_length l Z a0 hw [] sa sb sk (2 : Int32) _ cs h0 n0 Z0 O Scs hcs Es Fsc Fsv Vs) hZ (hw _ (List.mem_of_getElem? (i := 55) rfl)) (hw _ (List.mem_of_getElem? (i := 8) rfl)) (by decide) (by decide)) q23a q23c (g := (mkF m 8 #[.val (.ref sa), .val (.int (64 : Int32)), .val (.long q0), .second, .val (.int (1 : Int32)), .val (.int (x0 &&& (255 : Int32)))] [(.ref sa), (.int (1 : Int32))])) rfl (by rw [hml]; rfl) (Steps.refl _) (argsL := []) (rest := [(.int (1 : Int32))]) (lenOf pd1 rfl) rfl (by show 2 * 0 + _ ≤ _; exact Nat.le_of_eq rfl) (hb hby d10_8) (fun _ _ => ⟨rfl, e6, (by decide : 0 + 0 ≤ _), (by decide : 0 + 0 ≤ _)⟩)
  dsimp only [Pt.U, Pt.locs, Pt.cells, Pt.slots] at X23 l23 y23 z23 st23 hQ23
  subst l23 y23 z23
  obtain ⟨rfl, N23q, e23⟩ := hQ23
  have N23 := Fr.app N6 N23q
  have P24 := own_step (C := T23.setTop (mkF m 11 #[.val (.ref sa), .val (.int (64 : Int32)), .val (.long q0), .second, .val (.int (1 : Int32)), .val (.int (x0 &&& (255 : Int32)))] [(.int (2 : Int32)), (.int (1 : Int32))])) P22 (fun t_ k_ => st23.trans k_)
  have P25 := own_step (C := T23.setTop (mkF m 14 #[.val (.ref sa), .val (.int (64 : Int32)), .val (.long q0), .second, .val (.int (1 : Int32)), .val (.int (x0 &&& (255 : Int32)))] [])) P24 (by
    intro tt_ kk_
    refine XS.icmpNo X23.here hx rfl (hb hby d10_11) rfl (tlt (by decide : (1 : Int32) < (2 : Int32))).2.1 ?_
    exact kk_)
  have P26 := own_step (C := T23.setTop (mkF m 17 #[.val (.ref sa), .val (.int (64 : Int32)), .val (.long q0), .second, .val (.int (1 : Int32)), .val (.int (x0 &&& (255 : Int32)))] [(.int (1 : Int32)), (.ref sa)])) P25 (by
    intro tt_ kk_
    refine XS.aloadN X23.here hx rfl (hb hby d10_14) rfl rfl ?_
    refine XS.iload X23.here hx rfl (hb hby d10_15) rfl ?_
    exact kk_)
  obtain ⟨cq27, kq27, q27a, q27b, q27c⟩ := isOf hZ e23 Es
  obtain ⟨_, _, ⟨T27, L27, k27, n27⟩, -, X27, ⟨Lc27, hQ27, l27, y27, z27⟩, st27⟩ := X23.virtualBack hx (y := (⟨"java/lang/String", "charAt", "(I)C"⟩ : MethodName)) (z := (⟨"java/lang/String", "charAt", "(I)C"⟩ : MethodName)) hown (mvT hZ (hw _ (List.mem_of_getElem? (i := 94) rfl))) (mvT hZ (hw _ (List.mem_of_getElem? (i := 95) rfl))) (notFace_of_selects (args := #[]) (mvT hZ (hw _ (List.mem_of_getElem? (i := 97) rfl)))) (mvT hZ (hw _ (List.mem_of_getElem? (i := 97) rfl))) (mvT hZ (hw _ (List.mem_of_getElem? (i := 96) rfl))) (by decide) (backOf (W := 0) (rm_charAt l Z a0 hw [] sa sb sk (2 : Int32) _ (1 : Int32) x1 fm cs h0 n0 Z0 O Scs hcs Es Fsc Fsv Vs Sfm hfm (by decide : ¬ (1 : Int32) < (0 : Int32) ∧ (1 : Int32) < (2 : Int32)) rfl) hZ (hw _ (List.mem_of_getElem? (i := 98) rfl)) (hw _ (List.mem_of_getElem? (i := 8) rfl)) (by decide) (by decide)) q27a q27c (g := (mkF m 17 #[.val (.ref sa), .val (.int (64 : Int32)), .val (.long q0), .second, .val (.int (1 : Int32)), .val (.int (x0 &&& (255 : Int32)))] [(.int (1 : Int32)), (.ref sa)])) rfl (by rw [hml]; rfl) (Steps.refl _) (argsL := [(.int (1 : Int32))]) (rest := []) (lenOf pd8 rfl) rfl (by show 2 * 0 + _ ≤ _; exact Nat.le_of_eq rfl) (hb hby d10_17) (fun _ _ => ⟨rfl, e23, (by decide : 0 + 0 ≤ _), (by decide : 0 + 0 ≤ _)⟩)
  dsimp only [Pt.U, Pt.locs, Pt.cells, Pt.slots] at X27 l27 y27 z27 st27 hQ27
  subst l27 y27 z27
  obtain ⟨rfl, N27q, e27⟩ := hQ27
  have N27 := Fr.app N23 N27q
  have P28 := own_step (C := T27.setTop (mkF m 20 #[.val (.ref sa), .val (.int (64 : Int32)), .val (.long q0), .second, .val (.int (1 : Int32)), .val (.int (x0 &&& (255 : Int32)))] [(.int (x1 &&& (255 : Int32)))])) P26 (fun t_ k_ => st27.trans k_)
  have P29 := own_step (C := T27.setTop (mkF m 27 #[.val (.ref sa), .val (.int (64 : Int32)), .val (.long q0), .second, .val (.int (1 : Int32)), .val (.int (x1 &&& (255 : Int32)))] [(.int (128 : Int32)), (.int (x1 &&& (255 : Int32)))])) P28 (by
    intro tt_ kk_
    refine XS.istore X27.here hx rfl (hb hby d10_20) rfl (l' := #[.val (.ref sa), .val (.int (64 : Int32)), .val (.long q0), .second, .val (.int (1 : Int32)), .val (.int (x1 &&& (255 : Int32)))]) rfl ?_
    refine XS.iload X27.here hx rfl (hb hby d10_22) rfl ?_
    refine XS.sipush X27.here hx rfl (hb hby d10_24) ?_
    exact kk_)
  have P30 := own_step (C := T27.setTop (mkF m 45 #[.val (.ref sa), .val (.int (64 : Int32)), .val (.long q0), .second, .val (.int (1 : Int32)), .val (.int (x1 &&& (255 : Int32)))] [])) P29 (by
    intro tt_ kk_
    refine XS.icmpYes X27.here hx rfl (pc0 := 27) (pc' := 45) rfl (hb hby d10_27) rfl (tlt hx1).1 (by decide) (by decide) ?_
    exact kk_)
  obtain ⟨q1, hv31, J31⟩ : ∃ (q1 : Int64), (((x1 &&& (255 : Int32)) < (64 : Int32) ∧ q1 = q0) ∨ (¬ ((x1 &&& (255 : Int32)) < (64 : Int32)) ∧ (x1 &&& (255 : Int32)) < (128 : Int32) ∧ q1 = (q0 ||| ((1 : Int64) <<< ((x1 &&& (255 : Int32)) &&& 0x3f).toInt64))) ∨ (¬ ((x1 &&& (255 : Int32)) < (64 : Int32)) ∧ ¬ ((x1 &&& (255 : Int32)) < (128 : Int32)) ∧ q1 = q0)) ∧ own_Go p e below (T27.setTop (mkF m 45 #[.val (.ref sa), .val (.int (64 : Int32)), .val (.long q0), .second, .val (.int (1 : Int32)), .val (.int (x1 &&& (255 : Int32)))] [])) (T27.setTop (mkF m 67 #[.val (.ref sa), .val (.int (64 : Int32)), .val (.long q1), .second, .val (.int (1 : Int32)), .val (.int (x1 &&& (255 : Int32)))] [])) := by
    have P32 : own_Go p e below (T27.setTop (mkF m 45 #[.val (.ref sa), .val (.int (64 : Int32)), .val (.long q0), .second, .val (.int (1 : Int32)), .val (.int (x1 &&& (255 : Int32)))] [])) (T27.setTop (mkF m 45 #[.val (.ref sa), .val (.int (64 : Int32)), .val (.long q0), .second, .val (.int (1 : Int32)), .val (.int (x1 &&& (255 : Int32)))] [])) := fun t_ k_ => k_
    have P33 := own_step (C := T27.setTop (mkF m 48 #[.val (.ref sa), .val (.int (64 : Int32)), .val (.long q0), .second, .val (.int (1 : Int32)), .val (.int (x1 &&& (255 : Int32)))] [(.int (64 : Int32)), (.int (x1 &&& (255 : Int32)))])) P32 (by
      intro tt_ kk_
      refine XS.iload X27.here hx rfl (hb hby d10_45) rfl ?_
      refine XS.iloadN X27.here hx rfl (hb hby d10_47) rfl ?_
      exact kk_)
    by_cases c34 : (x1 &&& (255 : Int32)) < (64 : Int32)
    · have P35 := own_step (C := T27.setTop (mkF m 67 #[.val (.ref sa), .val (.int (64 : Int32)), .val (.long q0), .second, .val (.int (1 : Int32)), .val (.int (x1 &&& (255 : Int32)))] [])) P33 (by
        intro tt_ kk_
        refine XS.icmpYes X27.here hx rfl (pc0 := 48) (pc' := 67) rfl (hb hby d10_48) rfl (tlt c34).1 (by decide) (by decide) ?_
        exact kk_)
      exact ⟨q0, Or.inl ⟨c34, rfl⟩, P35⟩
    · have P36 := own_step (C := T27.setTop (mkF m 51 #[.val (.ref sa), .val (.int (64 : Int32)), .val (.long q0), .second, .val (.int (1 : Int32)), .val (.int (x1 &&& (255 : Int32)))] [])) P33 (by
        intro tt_ kk_
        refine XS.icmpNo X27.here hx rfl (hb hby d10_48) rfl (flt c34).1 ?_
        exact kk_)
      have P37 := own_step (C := T27.setTop (mkF m 57 #[.val (.ref sa), .val (.int (64 : Int32)), .val (.long q0), .second, .val (.int (1 : Int32)), .val (.int (x1 &&& (255 : Int32)))] [(.int (128 : Int32)), (.int (x1 &&& (255 : Int32)))])) P36 (by
        intro tt_ kk_
        refine XS.iload X27.here hx rfl (hb hby d10_51) rfl ?_
        refine XS.iloadN X27.here hx rfl (hb hby d10_53) rfl ?_
        refine XS.bipush X27.here hx rfl (hb hby d10_54) ?_
        refine XS.iadd X27.here hx rfl (hb hby d10_56) rfl ?_
        exact kk_)
      by_cases c38 : (x1 &&& (255 : Int32)) < (128 : Int32)
      · have P39 := own_step (C := T27.setTop (mkF m 60 #[.val (.ref sa), .val (.int (64 : Int32)), .val (.long q0), .second, .val (.int (1 : Int32)), .val (.int (x1 &&& (255 : Int32)))] [])) P37 (by
          intro tt_ kk_
          refine XS.icmpNo X27.here hx rfl (hb hby d10_57) rfl (tlt c38).2.1 ?_
          exact kk_)
        have P40 := own_step (C := T27.setTop (mkF m 67 #[.val (.ref sa), .val (.int (64 : Int32)), .val (.long (q0 ||| ((1 : Int64) <<< ((x1 &&& (255 : Int32)) &&& 0x3f).toInt64))), .second, .val (.int (1 : Int32)), .val (.int (x1 &&& (255 : Int32)))] [])) P39 (by
          intro tt_ kk_
          refine XS.lloadN X27.here hx rfl (hb hby d10_60) rfl ?_
          refine XS.lconst X27.here hx rfl (hb hby d10_61) ?_
          refine XS.iload X27.here hx rfl (hb hby d10_62) rfl ?_
          refine XS.lshl X27.here hx rfl (hb hby d10_64) rfl ?_
          refine XS.lor X27.here hx rfl (hb hby d10_65) rfl ?_
          refine XS.lstoreN X27.here hx rfl (hb hby d10_66) rfl (l' := #[.val (.ref sa), .val (.int (64 : Int32)), .val (.long (q0 ||| ((1 : Int64) <<< ((x1 &&& (255 : Int32)) &&& 0x3f).toInt64))), .second, .val (.int (1 : Int32)), .val (.int (x1 &&& (255 : Int32)))]) rfl ?_
          exact kk_)
        exact ⟨(q0 ||| ((1 : Int64) <<< ((x1 &&& (255 : Int32)) &&& 0x3f).toInt64)), Or.inr (Or.inl ⟨c34, c38, rfl⟩), P40⟩
      · have P41 := own_step (C := T27.setTop (mkF m 67 #[.val (.ref sa), .val (.int (64 : Int32)), .val (.long q0), .second, .val (.int (1 : Int32)), .val (.int (x1 &&& (255 : Int32)))] [])) P37 (by
          intro tt_ kk_
          refine XS.icmpYes X27.here hx rfl (pc0 := 57) (pc' := 67) rfl (hb hby d10_57) rfl (flt c38).2.1 (by decide) (by decide) ?_
          exact kk_)
        exact ⟨q0, Or.inr (Or.inr (⟨c34, c38, rfl⟩)), P41⟩
  have P42 := own_step P30 J31
  have P43 := own_step (C := T27.setTop (mkF m 8 #[.val (.ref sa), .val (.int (64 : Int32)), .val (.long q1), .second, .val (.int (2 : Int32)), .val (.int (x1 &&& (255 : Int32)))] [(.ref sa), (.int (2 : Int32))])) P42 (by
    intro tt_ kk_
    refine XS.iinc X27.here hx rfl (hb hby d10_67) rfl (l' := #[.val (.ref sa), .val (.int (64 : Int32)), .val (.long q1), .second, .val (.int (2 : Int32)), .val (.int (x1 &&& (255 : Int32)))]) rfl ?_
    show Steps p.tables e below (T27.setTop (mkF m 70 #[.val (.ref sa), .val (.int (64 : Int32)), .val (.long q1), .second, .val (.int (2 : Int32)), .val (.int (x1 &&& (255 : Int32)))] [])) _
    refine XS.goto X27.here hx rfl (pc0 := 70) (pc' := 5) rfl (hb hby d10_70) (by decide) (by decide) ?_
    refine XS.iload X27.here hx rfl (hb hby d10_5) rfl ?_
    refine XS.aloadN X27.here hx rfl (hb hby d10_7) rfl rfl ?_
    exact kk_)
  obtain ⟨cq44, kq44, q44a, q44b, q44c⟩ := isOf hZ e27 Es
  obtain ⟨_, _, ⟨T44, L44, k44, n44⟩, -, X44, ⟨Lc44, hQ44, l44, y44, z44⟩, st44⟩ := X27.virtualBack hx (y := (⟨"java/lang/String", "length", "()I"⟩ : MethodName)) (z := (⟨"java/lang/String", "length", "()I"⟩ : MethodName)) hown (mvT hZ (hw _ (List.mem_of_getElem? (i := 51) rfl))) (mvT hZ (hw _ (List.mem_of_getElem? (i := 52) rfl))) (notFace_of_selects (args := #[]) (mvT hZ (hw _ (List.mem_of_getElem? (i := 54) rfl)))) (mvT hZ (hw _ (List.mem_of_getElem? (i := 54) rfl))) (mvT hZ (hw _ (List.mem_of_getElem? (i := 53) rfl))) (by decide) (backOf (W := 1) (rm_length l Z a0 hw [] sa sb sk (2 : Int32) _ cs h0 n0 Z0 O Scs hcs Es Fsc Fsv Vs) hZ (hw _ (List.mem_of_getElem? (i := 55) rfl)) (hw _ (List.mem_of_getElem? (i := 8) rfl)) (by decide) (by decide)) q44a q44c (g := (mkF m 8 #[.val (.ref sa), .val (.int (64 : Int32)), .val (.long q1), .second, .val (.int (2 : Int32)), .val (.int (x1 &&& (255 : Int32)))] [(.ref sa), (.int (2 : Int32))])) rfl (by rw [hml]; rfl) (Steps.refl _) (argsL := []) (rest := [(.int (2 : Int32))]) (lenOf pd1 rfl) rfl (by show 2 * 0 + _ ≤ _; exact Nat.le_of_eq rfl) (hb hby d10_8) (fun _ _ => ⟨rfl, e27, (by decide : 0 + 0 ≤ _), (by decide : 0 + 0 ≤ _)⟩)
  dsimp only [Pt.U, Pt.locs, Pt.cells, Pt.slots] at X44 l44 y44 z44 st44 hQ44
  subst l44 y44 z44
  obtain ⟨rfl, N44q, e44⟩ := hQ44
  have N44 := Fr.app N27 N44q
  have P45 := own_step (C := T44.setTop (mkF m 11 #[.val (.ref sa), .val (.int (64 : Int32)), .val (.long q1), .second, .val (.int (2 : Int32)), .val (.int (x1 &&& (255 : Int32)))] [(.int (2 : Int32)), (.int (2 : Int32))])) P43 (fun t_ k_ => st44.trans k_)
  have P46 := own_step (C := T44.setTop (mkF m 73 #[.val (.ref sa), .val (.int (64 : Int32)), .val (.long q1), .second, .val (.int (2 : Int32)), .val (.int (x1 &&& (255 : Int32)))] [])) P45 (by
    intro tt_ kk_
    refine XS.icmpYes X44.here hx rfl (pc0 := 11) (pc' := 73) rfl (hb hby d10_11) rfl (flt (by decide : ¬ ((2 : Int32) < (2 : Int32)))).2.1 (by decide) (by decide) ?_
    exact kk_)
  have P47 := own_step (C := T44.setTop (mkF m 74 #[.val (.ref sa), .val (.int (64 : Int32)), .val (.long q1), .second, .val (.int (2 : Int32)), .val (.int (x1 &&& (255 : Int32)))] [(.long q1)])) P46 (by
    intro tt_ kk_
    refine XS.lloadN X44.here hx rfl (hb hby d10_73) rfl ?_
    exact kk_)
  obtain ⟨fs, hr, hrun, hended, hW, hsame⟩ := X44.leave (v := some (.long q1)) (fun h => by rw [Bd.returns] at h; cases h)
  refine ⟨_, _, P47 _ ?_, hrun, hended, _, _, rfl, ?_, ⟨_, rfl⟩, hW, hsame.mono (by decide) (by decide)⟩
  · exact retOut X44 hx Bd.returns rfl (Or.inr (Or.inl ⟨rfl, rfl, _, rfl⟩)) (hb hby d10_74) hr
  · show Q_bits2_64 Z _ _ _ _ _ _ _ h0 n0 _ T44.heap _
    rw [e44]
    exact ⟨by rw [own_bitE hv31, own_bitE hv10], N44, rfl⟩
theorem ef__ns2 (m : MethodId) (x0 : Addr) (x1 : Addr) (x2 : Addr) (x3 : Int32) (x4 : Int32) : entryFrame m #[(.ref x0), (.ref x1), (.ref x2), (.int x3), (.int x4)] 5 = mkF m 0 #[.val (.ref x0), .val (.ref x1), .val (.ref x2), .val (.int x3), .val (.int x4)] [] := by first | (simp [entryFrame, mkF, argsToLocals, Value.category]; done) | rfl
def Q_ns2 (Z : State) (a : Addr) (bg : Addr) (le : Int32) (mo : Int32) (sa : Addr) (sb : Addr) (sk : ClassId) (x0 : Int32) (x1 : Int32) (fm : Value) (cs : Int32) (h0 : Heap) (n0 : Nat) (v_ : Option Value) (h : Heap) (L_ : List Loc) : Prop := v_ = none ∧ Fr n0 L_ ∧ Keep h0 h [a] ∧ Exa Z h a "com/example/gatehouse/gatehouse/pattern/NameShape" ∧ Fld Z h a "com/example/gatehouse/gatehouse/pattern/NameShape" "low" "J" (.long (own_bit (0 : Int32) (64 : Int32) (x1 &&& (255 : Int32)) (own_bit (0 : Int32) (64 : Int32) (x0 &&& (255 : Int32)) (0 : Int64)))) ∧ Fld Z h a "com/example/gatehouse/gatehouse/pattern/NameShape" "high" "J" (.long (own_bit (64 : Int32) (128 : Int32) (x1 &&& (255 : Int32)) (own_bit (64 : Int32) (128 : Int32) (x0 &&& (255 : Int32)) (0 : Int64))))
set_option maxRecDepth 65536 in
set_option maxHeartbeats 40000000 in
theorem rm_ns2 (l : Launch) (Z : State) (a0 : Array Value) (hw : ∀ d ∈ tables_1, d.before a0 Z = true) (ws : List Jvm.Cond) (a : Addr) (bg : Addr) (le : Int32) (mo : Int32) (sa : Addr) (sb : Addr) (sk : ClassId) (x0 : Int32) (x1 : Int32) (fm : Value) (cs : Int32) (h0 : Heap) (n0 : Nat) (Z0 : n0 ≤ h0.size) (O : Old Z n0 h0) (Scs : Sta Z Z.heap "java/lang/String" "COMPACT_STRINGS" "Z" (.int cs)) (hcs : ¬ (cs = (0 : Int32))) (Sfm : Sta Z Z.heap "jdk/internal/util/Preconditions" "SIOOBE_FORMATTER" "Ljava/util/function/BiFunction;" fm) (hfm : fm.category = 1) (Es : Exa Z h0 sa "java/lang/String") (Fsc : Fld Z h0 sa "java/lang/String" "coder" "B" (.int (0 : Int32))) (Fsv : Fld Z h0 sa "java/lang/String" "value" "[B" (.ref sb)) (Vs : Arv Z h0 sb sk .byte (2 : Int32) [(.int x0), (.int x1)] (.int 0)) (hx0 : (x0 &&& (255 : Int32)) < (128 : Int32)) (hx1 : (x1 &&& (255 : Int32)) < (128 : Int32)) (Ea : Exa Z h0 a "com/example/gatehouse/gatehouse/pattern/NameShape") (Fbegin : Fld Z h0 a "com/example/gatehouse/gatehouse/pattern/NameShape" "begin" "Ljava/lang/String;" .null) (Flow : Fld Z h0 a "com/example/gatehouse/gatehouse/pattern/NameShape" "low" "J" (.long (0 : Int64))) (Fhigh : Fld Z h0 a "com/example/gatehouse/gatehouse/pattern/NameShape" "high" "J" (.long (0 : Int64))) (Fleast : Fld Z h0 a "com/example/gatehouse/gatehouse/pattern/NameShape" "least" "I" (.int (0 : Int32))) (Fmost : Fld Z h0 a "com/example/gatehouse/gatehouse/pattern/NameShape" "most" "I" (.int (0 : Int32))) (ga : n0 ≤ a) (hl : ¬ (le < (0 : Int32))) (hm : ¬ (mo < le)) :
    MetFree l (⟨"com/example/gatehouse/gatehouse/pattern/NameShape", "<init>", "(Ljava/lang/String;Ljava/lang/String;II)V"⟩ : MethodName) (head1 (Jvm.Cond.code (⟨"com/example/gatehouse/gatehouse/pattern/NameShape", "<init>", "(Ljava/lang/String;Ljava/lang/String;II)V"⟩ : MethodName) prog_36_method_1_code 5 none :: ws) ({ frames := 5, cells := 0, slots := 0, locals := 74 } : Room)) (fun a_ U_ => a_ = #[(.ref a), (.ref bg), (.ref sa), (.int le), (.int mo)] ∧ Z.Warmed39 U_.vm ∧ U_.heap = h0) (fun _ _ _ _ _ => True) (fun _ U_ o_ V_ => ∃ v_ L_, o_ = .returned v_ ∧ Q_ns2 Z a bg le mo sa sb sk x0 x1 fm cs h0 n0 v_ V_.heap L_ ∧ FrameEnd U_ o_ V_ L_ ({ frames := 5, cells := 0, slots := 0, locals := 74 } : Room).cells ({ frames := 5, cells := 0, slots := 0, locals := 74 } : Room).slots) := by
  refine MetFree.of_bodySF (plainFor_of_name pn1) hisR ?_
  intro p e s m args below meth c s₁ Bd hml0 hP hK
  obtain ⟨rfl, hZ, hh⟩ := hP
  have hx := Bd.exec
  have hby := Bd.bytes
  have hml : c.maxLocals = 5 := hml0
  have hown : s.vm.findClass "com/example/gatehouse/gatehouse/pattern/NameShape" = some m.cls := findClass_of_methodNamed Bd.named
  have hnm := (name_of_methodNamed Bd.named Bd.method).1
  have X0 : Stand p l e ({ frames := 5, cells := 0, slots := 0, locals := 74 } : Room) s m #[(.ref a), (.ref bg), (.ref sa), (.int le), (.int mo)] below meth c s₁ [] 0 0 := Stand.of_body Bd
  have e0 : s₁.heap = h0 := by rw [← hh, Bd.state]; rfl
  have N0 := Fr.nil n0
  have pre0 : own_Go p e below (s₁.setTop (entryFrame m #[(.ref a), (.ref bg), (.ref sa), (.int le), (.int mo)] 5)) (s₁.setTop (mkF m 0 #[.val (.ref a), .val (.ref bg), .val (.ref sa), .val (.int le), .val (.int mo)] [])) := fun t_ k_ => castTop (ef__ns2 m a bg sa le mo) k_
  have ne_sa_a : sa ≠ a := ne_exa Es Ea (by decide)
  obtain ⟨clV, ArV, -⟩ := id Vs
  have ne_sb_a : sb ≠ a := Ne.symm (ne_arr Ea (hw _ (List.mem_of_getElem? (i := 33) rfl)) ArV)
  have P1 := own_step (C := s₁.setTop (mkF m 4 #[.val (.ref a), .val (.ref bg), .val (.ref sa), .val (.int le), .val (.int mo)] [(.int (0 : Int32)), (.ref sa), (.ref bg), (.ref a)])) pre0 (by
    intro tt_ kk_
    refine XS.aloadN X0.here hx rfl (hb hby d9_0) rfl rfl ?_
    refine XS.aloadN X0.here hx rfl (hb hby d9_1) rfl rfl ?_
    refine XS.aloadN X0.here hx rfl (hb hby d9_2) rfl rfl ?_
    refine XS.iconst X0.here hx rfl (hb hby d9_3) ?_
    exact kk_)
  obtain ⟨_, _, ⟨T2, L2, k2, n2⟩, -, X2, ⟨Lc2, hQ2, l2, y2, z2⟩, st2⟩ := Jvm.LawKit.callS X0 hx (y := (⟨"com/example/gatehouse/gatehouse/pattern/NameShape", "bits", "(Ljava/lang/String;I)J"⟩ : MethodName)) hown (mvT hZ (hw _ (List.mem_of_getElem? (i := 48) rfl))) (mvT hZ (hw _ (List.mem_of_getElem? (i := 49) rfl))) (mvT hZ (hw _ (List.mem_of_getElem? (i := 34) rfl))) (mvT hZ (hw _ (List.mem_of_getElem? (i := 50) rfl))) (by decide) (backOf (W := 2) (rm_bits2_0 l Z a0 hw [] sa sb sk x0 x1 fm cs h0 n0 Z0 O Scs hcs Sfm hfm Es Fsc Fsv Vs hx0 hx1) hZ (hw _ (List.mem_of_getElem? (i := 50) rfl)) (hw _ (List.mem_of_getElem? (i := 34) rfl)) (by decide) (by decide)) (g := (mkF m 4 #[.val (.ref a), .val (.ref bg), .val (.ref sa), .val (.int le), .val (.int mo)] [(.int (0 : Int32)), (.ref sa), (.ref bg), (.ref a)])) rfl (by rw [hml]; rfl) (argsL := [(.ref sa), (.int (0 : Int32))]) (rest := [(.ref bg), (.ref a)]) (lenOf pd2 rfl) rfl (by show 2 * 0 + _ ≤ _; exact Nat.le_of_eq rfl) (hb hby d9_4) (fun _ _ => ⟨rfl, e0, (by decide : 0 + 0 ≤ _), (by decide : 0 + 0 ≤ _)⟩)
  dsimp only [Pt.U, Pt.locs, Pt.cells, Pt.slots] at X2 l2 y2 z2 st2 hQ2
  subst l2 y2 z2
  obtain ⟨rfl, N2q, e2⟩ := hQ2
  have N2 := Fr.app N0 N2q
  have P3 := own_step (C := T2.setTop (mkF m 7 #[.val (.ref a), .val (.ref bg), .val (.ref sa), .val (.int le), .val (.int mo)] [(.long (own_bit (0 : Int32) (64 : Int32) (x1 &&& (255 : Int32)) (own_bit (0 : Int32) (64 : Int32) (x0 &&& (255 : Int32)) (0 : Int64)))), (.ref bg), (.ref a)])) P1 (fun t_ k_ => st2 t_ k_)
  have P4 := own_step (C := T2.setTop (mkF m 10 #[.val (.ref a), .val (.ref bg), .val (.ref sa), .val (.int le), .val (.int mo)] [(.int (64 : Int32)), (.ref sa), (.long (own_bit (0 : Int32) (64 : Int32) (x1 &&& (255 : Int32)) (own_bit (0 : Int32) (64 : Int32) (x0 &&& (255 : Int32)) (0 : Int64)))), (.ref bg), (.ref a)])) P3 (by
    intro tt_ kk_
    refine XS.aloadN X2.here hx rfl (hb hby d9_7) rfl rfl ?_
    refine XS.bipush X2.here hx rfl (hb hby d9_8) ?_
    exact kk_)
  obtain ⟨_, _, ⟨T5, L5, k5, n5⟩, -, X5, ⟨Lc5, hQ5, l5, y5, z5⟩, st5⟩ := Jvm.LawKit.callS X2 hx (y := (⟨"com/example/gatehouse/gatehouse/pattern/NameShape", "bits", "(Ljava/lang/String;I)J"⟩ : MethodName)) hown (mvT hZ (hw _ (List.mem_of_getElem? (i := 48) rfl))) (mvT hZ (hw _ (List.mem_of_getElem? (i := 49) rfl))) (mvT hZ (hw _ (List.mem_of_getElem? (i := 34) rfl))) (mvT hZ (hw _ (List.mem_of_getElem? (i := 50) rfl))) (by decide) (backOf (W := 4) (rm_bits2_64 l Z a0 hw [] sa sb sk x0 x1 fm cs h0 n0 Z0 O Scs hcs Sfm hfm Es Fsc Fsv Vs hx0 hx1) hZ (hw _ (List.mem_of_getElem? (i := 50) rfl)) (hw _ (List.mem_of_getElem? (i := 34) rfl)) (by decide) (by decide)) (g := (mkF m 10 #[.val (.ref a), .val (.ref bg), .val (.ref sa), .val (.int le), .val (.int mo)] [(.int (64 : Int32)), (.ref sa), (.long (own_bit (0 : Int32) (64 : Int32) (x1 &&& (255 : Int32)) (own_bit (0 : Int32) (64 : Int32) (x0 &&& (255 : Int32)) (0 : Int64)))), (.ref bg), (.ref a)])) rfl (by rw [hml]; rfl) (argsL := [(.ref sa), (.int (64 : Int32))]) (rest := [(.long (own_bit (0 : Int32) (64 : Int32) (x1 &&& (255 : Int32)) (own_bit (0 : Int32) (64 : Int32) (x0 &&& (255 : Int32)) (0 : Int64)))), (.ref bg), (.ref a)]) (lenOf pd2 rfl) rfl (by show 2 * 0 + _ ≤ _; exact Nat.le_of_eq rfl) (hb hby d9_10) (fun _ _ => ⟨rfl, e2, (by decide : 0 + 0 ≤ _), (by decide : 0 + 0 ≤ _)⟩)
  dsimp only [Pt.U, Pt.locs, Pt.cells, Pt.slots] at X5 l5 y5 z5 st5 hQ5
  subst l5 y5 z5
  obtain ⟨rfl, N5q, e5⟩ := hQ5
  have N5 := Fr.app N2 N5q
  have P6 := own_step (C := T5.setTop (mkF m 13 #[.val (.ref a), .val (.ref bg), .val (.ref sa), .val (.int le), .val (.int mo)] [(.long (own_bit (64 : Int32) (128 : Int32) (x1 &&& (255 : Int32)) (own_bit (64 : Int32) (128 : Int32) (x0 &&& (255 : Int32)) (0 : Int64)))), (.long (own_bit (0 : Int32) (64 : Int32) (x1 &&& (255 : Int32)) (own_bit (0 : Int32) (64 : Int32) (x0 &&& (255 : Int32)) (0 : Int64)))), (.ref bg), (.ref a)])) P4 (fun t_ k_ => st5 t_ k_)
  have P7 := own_step (C := T5.setTop (mkF m 16 #[.val (.ref a), .val (.ref bg), .val (.ref sa), .val (.int le), .val (.int mo)] [(.int mo), (.int le), (.long (own_bit (64 : Int32) (128 : Int32) (x1 &&& (255 : Int32)) (own_bit (64 : Int32) (128 : Int32) (x0 &&& (255 : Int32)) (0 : Int64)))), (.long (own_bit (0 : Int32) (64 : Int32) (x1 &&& (255 : Int32)) (own_bit (0 : Int32) (64 : Int32) (x0 &&& (255 : Int32)) (0 : Int64)))), (.ref bg), (.ref a)])) P6 (by
    intro tt_ kk_
    refine XS.iloadN X5.here hx rfl (hb hby d9_13) rfl ?_
    refine XS.iload X5.here hx rfl (hb hby d9_14) rfl ?_
    exact kk_)
  obtain ⟨_, _, ⟨T8, L8, k8, n8⟩, -, X8, ⟨Lc8, hQ8, l8, y8, z8⟩, st8⟩ := X5.specialBack hx (y := (⟨"com/example/gatehouse/gatehouse/pattern/NameShape", "<init>", "(Ljava/lang/String;JJII)V"⟩ : MethodName)) rfl hown (mvT hZ (hw _ (List.mem_of_getElem? (i := 61) rfl))) (mvT hZ (hw _ (List.mem_of_getElem? (i := 62) rfl))) (mvT hZ (hw _ (List.mem_of_getElem? (i := 63) rfl))) (by decide) (backOf (W := 0) (rm_ns0 l Z a0 hw [] a bg (own_bit (0 : Int32) (64 : Int32) (x1 &&& (255 : Int32)) (own_bit (0 : Int32) (64 : Int32) (x0 &&& (255 : Int32)) (0 : Int64))) (own_bit (64 : Int32) (128 : Int32) (x1 &&& (255 : Int32)) (own_bit (64 : Int32) (128 : Int32) (x0 &&& (255 : Int32)) (0 : Int64))) le mo h0 n0 Z0 O Ea Fbegin Flow Fhigh Fleast Fmost ga) hZ (hw _ (List.mem_of_getElem? (i := 63) rfl)) (hw _ (List.mem_of_getElem? (i := 34) rfl)) (by decide) (by decide)) (g := (mkF m 16 #[.val (.ref a), .val (.ref bg), .val (.ref sa), .val (.int le), .val (.int mo)] [(.int mo), (.int le), (.long (own_bit (64 : Int32) (128 : Int32) (x1 &&& (255 : Int32)) (own_bit (64 : Int32) (128 : Int32) (x0 &&& (255 : Int32)) (0 : Int64)))), (.long (own_bit (0 : Int32) (64 : Int32) (x1 &&& (255 : Int32)) (own_bit (0 : Int32) (64 : Int32) (x0 &&& (255 : Int32)) (0 : Int64)))), (.ref bg), (.ref a)])) rfl (by rw [hml]; rfl) (Steps.refl _) (a := a) (argsL := [(.ref bg), (.long (own_bit (0 : Int32) (64 : Int32) (x1 &&& (255 : Int32)) (own_bit (0 : Int32) (64 : Int32) (x0 &&& (255 : Int32)) (0 : Int64)))), (.long (own_bit (64 : Int32) (128 : Int32) (x1 &&& (255 : Int32)) (own_bit (64 : Int32) (128 : Int32) (x0 &&& (255 : Int32)) (0 : Int64)))), (.int le), (.int mo)]) (rest := []) (lenOf pd3 rfl) rfl (by show 2 * 0 + _ ≤ _; exact Nat.le_of_eq rfl) (hb hby d9_16) (fun _ _ => ⟨rfl, e5, (by decide : 0 + 0 ≤ _), (by decide : 0 + 0 ≤ _)⟩)
  dsimp only [Pt.U, Pt.locs, Pt.cells, Pt.slots] at X8 l8 y8 z8 st8 hQ8
  subst l8 y8 z8
  obtain ⟨rfl, N8q, K8, f9, f10, f11⟩ := hQ8
  have N8 := Fr.app N5 N8q
  have f12 := O.keep K8 (allS ga all0)
  have f13 := Ea.keep K8
  have f14 := (Keep.refl h0 [a]).trans K8 (allS (Or.inl (List.mem_of_getElem? (i := 0) rfl)) all0)
  have f20 := Es.keep K8
  have f21 := Fsc.keep K8 (ninS ne_sa_a nin0)
  have f22 := Fsv.keep K8 (ninS ne_sa_a nin0)
  have f23 := Vs.keep K8 (ninS ne_sb_a nin0)
  have Z24 : n0 ≤ T8.heap.size := Nat.le_trans Z0 K8.1
  have P25 := own_step (C := T8.setTop (mkF m 19 #[.val (.ref a), .val (.ref bg), .val (.ref sa), .val (.int le), .val (.int mo)] [])) P7 (fun t_ k_ => st8.trans k_)
  have P26 := own_step (C := T8.setTop (mkF m 20 #[.val (.ref a), .val (.ref bg), .val (.ref sa), .val (.int le), .val (.int mo)] [(.int le)])) P25 (by
    intro tt_ kk_
    refine XS.iloadN X8.here hx rfl (hb hby d9_19) rfl ?_
    exact kk_)
  have P27 := own_step (C := T8.setTop (mkF m 23 #[.val (.ref a), .val (.ref bg), .val (.ref sa), .val (.int le), .val (.int mo)] [])) P26 (by
    intro tt_ kk_
    refine XS.ifNo X8.here hx rfl (hb hby d9_20) rfl ((if0 _ _).trans (flt hl).1) ?_
    exact kk_)
  have P28 := own_step (C := T8.setTop (mkF m 26 #[.val (.ref a), .val (.ref bg), .val (.ref sa), .val (.int le), .val (.int mo)] [(.int mo), (.int le)])) P27 (by
    intro tt_ kk_
    refine XS.iloadN X8.here hx rfl (hb hby d9_23) rfl ?_
    refine XS.iload X8.here hx rfl (hb hby d9_24) rfl ?_
    exact kk_)
  have P29 := own_step (C := T8.setTop (mkF m 45 #[.val (.ref a), .val (.ref bg), .val (.ref sa), .val (.int le), .val (.int mo)] [])) P28 (by
    intro tt_ kk_
    refine XS.icmpYes X8.here hx rfl (pc0 := 26) (pc' := 45) rfl (hb hby d9_26) rfl (flt hm).2.2.2 (by decide) (by decide) ?_
    exact kk_)
  obtain ⟨fs, hr, hrun, hended, hW, hsame⟩ := X8.leave (v := none) (fun _ => rfl)
  refine ⟨_, _, P29 _ ?_, hrun, hended, _, _, rfl, ?_, ⟨_, rfl⟩, hW, hsame.mono (by decide) (by decide)⟩
  · exact X8.returnOut hx Bd.returns (hb hby d9_45) hr
  · show Q_ns2 Z _ _ _ _ _ _ _ _ _ _ _ h0 n0 _ T8.heap _
    exact ⟨rfl, N8, f14, f9, f10, f11⟩
theorem ef__bits3_0 (m : MethodId) (x0 : Addr) (x1 : Int32) : entryFrame m #[(.ref x0), (.int x1)] 6 = mkF m 0 #[.val (.ref x0), .val (.int x1), .unset, .unset, .unset, .unset] [] := by first | (simp [entryFrame, mkF, argsToLocals, Value.category]; done) | rfl
def Q_bits3_0 (Z : State) (sa : Addr) (sb : Addr) (sk : ClassId) (x0 : Int32) (x1 : Int32) (x2 : Int32) (fm : Value) (cs : Int32) (h0 : Heap) (n0 : Nat) (v_ : Option Value) (h : Heap) (L_ : List Loc) : Prop := v_ = some (.long (own_bit (0 : Int32) (64 : Int32) (x2 &&& (255 : Int32)) (own_bit (0 : Int32) (64 : Int32) (x1 &&& (255 : Int32)) (own_bit (0 : Int32) (64 : Int32) (x0 &&& (255 : Int32)) (0 : Int64))))) ∧ Fr n0 L_ ∧ h = h0
set_option maxRecDepth 65536 in
set_option maxHeartbeats 40000000 in
theorem rm_bits3_0 (l : Launch) (Z : State) (a0 : Array Value) (hw : ∀ d ∈ tables_1, d.before a0 Z = true) (ws : List Jvm.Cond) (sa : Addr) (sb : Addr) (sk : ClassId) (x0 : Int32) (x1 : Int32) (x2 : Int32) (fm : Value) (cs : Int32) (h0 : Heap) (n0 : Nat) (Z0 : n0 ≤ h0.size) (O : Old Z n0 h0) (Scs : Sta Z Z.heap "java/lang/String" "COMPACT_STRINGS" "Z" (.int cs)) (hcs : ¬ (cs = (0 : Int32))) (Sfm : Sta Z Z.heap "jdk/internal/util/Preconditions" "SIOOBE_FORMATTER" "Ljava/util/function/BiFunction;" fm) (hfm : fm.category = 1) (Es : Exa Z h0 sa "java/lang/String") (Fsc : Fld Z h0 sa "java/lang/String" "coder" "B" (.int (0 : Int32))) (Fsv : Fld Z h0 sa "java/lang/String" "value" "[B" (.ref sb)) (Vs : Arv Z h0 sb sk .byte (3 : Int32) [(.int x0), (.int x1), (.int x2)] (.int 0)) (hx0 : (x0 &&& (255 : Int32)) < (128 : Int32)) (hx1 : (x1 &&& (255 : Int32)) < (128 : Int32)) (hx2 : (x2 &&& (255 : Int32)) < (128 : Int32)) :
    MetFree l (⟨"com/example/gatehouse/gatehouse/pattern/NameShape", "bits", "(Ljava/lang/String;I)J"⟩ : MethodName) (head1 (Jvm.Cond.code (⟨"com/example/gatehouse/gatehouse/pattern/NameShape", "bits", "(Ljava/lang/String;I)J"⟩ : MethodName) prog_36_method_3_code 6 (some .long) :: ws) ({ frames := 4, cells := 0, slots := 0, locals := 53 } : Room)) (fun a_ U_ => a_ = #[(.ref sa), (.int (0 : Int32))] ∧ Z.Warmed39 U_.vm ∧ U_.heap = h0) (fun _ _ _ _ _ => True) (fun _ U_ o_ V_ => ∃ v_ L_, o_ = .returned v_ ∧ Q_bits3_0 Z sa sb sk x0 x1 x2 fm cs h0 n0 v_ V_.heap L_ ∧ FrameEnd U_ o_ V_ L_ ({ frames := 4, cells := 0, slots := 0, locals := 53 } : Room).cells ({ frames := 4, cells := 0, slots := 0, locals := 53 } : Room).slots) := by
  refine MetFree.of_bodySF (plainFor_of_name pn1) hisR ?_
  intro p e s m args below meth c s₁ Bd hml0 hP hK
  obtain ⟨rfl, hZ, hh⟩ := hP
  have hx := Bd.exec
  have hby := Bd.bytes
  have hml : c.maxLocals = 6 := hml0
  have hown : s.vm.findClass "com/example/gatehouse/gatehouse/pattern/NameShape" = some m.cls := findClass_of_methodNamed Bd.named
  have hnm := (name_of_methodNamed Bd.named Bd.method).1
  have X0 : Stand p l e ({ frames := 4, cells := 0, slots := 0, locals := 53 } : Room) s m #[(.ref sa), (.int (0 : Int32))] below meth c s₁ [] 0 0 := Stand.of_body Bd
  have e0 : s₁.heap = h0 := by rw [← hh, Bd.state]; rfl
  have N0 := Fr.nil n0
  have pre0 : own_Go p e below (s₁.setTop (entryFrame m #[(.ref sa), (.int (0 : Int32))] 6)) (s₁.setTop (mkF m 0 #[.val (.ref sa), .val (.int (0 : Int32)), .unset, .unset, .unset, .unset] [])) := fun t_ k_ => castTop (ef__bits3_0 m sa (0 : Int32)) k_
  have P1 := own_step (C := s₁.setTop (mkF m 8 #[.val (.ref sa), .val (.int (0 : Int32)), .val (.long (0 : Int64)), .second, .val (.int (0 : Int32)), .unset] [(.ref sa), (.int (0 : Int32))])) pre0 (by
    intro tt_ kk_
    refine XS.lconst X0.here hx rfl (hb hby d10_0) ?_
    refine XS.lstoreN X0.here hx rfl (hb hby d10_1) rfl (l' := #[.val (.ref sa), .val (.int (0 : Int32)), .val (.long (0 : Int64)), .second, .unset, .unset]) rfl ?_
    refine XS.iconst X0.here hx rfl (hb hby d10_2) ?_
    refine XS.istore X0.here hx rfl (hb hby d10_3) rfl (l' := #[.val (.ref sa), .val (.int (0 : Int32)), .val (.long (0 : Int64)), .second, .val (.int (0 : Int32)), .unset]) rfl ?_
    refine XS.iload X0.here hx rfl (hb hby d10_5) rfl ?_
    refine XS.aloadN X0.here hx rfl (hb hby d10_7) rfl rfl ?_
    exact kk_)
  obtain ⟨cq2, kq2, q2a, q2b, q2c⟩ := isOf hZ e0 Es
  obtain ⟨_, _, ⟨T2, L2, k2, n2⟩, -, X2, ⟨Lc2, hQ2, l2, y2, z2⟩, st2⟩ := X0.virtualBack hx (y := (⟨"java/lang/String", "length", "()I"⟩ : MethodName)) (z := (⟨"java/lang/String", "length", "()I"⟩ : MethodName)) hown (mvT hZ (hw _ (List.mem_of_getElem? (i := 51) rfl))) (mvT hZ (hw _ (List.mem_of_getElem? (i := 52) rfl))) (notFace_of_selects (args := #[]) (mvT hZ (hw _ (List.mem_of_getElem? (i := 54) rfl)))) (mvT hZ (hw _ (List.mem_of_getElem? (i := 54) rfl))) (mvT hZ (hw _ (List.mem_of_getElem? (i := 53) rfl))) (by decide) (backOf (W := 1) (rm_length l Z a0 hw [] sa sb sk (3 : Int32) _ cs h0 n0 Z0 O Scs hcs Es Fsc Fsv Vs) hZ (hw _ (List.mem_of_getElem? (i := 55) rfl)) (hw _ (List.mem_of_getElem? (i := 8) rfl)) (by decide) (by decide)) q2a q2c (g := (mkF m 8 #[.val (.ref sa), .val (.int (0 : Int32)), .val (.long (0 : Int64)), .second, .val (.int (0 : Int32)), .unset] [(.ref sa), (.int (0 : Int32))])) rfl (by rw [hml]; rfl) (Steps.refl _) (argsL := []) (rest := [(.int (0 : Int32))]) (lenOf pd1 rfl) rfl (by show 2 * 0 + _ ≤ _; exact Nat.le_of_eq rfl) (hb hby d10_8) (fun _ _ => ⟨rfl, e0, (by decide : 0 + 0 ≤ _), (by decide : 0 + 0 ≤ _)⟩)
  dsimp only [Pt.U, Pt.locs, Pt.cells, Pt.slots] at X2 l2 y2 z2 st2 hQ2
  subst l2 y2 z2
  obtain ⟨rfl, N2q, e2⟩ := hQ2
  have N2 := Fr.app N0 N2q
  have P3 := own_step (C := T2.setTop (mkF m 11 #[.val (.ref sa), .val (.int (0 : Int32)), .val (.long (0 : Int64)), .second, .val (.int (0 : Int32)), .unset] [(.int (3 : Int32)), (.int (0 : Int32))])) P1 (fun t_ k_ => st2.trans k_)
  have P4 := own_step (C := T2.setTop (mkF m 14 #[.val (.ref sa), .val (.int (0 : Int32)), .val (.long (0 : Int64)), .second, .val (.int (0 : Int32)), .unset] [])) P3 (by
    intro tt_ kk_
    refine XS.icmpNo X2.here hx rfl (hb hby d10_11) rfl (tlt (by decide : (0 : Int32) < (3 : Int32))).2.1 ?_
    exact kk_)
  have P5 := own_step (C := T2.setTop (mkF m 17 #[.val (.ref sa), .val (.int (0 : Int32)), .val (.long (0 : Int64)), .second, .val (.int (0 : Int32)), .unset] [(.int (0 : Int32)), (.ref sa)])) P4 (by
    intro tt_ kk_
    refine XS.aloadN X2.here hx rfl (hb hby d10_14) rfl rfl ?_
    refine XS.iload X2.here hx rfl (hb hby d10_15) rfl ?_
    exact kk_)
  obtain ⟨cq6, kq6, q6a, q6b, q6c⟩ := isOf hZ e2 Es
  obtain ⟨_, _, ⟨T6, L6, k6, n6⟩, -, X6, ⟨Lc6, hQ6, l6, y6, z6⟩, st6⟩ := X2.virtualBack hx (y := (⟨"java/lang/String", "charAt", "(I)C"⟩ : MethodName)) (z := (⟨"java/lang/String", "charAt", "(I)C"⟩ : MethodName)) hown (mvT hZ (hw _ (List.mem_of_getElem? (i := 94) rfl))) (mvT hZ (hw _ (List.mem_of_getElem? (i := 95) rfl))) (notFace_of_selects (args := #[]) (mvT hZ (hw _ (List.mem_of_getElem? (i := 97) rfl)))) (mvT hZ (hw _ (List.mem_of_getElem? (i := 97) rfl))) (mvT hZ (hw _ (List.mem_of_getElem? (i := 96) rfl))) (by decide) (backOf (W := 0) (rm_charAt l Z a0 hw [] sa sb sk (3 : Int32) _ (0 : Int32) x0 fm cs h0 n0 Z0 O Scs hcs Es Fsc Fsv Vs Sfm hfm (by decide : ¬ (0 : Int32) < (0 : Int32) ∧ (0 : Int32) < (3 : Int32)) rfl) hZ (hw _ (List.mem_of_getElem? (i := 98) rfl)) (hw _ (List.mem_of_getElem? (i := 8) rfl)) (by decide) (by decide)) q6a q6c (g := (mkF m 17 #[.val (.ref sa), .val (.int (0 : Int32)), .val (.long (0 : Int64)), .second, .val (.int (0 : Int32)), .unset] [(.int (0 : Int32)), (.ref sa)])) rfl (by rw [hml]; rfl) (Steps.refl _) (argsL := [(.int (0 : Int32))]) (rest := []) (lenOf pd8 rfl) rfl (by show 2 * 0 + _ ≤ _; exact Nat.le_of_eq rfl) (hb hby d10_17) (fun _ _ => ⟨rfl, e2, (by decide : 0 + 0 ≤ _), (by decide : 0 + 0 ≤ _)⟩)
  dsimp only [Pt.U, Pt.locs, Pt.cells, Pt.slots] at X6 l6 y6 z6 st6 hQ6
  subst l6 y6 z6
  obtain ⟨rfl, N6q, e6⟩ := hQ6
  have N6 := Fr.app N2 N6q
  have P7 := own_step (C := T6.setTop (mkF m 20 #[.val (.ref sa), .val (.int (0 : Int32)), .val (.long (0 : Int64)), .second, .val (.int (0 : Int32)), .unset] [(.int (x0 &&& (255 : Int32)))])) P5 (fun t_ k_ => st6.trans k_)
  have P8 := own_step (C := T6.setTop (mkF m 27 #[.val (.ref sa), .val (.int (0 : Int32)), .val (.long (0 : Int64)), .second, .val (.int (0 : Int32)), .val (.int (x0 &&& (255 : Int32)))] [(.int (128 : Int32)), (.int (x0 &&& (255 : Int32)))])) P7 (by
    intro tt_ kk_
    refine XS.istore X6.here hx rfl (hb hby d10_20) rfl (l' := #[.val (.ref sa), .val (.int (0 : Int32)), .val (.long (0 : Int64)), .second, .val (.int (0 : Int32)), .val (.int (x0 &&& (255 : Int32)))]) rfl ?_
    refine XS.iload X6.here hx rfl (hb hby d10_22) rfl ?_
    refine XS.sipush X6.here hx rfl (hb hby d10_24) ?_
    exact kk_)
  have P9 := own_step (C := T6.setTop (mkF m 45 #[.val (.ref sa), .val (.int (0 : Int32)), .val (.long (0 : Int64)), .second, .val (.int (0 : Int32)), .val (.int (x0 &&& (255 : Int32)))] [])) P8 (by
    intro tt_ kk_
    refine XS.icmpYes X6.here hx rfl (pc0 := 27) (pc' := 45) rfl (hb hby d10_27) rfl (tlt hx0).1 (by decide) (by decide) ?_
    exact kk_)
  obtain ⟨q0, hv10, J10⟩ : ∃ (q0 : Int64), (((x0 &&& (255 : Int32)) < (0 : Int32) ∧ q0 = (0 : Int64)) ∨ (¬ ((x0 &&& (255 : Int32)) < (0 : Int32)) ∧ (x0 &&& (255 : Int32)) < (64 : Int32) ∧ q0 = ((0 : Int64) ||| ((1 : Int64) <<< ((x0 &&& (255 : Int32)) &&& 0x3f).toInt64))) ∨ (¬ ((x0 &&& (255 : Int32)) < (0 : Int32)) ∧ ¬ ((x0 &&& (255 : Int32)) < (64 : Int32)) ∧ q0 = (0 : Int64))) ∧ own_Go p e below (T6.setTop (mkF m 45 #[.val (.ref sa), .val (.int (0 : Int32)), .val (.long (0 : Int64)), .second, .val (.int (0 : Int32)), .val (.int (x0 &&& (255 : Int32)))] [])) (T6.setTop (mkF m 67 #[.val (.ref sa), .val (.int (0 : Int32)), .val (.long q0), .second, .val (.int (0 : Int32)), .val (.int (x0 &&& (255 : Int32)))] [])) := by
    have P11 : own_Go p e below (T6.setTop (mkF m 45 #[.val (.ref sa), .val (.int (0 : Int32)), .val (.long (0 : Int64)), .second, .val (.int (0 : Int32)), .val (.int (x0 &&& (255 : Int32)))] [])) (T6.setTop (mkF m 45 #[.val (.ref sa), .val (.int (0 : Int32)), .val (.long (0 : Int64)), .second, .val (.int (0 : Int32)), .val (.int (x0 &&& (255 : Int32)))] [])) := fun t_ k_ => k_
    have P12 := own_step (C := T6.setTop (mkF m 48 #[.val (.ref sa), .val (.int (0 : Int32)), .val (.long (0 : Int64)), .second, .val (.int (0 : Int32)), .val (.int (x0 &&& (255 : Int32)))] [(.int (0 : Int32)), (.int (x0 &&& (255 : Int32)))])) P11 (by
      intro tt_ kk_
      refine XS.iload X6.here hx rfl (hb hby d10_45) rfl ?_
      refine XS.iloadN X6.here hx rfl (hb hby d10_47) rfl ?_
      exact kk_)
    by_cases c13 : (x0 &&& (255 : Int32)) < (0 : Int32)
    · have P14 := own_step (C := T6.setTop (mkF m 67 #[.val (.ref sa), .val (.int (0 : Int32)), .val (.long (0 : Int64)), .second, .val (.int (0 : Int32)), .val (.int (x0 &&& (255 : Int32)))] [])) P12 (by
        intro tt_ kk_
        refine XS.icmpYes X6.here hx rfl (pc0 := 48) (pc' := 67) rfl (hb hby d10_48) rfl (tlt c13).1 (by decide) (by decide) ?_
        exact kk_)
      exact ⟨(0 : Int64), Or.inl ⟨c13, rfl⟩, P14⟩
    · have P15 := own_step (C := T6.setTop (mkF m 51 #[.val (.ref sa), .val (.int (0 : Int32)), .val (.long (0 : Int64)), .second, .val (.int (0 : Int32)), .val (.int (x0 &&& (255 : Int32)))] [])) P12 (by
        intro tt_ kk_
        refine XS.icmpNo X6.here hx rfl (hb hby d10_48) rfl (flt c13).1 ?_
        exact kk_)
      have P16 := own_step (C := T6.setTop (mkF m 57 #[.val (.ref sa), .val (.int (0 : Int32)), .val (.long (0 : Int64)), .second, .val (.int (0 : Int32)), .val (.int (x0 &&& (255 : Int32)))] [(.int (64 : Int32)), (.int (x0 &&& (255 : Int32)))])) P15 (by
        intro tt_ kk_
        refine XS.iload X6.here hx rfl (hb hby d10_51) rfl ?_
        refine XS.iloadN X6.here hx rfl (hb hby d10_53) rfl ?_
        refine XS.bipush X6.here hx rfl (hb hby d10_54) ?_
        refine XS.iadd X6.here hx rfl (hb hby d10_56) rfl ?_
        exact kk_)
      by_cases c17 : (x0 &&& (255 : Int32)) < (64 : Int32)
      · have P18 := own_step (C := T6.setTop (mkF m 60 #[.val (.ref sa), .val (.int (0 : Int32)), .val (.long (0 : Int64)), .second, .val (.int (0 : Int32)), .val (.int (x0 &&& (255 : Int32)))] [])) P16 (by
          intro tt_ kk_
          refine XS.icmpNo X6.here hx rfl (hb hby d10_57) rfl (tlt c17).2.1 ?_
          exact kk_)
        have P19 := own_step (C := T6.setTop (mkF m 67 #[.val (.ref sa), .val (.int (0 : Int32)), .val (.long ((0 : Int64) ||| ((1 : Int64) <<< ((x0 &&& (255 : Int32)) &&& 0x3f).toInt64))), .second, .val (.int (0 : Int32)), .val (.int (x0 &&& (255 : Int32)))] [])) P18 (by
          intro tt_ kk_
          refine XS.lloadN X6.here hx rfl (hb hby d10_60) rfl ?_
          refine XS.lconst X6.here hx rfl (hb hby d10_61) ?_
          refine XS.iload X6.here hx rfl (hb hby d10_62) rfl ?_
          refine XS.lshl X6.here hx rfl (hb hby d10_64) rfl ?_
          refine XS.lor X6.here hx rfl (hb hby d10_65) rfl ?_
          refine XS.lstoreN X6.here hx rfl (hb hby d10_66) rfl (l' := #[.val (.ref sa), .val (.int (0 : Int32)), .val (.long ((0 : Int64) ||| ((1 : Int64) <<< ((x0 &&& (255 : Int32)) &&& 0x3f).toInt64))), .second, .val (.int (0 : Int32)), .val (.int (x0 &&& (255 : Int32)))]) rfl ?_
          exact kk_)
        exact ⟨((0 : Int64) ||| ((1 : Int64) <<< ((x0 &&& (255 : Int32)) &&& 0x3f).toInt64)), Or.inr (Or.inl ⟨c13, c17, rfl⟩), P19⟩
      · have P20 := own_step (C := T6.setTop (mkF m 67 #[.val (.ref sa), .val (.int (0 : Int32)), .val (.long (0 : Int64)), .second, .val (.int (0 : Int32)), .val (.int (x0 &&& (255 : Int32)))] [])) P16 (by
          intro tt_ kk_
          refine XS.icmpYes X6.here hx rfl (pc0 := 57) (pc' := 67) rfl (hb hby d10_57) rfl (flt c17).2.1 (by decide) (by decide) ?_
          exact kk_)
        exact ⟨(0 : Int64), Or.inr (Or.inr (⟨c13, c17, rfl⟩)), P20⟩
  have P21 := own_step P9 J10
  have P22 := own_step (C := T6.setTop (mkF m 8 #[.val (.ref sa), .val (.int (0 : Int32)), .val (.long q0), .second, .val (.int (1 : Int32)), .val (.int (x0 &&& (255 : Int32)))] [(.ref sa), (.int (1 : Int32))])) P21 (by
    intro tt_ kk_
    refine XS.iinc X6.here hx rfl (hb hby d10_67) rfl (l' := #[.val (.ref sa), .val (.int (0 : Int32)), .val (.long q0), .second, .val (.int (1 : Int32)), .val (.int (x0 &&& (255 : Int32)))]) rfl ?_
    show Steps p.tables e below (T6.setTop (mkF m 70 #[.val (.ref sa), .val (.int (0 : Int32)), .val (.long q0), .second, .val (.int (1 : Int32)), .val (.int (x0 &&& (255 : Int32)))] [])) _
    refine XS.goto X6.here hx rfl (pc0 := 70) (pc' := 5) rfl (hb hby d10_70) (by decide) (by decide) ?_
    refine XS.iload X6.here hx rfl (hb hby d10_5) rfl ?_
    refine XS.aloadN X6.here hx rfl (hb hby d10_7) rfl rfl ?_
    exact kk_)
  obtain ⟨cq23, kq23, q23a, q23b, q23c⟩ := isOf hZ e6 Es
  obtain ⟨_, _, ⟨T23, L23, k23, n23⟩, -, X23, ⟨Lc23, hQ23, l23, y23, z23⟩, st23⟩ := X6.virtualBack hx (y := (⟨"java/lang/String", "length", "()I"⟩ : MethodName)) (z := (⟨"java/lang/String", "length", "()I"⟩ : MethodName)) hown (mvT hZ (hw _ (List.mem_of_getElem? (i := 51) rfl))) (mvT hZ (hw _ (List.mem_of_getElem? (i := 52) rfl))) (notFace_of_selects (args := #[]) (mvT hZ (hw _ (List.mem_of_getElem? (i := 54) rfl)))) (mvT hZ (hw _ (List.mem_of_getElem? (i := 54) rfl))) (mvT hZ (hw _ (List.mem_of_getElem? (i := 53) rfl))) (by decide) (backOf (W := 1) (rm_length l Z a0 hw [] sa sb sk (3 : Int32) _ cs h0 n0 Z0 O Scs hcs Es Fsc Fsv Vs) hZ (hw _ (List.mem_of_getElem? (i := 55) rfl)) (hw _ (List.mem_of_getElem? (i := 8) rfl)) (by decide) (by decide)) q23a q23c (g := (mkF m 8 #[.val (.ref sa), .val (.int (0 : Int32)), .val (.long q0), .second, .val (.int (1 : Int32)), .val (.int (x0 &&& (255 : Int32)))] [(.ref sa), (.int (1 : Int32))])) rfl (by rw [hml]; rfl) (Steps.refl _) (argsL := []) (rest := [(.int (1 : Int32))]) (lenOf pd1 rfl) rfl (by show 2 * 0 + _ ≤ _; exact Nat.le_of_eq rfl) (hb hby d10_8) (fun _ _ => ⟨rfl, e6, (by decide : 0 + 0 ≤ _), (by decide : 0 + 0 ≤ _)⟩)
  dsimp only [Pt.U, Pt.locs, Pt.cells, Pt.slots] at X23 l23 y23 z23 st23 hQ23
  subst l23 y23 z23
  obtain ⟨rfl, N23q, e23⟩ := hQ23
  have N23 := Fr.app N6 N23q
  have P24 := own_step (C := T23.setTop (mkF m 11 #[.val (.ref sa), .val (.int (0 : Int32)), .val (.long q0), .second, .val (.int (1 : Int32)), .val (.int (x0 &&& (255 : Int32)))] [(.int (3 : Int32)), (.int (1 : Int32))])) P22 (fun t_ k_ => st23.trans k_)
  have P25 := own_step (C := T23.setTop (mkF m 14 #[.val (.ref sa), .val (.int (0 : Int32)), .val (.long q0), .second, .val (.int (1 : Int32)), .val (.int (x0 &&& (255 : Int32)))] [])) P24 (by
    intro tt_ kk_
    refine XS.icmpNo X23.here hx rfl (hb hby d10_11) rfl (tlt (by decide : (1 : Int32) < (3 : Int32))).2.1 ?_
    exact kk_)
  have P26 := own_step (C := T23.setTop (mkF m 17 #[.val (.ref sa), .val (.int (0 : Int32)), .val (.long q0), .second, .val (.int (1 : Int32)), .val (.int (x0 &&& (255 : Int32)))] [(.int (1 : Int32)), (.ref sa)])) P25 (by
    intro tt_ kk_
    refine XS.aloadN X23.here hx rfl (hb hby d10_14) rfl rfl ?_
    refine XS.iload X23.here hx rfl (hb hby d10_15) rfl ?_
    exact kk_)
  obtain ⟨cq27, kq27, q27a, q27b, q27c⟩ := isOf hZ e23 Es
  obtain ⟨_, _, ⟨T27, L27, k27, n27⟩, -, X27, ⟨Lc27, hQ27, l27, y27, z27⟩, st27⟩ := X23.virtualBack hx (y := (⟨"java/lang/String", "charAt", "(I)C"⟩ : MethodName)) (z := (⟨"java/lang/String", "charAt", "(I)C"⟩ : MethodName)) hown (mvT hZ (hw _ (List.mem_of_getElem? (i := 94) rfl))) (mvT hZ (hw _ (List.mem_of_getElem? (i := 95) rfl))) (notFace_of_selects (args := #[]) (mvT hZ (hw _ (List.mem_of_getElem? (i := 97) rfl)))) (mvT hZ (hw _ (List.mem_of_getElem? (i := 97) rfl))) (mvT hZ (hw _ (List.mem_of_getElem? (i := 96) rfl))) (by decide) (backOf (W := 0) (rm_charAt l Z a0 hw [] sa sb sk (3 : Int32) _ (1 : Int32) x1 fm cs h0 n0 Z0 O Scs hcs Es Fsc Fsv Vs Sfm hfm (by decide : ¬ (1 : Int32) < (0 : Int32) ∧ (1 : Int32) < (3 : Int32)) rfl) hZ (hw _ (List.mem_of_getElem? (i := 98) rfl)) (hw _ (List.mem_of_getElem? (i := 8) rfl)) (by decide) (by decide)) q27a q27c (g := (mkF m 17 #[.val (.ref sa), .val (.int (0 : Int32)), .val (.long q0), .second, .val (.int (1 : Int32)), .val (.int (x0 &&& (255 : Int32)))] [(.int (1 : Int32)), (.ref sa)])) rfl (by rw [hml]; rfl) (Steps.refl _) (argsL := [(.int (1 : Int32))]) (rest := []) (lenOf pd8 rfl) rfl (by show 2 * 0 + _ ≤ _; exact Nat.le_of_eq rfl) (hb hby d10_17) (fun _ _ => ⟨rfl, e23, (by decide : 0 + 0 ≤ _), (by decide : 0 + 0 ≤ _)⟩)
  dsimp only [Pt.U, Pt.locs, Pt.cells, Pt.slots] at X27 l27 y27 z27 st27 hQ27
  subst l27 y27 z27
  obtain ⟨rfl, N27q, e27⟩ := hQ27
  have N27 := Fr.app N23 N27q
  have P28 := own_step (C := T27.setTop (mkF m 20 #[.val (.ref sa), .val (.int (0 : Int32)), .val (.long q0), .second, .val (.int (1 : Int32)), .val (.int (x0 &&& (255 : Int32)))] [(.int (x1 &&& (255 : Int32)))])) P26 (fun t_ k_ => st27.trans k_)
  have P29 := own_step (C := T27.setTop (mkF m 27 #[.val (.ref sa), .val (.int (0 : Int32)), .val (.long q0), .second, .val (.int (1 : Int32)), .val (.int (x1 &&& (255 : Int32)))] [(.int (128 : Int32)), (.int (x1 &&& (255 : Int32)))])) P28 (by
    intro tt_ kk_
    refine XS.istore X27.here hx rfl (hb hby d10_20) rfl (l' := #[.val (.ref sa), .val (.int (0 : Int32)), .val (.long q0), .second, .val (.int (1 : Int32)), .val (.int (x1 &&& (255 : Int32)))]) rfl ?_
    refine XS.iload X27.here hx rfl (hb hby d10_22) rfl ?_
    refine XS.sipush X27.here hx rfl (hb hby d10_24) ?_
    exact kk_)
  have P30 := own_step (C := T27.setTop (mkF m 45 #[.val (.ref sa), .val (.int (0 : Int32)), .val (.long q0), .second, .val (.int (1 : Int32)), .val (.int (x1 &&& (255 : Int32)))] [])) P29 (by
    intro tt_ kk_
    refine XS.icmpYes X27.here hx rfl (pc0 := 27) (pc' := 45) rfl (hb hby d10_27) rfl (tlt hx1).1 (by decide) (by decide) ?_
    exact kk_)
  obtain ⟨q1, hv31, J31⟩ : ∃ (q1 : Int64), (((x1 &&& (255 : Int32)) < (0 : Int32) ∧ q1 = q0) ∨ (¬ ((x1 &&& (255 : Int32)) < (0 : Int32)) ∧ (x1 &&& (255 : Int32)) < (64 : Int32) ∧ q1 = (q0 ||| ((1 : Int64) <<< ((x1 &&& (255 : Int32)) &&& 0x3f).toInt64))) ∨ (¬ ((x1 &&& (255 : Int32)) < (0 : Int32)) ∧ ¬ ((x1 &&& (255 : Int32)) < (64 : Int32)) ∧ q1 = q0)) ∧ own_Go p e below (T27.setTop (mkF m 45 #[.val (.ref sa), .val (.int (0 : Int32)), .val (.long q0), .second, .val (.int (1 : Int32)), .val (.int (x1 &&& (255 : Int32)))] [])) (T27.setTop (mkF m 67 #[.val (.ref sa), .val (.int (0 : Int32)), .val (.long q1), .second, .val (.int (1 : Int32)), .val (.int (x1 &&& (255 : Int32)))] [])) := by
    have P32 : own_Go p e below (T27.setTop (mkF m 45 #[.val (.ref sa), .val (.int (0 : Int32)), .val (.long q0), .second, .val (.int (1 : Int32)), .val (.int (x1 &&& (255 : Int32)))] [])) (T27.setTop (mkF m 45 #[.val (.ref sa), .val (.int (0 : Int32)), .val (.long q0), .second, .val (.int (1 : Int32)), .val (.int (x1 &&& (255 : Int32)))] [])) := fun t_ k_ => k_
    have P33 := own_step (C := T27.setTop (mkF m 48 #[.val (.ref sa), .val (.int (0 : Int32)), .val (.long q0), .second, .val (.int (1 : Int32)), .val (.int (x1 &&& (255 : Int32)))] [(.int (0 : Int32)), (.int (x1 &&& (255 : Int32)))])) P32 (by
      intro tt_ kk_
      refine XS.iload X27.here hx rfl (hb hby d10_45) rfl ?_
      refine XS.iloadN X27.here hx rfl (hb hby d10_47) rfl ?_
      exact kk_)
    by_cases c34 : (x1 &&& (255 : Int32)) < (0 : Int32)
    · have P35 := own_step (C := T27.setTop (mkF m 67 #[.val (.ref sa), .val (.int (0 : Int32)), .val (.long q0), .second, .val (.int (1 : Int32)), .val (.int (x1 &&& (255 : Int32)))] [])) P33 (by
        intro tt_ kk_
        refine XS.icmpYes X27.here hx rfl (pc0 := 48) (pc' := 67) rfl (hb hby d10_48) rfl (tlt c34).1 (by decide) (by decide) ?_
        exact kk_)
      exact ⟨q0, Or.inl ⟨c34, rfl⟩, P35⟩
    · have P36 := own_step (C := T27.setTop (mkF m 51 #[.val (.ref sa), .val (.int (0 : Int32)), .val (.long q0), .second, .val (.int (1 : Int32)), .val (.int (x1 &&& (255 : Int32)))] [])) P33 (by
        intro tt_ kk_
        refine XS.icmpNo X27.here hx rfl (hb hby d10_48) rfl (flt c34).1 ?_
        exact kk_)
      have P37 := own_step (C := T27.setTop (mkF m 57 #[.val (.ref sa), .val (.int (0 : Int32)), .val (.long q0), .second, .val (.int (1 : Int32)), .val (.int (x1 &&& (255 : Int32)))] [(.int (64 : Int32)), (.int (x1 &&& (255 : Int32)))])) P36 (by
        intro tt_ kk_
        refine XS.iload X27.here hx rfl (hb hby d10_51) rfl ?_
        refine XS.iloadN X27.here hx rfl (hb hby d10_53) rfl ?_
        refine XS.bipush X27.here hx rfl (hb hby d10_54) ?_
        refine XS.iadd X27.here hx rfl (hb hby d10_56) rfl ?_
        exact kk_)
      by_cases c38 : (x1 &&& (255 : Int32)) < (64 : Int32)
      · have P39 := own_step (C := T27.setTop (mkF m 60 #[.val (.ref sa), .val (.int (0 : Int32)), .val (.long q0), .second, .val (.int (1 : Int32)), .val (.int (x1 &&& (255 : Int32)))] [])) P37 (by
          intro tt_ kk_
          refine XS.icmpNo X27.here hx rfl (hb hby d10_57) rfl (tlt c38).2.1 ?_
          exact kk_)
        have P40 := own_step (C := T27.setTop (mkF m 67 #[.val (.ref sa), .val (.int (0 : Int32)), .val (.long (q0 ||| ((1 : Int64) <<< ((x1 &&& (255 : Int32)) &&& 0x3f).toInt64))), .second, .val (.int (1 : Int32)), .val (.int (x1 &&& (255 : Int32)))] [])) P39 (by
          intro tt_ kk_
          refine XS.lloadN X27.here hx rfl (hb hby d10_60) rfl ?_
          refine XS.lconst X27.here hx rfl (hb hby d10_61) ?_
          refine XS.iload X27.here hx rfl (hb hby d10_62) rfl ?_
          refine XS.lshl X27.here hx rfl (hb hby d10_64) rfl ?_
          refine XS.lor X27.here hx rfl (hb hby d10_65) rfl ?_
          refine XS.lstoreN X27.here hx rfl (hb hby d10_66) rfl (l' := #[.val (.ref sa), .val (.int (0 : Int32)), .val (.long (q0 ||| ((1 : Int64) <<< ((x1 &&& (255 : Int32)) &&& 0x3f).toInt64))), .second, .val (.int (1 : Int32)), .val (.int (x1 &&& (255 : Int32)))]) rfl ?_
          exact kk_)
        exact ⟨(q0 ||| ((1 : Int64) <<< ((x1 &&& (255 : Int32)) &&& 0x3f).toInt64)), Or.inr (Or.inl ⟨c34, c38, rfl⟩), P40⟩
      · have P41 := own_step (C := T27.setTop (mkF m 67 #[.val (.ref sa), .val (.int (0 : Int32)), .val (.long q0), .second, .val (.int (1 : Int32)), .val (.int (x1 &&& (255 : Int32)))] [])) P37 (by
          intro tt_ kk_
          refine XS.icmpYes X27.here hx rfl (pc0 := 57) (pc' := 67) rfl (hb hby d10_57) rfl (flt c38).2.1 (by decide) (by decide) ?_
          exact kk_)
        exact ⟨q0, Or.inr (Or.inr (⟨c34, c38, rfl⟩)), P41⟩
  have P42 := own_step P30 J31
  have P43 := own_step (C := T27.setTop (mkF m 8 #[.val (.ref sa), .val (.int (0 : Int32)), .val (.long q1), .second, .val (.int (2 : Int32)), .val (.int (x1 &&& (255 : Int32)))] [(.ref sa), (.int (2 : Int32))])) P42 (by
    intro tt_ kk_
    refine XS.iinc X27.here hx rfl (hb hby d10_67) rfl (l' := #[.val (.ref sa), .val (.int (0 : Int32)), .val (.long q1), .second, .val (.int (2 : Int32)), .val (.int (x1 &&& (255 : Int32)))]) rfl ?_
    show Steps p.tables e below (T27.setTop (mkF m 70 #[.val (.ref sa), .val (.int (0 : Int32)), .val (.long q1), .second, .val (.int (2 : Int32)), .val (.int (x1 &&& (255 : Int32)))] [])) _
    refine XS.goto X27.here hx rfl (pc0 := 70) (pc' := 5) rfl (hb hby d10_70) (by decide) (by decide) ?_
    refine XS.iload X27.here hx rfl (hb hby d10_5) rfl ?_
    refine XS.aloadN X27.here hx rfl (hb hby d10_7) rfl rfl ?_
    exact kk_)
  obtain ⟨cq44, kq44, q44a, q44b, q44c⟩ := isOf hZ e27 Es
  obtain ⟨_, _, ⟨T44, L44, k44, n44⟩, -, X44, ⟨Lc44, hQ44, l44, y44, z44⟩, st44⟩ := X27.virtualBack hx (y := (⟨"java/lang/String", "length", "()I"⟩ : MethodName)) (z := (⟨"java/lang/String", "length", "()I"⟩ : MethodName)) hown (mvT hZ (hw _ (List.mem_of_getElem? (i := 51) rfl))) (mvT hZ (hw _ (List.mem_of_getElem? (i := 52) rfl))) (notFace_of_selects (args := #[]) (mvT hZ (hw _ (List.mem_of_getElem? (i := 54) rfl)))) (mvT hZ (hw _ (List.mem_of_getElem? (i := 54) rfl))) (mvT hZ (hw _ (List.mem_of_getElem? (i := 53) rfl))) (by decide) (backOf (W := 1) (rm_length l Z a0 hw [] sa sb sk (3 : Int32) _ cs h0 n0 Z0 O Scs hcs Es Fsc Fsv Vs) hZ (hw _ (List.mem_of_getElem? (i := 55) rfl)) (hw _ (List.mem_of_getElem? (i := 8) rfl)) (by decide) (by decide)) q44a q44c (g := (mkF m 8 #[.val (.ref sa), .val (.int (0 : Int32)), .val (.long q1), .second, .val (.int (2 : Int32)), .val (.int (x1 &&& (255 : Int32)))] [(.ref sa), (.int (2 : Int32))])) rfl (by rw [hml]; rfl) (Steps.refl _) (argsL := []) (rest := [(.int (2 : Int32))]) (lenOf pd1 rfl) rfl (by show 2 * 0 + _ ≤ _; exact Nat.le_of_eq rfl) (hb hby d10_8) (fun _ _ => ⟨rfl, e27, (by decide : 0 + 0 ≤ _), (by decide : 0 + 0 ≤ _)⟩)
  dsimp only [Pt.U, Pt.locs, Pt.cells, Pt.slots] at X44 l44 y44 z44 st44 hQ44
  subst l44 y44 z44
  obtain ⟨rfl, N44q, e44⟩ := hQ44
  have N44 := Fr.app N27 N44q
  have P45 := own_step (C := T44.setTop (mkF m 11 #[.val (.ref sa), .val (.int (0 : Int32)), .val (.long q1), .second, .val (.int (2 : Int32)), .val (.int (x1 &&& (255 : Int32)))] [(.int (3 : Int32)), (.int (2 : Int32))])) P43 (fun t_ k_ => st44.trans k_)
  have P46 := own_step (C := T44.setTop (mkF m 14 #[.val (.ref sa), .val (.int (0 : Int32)), .val (.long q1), .second, .val (.int (2 : Int32)), .val (.int (x1 &&& (255 : Int32)))] [])) P45 (by
    intro tt_ kk_
    refine XS.icmpNo X44.here hx rfl (hb hby d10_11) rfl (tlt (by decide : (2 : Int32) < (3 : Int32))).2.1 ?_
    exact kk_)
  have P47 := own_step (C := T44.setTop (mkF m 17 #[.val (.ref sa), .val (.int (0 : Int32)), .val (.long q1), .second, .val (.int (2 : Int32)), .val (.int (x1 &&& (255 : Int32)))] [(.int (2 : Int32)), (.ref sa)])) P46 (by
    intro tt_ kk_
    refine XS.aloadN X44.here hx rfl (hb hby d10_14) rfl rfl ?_
    refine XS.iload X44.here hx rfl (hb hby d10_15) rfl ?_
    exact kk_)
  obtain ⟨cq48, kq48, q48a, q48b, q48c⟩ := isOf hZ e44 Es
  obtain ⟨_, _, ⟨T48, L48, k48, n48⟩, -, X48, ⟨Lc48, hQ48, l48, y48, z48⟩, st48⟩ := X44.virtualBack hx (y := (⟨"java/lang/String", "charAt", "(I)C"⟩ : MethodName)) (z := (⟨"java/lang/String", "charAt", "(I)C"⟩ : MethodName)) hown (mvT hZ (hw _ (List.mem_of_getElem? (i := 94) rfl))) (mvT hZ (hw _ (List.mem_of_getElem? (i := 95) rfl))) (notFace_of_selects (args := #[]) (mvT hZ (hw _ (List.mem_of_getElem? (i := 97) rfl)))) (mvT hZ (hw _ (List.mem_of_getElem? (i := 97) rfl))) (mvT hZ (hw _ (List.mem_of_getElem? (i := 96) rfl))) (by decide) (backOf (W := 0) (rm_charAt l Z a0 hw [] sa sb sk (3 : Int32) _ (2 : Int32) x2 fm cs h0 n0 Z0 O Scs hcs Es Fsc Fsv Vs Sfm hfm (by decide : ¬ (2 : Int32) < (0 : Int32) ∧ (2 : Int32) < (3 : Int32)) rfl) hZ (hw _ (List.mem_of_getElem? (i := 98) rfl)) (hw _ (List.mem_of_getElem? (i := 8) rfl)) (by decide) (by decide)) q48a q48c (g := (mkF m 17 #[.val (.ref sa), .val (.int (0 : Int32)), .val (.long q1), .second, .val (.int (2 : Int32)), .val (.int (x1 &&& (255 : Int32)))] [(.int (2 : Int32)), (.ref sa)])) rfl (by rw [hml]; rfl) (Steps.refl _) (argsL := [(.int (2 : Int32))]) (rest := []) (lenOf pd8 rfl) rfl (by show 2 * 0 + _ ≤ _; exact Nat.le_of_eq rfl) (hb hby d10_17) (fun _ _ => ⟨rfl, e44, (by decide : 0 + 0 ≤ _), (by decide : 0 + 0 ≤ _)⟩)
  dsimp only [Pt.U, Pt.locs, Pt.cells, Pt.slots] at X48 l48 y48 z48 st48 hQ48
  subst l48 y48 z48
  obtain ⟨rfl, N48q, e48⟩ := hQ48
  have N48 := Fr.app N44 N48q
  have P49 := own_step (C := T48.setTop (mkF m 20 #[.val (.ref sa), .val (.int (0 : Int32)), .val (.long q1), .second, .val (.int (2 : Int32)), .val (.int (x1 &&& (255 : Int32)))] [(.int (x2 &&& (255 : Int32)))])) P47 (fun t_ k_ => st48.trans k_)
  have P50 := own_step (C := T48.setTop (mkF m 27 #[.val (.ref sa), .val (.int (0 : Int32)), .val (.long q1), .second, .val (.int (2 : Int32)), .val (.int (x2 &&& (255 : Int32)))] [(.int (128 : Int32)), (.int (x2 &&& (255 : Int32)))])) P49 (by
    intro tt_ kk_
    refine XS.istore X48.here hx rfl (hb hby d10_20) rfl (l' := #[.val (.ref sa), .val (.int (0 : Int32)), .val (.long q1), .second, .val (.int (2 : Int32)), .val (.int (x2 &&& (255 : Int32)))]) rfl ?_
    refine XS.iload X48.here hx rfl (hb hby d10_22) rfl ?_
    refine XS.sipush X48.here hx rfl (hb hby d10_24) ?_
    exact kk_)
  have P51 := own_step (C := T48.setTop (mkF m 45 #[.val (.ref sa), .val (.int (0 : Int32)), .val (.long q1), .second, .val (.int (2 : Int32)), .val (.int (x2 &&& (255 : Int32)))] [])) P50 (by
    intro tt_ kk_
    refine XS.icmpYes X48.here hx rfl (pc0 := 27) (pc' := 45) rfl (hb hby d10_27) rfl (tlt hx2).1 (by decide) (by decide) ?_
    exact kk_)
  obtain ⟨q2, hv52, J52⟩ : ∃ (q2 : Int64), (((x2 &&& (255 : Int32)) < (0 : Int32) ∧ q2 = q1) ∨ (¬ ((x2 &&& (255 : Int32)) < (0 : Int32)) ∧ (x2 &&& (255 : Int32)) < (64 : Int32) ∧ q2 = (q1 ||| ((1 : Int64) <<< ((x2 &&& (255 : Int32)) &&& 0x3f).toInt64))) ∨ (¬ ((x2 &&& (255 : Int32)) < (0 : Int32)) ∧ ¬ ((x2 &&& (255 : Int32)) < (64 : Int32)) ∧ q2 = q1)) ∧ own_Go p e below (T48.setTop (mkF m 45 #[.val (.ref sa), .val (.int (0 : Int32)), .val (.long q1), .second, .val (.int (2 : Int32)), .val (.int (x2 &&& (255 : Int32)))] [])) (T48.setTop (mkF m 67 #[.val (.ref sa), .val (.int (0 : Int32)), .val (.long q2), .second, .val (.int (2 : Int32)), .val (.int (x2 &&& (255 : Int32)))] [])) := by
    have P53 : own_Go p e below (T48.setTop (mkF m 45 #[.val (.ref sa), .val (.int (0 : Int32)), .val (.long q1), .second, .val (.int (2 : Int32)), .val (.int (x2 &&& (255 : Int32)))] [])) (T48.setTop (mkF m 45 #[.val (.ref sa), .val (.int (0 : Int32)), .val (.long q1), .second, .val (.int (2 : Int32)), .val (.int (x2 &&& (255 : Int32)))] [])) := fun t_ k_ => k_
    have P54 := own_step (C := T48.setTop (mkF m 48 #[.val (.ref sa), .val (.int (0 : Int32)), .val (.long q1), .second, .val (.int (2 : Int32)), .val (.int (x2 &&& (255 : Int32)))] [(.int (0 : Int32)), (.int (x2 &&& (255 : Int32)))])) P53 (by
      intro tt_ kk_
      refine XS.iload X48.here hx rfl (hb hby d10_45) rfl ?_
      refine XS.iloadN X48.here hx rfl (hb hby d10_47) rfl ?_
      exact kk_)
    by_cases c55 : (x2 &&& (255 : Int32)) < (0 : Int32)
    · have P56 := own_step (C := T48.setTop (mkF m 67 #[.val (.ref sa), .val (.int (0 : Int32)), .val (.long q1), .second, .val (.int (2 : Int32)), .val (.int (x2 &&& (255 : Int32)))] [])) P54 (by
        intro tt_ kk_
        refine XS.icmpYes X48.here hx rfl (pc0 := 48) (pc' := 67) rfl (hb hby d10_48) rfl (tlt c55).1 (by decide) (by decide) ?_
        exact kk_)
      exact ⟨q1, Or.inl ⟨c55, rfl⟩, P56⟩
    · have P57 := own_step (C := T48.setTop (mkF m 51 #[.val (.ref sa), .val (.int (0 : Int32)), .val (.long q1), .second, .val (.int (2 : Int32)), .val (.int (x2 &&& (255 : Int32)))] [])) P54 (by
        intro tt_ kk_
        refine XS.icmpNo X48.here hx rfl (hb hby d10_48) rfl (flt c55).1 ?_
        exact kk_)
      have P58 := own_step (C := T48.setTop (mkF m 57 #[.val (.ref sa), .val (.int (0 : Int32)), .val (.long q1), .second, .val (.int (2 : Int32)), .val (.int (x2 &&& (255 : Int32)))] [(.int (64 : Int32)), (.int (x2 &&& (255 : Int32)))])) P57 (by
        intro tt_ kk_
        refine XS.iload X48.here hx rfl (hb hby d10_51) rfl ?_
        refine XS.iloadN X48.here hx rfl (hb hby d10_53) rfl ?_
        refine XS.bipush X48.here hx rfl (hb hby d10_54) ?_
        refine XS.iadd X48.here hx rfl (hb hby d10_56) rfl ?_
        exact kk_)
      by_cases c59 : (x2 &&& (255 : Int32)) < (64 : Int32)
      · have P60 := own_step (C := T48.setTop (mkF m 60 #[.val (.ref sa), .val (.int (0 : Int32)), .val (.long q1), .second, .val (.int (2 : Int32)), .val (.int (x2 &&& (255 : Int32)))] [])) P58 (by
          intro tt_ kk_
          refine XS.icmpNo X48.here hx rfl (hb hby d10_57) rfl (tlt c59).2.1 ?_
          exact kk_)
        have P61 := own_step (C := T48.setTop (mkF m 67 #[.val (.ref sa), .val (.int (0 : Int32)), .val (.long (q1 ||| ((1 : Int64) <<< ((x2 &&& (255 : Int32)) &&& 0x3f).toInt64))), .second, .val (.int (2 : Int32)), .val (.int (x2 &&& (255 : Int32)))] [])) P60 (by
          intro tt_ kk_
          refine XS.lloadN X48.here hx rfl (hb hby d10_60) rfl ?_
          refine XS.lconst X48.here hx rfl (hb hby d10_61) ?_
          refine XS.iload X48.here hx rfl (hb hby d10_62) rfl ?_
          refine XS.lshl X48.here hx rfl (hb hby d10_64) rfl ?_
          refine XS.lor X48.here hx rfl (hb hby d10_65) rfl ?_
          refine XS.lstoreN X48.here hx rfl (hb hby d10_66) rfl (l' := #[.val (.ref sa), .val (.int (0 : Int32)), .val (.long (q1 ||| ((1 : Int64) <<< ((x2 &&& (255 : Int32)) &&& 0x3f).toInt64))), .second, .val (.int (2 : Int32)), .val (.int (x2 &&& (255 : Int32)))]) rfl ?_
          exact kk_)
        exact ⟨(q1 ||| ((1 : Int64) <<< ((x2 &&& (255 : Int32)) &&& 0x3f).toInt64)), Or.inr (Or.inl ⟨c55, c59, rfl⟩), P61⟩
      · have P62 := own_step (C := T48.setTop (mkF m 67 #[.val (.ref sa), .val (.int (0 : Int32)), .val (.long q1), .second, .val (.int (2 : Int32)), .val (.int (x2 &&& (255 : Int32)))] [])) P58 (by
          intro tt_ kk_
          refine XS.icmpYes X48.here hx rfl (pc0 := 57) (pc' := 67) rfl (hb hby d10_57) rfl (flt c59).2.1 (by decide) (by decide) ?_
          exact kk_)
        exact ⟨q1, Or.inr (Or.inr (⟨c55, c59, rfl⟩)), P62⟩
  have P63 := own_step P51 J52
  have P64 := own_step (C := T48.setTop (mkF m 8 #[.val (.ref sa), .val (.int (0 : Int32)), .val (.long q2), .second, .val (.int (3 : Int32)), .val (.int (x2 &&& (255 : Int32)))] [(.ref sa), (.int (3 : Int32))])) P63 (by
    intro tt_ kk_
    refine XS.iinc X48.here hx rfl (hb hby d10_67) rfl (l' := #[.val (.ref sa), .val (.int (0 : Int32)), .val (.long q2), .second, .val (.int (3 : Int32)), .val (.int (x2 &&& (255 : Int32)))]) rfl ?_
    show Steps p.tables e below (T48.setTop (mkF m 70 #[.val (.ref sa), .val (.int (0 : Int32)), .val (.long q2), .second, .val (.int (3 : Int32)), .val (.int (x2 &&& (255 : Int32)))] [])) _
    refine XS.goto X48.here hx rfl (pc0 := 70) (pc' := 5) rfl (hb hby d10_70) (by decide) (by decide) ?_
    refine XS.iload X48.here hx rfl (hb hby d10_5) rfl ?_
    refine XS.aloadN X48.here hx rfl (hb hby d10_7) rfl rfl ?_
    exact kk_)
  obtain ⟨cq65, kq65, q65a, q65b, q65c⟩ := isOf hZ e48 Es
  obtain ⟨_, _, ⟨T65, L65, k65, n65⟩, -, X65, ⟨Lc65, hQ65, l65, y65, z65⟩, st65⟩ := X48.virtualBack hx (y := (⟨"java/lang/String", "length", "()I"⟩ : MethodName)) (z := (⟨"java/lang/String", "length", "()I"⟩ : MethodName)) hown (mvT hZ (hw _ (List.mem_of_getElem? (i := 51) rfl))) (mvT hZ (hw _ (List.mem_of_getElem? (i := 52) rfl))) (notFace_of_selects (args := #[]) (mvT hZ (hw _ (List.mem_of_getElem? (i := 54) rfl)))) (mvT hZ (hw _ (List.mem_of_getElem? (i := 54) rfl))) (mvT hZ (hw _ (List.mem_of_getElem? (i := 53) rfl))) (by decide) (backOf (W := 1) (rm_length l Z a0 hw [] sa sb sk (3 : Int32) _ cs h0 n0 Z0 O Scs hcs Es Fsc Fsv Vs) hZ (hw _ (List.mem_of_getElem? (i := 55) rfl)) (hw _ (List.mem_of_getElem? (i := 8) rfl)) (by decide) (by decide)) q65a q65c (g := (mkF m 8 #[.val (.ref sa), .val (.int (0 : Int32)), .val (.long q2), .second, .val (.int (3 : Int32)), .val (.int (x2 &&& (255 : Int32)))] [(.ref sa), (.int (3 : Int32))])) rfl (by rw [hml]; rfl) (Steps.refl _) (argsL := []) (rest := [(.int (3 : Int32))]) (lenOf pd1 rfl) rfl (by show 2 * 0 + _ ≤ _; exact Nat.le_of_eq rfl) (hb hby d10_8) (fun _ _ => ⟨rfl, e48, (by decide : 0 + 0 ≤ _), (by decide : 0 + 0 ≤ _)⟩)
  dsimp only [Pt.U, Pt.locs, Pt.cells, Pt.slots] at X65 l65 y65 z65 st65 hQ65
  subst l65 y65 z65
  obtain ⟨rfl, N65q, e65⟩ := hQ65
  have N65 := Fr.app N48 N65q
  have P66 := own_step (C := T65.setTop (mkF m 11 #[.val (.ref sa), .val (.int (0 : Int32)), .val (.long q2), .second, .val (.int (3 : Int32)), .val (.int (x2 &&& (255 : Int32)))] [(.int (3 : Int32)), (.int (3 : Int32))])) P64 (fun t_ k_ => st65.trans k_)
  have P67 := own_step (C := T65.setTop (mkF m 73 #[.val (.ref sa), .val (.int (0 : Int32)), .val (.long q2), .second, .val (.int (3 : Int32)), .val (.int (x2 &&& (255 : Int32)))] [])) P66 (by
    intro tt_ kk_
    refine XS.icmpYes X65.here hx rfl (pc0 := 11) (pc' := 73) rfl (hb hby d10_11) rfl (flt (by decide : ¬ ((3 : Int32) < (3 : Int32)))).2.1 (by decide) (by decide) ?_
    exact kk_)
  have P68 := own_step (C := T65.setTop (mkF m 74 #[.val (.ref sa), .val (.int (0 : Int32)), .val (.long q2), .second, .val (.int (3 : Int32)), .val (.int (x2 &&& (255 : Int32)))] [(.long q2)])) P67 (by
    intro tt_ kk_
    refine XS.lloadN X65.here hx rfl (hb hby d10_73) rfl ?_
    exact kk_)
  obtain ⟨fs, hr, hrun, hended, hW, hsame⟩ := X65.leave (v := some (.long q2)) (fun h => by rw [Bd.returns] at h; cases h)
  refine ⟨_, _, P68 _ ?_, hrun, hended, _, _, rfl, ?_, ⟨_, rfl⟩, hW, hsame.mono (by decide) (by decide)⟩
  · exact retOut X65 hx Bd.returns rfl (Or.inr (Or.inl ⟨rfl, rfl, _, rfl⟩)) (hb hby d10_74) hr
  · show Q_bits3_0 Z _ _ _ _ _ _ _ _ h0 n0 _ T65.heap _
    rw [e65]
    exact ⟨by rw [own_bitE hv52, own_bitE hv31, own_bitE hv10], N65, rfl⟩
theorem ef__bits3_64 (m : MethodId) (x0 : Addr) (x1 : Int32) : entryFrame m #[(.ref x0), (.int x1)] 6 = mkF m 0 #[.val (.ref x0), .val (.int x1), .unset, .unset, .unset, .unset] [] := by first | (simp [entryFrame, mkF, argsToLocals, Value.category]; done) | rfl
def Q_bits3_64 (Z : State) (sa : Addr) (sb : Addr) (sk : ClassId) (x0 : Int32) (x1 : Int32) (x2 : Int32) (fm : Value) (cs : Int32) (h0 : Heap) (n0 : Nat) (v_ : Option Value) (h : Heap) (L_ : List Loc) : Prop := v_ = some (.long (own_bit (64 : Int32) (128 : Int32) (x2 &&& (255 : Int32)) (own_bit (64 : Int32) (128 : Int32) (x1 &&& (255 : Int32)) (own_bit (64 : Int32) (128 : Int32) (x0 &&& (255 : Int32)) (0 : Int64))))) ∧ Fr n0 L_ ∧ h = h0
set_option maxRecDepth 65536 in
set_option maxHeartbeats 40000000 in
theorem rm_bits3_64 (l : Launch) (Z : State) (a0 : Array Value) (hw : ∀ d ∈ tables_1, d.before a0 Z = true) (ws : List Jvm.Cond) (sa : Addr) (sb : Addr) (sk : ClassId) (x0 : Int32) (x1 : Int32) (x2 : Int32) (fm : Value) (cs : Int32) (h0 : Heap) (n0 : Nat) (Z0 : n0 ≤ h0.size) (O : Old Z n0 h0) (Scs : Sta Z Z.heap "java/lang/String" "COMPACT_STRINGS" "Z" (.int cs)) (hcs : ¬ (cs = (0 : Int32))) (Sfm : Sta Z Z.heap "jdk/internal/util/Preconditions" "SIOOBE_FORMATTER" "Ljava/util/function/BiFunction;" fm) (hfm : fm.category = 1) (Es : Exa Z h0 sa "java/lang/String") (Fsc : Fld Z h0 sa "java/lang/String" "coder" "B" (.int (0 : Int32))) (Fsv : Fld Z h0 sa "java/lang/String" "value" "[B" (.ref sb)) (Vs : Arv Z h0 sb sk .byte (3 : Int32) [(.int x0), (.int x1), (.int x2)] (.int 0)) (hx0 : (x0 &&& (255 : Int32)) < (128 : Int32)) (hx1 : (x1 &&& (255 : Int32)) < (128 : Int32)) (hx2 : (x2 &&& (255 : Int32)) < (128 : Int32)) :
    MetFree l (⟨"com/example/gatehouse/gatehouse/pattern/NameShape", "bits", "(Ljava/lang/String;I)J"⟩ : MethodName) (head1 (Jvm.Cond.code (⟨"com/example/gatehouse/gatehouse/pattern/NameShape", "bits", "(Ljava/lang/String;I)J"⟩ : MethodName) prog_36_method_3_code 6 (some .long) :: ws) ({ frames := 4, cells := 0, slots := 0, locals := 53 } : Room)) (fun a_ U_ => a_ = #[(.ref sa), (.int (64 : Int32))] ∧ Z.Warmed39 U_.vm ∧ U_.heap = h0) (fun _ _ _ _ _ => True) (fun _ U_ o_ V_ => ∃ v_ L_, o_ = .returned v_ ∧ Q_bits3_64 Z sa sb sk x0 x1 x2 fm cs h0 n0 v_ V_.heap L_ ∧ FrameEnd U_ o_ V_ L_ ({ frames := 4, cells := 0, slots := 0, locals := 53 } : Room).cells ({ frames := 4, cells := 0, slots := 0, locals := 53 } : Room).slots) := by
  refine MetFree.of_bodySF (plainFor_of_name pn1) hisR ?_
  intro p e s m args below meth c s₁ Bd hml0 hP hK
  obtain ⟨rfl, hZ, hh⟩ := hP
  have hx := Bd.exec
  have hby := Bd.bytes
  have hml : c.maxLocals = 6 := hml0
  have hown : s.vm.findClass "com/example/gatehouse/gatehouse/pattern/NameShape" = some m.cls := findClass_of_methodNamed Bd.named
  have hnm := (name_of_methodNamed Bd.named Bd.method).1
  have X0 : Stand p l e ({ frames := 4, cells := 0, slots := 0, locals := 53 } : Room) s m #[(.ref sa), (.int (64 : Int32))] below meth c s₁ [] 0 0 := Stand.of_body Bd
  have e0 : s₁.heap = h0 := by rw [← hh, Bd.state]; rfl
  have N0 := Fr.nil n0
  have pre0 : own_Go p e below (s₁.setTop (entryFrame m #[(.ref sa), (.int (64 : Int32))] 6)) (s₁.setTop (mkF m 0 #[.val (.ref sa), .val (.int (64 : Int32)), .unset, .unset, .unset, .unset] [])) := fun t_ k_ => castTop (ef__bits3_64 m sa (64 : Int32)) k_
  have P1 := own_step (C := s₁.setTop (mkF m 8 #[.val (.ref sa), .val (.int (64 : Int32)), .val (.long (0 : Int64)), .second, .val (.int (0 : Int32)), .unset] [(.ref sa), (.int (0 : Int32))])) pre0 (by
    intro tt_ kk_
    refine XS.lconst X0.here hx rfl (hb hby d10_0) ?_
    refine XS.lstoreN X0.here hx rfl (hb hby d10_1) rfl (l' := #[.val (.ref sa), .val (.int (64 : Int32)), .val (.long (0 : Int64)), .second, .unset, .unset]) rfl ?_
    refine XS.iconst X0.here hx rfl (hb hby d10_2) ?_
    refine XS.istore X0.here hx rfl (hb hby d10_3) rfl (l' := #[.val (.ref sa), .val (.int (64 : Int32)), .val (.long (0 : Int64)), .second, .val (.int (0 : Int32)), .unset]) rfl ?_
    refine XS.iload X0.here hx rfl (hb hby d10_5) rfl ?_
    refine XS.aloadN X0.here hx rfl (hb hby d10_7) rfl rfl ?_
    exact kk_)
  obtain ⟨cq2, kq2, q2a, q2b, q2c⟩ := isOf hZ e0 Es
  obtain ⟨_, _, ⟨T2, L2, k2, n2⟩, -, X2, ⟨Lc2, hQ2, l2, y2, z2⟩, st2⟩ := X0.virtualBack hx (y := (⟨"java/lang/String", "length", "()I"⟩ : MethodName)) (z := (⟨"java/lang/String", "length", "()I"⟩ : MethodName)) hown (mvT hZ (hw _ (List.mem_of_getElem? (i := 51) rfl))) (mvT hZ (hw _ (List.mem_of_getElem? (i := 52) rfl))) (notFace_of_selects (args := #[]) (mvT hZ (hw _ (List.mem_of_getElem? (i := 54) rfl)))) (mvT hZ (hw _ (List.mem_of_getElem? (i := 54) rfl))) (mvT hZ (hw _ (List.mem_of_getElem? (i := 53) rfl))) (by decide) (backOf (W := 1) (rm_length l Z a0 hw [] sa sb sk (3 : Int32) _ cs h0 n0 Z0 O Scs hcs Es Fsc Fsv Vs) hZ (hw _ (List.mem_of_getElem? (i := 55) rfl)) (hw _ (List.mem_of_getElem? (i := 8) rfl)) (by decide) (by decide)) q2a q2c (g := (mkF m 8 #[.val (.ref sa), .val (.int (64 : Int32)), .val (.long (0 : Int64)), .second, .val (.int (0 : Int32)), .unset] [(.ref sa), (.int (0 : Int32))])) rfl (by rw [hml]; rfl) (Steps.refl _) (argsL := []) (rest := [(.int (0 : Int32))]) (lenOf pd1 rfl) rfl (by show 2 * 0 + _ ≤ _; exact Nat.le_of_eq rfl) (hb hby d10_8) (fun _ _ => ⟨rfl, e0, (by decide : 0 + 0 ≤ _), (by decide : 0 + 0 ≤ _)⟩)
  dsimp only [Pt.U, Pt.locs, Pt.cells, Pt.slots] at X2 l2 y2 z2 st2 hQ2
  subst l2 y2 z2
  obtain ⟨rfl, N2q, e2⟩ := hQ2
  have N2 := Fr.app N0 N2q
  have P3 := own_step (C := T2.setTop (mkF m 11 #[.val (.ref sa), .val (.int (64 : Int32)), .val (.long (0 : Int64)), .second, .val (.int (0 : Int32)), .unset] [(.int (3 : Int32)), (.int (0 : Int32))])) P1 (fun t_ k_ => st2.trans k_)
  have P4 := own_step (C := T2.setTop (mkF m 14 #[.val (.ref sa), .val (.int (64 : Int32)), .val (.long (0 : Int64)), .second, .val (.int (0 : Int32)), .unset] [])) P3 (by
    intro tt_ kk_
    refine XS.icmpNo X2.here hx rfl (hb hby d10_11) rfl (tlt (by decide : (0 : Int32) < (3 : Int32))).2.1 ?_
    exact kk_)
  have P5 := own_step (C := T2.setTop (mkF m 17 #[.val (.ref sa), .val (.int (64 : Int32)), .val (.long (0 : Int64)), .second, .val (.int (0 : Int32)), .unset] [(.int (0 : Int32)), (.ref sa)])) P4 (by
    intro tt_ kk_
    refine XS.aloadN X2.here hx rfl (hb hby d10_14) rfl rfl ?_
    refine XS.iload X2.here hx rfl (hb hby d10_15) rfl ?_
    exact kk_)
  obtain ⟨cq6, kq6, q6a, q6b, q6c⟩ := isOf hZ e2 Es
  obtain ⟨_, _, ⟨T6, L6, k6, n6⟩, -, X6, ⟨Lc6, hQ6, l6, y6, z6⟩, st6⟩ := X2.virtualBack hx (y := (⟨"java/lang/String", "charAt", "(I)C"⟩ : MethodName)) (z := (⟨"java/lang/String", "charAt", "(I)C"⟩ : MethodName)) hown (mvT hZ (hw _ (List.mem_of_getElem? (i := 94) rfl))) (mvT hZ (hw _ (List.mem_of_getElem? (i := 95) rfl))) (notFace_of_selects (args := #[]) (mvT hZ (hw _ (List.mem_of_getElem? (i := 97) rfl)))) (mvT hZ (hw _ (List.mem_of_getElem? (i := 97) rfl))) (mvT hZ (hw _ (List.mem_of_getElem? (i := 96) rfl))) (by decide) (backOf (W := 0) (rm_charAt l Z a0 hw [] sa sb sk (3 : Int32) _ (0 : Int32) x0 fm cs h0 n0 Z0 O Scs hcs Es Fsc Fsv Vs Sfm hfm (by decide : ¬ (0 : Int32) < (0 : Int32) ∧ (0 : Int32) < (3 : Int32)) rfl) hZ (hw _ (List.mem_of_getElem? (i := 98) rfl)) (hw _ (List.mem_of_getElem? (i := 8) rfl)) (by decide) (by decide)) q6a q6c (g := (mkF m 17 #[.val (.ref sa), .val (.int (64 : Int32)), .val (.long (0 : Int64)), .second, .val (.int (0 : Int32)), .unset] [(.int (0 : Int32)), (.ref sa)])) rfl (by rw [hml]; rfl) (Steps.refl _) (argsL := [(.int (0 : Int32))]) (rest := []) (lenOf pd8 rfl) rfl (by show 2 * 0 + _ ≤ _; exact Nat.le_of_eq rfl) (hb hby d10_17) (fun _ _ => ⟨rfl, e2, (by decide : 0 + 0 ≤ _), (by decide : 0 + 0 ≤ _)⟩)
  dsimp only [Pt.U, Pt.locs, Pt.cells, Pt.slots] at X6 l6 y6 z6 st6 hQ6
  subst l6 y6 z6
  obtain ⟨rfl, N6q, e6⟩ := hQ6
  have N6 := Fr.app N2 N6q
  have P7 := own_step (C := T6.setTop (mkF m 20 #[.val (.ref sa), .val (.int (64 : Int32)), .val (.long (0 : Int64)), .second, .val (.int (0 : Int32)), .unset] [(.int (x0 &&& (255 : Int32)))])) P5 (fun t_ k_ => st6.trans k_)
  have P8 := own_step (C := T6.setTop (mkF m 27 #[.val (.ref sa), .val (.int (64 : Int32)), .val (.long (0 : Int64)), .second, .val (.int (0 : Int32)), .val (.int (x0 &&& (255 : Int32)))] [(.int (128 : Int32)), (.int (x0 &&& (255 : Int32)))])) P7 (by
    intro tt_ kk_
    refine XS.istore X6.here hx rfl (hb hby d10_20) rfl (l' := #[.val (.ref sa), .val (.int (64 : Int32)), .val (.long (0 : Int64)), .second, .val (.int (0 : Int32)), .val (.int (x0 &&& (255 : Int32)))]) rfl ?_
    refine XS.iload X6.here hx rfl (hb hby d10_22) rfl ?_
    refine XS.sipush X6.here hx rfl (hb hby d10_24) ?_
    exact kk_)
  have P9 := own_step (C := T6.setTop (mkF m 45 #[.val (.ref sa), .val (.int (64 : Int32)), .val (.long (0 : Int64)), .second, .val (.int (0 : Int32)), .val (.int (x0 &&& (255 : Int32)))] [])) P8 (by
    intro tt_ kk_
    refine XS.icmpYes X6.here hx rfl (pc0 := 27) (pc' := 45) rfl (hb hby d10_27) rfl (tlt hx0).1 (by decide) (by decide) ?_
    exact kk_)
  obtain ⟨q0, hv10, J10⟩ : ∃ (q0 : Int64), (((x0 &&& (255 : Int32)) < (64 : Int32) ∧ q0 = (0 : Int64)) ∨ (¬ ((x0 &&& (255 : Int32)) < (64 : Int32)) ∧ (x0 &&& (255 : Int32)) < (128 : Int32) ∧ q0 = ((0 : Int64) ||| ((1 : Int64) <<< ((x0 &&& (255 : Int32)) &&& 0x3f).toInt64))) ∨ (¬ ((x0 &&& (255 : Int32)) < (64 : Int32)) ∧ ¬ ((x0 &&& (255 : Int32)) < (128 : Int32)) ∧ q0 = (0 : Int64))) ∧ own_Go p e below (T6.setTop (mkF m 45 #[.val (.ref sa), .val (.int (64 : Int32)), .val (.long (0 : Int64)), .second, .val (.int (0 : Int32)), .val (.int (x0 &&& (255 : Int32)))] [])) (T6.setTop (mkF m 67 #[.val (.ref sa), .val (.int (64 : Int32)), .val (.long q0), .second, .val (.int (0 : Int32)), .val (.int (x0 &&& (255 : Int32)))] [])) := by
    have P11 : own_Go p e below (T6.setTop (mkF m 45 #[.val (.ref sa), .val (.int (64 : Int32)), .val (.long (0 : Int64)), .second, .val (.int (0 : Int32)), .val (.int (x0 &&& (255 : Int32)))] [])) (T6.setTop (mkF m 45 #[.val (.ref sa), .val (.int (64 : Int32)), .val (.long (0 : Int64)), .second, .val (.int (0 : Int32)), .val (.int (x0 &&& (255 : Int32)))] [])) := fun t_ k_ => k_
    have P12 := own_step (C := T6.setTop (mkF m 48 #[.val (.ref sa), .val (.int (64 : Int32)), .val (.long (0 : Int64)), .second, .val (.int (0 : Int32)), .val (.int (x0 &&& (255 : Int32)))] [(.int (64 : Int32)), (.int (x0 &&& (255 : Int32)))])) P11 (by
      intro tt_ kk_
      refine XS.iload X6.here hx rfl (hb hby d10_45) rfl ?_
      refine XS.iloadN X6.here hx rfl (hb hby d10_47) rfl ?_
      exact kk_)
    by_cases c13 : (x0 &&& (255 : Int32)) < (64 : Int32)
    · have P14 := own_step (C := T6.setTop (mkF m 67 #[.val (.ref sa), .val (.int (64 : Int32)), .val (.long (0 : Int64)), .second, .val (.int (0 : Int32)), .val (.int (x0 &&& (255 : Int32)))] [])) P12 (by
        intro tt_ kk_
        refine XS.icmpYes X6.here hx rfl (pc0 := 48) (pc' := 67) rfl (hb hby d10_48) rfl (tlt c13).1 (by decide) (by decide) ?_
        exact kk_)
      exact ⟨(0 : Int64), Or.inl ⟨c13, rfl⟩, P14⟩
    · have P15 := own_step (C := T6.setTop (mkF m 51 #[.val (.ref sa), .val (.int (64 : Int32)), .val (.long (0 : Int64)), .second, .val (.int (0 : Int32)), .val (.int (x0 &&& (255 : Int32)))] [])) P12 (by
        intro tt_ kk_
        refine XS.icmpNo X6.here hx rfl (hb hby d10_48) rfl (flt c13).1 ?_
        exact kk_)
      have P16 := own_step (C := T6.setTop (mkF m 57 #[.val (.ref sa), .val (.int (64 : Int32)), .val (.long (0 : Int64)), .second, .val (.int (0 : Int32)), .val (.int (x0 &&& (255 : Int32)))] [(.int (128 : Int32)), (.int (x0 &&& (255 : Int32)))])) P15 (by
        intro tt_ kk_
        refine XS.iload X6.here hx rfl (hb hby d10_51) rfl ?_
        refine XS.iloadN X6.here hx rfl (hb hby d10_53) rfl ?_
        refine XS.bipush X6.here hx rfl (hb hby d10_54) ?_
        refine XS.iadd X6.here hx rfl (hb hby d10_56) rfl ?_
        exact kk_)
      by_cases c17 : (x0 &&& (255 : Int32)) < (128 : Int32)
      · have P18 := own_step (C := T6.setTop (mkF m 60 #[.val (.ref sa), .val (.int (64 : Int32)), .val (.long (0 : Int64)), .second, .val (.int (0 : Int32)), .val (.int (x0 &&& (255 : Int32)))] [])) P16 (by
          intro tt_ kk_
          refine XS.icmpNo X6.here hx rfl (hb hby d10_57) rfl (tlt c17).2.1 ?_
          exact kk_)
        have P19 := own_step (C := T6.setTop (mkF m 67 #[.val (.ref sa), .val (.int (64 : Int32)), .val (.long ((0 : Int64) ||| ((1 : Int64) <<< ((x0 &&& (255 : Int32)) &&& 0x3f).toInt64))), .second, .val (.int (0 : Int32)), .val (.int (x0 &&& (255 : Int32)))] [])) P18 (by
          intro tt_ kk_
          refine XS.lloadN X6.here hx rfl (hb hby d10_60) rfl ?_
          refine XS.lconst X6.here hx rfl (hb hby d10_61) ?_
          refine XS.iload X6.here hx rfl (hb hby d10_62) rfl ?_
          refine XS.lshl X6.here hx rfl (hb hby d10_64) rfl ?_
          refine XS.lor X6.here hx rfl (hb hby d10_65) rfl ?_
          refine XS.lstoreN X6.here hx rfl (hb hby d10_66) rfl (l' := #[.val (.ref sa), .val (.int (64 : Int32)), .val (.long ((0 : Int64) ||| ((1 : Int64) <<< ((x0 &&& (255 : Int32)) &&& 0x3f).toInt64))), .second, .val (.int (0 : Int32)), .val (.int (x0 &&& (255 : Int32)))]) rfl ?_
          exact kk_)
        exact ⟨((0 : Int64) ||| ((1 : Int64) <<< ((x0 &&& (255 : Int32)) &&& 0x3f).toInt64)), Or.inr (Or.inl ⟨c13, c17, rfl⟩), P19⟩
      · have P20 := own_step (C := T6.setTop (mkF m 67 #[.val (.ref sa), .val (.int (64 : Int32)), .val (.long (0 : Int64)), .second, .val (.int (0 : Int32)), .val (.int (x0 &&& (255 : Int32)))] [])) P16 (by
          intro tt_ kk_
          refine XS.icmpYes X6.here hx rfl (pc0 := 57) (pc' := 67) rfl (hb hby d10_57) rfl (flt c17).2.1 (by decide) (by decide) ?_
          exact kk_)
        exact ⟨(0 : Int64), Or.inr (Or.inr (⟨c13, c17, rfl⟩)), P20⟩
  have P21 := own_step P9 J10
  have P22 := own_step (C := T6.setTop (mkF m 8 #[.val (.ref sa), .val (.int (64 : Int32)), .val (.long q0), .second, .val (.int (1 : Int32)), .val (.int (x0 &&& (255 : Int32)))] [(.ref sa), (.int (1 : Int32))])) P21 (by
    intro tt_ kk_
    refine XS.iinc X6.here hx rfl (hb hby d10_67) rfl (l' := #[.val (.ref sa), .val (.int (64 : Int32)), .val (.long q0), .second, .val (.int (1 : Int32)), .val (.int (x0 &&& (255 : Int32)))]) rfl ?_
    show Steps p.tables e below (T6.setTop (mkF m 70 #[.val (.ref sa), .val (.int (64 : Int32)), .val (.long q0), .second, .val (.int (1 : Int32)), .val (.int (x0 &&& (255 : Int32)))] [])) _
    refine XS.goto X6.here hx rfl (pc0 := 70) (pc' := 5) rfl (hb hby d10_70) (by decide) (by decide) ?_
    refine XS.iload X6.here hx rfl (hb hby d10_5) rfl ?_
    refine XS.aloadN X6.here hx rfl (hb hby d10_7) rfl rfl ?_
    exact kk_)
  obtain ⟨cq23, kq23, q23a, q23b, q23c⟩ := isOf hZ e6 Es
  obtain ⟨_, _, ⟨T23, L23, k23, n23⟩, -, X23, ⟨Lc23, hQ23, l23, y23, z23⟩, st23⟩ := X6.virtualBack hx (y := (⟨"java/lang/String", "length", "()I"⟩ : MethodName)) (z := (⟨"java/lang/String", "length", "()I"⟩ : MethodName)) hown (mvT hZ (hw _ (List.mem_of_getElem? (i := 51) rfl))) (mvT hZ (hw _ (List.mem_of_getElem? (i := 52) rfl))) (notFace_of_selects (args := #[]) (mvT hZ (hw _ (List.mem_of_getElem? (i := 54) rfl)))) (mvT hZ (hw _ (List.mem_of_getElem? (i := 54) rfl))) (mvT hZ (hw _ (List.mem_of_getElem? (i := 53) rfl))) (by decide) (backOf (W := 1) (rm_length l Z a0 hw [] sa sb sk (3 : Int32) _ cs h0 n0 Z0 O Scs hcs Es Fsc Fsv Vs) hZ (hw _ (List.mem_of_getElem? (i := 55) rfl)) (hw _ (List.mem_of_getElem? (i := 8) rfl)) (by decide) (by decide)) q23a q23c (g := (mkF m 8 #[.val (.ref sa), .val (.int (64 : Int32)), .val (.long q0), .second, .val (.int (1 : Int32)), .val (.int (x0 &&& (255 : Int32)))] [(.ref sa), (.int (1 : Int32))])) rfl (by rw [hml]; rfl) (Steps.refl _) (argsL := []) (rest := [(.int (1 : Int32))]) (lenOf pd1 rfl) rfl (by show 2 * 0 + _ ≤ _; exact Nat.le_of_eq rfl) (hb hby d10_8) (fun _ _ => ⟨rfl, e6, (by decide : 0 + 0 ≤ _), (by decide : 0 + 0 ≤ _)⟩)
  dsimp only [Pt.U, Pt.locs, Pt.cells, Pt.slots] at X23 l23 y23 z23 st23 hQ23
  subst l23 y23 z23
  obtain ⟨rfl, N23q, e23⟩ := hQ23
  have N23 := Fr.app N6 N23q
  have P24 := own_step (C := T23.setTop (mkF m 11 #[.val (.ref sa), .val (.int (64 : Int32)), .val (.long q0), .second, .val (.int (1 : Int32)), .val (.int (x0 &&& (255 : Int32)))] [(.int (3 : Int32)), (.int (1 : Int32))])) P22 (fun t_ k_ => st23.trans k_)
  have P25 := own_step (C := T23.setTop (mkF m 14 #[.val (.ref sa), .val (.int (64 : Int32)), .val (.long q0), .second, .val (.int (1 : Int32)), .val (.int (x0 &&& (255 : Int32)))] [])) P24 (by
    intro tt_ kk_
    refine XS.icmpNo X23.here hx rfl (hb hby d10_11) rfl (tlt (by decide : (1 : Int32) < (3 : Int32))).2.1 ?_
    exact kk_)
  have P26 := own_step (C := T23.setTop (mkF m 17 #[.val (.ref sa), .val (.int (64 : Int32)), .val (.long q0), .second, .val (.int (1 : Int32)), .val (.int (x0 &&& (255 : Int32)))] [(.int (1 : Int32)), (.ref sa)])) P25 (by
    intro tt_ kk_
    refine XS.aloadN X23.here hx rfl (hb hby d10_14) rfl rfl ?_
    refine XS.iload X23.here hx rfl (hb hby d10_15) rfl ?_
    exact kk_)
  obtain ⟨cq27, kq27, q27a, q27b, q27c⟩ := isOf hZ e23 Es
  obtain ⟨_, _, ⟨T27, L27, k27, n27⟩, -, X27, ⟨Lc27, hQ27, l27, y27, z27⟩, st27⟩ := X23.virtualBack hx (y := (⟨"java/lang/String", "charAt", "(I)C"⟩ : MethodName)) (z := (⟨"java/lang/String", "charAt", "(I)C"⟩ : MethodName)) hown (mvT hZ (hw _ (List.mem_of_getElem? (i := 94) rfl))) (mvT hZ (hw _ (List.mem_of_getElem? (i := 95) rfl))) (notFace_of_selects (args := #[]) (mvT hZ (hw _ (List.mem_of_getElem? (i := 97) rfl)))) (mvT hZ (hw _ (List.mem_of_getElem? (i := 97) rfl))) (mvT hZ (hw _ (List.mem_of_getElem? (i := 96) rfl))) (by decide) (backOf (W := 0) (rm_charAt l Z a0 hw [] sa sb sk (3 : Int32) _ (1 : Int32) x1 fm cs h0 n0 Z0 O Scs hcs Es Fsc Fsv Vs Sfm hfm (by decide : ¬ (1 : Int32) < (0 : Int32) ∧ (1 : Int32) < (3 : Int32)) rfl) hZ (hw _ (List.mem_of_getElem? (i := 98) rfl)) (hw _ (List.mem_of_getElem? (i := 8) rfl)) (by decide) (by decide)) q27a q27c (g := (mkF m 17 #[.val (.ref sa), .val (.int (64 : Int32)), .val (.long q0), .second, .val (.int (1 : Int32)), .val (.int (x0 &&& (255 : Int32)))] [(.int (1 : Int32)), (.ref sa)])) rfl (by rw [hml]; rfl) (Steps.refl _) (argsL := [(.int (1 : Int32))]) (rest := []) (lenOf pd8 rfl) rfl (by show 2 * 0 + _ ≤ _; exact Nat.le_of_eq rfl) (hb hby d10_17) (fun _ _ => ⟨rfl, e23, (by decide : 0 + 0 ≤ _), (by decide : 0 + 0 ≤ _)⟩)
  dsimp only [Pt.U, Pt.locs, Pt.cells, Pt.slots] at X27 l27 y27 z27 st27 hQ27
  subst l27 y27 z27
  obtain ⟨rfl, N27q, e27⟩ := hQ27
  have N27 := Fr.app N23 N27q
  have P28 := own_step (C := T27.setTop (mkF m 20 #[.val (.ref sa), .val (.int (64 : Int32)), .val (.long q0), .second, .val (.int (1 : Int32)), .val (.int (x0 &&& (255 : Int32)))] [(.int (x1 &&& (255 : Int32)))])) P26 (fun t_ k_ => st27.trans k_)
  have P29 := own_step (C := T27.setTop (mkF m 27 #[.val (.ref sa), .val (.int (64 : Int32)), .val (.long q0), .second, .val (.int (1 : Int32)), .val (.int (x1 &&& (255 : Int32)))] [(.int (128 : Int32)), (.int (x1 &&& (255 : Int32)))])) P28 (by
    intro tt_ kk_
    refine XS.istore X27.here hx rfl (hb hby d10_20) rfl (l' := #[.val (.ref sa), .val (.int (64 : Int32)), .val (.long q0), .second, .val (.int (1 : Int32)), .val (.int (x1 &&& (255 : Int32)))]) rfl ?_
    refine XS.iload X27.here hx rfl (hb hby d10_22) rfl ?_
    refine XS.sipush X27.here hx rfl (hb hby d10_24) ?_
    exact kk_)
  have P30 := own_step (C := T27.setTop (mkF m 45 #[.val (.ref sa), .val (.int (64 : Int32)), .val (.long q0), .second, .val (.int (1 : Int32)), .val (.int (x1 &&& (255 : Int32)))] [])) P29 (by
    intro tt_ kk_
    refine XS.icmpYes X27.here hx rfl (pc0 := 27) (pc' := 45) rfl (hb hby d10_27) rfl (tlt hx1).1 (by decide) (by decide) ?_
    exact kk_)
  obtain ⟨q1, hv31, J31⟩ : ∃ (q1 : Int64), (((x1 &&& (255 : Int32)) < (64 : Int32) ∧ q1 = q0) ∨ (¬ ((x1 &&& (255 : Int32)) < (64 : Int32)) ∧ (x1 &&& (255 : Int32)) < (128 : Int32) ∧ q1 = (q0 ||| ((1 : Int64) <<< ((x1 &&& (255 : Int32)) &&& 0x3f).toInt64))) ∨ (¬ ((x1 &&& (255 : Int32)) < (64 : Int32)) ∧ ¬ ((x1 &&& (255 : Int32)) < (128 : Int32)) ∧ q1 = q0)) ∧ own_Go p e below (T27.setTop (mkF m 45 #[.val (.ref sa), .val (.int (64 : Int32)), .val (.long q0), .second, .val (.int (1 : Int32)), .val (.int (x1 &&& (255 : Int32)))] [])) (T27.setTop (mkF m 67 #[.val (.ref sa), .val (.int (64 : Int32)), .val (.long q1), .second, .val (.int (1 : Int32)), .val (.int (x1 &&& (255 : Int32)))] [])) := by
    have P32 : own_Go p e below (T27.setTop (mkF m 45 #[.val (.ref sa), .val (.int (64 : Int32)), .val (.long q0), .second, .val (.int (1 : Int32)), .val (.int (x1 &&& (255 : Int32)))] [])) (T27.setTop (mkF m 45 #[.val (.ref sa), .val (.int (64 : Int32)), .val (.long q0), .second, .val (.int (1 : Int32)), .val (.int (x1 &&& (255 : Int32)))] [])) := fun t_ k_ => k_
    have P33 := own_step (C := T27.setTop (mkF m 48 #[.val (.ref sa), .val (.int (64 : Int32)), .val (.long q0), .second, .val (.int (1 : Int32)), .val (.int (x1 &&& (255 : Int32)))] [(.int (64 : Int32)), (.int (x1 &&& (255 : Int32)))])) P32 (by
      intro tt_ kk_
      refine XS.iload X27.here hx rfl (hb hby d10_45) rfl ?_
      refine XS.iloadN X27.here hx rfl (hb hby d10_47) rfl ?_
      exact kk_)
    by_cases c34 : (x1 &&& (255 : Int32)) < (64 : Int32)
    · have P35 := own_step (C := T27.setTop (mkF m 67 #[.val (.ref sa), .val (.int (64 : Int32)), .val (.long q0), .second, .val (.int (1 : Int32)), .val (.int (x1 &&& (255 : Int32)))] [])) P33 (by
        intro tt_ kk_
        refine XS.icmpYes X27.here hx rfl (pc0 := 48) (pc' := 67) rfl (hb hby d10_48) rfl (tlt c34).1 (by decide) (by decide) ?_
        exact kk_)
      exact ⟨q0, Or.inl ⟨c34, rfl⟩, P35⟩
    · have P36 := own_step (C := T27.setTop (mkF m 51 #[.val (.ref sa), .val (.int (64 : Int32)), .val (.long q0), .second, .val (.int (1 : Int32)), .val (.int (x1 &&& (255 : Int32)))] [])) P33 (by
        intro tt_ kk_
        refine XS.icmpNo X27.here hx rfl (hb hby d10_48) rfl (flt c34).1 ?_
        exact kk_)
      have P37 := own_step (C := T27.setTop (mkF m 57 #[.val (.ref sa), .val (.int (64 : Int32)), .val (.long q0), .second, .val (.int (1 : Int32)), .val (.int (x1 &&& (255 : Int32)))] [(.int (128 : Int32)), (.int (x1 &&& (255 : Int32)))])) P36 (by
        intro tt_ kk_
        refine XS.iload X27.here hx rfl (hb hby d10_51) rfl ?_
        refine XS.iloadN X27.here hx rfl (hb hby d10_53) rfl ?_
        refine XS.bipush X27.here hx rfl (hb hby d10_54) ?_
        refine XS.iadd X27.here hx rfl (hb hby d10_56) rfl ?_
        exact kk_)
      by_cases c38 : (x1 &&& (255 : Int32)) < (128 : Int32)
      · have P39 := own_step (C := T27.setTop (mkF m 60 #[.val (.ref sa), .val (.int (64 : Int32)), .val (.long q0), .second, .val (.int (1 : Int32)), .val (.int (x1 &&& (255 : Int32)))] [])) P37 (by
          intro tt_ kk_
          refine XS.icmpNo X27.here hx rfl (hb hby d10_57) rfl (tlt c38).2.1 ?_
          exact kk_)
        have P40 := own_step (C := T27.setTop (mkF m 67 #[.val (.ref sa), .val (.int (64 : Int32)), .val (.long (q0 ||| ((1 : Int64) <<< ((x1 &&& (255 : Int32)) &&& 0x3f).toInt64))), .second, .val (.int (1 : Int32)), .val (.int (x1 &&& (255 : Int32)))] [])) P39 (by
          intro tt_ kk_
          refine XS.lloadN X27.here hx rfl (hb hby d10_60) rfl ?_
          refine XS.lconst X27.here hx rfl (hb hby d10_61) ?_
          refine XS.iload X27.here hx rfl (hb hby d10_62) rfl ?_
          refine XS.lshl X27.here hx rfl (hb hby d10_64) rfl ?_
          refine XS.lor X27.here hx rfl (hb hby d10_65) rfl ?_
          refine XS.lstoreN X27.here hx rfl (hb hby d10_66) rfl (l' := #[.val (.ref sa), .val (.int (64 : Int32)), .val (.long (q0 ||| ((1 : Int64) <<< ((x1 &&& (255 : Int32)) &&& 0x3f).toInt64))), .second, .val (.int (1 : Int32)), .val (.int (x1 &&& (255 : Int32)))]) rfl ?_
          exact kk_)
        exact ⟨(q0 ||| ((1 : Int64) <<< ((x1 &&& (255 : Int32)) &&& 0x3f).toInt64)), Or.inr (Or.inl ⟨c34, c38, rfl⟩), P40⟩
      · have P41 := own_step (C := T27.setTop (mkF m 67 #[.val (.ref sa), .val (.int (64 : Int32)), .val (.long q0), .second, .val (.int (1 : Int32)), .val (.int (x1 &&& (255 : Int32)))] [])) P37 (by
          intro tt_ kk_
          refine XS.icmpYes X27.here hx rfl (pc0 := 57) (pc' := 67) rfl (hb hby d10_57) rfl (flt c38).2.1 (by decide) (by decide) ?_
          exact kk_)
        exact ⟨q0, Or.inr (Or.inr (⟨c34, c38, rfl⟩)), P41⟩
  have P42 := own_step P30 J31
  have P43 := own_step (C := T27.setTop (mkF m 8 #[.val (.ref sa), .val (.int (64 : Int32)), .val (.long q1), .second, .val (.int (2 : Int32)), .val (.int (x1 &&& (255 : Int32)))] [(.ref sa), (.int (2 : Int32))])) P42 (by
    intro tt_ kk_
    refine XS.iinc X27.here hx rfl (hb hby d10_67) rfl (l' := #[.val (.ref sa), .val (.int (64 : Int32)), .val (.long q1), .second, .val (.int (2 : Int32)), .val (.int (x1 &&& (255 : Int32)))]) rfl ?_
    show Steps p.tables e below (T27.setTop (mkF m 70 #[.val (.ref sa), .val (.int (64 : Int32)), .val (.long q1), .second, .val (.int (2 : Int32)), .val (.int (x1 &&& (255 : Int32)))] [])) _
    refine XS.goto X27.here hx rfl (pc0 := 70) (pc' := 5) rfl (hb hby d10_70) (by decide) (by decide) ?_
    refine XS.iload X27.here hx rfl (hb hby d10_5) rfl ?_
    refine XS.aloadN X27.here hx rfl (hb hby d10_7) rfl rfl ?_
    exact kk_)
  obtain ⟨cq44, kq44, q44a, q44b, q44c⟩ := isOf hZ e27 Es
  obtain ⟨_, _, ⟨T44, L44, k44, n44⟩, -, X44, ⟨Lc44, hQ44, l44, y44, z44⟩, st44⟩ := X27.virtualBack hx (y := (⟨"java/lang/String", "length", "()I"⟩ : MethodName)) (z := (⟨"java/lang/String", "length", "()I"⟩ : MethodName)) hown (mvT hZ (hw _ (List.mem_of_getElem? (i := 51) rfl))) (mvT hZ (hw _ (List.mem_of_getElem? (i := 52) rfl))) (notFace_of_selects (args := #[]) (mvT hZ (hw _ (List.mem_of_getElem? (i := 54) rfl)))) (mvT hZ (hw _ (List.mem_of_getElem? (i := 54) rfl))) (mvT hZ (hw _ (List.mem_of_getElem? (i := 53) rfl))) (by decide) (backOf (W := 1) (rm_length l Z a0 hw [] sa sb sk (3 : Int32) _ cs h0 n0 Z0 O Scs hcs Es Fsc Fsv Vs) hZ (hw _ (List.mem_of_getElem? (i := 55) rfl)) (hw _ (List.mem_of_getElem? (i := 8) rfl)) (by decide) (by decide)) q44a q44c (g := (mkF m 8 #[.val (.ref sa), .val (.int (64 : Int32)), .val (.long q1), .second, .val (.int (2 : Int32)), .val (.int (x1 &&& (255 : Int32)))] [(.ref sa), (.int (2 : Int32))])) rfl (by rw [hml]; rfl) (Steps.refl _) (argsL := []) (rest := [(.int (2 : Int32))]) (lenOf pd1 rfl) rfl (by show 2 * 0 + _ ≤ _; exact Nat.le_of_eq rfl) (hb hby d10_8) (fun _ _ => ⟨rfl, e27, (by decide : 0 + 0 ≤ _), (by decide : 0 + 0 ≤ _)⟩)
  dsimp only [Pt.U, Pt.locs, Pt.cells, Pt.slots] at X44 l44 y44 z44 st44 hQ44
  subst l44 y44 z44
  obtain ⟨rfl, N44q, e44⟩ := hQ44
  have N44 := Fr.app N27 N44q
  have P45 := own_step (C := T44.setTop (mkF m 11 #[.val (.ref sa), .val (.int (64 : Int32)), .val (.long q1), .second, .val (.int (2 : Int32)), .val (.int (x1 &&& (255 : Int32)))] [(.int (3 : Int32)), (.int (2 : Int32))])) P43 (fun t_ k_ => st44.trans k_)
  have P46 := own_step (C := T44.setTop (mkF m 14 #[.val (.ref sa), .val (.int (64 : Int32)), .val (.long q1), .second, .val (.int (2 : Int32)), .val (.int (x1 &&& (255 : Int32)))] [])) P45 (by
    intro tt_ kk_
    refine XS.icmpNo X44.here hx rfl (hb hby d10_11) rfl (tlt (by decide : (2 : Int32) < (3 : Int32))).2.1 ?_
    exact kk_)
  have P47 := own_step (C := T44.setTop (mkF m 17 #[.val (.ref sa), .val (.int (64 : Int32)), .val (.long q1), .second, .val (.int (2 : Int32)), .val (.int (x1 &&& (255 : Int32)))] [(.int (2 : Int32)), (.ref sa)])) P46 (by
    intro tt_ kk_
    refine XS.aloadN X44.here hx rfl (hb hby d10_14) rfl rfl ?_
    refine XS.iload X44.here hx rfl (hb hby d10_15) rfl ?_
    exact kk_)
  obtain ⟨cq48, kq48, q48a, q48b, q48c⟩ := isOf hZ e44 Es
  obtain ⟨_, _, ⟨T48, L48, k48, n48⟩, -, X48, ⟨Lc48, hQ48, l48, y48, z48⟩, st48⟩ := X44.virtualBack hx (y := (⟨"java/lang/String", "charAt", "(I)C"⟩ : MethodName)) (z := (⟨"java/lang/String", "charAt", "(I)C"⟩ : MethodName)) hown (mvT hZ (hw _ (List.mem_of_getElem? (i := 94) rfl))) (mvT hZ (hw _ (List.mem_of_getElem? (i := 95) rfl))) (notFace_of_selects (args := #[]) (mvT hZ (hw _ (List.mem_of_getElem? (i := 97) rfl)))) (mvT hZ (hw _ (List.mem_of_getElem? (i := 97) rfl))) (mvT hZ (hw _ (List.mem_of_getElem? (i := 96) rfl))) (by decide) (backOf (W := 0) (rm_charAt l Z a0 hw [] sa sb sk (3 : Int32) _ (2 : Int32) x2 fm cs h0 n0 Z0 O Scs hcs Es Fsc Fsv Vs Sfm hfm (by decide : ¬ (2 : Int32) < (0 : Int32) ∧ (2 : Int32) < (3 : Int32)) rfl) hZ (hw _ (List.mem_of_getElem? (i := 98) rfl)) (hw _ (List.mem_of_getElem? (i := 8) rfl)) (by decide) (by decide)) q48a q48c (g := (mkF m 17 #[.val (.ref sa), .val (.int (64 : Int32)), .val (.long q1), .second, .val (.int (2 : Int32)), .val (.int (x1 &&& (255 : Int32)))] [(.int (2 : Int32)), (.ref sa)])) rfl (by rw [hml]; rfl) (Steps.refl _) (argsL := [(.int (2 : Int32))]) (rest := []) (lenOf pd8 rfl) rfl (by show 2 * 0 + _ ≤ _; exact Nat.le_of_eq rfl) (hb hby d10_17) (fun _ _ => ⟨rfl, e44, (by decide : 0 + 0 ≤ _), (by decide : 0 + 0 ≤ _)⟩)
  dsimp only [Pt.U, Pt.locs, Pt.cells, Pt.slots] at X48 l48 y48 z48 st48 hQ48
  subst l48 y48 z48
  obtain ⟨rfl, N48q, e48⟩ := hQ48
  have N48 := Fr.app N44 N48q
  have P49 := own_step (C := T48.setTop (mkF m 20 #[.val (.ref sa), .val (.int (64 : Int32)), .val (.long q1), .second, .val (.int (2 : Int32)), .val (.int (x1 &&& (255 : Int32)))] [(.int (x2 &&& (255 : Int32)))])) P47 (fun t_ k_ => st48.trans k_)
  have P50 := own_step (C := T48.setTop (mkF m 27 #[.val (.ref sa), .val (.int (64 : Int32)), .val (.long q1), .second, .val (.int (2 : Int32)), .val (.int (x2 &&& (255 : Int32)))] [(.int (128 : Int32)), (.int (x2 &&& (255 : Int32)))])) P49 (by
    intro tt_ kk_
    refine XS.istore X48.here hx rfl (hb hby d10_20) rfl (l' := #[.val (.ref sa), .val (.int (64 : Int32)), .val (.long q1), .second, .val (.int (2 : Int32)), .val (.int (x2 &&& (255 : Int32)))]) rfl ?_
    refine XS.iload X48.here hx rfl (hb hby d10_22) rfl ?_
    refine XS.sipush X48.here hx rfl (hb hby d10_24) ?_
    exact kk_)
  have P51 := own_step (C := T48.setTop (mkF m 45 #[.val (.ref sa), .val (.int (64 : Int32)), .val (.long q1), .second, .val (.int (2 : Int32)), .val (.int (x2 &&& (255 : Int32)))] [])) P50 (by
    intro tt_ kk_
    refine XS.icmpYes X48.here hx rfl (pc0 := 27) (pc' := 45) rfl (hb hby d10_27) rfl (tlt hx2).1 (by decide) (by decide) ?_
    exact kk_)
  obtain ⟨q2, hv52, J52⟩ : ∃ (q2 : Int64), (((x2 &&& (255 : Int32)) < (64 : Int32) ∧ q2 = q1) ∨ (¬ ((x2 &&& (255 : Int32)) < (64 : Int32)) ∧ (x2 &&& (255 : Int32)) < (128 : Int32) ∧ q2 = (q1 ||| ((1 : Int64) <<< ((x2 &&& (255 : Int32)) &&& 0x3f).toInt64))) ∨ (¬ ((x2 &&& (255 : Int32)) < (64 : Int32)) ∧ ¬ ((x2 &&& (255 : Int32)) < (128 : Int32)) ∧ q2 = q1)) ∧ own_Go p e below (T48.setTop (mkF m 45 #[.val (.ref sa), .val (.int (64 : Int32)), .val (.long q1), .second, .val (.int (2 : Int32)), .val (.int (x2 &&& (255 : Int32)))] [])) (T48.setTop (mkF m 67 #[.val (.ref sa), .val (.int (64 : Int32)), .val (.long q2), .second, .val (.int (2 : Int32)), .val (.int (x2 &&& (255 : Int32)))] [])) := by
    have P53 : own_Go p e below (T48.setTop (mkF m 45 #[.val (.ref sa), .val (.int (64 : Int32)), .val (.long q1), .second, .val (.int (2 : Int32)), .val (.int (x2 &&& (255 : Int32)))] [])) (T48.setTop (mkF m 45 #[.val (.ref sa), .val (.int (64 : Int32)), .val (.long q1), .second, .val (.int (2 : Int32)), .val (.int (x2 &&& (255 : Int32)))] [])) := fun t_ k_ => k_
    have P54 := own_step (C := T48.setTop (mkF m 48 #[.val (.ref sa), .val (.int (64 : Int32)), .val (.long q1), .second, .val (.int (2 : Int32)), .val (.int (x2 &&& (255 : Int32)))] [(.int (64 : Int32)), (.int (x2 &&& (255 : Int32)))])) P53 (by
      intro tt_ kk_
      refine XS.iload X48.here hx rfl (hb hby d10_45) rfl ?_
      refine XS.iloadN X48.here hx rfl (hb hby d10_47) rfl ?_
      exact kk_)
    by_cases c55 : (x2 &&& (255 : Int32)) < (64 : Int32)
    · have P56 := own_step (C := T48.setTop (mkF m 67 #[.val (.ref sa), .val (.int (64 : Int32)), .val (.long q1), .second, .val (.int (2 : Int32)), .val (.int (x2 &&& (255 : Int32)))] [])) P54 (by
        intro tt_ kk_
        refine XS.icmpYes X48.here hx rfl (pc0 := 48) (pc' := 67) rfl (hb hby d10_48) rfl (tlt c55).1 (by decide) (by decide) ?_
        exact kk_)
      exact ⟨q1, Or.inl ⟨c55, rfl⟩, P56⟩
    · have P57 := own_step (C := T48.setTop (mkF m 51 #[.val (.ref sa), .val (.int (64 : Int32)), .val (.long q1), .second, .val (.int (2 : Int32)), .val (.int (x2 &&& (255 : Int32)))] [])) P54 (by
        intro tt_ kk_
        refine XS.icmpNo X48.here hx rfl (hb hby d10_48) rfl (flt c55).1 ?_
        exact kk_)
      have P58 := own_step (C := T48.setTop (mkF m 57 #[.val (.ref sa), .val (.int (64 : Int32)), .val (.long q1), .second, .val (.int (2 : Int32)), .val (.int (x2 &&& (255 : Int32)))] [(.int (128 : Int32)), (.int (x2 &&& (255 : Int32)))])) P57 (by
        intro tt_ kk_
        refine XS.iload X48.here hx rfl (hb hby d10_51) rfl ?_
        refine XS.iloadN X48.here hx rfl (hb hby d10_53) rfl ?_
        refine XS.bipush X48.here hx rfl (hb hby d10_54) ?_
        refine XS.iadd X48.here hx rfl (hb hby d10_56) rfl ?_
        exact kk_)
      by_cases c59 : (x2 &&& (255 : Int32)) < (128 : Int32)
      · have P60 := own_step (C := T48.setTop (mkF m 60 #[.val (.ref sa), .val (.int (64 : Int32)), .val (.long q1), .second, .val (.int (2 : Int32)), .val (.int (x2 &&& (255 : Int32)))] [])) P58 (by
          intro tt_ kk_
          refine XS.icmpNo X48.here hx rfl (hb hby d10_57) rfl (tlt c59).2.1 ?_
          exact kk_)
        have P61 := own_step (C := T48.setTop (mkF m 67 #[.val (.ref sa), .val (.int (64 : Int32)), .val (.long (q1 ||| ((1 : Int64) <<< ((x2 &&& (255 : Int32)) &&& 0x3f).toInt64))), .second, .val (.int (2 : Int32)), .val (.int (x2 &&& (255 : Int32)))] [])) P60 (by
          intro tt_ kk_
          refine XS.lloadN X48.here hx rfl (hb hby d10_60) rfl ?_
          refine XS.lconst X48.here hx rfl (hb hby d10_61) ?_
          refine XS.iload X48.here hx rfl (hb hby d10_62) rfl ?_
          refine XS.lshl X48.here hx rfl (hb hby d10_64) rfl ?_
          refine XS.lor X48.here hx rfl (hb hby d10_65) rfl ?_
          refine XS.lstoreN X48.here hx rfl (hb hby d10_66) rfl (l' := #[.val (.ref sa), .val (.int (64 : Int32)), .val (.long (q1 ||| ((1 : Int64) <<< ((x2 &&& (255 : Int32)) &&& 0x3f).toInt64))), .second, .val (.int (2 : Int32)), .val (.int (x2 &&& (255 : Int32)))]) rfl ?_
          exact kk_)
        exact ⟨(q1 ||| ((1 : Int64) <<< ((x2 &&& (255 : Int32)) &&& 0x3f).toInt64)), Or.inr (Or.inl ⟨c55, c59, rfl⟩), P61⟩
      · have P62 := own_step (C := T48.setTop (mkF m 67 #[.val (.ref sa), .val (.int (64 : Int32)), .val (.long q1), .second, .val (.int (2 : Int32)), .val (.int (x2 &&& (255 : Int32)))] [])) P58 (by
          intro tt_ kk_
          refine XS.icmpYes X48.here hx rfl (pc0 := 57) (pc' := 67) rfl (hb hby d10_57) rfl (flt c59).2.1 (by decide) (by decide) ?_
          exact kk_)
        exact ⟨q1, Or.inr (Or.inr (⟨c55, c59, rfl⟩)), P62⟩
  have P63 := own_step P51 J52
  have P64 := own_step (C := T48.setTop (mkF m 8 #[.val (.ref sa), .val (.int (64 : Int32)), .val (.long q2), .second, .val (.int (3 : Int32)), .val (.int (x2 &&& (255 : Int32)))] [(.ref sa), (.int (3 : Int32))])) P63 (by
    intro tt_ kk_
    refine XS.iinc X48.here hx rfl (hb hby d10_67) rfl (l' := #[.val (.ref sa), .val (.int (64 : Int32)), .val (.long q2), .second, .val (.int (3 : Int32)), .val (.int (x2 &&& (255 : Int32)))]) rfl ?_
    show Steps p.tables e below (T48.setTop (mkF m 70 #[.val (.ref sa), .val (.int (64 : Int32)), .val (.long q2), .second, .val (.int (3 : Int32)), .val (.int (x2 &&& (255 : Int32)))] [])) _
    refine XS.goto X48.here hx rfl (pc0 := 70) (pc' := 5) rfl (hb hby d10_70) (by decide) (by decide) ?_
    refine XS.iload X48.here hx rfl (hb hby d10_5) rfl ?_
    refine XS.aloadN X48.here hx rfl (hb hby d10_7) rfl rfl ?_
    exact kk_)
  obtain ⟨cq65, kq65, q65a, q65b, q65c⟩ := isOf hZ e48 Es
  obtain ⟨_, _, ⟨T65, L65, k65, n65⟩, -, X65, ⟨Lc65, hQ65, l65, y65, z65⟩, st65⟩ := X48.virtualBack hx (y := (⟨"java/lang/String", "length", "()I"⟩ : MethodName)) (z := (⟨"java/lang/String", "length", "()I"⟩ : MethodName)) hown (mvT hZ (hw _ (List.mem_of_getElem? (i := 51) rfl))) (mvT hZ (hw _ (List.mem_of_getElem? (i := 52) rfl))) (notFace_of_selects (args := #[]) (mvT hZ (hw _ (List.mem_of_getElem? (i := 54) rfl)))) (mvT hZ (hw _ (List.mem_of_getElem? (i := 54) rfl))) (mvT hZ (hw _ (List.mem_of_getElem? (i := 53) rfl))) (by decide) (backOf (W := 1) (rm_length l Z a0 hw [] sa sb sk (3 : Int32) _ cs h0 n0 Z0 O Scs hcs Es Fsc Fsv Vs) hZ (hw _ (List.mem_of_getElem? (i := 55) rfl)) (hw _ (List.mem_of_getElem? (i := 8) rfl)) (by decide) (by decide)) q65a q65c (g := (mkF m 8 #[.val (.ref sa), .val (.int (64 : Int32)), .val (.long q2), .second, .val (.int (3 : Int32)), .val (.int (x2 &&& (255 : Int32)))] [(.ref sa), (.int (3 : Int32))])) rfl (by rw [hml]; rfl) (Steps.refl _) (argsL := []) (rest := [(.int (3 : Int32))]) (lenOf pd1 rfl) rfl (by show 2 * 0 + _ ≤ _; exact Nat.le_of_eq rfl) (hb hby d10_8) (fun _ _ => ⟨rfl, e48, (by decide : 0 + 0 ≤ _), (by decide : 0 + 0 ≤ _)⟩)
  dsimp only [Pt.U, Pt.locs, Pt.cells, Pt.slots] at X65 l65 y65 z65 st65 hQ65
  subst l65 y65 z65
  obtain ⟨rfl, N65q, e65⟩ := hQ65
  have N65 := Fr.app N48 N65q
  have P66 := own_step (C := T65.setTop (mkF m 11 #[.val (.ref sa), .val (.int (64 : Int32)), .val (.long q2), .second, .val (.int (3 : Int32)), .val (.int (x2 &&& (255 : Int32)))] [(.int (3 : Int32)), (.int (3 : Int32))])) P64 (fun t_ k_ => st65.trans k_)
  have P67 := own_step (C := T65.setTop (mkF m 73 #[.val (.ref sa), .val (.int (64 : Int32)), .val (.long q2), .second, .val (.int (3 : Int32)), .val (.int (x2 &&& (255 : Int32)))] [])) P66 (by
    intro tt_ kk_
    refine XS.icmpYes X65.here hx rfl (pc0 := 11) (pc' := 73) rfl (hb hby d10_11) rfl (flt (by decide : ¬ ((3 : Int32) < (3 : Int32)))).2.1 (by decide) (by decide) ?_
    exact kk_)
  have P68 := own_step (C := T65.setTop (mkF m 74 #[.val (.ref sa), .val (.int (64 : Int32)), .val (.long q2), .second, .val (.int (3 : Int32)), .val (.int (x2 &&& (255 : Int32)))] [(.long q2)])) P67 (by
    intro tt_ kk_
    refine XS.lloadN X65.here hx rfl (hb hby d10_73) rfl ?_
    exact kk_)
  obtain ⟨fs, hr, hrun, hended, hW, hsame⟩ := X65.leave (v := some (.long q2)) (fun h => by rw [Bd.returns] at h; cases h)
  refine ⟨_, _, P68 _ ?_, hrun, hended, _, _, rfl, ?_, ⟨_, rfl⟩, hW, hsame.mono (by decide) (by decide)⟩
  · exact retOut X65 hx Bd.returns rfl (Or.inr (Or.inl ⟨rfl, rfl, _, rfl⟩)) (hb hby d10_74) hr
  · show Q_bits3_64 Z _ _ _ _ _ _ _ _ h0 n0 _ T65.heap _
    rw [e65]
    exact ⟨by rw [own_bitE hv52, own_bitE hv31, own_bitE hv10], N65, rfl⟩
theorem ef__ns3 (m : MethodId) (x0 : Addr) (x1 : Addr) (x2 : Addr) (x3 : Int32) (x4 : Int32) : entryFrame m #[(.ref x0), (.ref x1), (.ref x2), (.int x3), (.int x4)] 5 = mkF m 0 #[.val (.ref x0), .val (.ref x1), .val (.ref x2), .val (.int x3), .val (.int x4)] [] := by first | (simp [entryFrame, mkF, argsToLocals, Value.category]; done) | rfl
def Q_ns3 (Z : State) (a : Addr) (bg : Addr) (le : Int32) (mo : Int32) (sa : Addr) (sb : Addr) (sk : ClassId) (x0 : Int32) (x1 : Int32) (x2 : Int32) (fm : Value) (cs : Int32) (h0 : Heap) (n0 : Nat) (v_ : Option Value) (h : Heap) (L_ : List Loc) : Prop := v_ = none ∧ Fr n0 L_ ∧ Keep h0 h [a] ∧ Exa Z h a "com/example/gatehouse/gatehouse/pattern/NameShape" ∧ Fld Z h a "com/example/gatehouse/gatehouse/pattern/NameShape" "low" "J" (.long (own_bit (0 : Int32) (64 : Int32) (x2 &&& (255 : Int32)) (own_bit (0 : Int32) (64 : Int32) (x1 &&& (255 : Int32)) (own_bit (0 : Int32) (64 : Int32) (x0 &&& (255 : Int32)) (0 : Int64))))) ∧ Fld Z h a "com/example/gatehouse/gatehouse/pattern/NameShape" "high" "J" (.long (own_bit (64 : Int32) (128 : Int32) (x2 &&& (255 : Int32)) (own_bit (64 : Int32) (128 : Int32) (x1 &&& (255 : Int32)) (own_bit (64 : Int32) (128 : Int32) (x0 &&& (255 : Int32)) (0 : Int64)))))
set_option maxRecDepth 65536 in
set_option maxHeartbeats 40000000 in
theorem rm_ns3 (l : Launch) (Z : State) (a0 : Array Value) (hw : ∀ d ∈ tables_1, d.before a0 Z = true) (ws : List Jvm.Cond) (a : Addr) (bg : Addr) (le : Int32) (mo : Int32) (sa : Addr) (sb : Addr) (sk : ClassId) (x0 : Int32) (x1 : Int32) (x2 : Int32) (fm : Value) (cs : Int32) (h0 : Heap) (n0 : Nat) (Z0 : n0 ≤ h0.size) (O : Old Z n0 h0) (Scs : Sta Z Z.heap "java/lang/String" "COMPACT_STRINGS" "Z" (.int cs)) (hcs : ¬ (cs = (0 : Int32))) (Sfm : Sta Z Z.heap "jdk/internal/util/Preconditions" "SIOOBE_FORMATTER" "Ljava/util/function/BiFunction;" fm) (hfm : fm.category = 1) (Es : Exa Z h0 sa "java/lang/String") (Fsc : Fld Z h0 sa "java/lang/String" "coder" "B" (.int (0 : Int32))) (Fsv : Fld Z h0 sa "java/lang/String" "value" "[B" (.ref sb)) (Vs : Arv Z h0 sb sk .byte (3 : Int32) [(.int x0), (.int x1), (.int x2)] (.int 0)) (hx0 : (x0 &&& (255 : Int32)) < (128 : Int32)) (hx1 : (x1 &&& (255 : Int32)) < (128 : Int32)) (hx2 : (x2 &&& (255 : Int32)) < (128 : Int32)) (Ea : Exa Z h0 a "com/example/gatehouse/gatehouse/pattern/NameShape") (Fbegin : Fld Z h0 a "com/example/gatehouse/gatehouse/pattern/NameShape" "begin" "Ljava/lang/String;" .null) (Flow : Fld Z h0 a "com/example/gatehouse/gatehouse/pattern/NameShape" "low" "J" (.long (0 : Int64))) (Fhigh : Fld Z h0 a "com/example/gatehouse/gatehouse/pattern/NameShape" "high" "J" (.long (0 : Int64))) (Fleast : Fld Z h0 a "com/example/gatehouse/gatehouse/pattern/NameShape" "least" "I" (.int (0 : Int32))) (Fmost : Fld Z h0 a "com/example/gatehouse/gatehouse/pattern/NameShape" "most" "I" (.int (0 : Int32))) (ga : n0 ≤ a) (hl : ¬ (le < (0 : Int32))) (hm : ¬ (mo < le)) :
    MetFree l (⟨"com/example/gatehouse/gatehouse/pattern/NameShape", "<init>", "(Ljava/lang/String;Ljava/lang/String;II)V"⟩ : MethodName) (head1 (Jvm.Cond.code (⟨"com/example/gatehouse/gatehouse/pattern/NameShape", "<init>", "(Ljava/lang/String;Ljava/lang/String;II)V"⟩ : MethodName) prog_36_method_1_code 5 none :: ws) ({ frames := 5, cells := 0, slots := 0, locals := 74 } : Room)) (fun a_ U_ => a_ = #[(.ref a), (.ref bg), (.ref sa), (.int le), (.int mo)] ∧ Z.Warmed39 U_.vm ∧ U_.heap = h0) (fun _ _ _ _ _ => True) (fun _ U_ o_ V_ => ∃ v_ L_, o_ = .returned v_ ∧ Q_ns3 Z a bg le mo sa sb sk x0 x1 x2 fm cs h0 n0 v_ V_.heap L_ ∧ FrameEnd U_ o_ V_ L_ ({ frames := 5, cells := 0, slots := 0, locals := 74 } : Room).cells ({ frames := 5, cells := 0, slots := 0, locals := 74 } : Room).slots) := by
  refine MetFree.of_bodySF (plainFor_of_name pn1) hisR ?_
  intro p e s m args below meth c s₁ Bd hml0 hP hK
  obtain ⟨rfl, hZ, hh⟩ := hP
  have hx := Bd.exec
  have hby := Bd.bytes
  have hml : c.maxLocals = 5 := hml0
  have hown : s.vm.findClass "com/example/gatehouse/gatehouse/pattern/NameShape" = some m.cls := findClass_of_methodNamed Bd.named
  have hnm := (name_of_methodNamed Bd.named Bd.method).1
  have X0 : Stand p l e ({ frames := 5, cells := 0, slots := 0, locals := 74 } : Room) s m #[(.ref a), (.ref bg), (.ref sa), (.int le), (.int mo)] below meth c s₁ [] 0 0 := Stand.of_body Bd
  have e0 : s₁.heap = h0 := by rw [← hh, Bd.state]; rfl
  have N0 := Fr.nil n0
  have pre0 : own_Go p e below (s₁.setTop (entryFrame m #[(.ref a), (.ref bg), (.ref sa), (.int le), (.int mo)] 5)) (s₁.setTop (mkF m 0 #[.val (.ref a), .val (.ref bg), .val (.ref sa), .val (.int le), .val (.int mo)] [])) := fun t_ k_ => castTop (ef__ns3 m a bg sa le mo) k_
  have ne_sa_a : sa ≠ a := ne_exa Es Ea (by decide)
  obtain ⟨clV, ArV, -⟩ := id Vs
  have ne_sb_a : sb ≠ a := Ne.symm (ne_arr Ea (hw _ (List.mem_of_getElem? (i := 33) rfl)) ArV)
  have P1 := own_step (C := s₁.setTop (mkF m 4 #[.val (.ref a), .val (.ref bg), .val (.ref sa), .val (.int le), .val (.int mo)] [(.int (0 : Int32)), (.ref sa), (.ref bg), (.ref a)])) pre0 (by
    intro tt_ kk_
    refine XS.aloadN X0.here hx rfl (hb hby d9_0) rfl rfl ?_
    refine XS.aloadN X0.here hx rfl (hb hby d9_1) rfl rfl ?_
    refine XS.aloadN X0.here hx rfl (hb hby d9_2) rfl rfl ?_
    refine XS.iconst X0.here hx rfl (hb hby d9_3) ?_
    exact kk_)
  obtain ⟨_, _, ⟨T2, L2, k2, n2⟩, -, X2, ⟨Lc2, hQ2, l2, y2, z2⟩, st2⟩ := Jvm.LawKit.callS X0 hx (y := (⟨"com/example/gatehouse/gatehouse/pattern/NameShape", "bits", "(Ljava/lang/String;I)J"⟩ : MethodName)) hown (mvT hZ (hw _ (List.mem_of_getElem? (i := 48) rfl))) (mvT hZ (hw _ (List.mem_of_getElem? (i := 49) rfl))) (mvT hZ (hw _ (List.mem_of_getElem? (i := 34) rfl))) (mvT hZ (hw _ (List.mem_of_getElem? (i := 50) rfl))) (by decide) (backOf (W := 2) (rm_bits3_0 l Z a0 hw [] sa sb sk x0 x1 x2 fm cs h0 n0 Z0 O Scs hcs Sfm hfm Es Fsc Fsv Vs hx0 hx1 hx2) hZ (hw _ (List.mem_of_getElem? (i := 50) rfl)) (hw _ (List.mem_of_getElem? (i := 34) rfl)) (by decide) (by decide)) (g := (mkF m 4 #[.val (.ref a), .val (.ref bg), .val (.ref sa), .val (.int le), .val (.int mo)] [(.int (0 : Int32)), (.ref sa), (.ref bg), (.ref a)])) rfl (by rw [hml]; rfl) (argsL := [(.ref sa), (.int (0 : Int32))]) (rest := [(.ref bg), (.ref a)]) (lenOf pd2 rfl) rfl (by show 2 * 0 + _ ≤ _; exact Nat.le_of_eq rfl) (hb hby d9_4) (fun _ _ => ⟨rfl, e0, (by decide : 0 + 0 ≤ _), (by decide : 0 + 0 ≤ _)⟩)
  dsimp only [Pt.U, Pt.locs, Pt.cells, Pt.slots] at X2 l2 y2 z2 st2 hQ2
  subst l2 y2 z2
  obtain ⟨rfl, N2q, e2⟩ := hQ2
  have N2 := Fr.app N0 N2q
  have P3 := own_step (C := T2.setTop (mkF m 7 #[.val (.ref a), .val (.ref bg), .val (.ref sa), .val (.int le), .val (.int mo)] [(.long (own_bit (0 : Int32) (64 : Int32) (x2 &&& (255 : Int32)) (own_bit (0 : Int32) (64 : Int32) (x1 &&& (255 : Int32)) (own_bit (0 : Int32) (64 : Int32) (x0 &&& (255 : Int32)) (0 : Int64))))), (.ref bg), (.ref a)])) P1 (fun t_ k_ => st2 t_ k_)
  have P4 := own_step (C := T2.setTop (mkF m 10 #[.val (.ref a), .val (.ref bg), .val (.ref sa), .val (.int le), .val (.int mo)] [(.int (64 : Int32)), (.ref sa), (.long (own_bit (0 : Int32) (64 : Int32) (x2 &&& (255 : Int32)) (own_bit (0 : Int32) (64 : Int32) (x1 &&& (255 : Int32)) (own_bit (0 : Int32) (64 : Int32) (x0 &&& (255 : Int32)) (0 : Int64))))), (.ref bg), (.ref a)])) P3 (by
    intro tt_ kk_
    refine XS.aloadN X2.here hx rfl (hb hby d9_7) rfl rfl ?_
    refine XS.bipush X2.here hx rfl (hb hby d9_8) ?_
    exact kk_)
  obtain ⟨_, _, ⟨T5, L5, k5, n5⟩, -, X5, ⟨Lc5, hQ5, l5, y5, z5⟩, st5⟩ := Jvm.LawKit.callS X2 hx (y := (⟨"com/example/gatehouse/gatehouse/pattern/NameShape", "bits", "(Ljava/lang/String;I)J"⟩ : MethodName)) hown (mvT hZ (hw _ (List.mem_of_getElem? (i := 48) rfl))) (mvT hZ (hw _ (List.mem_of_getElem? (i := 49) rfl))) (mvT hZ (hw _ (List.mem_of_getElem? (i := 34) rfl))) (mvT hZ (hw _ (List.mem_of_getElem? (i := 50) rfl))) (by decide) (backOf (W := 4) (rm_bits3_64 l Z a0 hw [] sa sb sk x0 x1 x2 fm cs h0 n0 Z0 O Scs hcs Sfm hfm Es Fsc Fsv Vs hx0 hx1 hx2) hZ (hw _ (List.mem_of_getElem? (i := 50) rfl)) (hw _ (List.mem_of_getElem? (i := 34) rfl)) (by decide) (by decide)) (g := (mkF m 10 #[.val (.ref a), .val (.ref bg), .val (.ref sa), .val (.int le), .val (.int mo)] [(.int (64 : Int32)), (.ref sa), (.long (own_bit (0 : Int32) (64 : Int32) (x2 &&& (255 : Int32)) (own_bit (0 : Int32) (64 : Int32) (x1 &&& (255 : Int32)) (own_bit (0 : Int32) (64 : Int32) (x0 &&& (255 : Int32)) (0 : Int64))))), (.ref bg), (.ref a)])) rfl (by rw [hml]; rfl) (argsL := [(.ref sa), (.int (64 : Int32))]) (rest := [(.long (own_bit (0 : Int32) (64 : Int32) (x2 &&& (255 : Int32)) (own_bit (0 : Int32) (64 : Int32) (x1 &&& (255 : Int32)) (own_bit (0 : Int32) (64 : Int32) (x0 &&& (255 : Int32)) (0 : Int64))))), (.ref bg), (.ref a)]) (lenOf pd2 rfl) rfl (by show 2 * 0 + _ ≤ _; exact Nat.le_of_eq rfl) (hb hby d9_10) (fun _ _ => ⟨rfl, e2, (by decide : 0 + 0 ≤ _), (by decide : 0 + 0 ≤ _)⟩)
  dsimp only [Pt.U, Pt.locs, Pt.cells, Pt.slots] at X5 l5 y5 z5 st5 hQ5
  subst l5 y5 z5
  obtain ⟨rfl, N5q, e5⟩ := hQ5
  have N5 := Fr.app N2 N5q
  have P6 := own_step (C := T5.setTop (mkF m 13 #[.val (.ref a), .val (.ref bg), .val (.ref sa), .val (.int le), .val (.int mo)] [(.long (own_bit (64 : Int32) (128 : Int32) (x2 &&& (255 : Int32)) (own_bit (64 : Int32) (128 : Int32) (x1 &&& (255 : Int32)) (own_bit (64 : Int32) (128 : Int32) (x0 &&& (255 : Int32)) (0 : Int64))))), (.long (own_bit (0 : Int32) (64 : Int32) (x2 &&& (255 : Int32)) (own_bit (0 : Int32) (64 : Int32) (x1 &&& (255 : Int32)) (own_bit (0 : Int32) (64 : Int32) (x0 &&& (255 : Int32)) (0 : Int64))))), (.ref bg), (.ref a)])) P4 (fun t_ k_ => st5 t_ k_)
  have P7 := own_step (C := T5.setTop (mkF m 16 #[.val (.ref a), .val (.ref bg), .val (.ref sa), .val (.int le), .val (.int mo)] [(.int mo), (.int le), (.long (own_bit (64 : Int32) (128 : Int32) (x2 &&& (255 : Int32)) (own_bit (64 : Int32) (128 : Int32) (x1 &&& (255 : Int32)) (own_bit (64 : Int32) (128 : Int32) (x0 &&& (255 : Int32)) (0 : Int64))))), (.long (own_bit (0 : Int32) (64 : Int32) (x2 &&& (255 : Int32)) (own_bit (0 : Int32) (64 : Int32) (x1 &&& (255 : Int32)) (own_bit (0 : Int32) (64 : Int32) (x0 &&& (255 : Int32)) (0 : Int64))))), (.ref bg), (.ref a)])) P6 (by
    intro tt_ kk_
    refine XS.iloadN X5.here hx rfl (hb hby d9_13) rfl ?_
    refine XS.iload X5.here hx rfl (hb hby d9_14) rfl ?_
    exact kk_)
  obtain ⟨_, _, ⟨T8, L8, k8, n8⟩, -, X8, ⟨Lc8, hQ8, l8, y8, z8⟩, st8⟩ := X5.specialBack hx (y := (⟨"com/example/gatehouse/gatehouse/pattern/NameShape", "<init>", "(Ljava/lang/String;JJII)V"⟩ : MethodName)) rfl hown (mvT hZ (hw _ (List.mem_of_getElem? (i := 61) rfl))) (mvT hZ (hw _ (List.mem_of_getElem? (i := 62) rfl))) (mvT hZ (hw _ (List.mem_of_getElem? (i := 63) rfl))) (by decide) (backOf (W := 0) (rm_ns0 l Z a0 hw [] a bg (own_bit (0 : Int32) (64 : Int32) (x2 &&& (255 : Int32)) (own_bit (0 : Int32) (64 : Int32) (x1 &&& (255 : Int32)) (own_bit (0 : Int32) (64 : Int32) (x0 &&& (255 : Int32)) (0 : Int64)))) (own_bit (64 : Int32) (128 : Int32) (x2 &&& (255 : Int32)) (own_bit (64 : Int32) (128 : Int32) (x1 &&& (255 : Int32)) (own_bit (64 : Int32) (128 : Int32) (x0 &&& (255 : Int32)) (0 : Int64)))) le mo h0 n0 Z0 O Ea Fbegin Flow Fhigh Fleast Fmost ga) hZ (hw _ (List.mem_of_getElem? (i := 63) rfl)) (hw _ (List.mem_of_getElem? (i := 34) rfl)) (by decide) (by decide)) (g := (mkF m 16 #[.val (.ref a), .val (.ref bg), .val (.ref sa), .val (.int le), .val (.int mo)] [(.int mo), (.int le), (.long (own_bit (64 : Int32) (128 : Int32) (x2 &&& (255 : Int32)) (own_bit (64 : Int32) (128 : Int32) (x1 &&& (255 : Int32)) (own_bit (64 : Int32) (128 : Int32) (x0 &&& (255 : Int32)) (0 : Int64))))), (.long (own_bit (0 : Int32) (64 : Int32) (x2 &&& (255 : Int32)) (own_bit (0 : Int32) (64 : Int32) (x1 &&& (255 : Int32)) (own_bit (0 : Int32) (64 : Int32) (x0 &&& (255 : Int32)) (0 : Int64))))), (.ref bg), (.ref a)])) rfl (by rw [hml]; rfl) (Steps.refl _) (a := a) (argsL := [(.ref bg), (.long (own_bit (0 : Int32) (64 : Int32) (x2 &&& (255 : Int32)) (own_bit (0 : Int32) (64 : Int32) (x1 &&& (255 : Int32)) (own_bit (0 : Int32) (64 : Int32) (x0 &&& (255 : Int32)) (0 : Int64))))), (.long (own_bit (64 : Int32) (128 : Int32) (x2 &&& (255 : Int32)) (own_bit (64 : Int32) (128 : Int32) (x1 &&& (255 : Int32)) (own_bit (64 : Int32) (128 : Int32) (x0 &&& (255 : Int32)) (0 : Int64))))), (.int le), (.int mo)]) (rest := []) (lenOf pd3 rfl) rfl (by show 2 * 0 + _ ≤ _; exact Nat.le_of_eq rfl) (hb hby d9_16) (fun _ _ => ⟨rfl, e5, (by decide : 0 + 0 ≤ _), (by decide : 0 + 0 ≤ _)⟩)
  dsimp only [Pt.U, Pt.locs, Pt.cells, Pt.slots] at X8 l8 y8 z8 st8 hQ8
  subst l8 y8 z8
  obtain ⟨rfl, N8q, K8, f9, f10, f11⟩ := hQ8
  have N8 := Fr.app N5 N8q
  have f12 := O.keep K8 (allS ga all0)
  have f13 := Ea.keep K8
  have f14 := (Keep.refl h0 [a]).trans K8 (allS (Or.inl (List.mem_of_getElem? (i := 0) rfl)) all0)
  have f20 := Es.keep K8
  have f21 := Fsc.keep K8 (ninS ne_sa_a nin0)
  have f22 := Fsv.keep K8 (ninS ne_sa_a nin0)
  have f23 := Vs.keep K8 (ninS ne_sb_a nin0)
  have Z24 : n0 ≤ T8.heap.size := Nat.le_trans Z0 K8.1
  have P25 := own_step (C := T8.setTop (mkF m 19 #[.val (.ref a), .val (.ref bg), .val (.ref sa), .val (.int le), .val (.int mo)] [])) P7 (fun t_ k_ => st8.trans k_)
  have P26 := own_step (C := T8.setTop (mkF m 20 #[.val (.ref a), .val (.ref bg), .val (.ref sa), .val (.int le), .val (.int mo)] [(.int le)])) P25 (by
    intro tt_ kk_
    refine XS.iloadN X8.here hx rfl (hb hby d9_19) rfl ?_
    exact kk_)
  have P27 := own_step (C := T8.setTop (mkF m 23 #[.val (.ref a), .val (.ref bg), .val (.ref sa), .val (.int le), .val (.int mo)] [])) P26 (by
    intro tt_ kk_
    refine XS.ifNo X8.here hx rfl (hb hby d9_20) rfl ((if0 _ _).trans (flt hl).1) ?_
    exact kk_)
  have P28 := own_step (C := T8.setTop (mkF m 26 #[.val (.ref a), .val (.ref bg), .val (.ref sa), .val (.int le), .val (.int mo)] [(.int mo), (.int le)])) P27 (by
    intro tt_ kk_
    refine XS.iloadN X8.here hx rfl (hb hby d9_23) rfl ?_
    refine XS.iload X8.here hx rfl (hb hby d9_24) rfl ?_
    exact kk_)
  have P29 := own_step (C := T8.setTop (mkF m 45 #[.val (.ref a), .val (.ref bg), .val (.ref sa), .val (.int le), .val (.int mo)] [])) P28 (by
    intro tt_ kk_
    refine XS.icmpYes X8.here hx rfl (pc0 := 26) (pc' := 45) rfl (hb hby d9_26) rfl (flt hm).2.2.2 (by decide) (by decide) ?_
    exact kk_)
  obtain ⟨fs, hr, hrun, hended, hW, hsame⟩ := X8.leave (v := none) (fun _ => rfl)
  refine ⟨_, _, P29 _ ?_, hrun, hended, _, _, rfl, ?_, ⟨_, rfl⟩, hW, hsame.mono (by decide) (by decide)⟩
  · exact X8.returnOut hx Bd.returns (hb hby d9_45) hr
  · show Q_ns3 Z _ _ _ _ _ _ _ _ _ _ _ _ h0 n0 _ T8.heap _
    exact ⟨rfl, N8, f14, f9, f10, f11⟩
theorem d17_0 : decode jdk_52_method_21_code 0 = .ok (.iconst 0, 1) := by decide +kernel
theorem d17_1 : decode jdk_52_method_21_code 1 = .ok (.istore 5, 2) := by decide +kernel
theorem d17_3 : decode jdk_52_method_21_code 3 = .ok (.iload 5, 2) := by decide +kernel
theorem d17_5 : decode jdk_52_method_21_code 5 = .ok (.iload 4, 2) := by decide +kernel
theorem d17_7 : decode jdk_52_method_21_code 7 = .ok (.if_icmp .ge 37, 3) := by decide +kernel
theorem d17_10 : decode jdk_52_method_21_code 10 = .ok (.aload_n 0, 1) := by decide +kernel
theorem d17_11 : decode jdk_52_method_21_code 11 = .ok (.iload_n 1, 1) := by decide +kernel
theorem d17_12 : decode jdk_52_method_21_code 12 = .ok (.caload, 1) := by decide +kernel
theorem d17_13 : decode jdk_52_method_21_code 13 = .ok (.istore 6, 2) := by decide +kernel
theorem d17_15 : decode jdk_52_method_21_code 15 = .ok (.iload 6, 2) := by decide +kernel
theorem d17_17 : decode jdk_52_method_21_code 17 = .ok (.sipush 255, 3) := by decide +kernel
theorem d17_20 : decode jdk_52_method_21_code 20 = .ok (.if_icmp .le 6, 3) := by decide +kernel
theorem d17_26 : decode jdk_52_method_21_code 26 = .ok (.aload_n 2, 1) := by decide +kernel
theorem d17_27 : decode jdk_52_method_21_code 27 = .ok (.iload_n 3, 1) := by decide +kernel
theorem d17_28 : decode jdk_52_method_21_code 28 = .ok (.iload 6, 2) := by decide +kernel
theorem d17_30 : decode jdk_52_method_21_code 30 = .ok (.i2b, 1) := by decide +kernel
theorem d17_31 : decode jdk_52_method_21_code 31 = .ok (.bastore, 1) := by decide +kernel
theorem d17_32 : decode jdk_52_method_21_code 32 = .ok (.iinc 1 1, 3) := by decide +kernel
theorem d17_35 : decode jdk_52_method_21_code 35 = .ok (.iinc 3 1, 3) := by decide +kernel
theorem d17_38 : decode jdk_52_method_21_code 38 = .ok (.iinc 5 1, 3) := by decide +kernel
theorem d17_41 : decode jdk_52_method_21_code 41 = .ok (.goto (-38), 3) := by decide +kernel
theorem d17_44 : decode jdk_52_method_21_code 44 = .ok (.iload 4, 2) := by decide +kernel
theorem d17_46 : decode jdk_52_method_21_code 46 = .ok (.ireturn, 1) := by decide +kernel
theorem ef__comp2_1 (m : MethodId) (x0 : Addr) (x1 : Int32) (x2 : Addr) (x3 : Int32) (x4 : Int32) : entryFrame m #[(.ref x0), (.int x1), (.ref x2), (.int x3), (.int x4)] 7 = mkF m 0 #[.val (.ref x0), .val (.int x1), .val (.ref x2), .val (.int x3), .val (.int x4), .unset, .unset] [] := by first | (simp [entryFrame, mkF, argsToLocals, Value.category]; done) | rfl
def Q_comp2_1 (Z : State) (a : Addr) (ka : ClassId) (d : Addr) (kd : ClassId) (c0 : Int32) (h0 : Heap) (n0 : Nat) (v_ : Option Value) (h : Heap) (L_ : List Loc) : Prop := v_ = some (.int (1 : Int32)) ∧ Fr n0 L_ ∧ Keep h0 h [d] ∧ Arv Z h d kd .byte (1 : Int32) [(.int (c0.toInt8.toInt32).toInt8.toInt32)] (.int 0)
theorem pn4 : plainName "java/lang/StringUTF16" = true := by first | (simp [plainName, overriddenIn]; done) | decide +kernel
set_option maxRecDepth 65536 in
set_option maxHeartbeats 40000000 in
theorem rm_comp2_1 (l : Launch) (Z : State) (a0 : Array Value) (hw : ∀ d ∈ tables_1, d.before a0 Z = true) (ws : List Jvm.Cond) (a : Addr) (ka : ClassId) (d : Addr) (kd : ClassId) (c0 : Int32) (h0 : Heap) (n0 : Nat) (Z0 : n0 ≤ h0.size) (O : Old Z n0 h0) (Va : Arv Z h0 a ka .char (1 : Int32) [(.int c0)] (.int 0)) (Vd : Arv Z h0 d kd .byte (1 : Int32) [(.int (0 : Int32))] (.int 0)) (nad : a ≠ d) (gd : n0 ≤ d) (hc0 : ¬ ((255 : Int32) < c0)) :
    MetFree l (⟨"java/lang/StringUTF16", "compress", "([CI[BII)I"⟩ : MethodName) (head1 (Jvm.Cond.code (⟨"java/lang/StringUTF16", "compress", "([CI[BII)I"⟩ : MethodName) jdk_52_method_21_code 7 (some .int) :: ws) ({ frames := 0, cells := 0, slots := 0, locals := 0 } : Room)) (fun a_ U_ => a_ = #[(.ref a), (.int (0 : Int32)), (.ref d), (.int (0 : Int32)), (.int (1 : Int32))] ∧ Z.Warmed39 U_.vm ∧ U_.heap = h0) (fun _ _ _ _ _ => True) (fun _ U_ o_ V_ => ∃ v_ L_, o_ = .returned v_ ∧ Q_comp2_1 Z a ka d kd c0 h0 n0 v_ V_.heap L_ ∧ FrameEnd U_ o_ V_ L_ ({ frames := 0, cells := 0, slots := 0, locals := 0 } : Room).cells ({ frames := 0, cells := 0, slots := 0, locals := 0 } : Room).slots) := by
  refine MetFree.of_bodySF (plainFor_of_name pn4) hisR ?_
  intro p e s m args below meth c s₁ Bd hml0 hP hK
  obtain ⟨rfl, hZ, hh⟩ := hP
  have hx := Bd.exec
  have hby := Bd.bytes
  have hml : c.maxLocals = 7 := hml0
  have hown : s.vm.findClass "java/lang/StringUTF16" = some m.cls := findClass_of_methodNamed Bd.named
  have hnm := (name_of_methodNamed Bd.named Bd.method).1
  have X0 : Stand p l e ({ frames := 0, cells := 0, slots := 0, locals := 0 } : Room) s m #[(.ref a), (.int (0 : Int32)), (.ref d), (.int (0 : Int32)), (.int (1 : Int32))] below meth c s₁ [] 0 0 := Stand.of_body Bd
  have e0 : s₁.heap = h0 := by rw [← hh, Bd.state]; rfl
  have N0 := Fr.nil n0
  have pre0 : own_Go p e below (s₁.setTop (entryFrame m #[(.ref a), (.int (0 : Int32)), (.ref d), (.int (0 : Int32)), (.int (1 : Int32))] 7)) (s₁.setTop (mkF m 0 #[.val (.ref a), .val (.int (0 : Int32)), .val (.ref d), .val (.int (0 : Int32)), .val (.int (1 : Int32)), .unset, .unset] [])) := fun t_ k_ => castTop (ef__comp2_1 m a (0 : Int32) d (0 : Int32) (1 : Int32)) k_
  have P1 := own_step (C := s₁.setTop (mkF m 7 #[.val (.ref a), .val (.int (0 : Int32)), .val (.ref d), .val (.int (0 : Int32)), .val (.int (1 : Int32)), .val (.int (0 : Int32)), .unset] [(.int (1 : Int32)), (.int (0 : Int32))])) pre0 (by
    intro tt_ kk_
    refine XS.iconst X0.here hx rfl (hb hby d17_0) ?_
    refine XS.istore X0.here hx rfl (hb hby d17_1) rfl (l' := #[.val (.ref a), .val (.int (0 : Int32)), .val (.ref d), .val (.int (0 : Int32)), .val (.int (1 : Int32)), .val (.int (0 : Int32)), .unset]) rfl ?_
    refine XS.iload X0.here hx rfl (hb hby d17_3) rfl ?_
    refine XS.iload X0.here hx rfl (hb hby d17_5) rfl ?_
    exact kk_)
  have P2 := own_step (C := s₁.setTop (mkF m 10 #[.val (.ref a), .val (.int (0 : Int32)), .val (.ref d), .val (.int (0 : Int32)), .val (.int (1 : Int32)), .val (.int (0 : Int32)), .unset] [])) P1 (by
    intro tt_ kk_
    refine XS.icmpNo X0.here hx rfl (hb hby d17_7) rfl (tlt (by decide : (0 : Int32) < (1 : Int32))).2.1 ?_
    exact kk_)
  have P3 := own_step (C := s₁.setTop (mkF m 12 #[.val (.ref a), .val (.int (0 : Int32)), .val (.ref d), .val (.int (0 : Int32)), .val (.int (1 : Int32)), .val (.int (0 : Int32)), .unset] [(.int (0 : Int32)), (.ref a)])) P2 (by
    intro tt_ kk_
    refine XS.aloadN X0.here hx rfl (hb hby d17_10) rfl rfl ?_
    refine XS.iloadN X0.here hx rfl (hb hby d17_11) rfl ?_
    exact kk_)
  obtain ⟨cl4, Ar4, q4, S4, M4, H4, G4⟩ := id Va
  have hin4 := inb_of S4 (by decide : ¬ (0 : Int32) < 0 ∧ (0 : Int32) < (1 : Int32))
  have hat4 := Has.at H4 hin4 (v := .int c0) rfl
  have P5 := own_step (C := s₁.setTop (mkF m 13 #[.val (.ref a), .val (.int (0 : Int32)), .val (.ref d), .val (.int (0 : Int32)), .val (.int (1 : Int32)), .val (.int (0 : Int32)), .unset] [(.int c0)])) P3 (by
    intro tt_ kk_
    refine X0.caload hx (j := (0 : Int32)) (v := (.int c0)) (by rw [e0]; exact Ar4.1) (State.isArrayOf_alike hZ.alike Ar4.2.1) Ar4.2.2 hin4 hat4 (g := (mkF m 12 #[.val (.ref a), .val (.int (0 : Int32)), .val (.ref d), .val (.int (0 : Int32)), .val (.int (1 : Int32)), .val (.int (0 : Int32)), .unset] [(.int (0 : Int32)), (.ref a)])) rfl rfl (hb hby d17_12) _ ?_
    exact kk_)
  have P6 := own_step (C := s₁.setTop (mkF m 20 #[.val (.ref a), .val (.int (0 : Int32)), .val (.ref d), .val (.int (0 : Int32)), .val (.int (1 : Int32)), .val (.int (0 : Int32)), .val (.int c0)] [(.int (255 : Int32)), (.int c0)])) P5 (by
    intro tt_ kk_
    refine XS.istore X0.here hx rfl (hb hby d17_13) rfl (l' := #[.val (.ref a), .val (.int (0 : Int32)), .val (.ref d), .val (.int (0 : Int32)), .val (.int (1 : Int32)), .val (.int (0 : Int32)), .val (.int c0)]) rfl ?_
    refine XS.iload X0.here hx rfl (hb hby d17_15) rfl ?_
    refine XS.sipush X0.here hx rfl (hb hby d17_17) ?_
    exact kk_)
  have P7 := own_step (C := s₁.setTop (mkF m 26 #[.val (.ref a), .val (.int (0 : Int32)), .val (.ref d), .val (.int (0 : Int32)), .val (.int (1 : Int32)), .val (.int (0 : Int32)), .val (.int c0)] [])) P6 (by
    intro tt_ kk_
    refine XS.icmpYes X0.here hx rfl (pc0 := 20) (pc' := 26) rfl (hb hby d17_20) rfl (flt hc0).2.2.2 (by decide) (by decide) ?_
    exact kk_)
  have P8 := own_step (C := s₁.setTop (mkF m 31 #[.val (.ref a), .val (.int (0 : Int32)), .val (.ref d), .val (.int (0 : Int32)), .val (.int (1 : Int32)), .val (.int (0 : Int32)), .val (.int c0)] [(.int (c0.toInt8.toInt32)), (.int (0 : Int32)), (.ref d)])) P7 (by
    intro tt_ kk_
    refine XS.aloadN X0.here hx rfl (hb hby d17_26) rfl rfl ?_
    refine XS.iloadN X0.here hx rfl (hb hby d17_27) rfl ?_
    refine XS.iload X0.here hx rfl (hb hby d17_28) rfl ?_
    refine XS.i2b X0.here hx rfl (hb hby d17_30) rfl ?_
    exact kk_)
  obtain ⟨cl9, Ar9, q9, S9, M9, H9, G9⟩ := id Vd
  obtain ⟨T10, h10, X10, e10, W10, st10⟩ := stB X0 hx hZ e0 Ar9 (j := (0 : Int32)) (inb_of S9 (by decide : ¬ (0 : Int32) < 0 ∧ (0 : Int32) < (1 : Int32))) (g := (mkF m 31 #[.val (.ref a), .val (.int (0 : Int32)), .val (.ref d), .val (.int (0 : Int32)), .val (.int (1 : Int32)), .val (.int (0 : Int32)), .val (.int c0)] [(.int (c0.toInt8.toInt32)), (.int (0 : Int32)), (.ref d)])) rfl rfl (hb hby d17_31)
  have f11 := O.wr W10 gd
  have f12 := Va.other W10 nad
  have f14 := (Keep.refl h0 [d]).wr W10 (Or.inl (List.mem_of_getElem? (i := 0) rfl))
  have Z15 : n0 ≤ h10.size := Nat.le_trans Z0 (Keep.of_wr W10).1
  have V10 : Arv Z h10 d kd .byte (1 : Int32) [(.int (c0.toInt8.toInt32).toInt8.toInt32)] (.int 0) := Arv.set Ar9 q9 S9 M9 H9 G9 (fits_nar_byte _) W10 0 rfl (Nat.le_of_ble_eq_true rfl)
  have N10 := Fr.snoc X10 N0 gd
  have P16 := own_step (C := T10.setTop (mkF m 32 #[.val (.ref a), .val (.int (0 : Int32)), .val (.ref d), .val (.int (0 : Int32)), .val (.int (1 : Int32)), .val (.int (0 : Int32)), .val (.int c0)] [])) P8 (fun t_ k_ => st10 t_ k_)
  have P17 := own_step (C := T10.setTop (mkF m 7 #[.val (.ref a), .val (.int (1 : Int32)), .val (.ref d), .val (.int (1 : Int32)), .val (.int (1 : Int32)), .val (.int (1 : Int32)), .val (.int c0)] [(.int (1 : Int32)), (.int (1 : Int32))])) P16 (by
    intro tt_ kk_
    refine XS.iinc X10.here hx rfl (hb hby d17_32) rfl (l' := #[.val (.ref a), .val (.int (1 : Int32)), .val (.ref d), .val (.int (0 : Int32)), .val (.int (1 : Int32)), .val (.int (0 : Int32)), .val (.int c0)]) rfl ?_
    show Steps p.tables e below (T10.setTop (mkF m 35 #[.val (.ref a), .val (.int (1 : Int32)), .val (.ref d), .val (.int (0 : Int32)), .val (.int (1 : Int32)), .val (.int (0 : Int32)), .val (.int c0)] [])) _
    refine XS.iinc X10.here hx rfl (hb hby d17_35) rfl (l' := #[.val (.ref a), .val (.int (1 : Int32)), .val (.ref d), .val (.int (1 : Int32)), .val (.int (1 : Int32)), .val (.int (0 : Int32)), .val (.int c0)]) rfl ?_
    show Steps p.tables e below (T10.setTop (mkF m 38 #[.val (.ref a), .val (.int (1 : Int32)), .val (.ref d), .val (.int (1 : Int32)), .val (.int (1 : Int32)), .val (.int (0 : Int32)), .val (.int c0)] [])) _
    refine XS.iinc X10.here hx rfl (hb hby d17_38) rfl (l' := #[.val (.ref a), .val (.int (1 : Int32)), .val (.ref d), .val (.int (1 : Int32)), .val (.int (1 : Int32)), .val (.int (1 : Int32)), .val (.int c0)]) rfl ?_
    show Steps p.tables e below (T10.setTop (mkF m 41 #[.val (.ref a), .val (.int (1 : Int32)), .val (.ref d), .val (.int (1 : Int32)), .val (.int (1 : Int32)), .val (.int (1 : Int32)), .val (.int c0)] [])) _
    refine XS.goto X10.here hx rfl (pc0 := 41) (pc' := 3) rfl (hb hby d17_41) (by decide) (by decide) ?_
    refine XS.iload X10.here hx rfl (hb hby d17_3) rfl ?_
    refine XS.iload X10.here hx rfl (hb hby d17_5) rfl ?_
    exact kk_)
  have P18 := own_step (C := T10.setTop (mkF m 44 #[.val (.ref a), .val (.int (1 : Int32)), .val (.ref d), .val (.int (1 : Int32)), .val (.int (1 : Int32)), .val (.int (1 : Int32)), .val (.int c0)] [])) P17 (by
    intro tt_ kk_
    refine XS.icmpYes X10.here hx rfl (pc0 := 7) (pc' := 44) rfl (hb hby d17_7) rfl (flt (by decide : ¬ ((1 : Int32) < (1 : Int32)))).2.1 (by decide) (by decide) ?_
    exact kk_)
  have P19 := own_step (C := T10.setTop (mkF m 46 #[.val (.ref a), .val (.int (1 : Int32)), .val (.ref d), .val (.int (1 : Int32)), .val (.int (1 : Int32)), .val (.int (1 : Int32)), .val (.int c0)] [(.int (1 : Int32))])) P18 (by
    intro tt_ kk_
    refine XS.iload X10.here hx rfl (hb hby d17_44) rfl ?_
    exact kk_)
  obtain ⟨fs, hr, hrun, hended, hW, hsame⟩ := X10.leave (v := some (.int (1 : Int32))) (fun h => by rw [Bd.returns] at h; cases h)
  refine ⟨_, _, P19 _ ?_, hrun, hended, _, _, rfl, ?_, ⟨_, rfl⟩, hW, hsame.mono (by decide) (by decide)⟩
  · exact retI X10 hx Bd.returns (hb hby d17_46) hr
  · show Q_comp2_1 Z _ _ _ _ _ h0 n0 _ T10.heap _
    rw [e10]
    exact ⟨rfl, N10, f14, V10⟩
theorem pd9 : parseMethodDescriptor "([CI[BII)I" = some ⟨[(.array .char), .int, (.array .byte), .int, .int], some .int⟩ := by decide +kernel
theorem d16_0 : decode jdk_52_method_16_code 0 = .ok (.iload_n 2, 1) := by decide +kernel
theorem d16_1 : decode jdk_52_method_16_code 1 = .ok (.newarray .byte, 2) := by decide +kernel
theorem d16_3 : decode jdk_52_method_16_code 3 = .ok (.astore_n 3, 1) := by decide +kernel
theorem d16_4 : decode jdk_52_method_16_code 4 = .ok (.aload_n 0, 1) := by decide +kernel
theorem d16_5 : decode jdk_52_method_16_code 5 = .ok (.iload_n 1, 1) := by decide +kernel
theorem d16_6 : decode jdk_52_method_16_code 6 = .ok (.aload_n 3, 1) := by decide +kernel
theorem d16_7 : decode jdk_52_method_16_code 7 = .ok (.iconst 0, 1) := by decide +kernel
theorem d16_8 : decode jdk_52_method_16_code 8 = .ok (.iload_n 2, 1) := by decide +kernel
theorem d16_9 : decode jdk_52_method_16_code 9 = .ok (.invokestatic 115, 3) := by decide +kernel
theorem d16_12 : decode jdk_52_method_16_code 12 = .ok (.istore 4, 2) := by decide +kernel
theorem d16_14 : decode jdk_52_method_16_code 14 = .ok (.iload 4, 2) := by decide +kernel
theorem d16_16 : decode jdk_52_method_16_code 16 = .ok (.iload_n 2, 1) := by decide +kernel
theorem d16_17 : decode jdk_52_method_16_code 17 = .ok (.if_icmp .eq 40, 3) := by decide +kernel
theorem d16_57 : decode jdk_52_method_16_code 57 = .ok (.aload_n 3, 1) := by decide +kernel
theorem d16_58 : decode jdk_52_method_16_code 58 = .ok (.areturn, 1) := by decide +kernel
theorem ef__comp_1 (m : MethodId) (x0 : Addr) (x1 : Int32) (x2 : Int32) : entryFrame m #[(.ref x0), (.int x1), (.int x2)] 6 = mkF m 0 #[.val (.ref x0), .val (.int x1), .val (.int x2), .unset, .unset, .unset] [] := by first | (simp [entryFrame, mkF, argsToLocals, Value.category]; done) | rfl
def Q_comp_1 (Z : State) (a : Addr) (ka : ClassId) (c0 : Int32) (h0 : Heap) (n0 : Nat) (v_ : Option Value) (h : Heap) (L_ : List Loc) : Prop := ∃ (x : Addr) (kk : ClassId), v_ = some (.ref x) ∧ Fr n0 L_ ∧ Keep h0 h [] ∧ h0.size ≤ x ∧ Arv Z h x kk .byte (1 : Int32) [(.int (c0.toInt8.toInt32).toInt8.toInt32)] (.int 0)
set_option maxRecDepth 65536 in
set_option maxHeartbeats 40000000 in
theorem rm_comp_1 (l : Launch) (Z : State) (a0 : Array Value) (hw : ∀ d ∈ tables_1, d.before a0 Z = true) (ws : List Jvm.Cond) (a : Addr) (ka : ClassId) (c0 : Int32) (h0 : Heap) (n0 : Nat) (Z0 : n0 ≤ h0.size) (O : Old Z n0 h0) (Va : Arv Z h0 a ka .char (1 : Int32) [(.int c0)] (.int 0)) (hc0 : ¬ ((255 : Int32) < c0)) :
    MetFree l (⟨"java/lang/StringUTF16", "compress", "([CII)[B"⟩ : MethodName) (head1 (Jvm.Cond.code (⟨"java/lang/StringUTF16", "compress", "([CII)[B"⟩ : MethodName) jdk_52_method_16_code 6 (some (.array .byte)) :: ws) ({ frames := 1, cells := 1, slots := 1, locals := 18 } : Room)) (fun a_ U_ => a_ = #[(.ref a), (.int (0 : Int32)), (.int (1 : Int32))] ∧ Z.Warmed39 U_.vm ∧ U_.heap = h0) (fun _ _ _ _ _ => True) (fun _ U_ o_ V_ => ∃ v_ L_, o_ = .returned v_ ∧ Q_comp_1 Z a ka c0 h0 n0 v_ V_.heap L_ ∧ FrameEnd U_ o_ V_ L_ ({ frames := 1, cells := 1, slots := 1, locals := 18 } : Room).cells ({ frames := 1, cells := 1, slots := 1, locals := 18 } : Room).slots) := by
  refine MetFree.of_bodySF (plainFor_of_name pn4) hisR ?_
  intro p e s m args below meth c s₁ Bd hml0 hP hK
  obtain ⟨rfl, hZ, hh⟩ := hP
  have hx := Bd.exec
  have hby := Bd.bytes
  have hml : c.maxLocals = 6 := hml0
  have hown : s.vm.findClass "java/lang/StringUTF16" = some m.cls := findClass_of_methodNamed Bd.named
  have hnm := (name_of_methodNamed Bd.named Bd.method).1
  have X0 : Stand p l e ({ frames := 1, cells := 1, slots := 1, locals := 18 } : Room) s m #[(.ref a), (.int (0 : Int32)), (.int (1 : Int32))] below meth c s₁ [] 0 0 := Stand.of_body Bd
  have e0 : s₁.heap = h0 := by rw [← hh, Bd.state]; rfl
  have N0 := Fr.nil n0
  have pre0 : own_Go p e below (s₁.setTop (entryFrame m #[(.ref a), (.int (0 : Int32)), (.int (1 : Int32))] 6)) (s₁.setTop (mkF m 0 #[.val (.ref a), .val (.int (0 : Int32)), .val (.int (1 : Int32)), .unset, .unset, .unset] [])) := fun t_ k_ => castTop (ef__comp_1 m a (0 : Int32) (1 : Int32)) k_
  have P1 := own_step (C := s₁.setTop (mkF m 1 #[.val (.ref a), .val (.int (0 : Int32)), .val (.int (1 : Int32)), .unset, .unset, .unset] [(.int (1 : Int32))])) pre0 (by
    intro tt_ kk_
    refine XS.iloadN X0.here hx rfl (hb hby d16_0) rfl ?_
    exact kk_)
  obtain ⟨T2, h2, k2, X2, e2, E2, A2, st2⟩ := newP X0 hx hZ (hw _ (List.mem_of_getElem? (i := 20) rfl)) e0 (g := (mkF m 1 #[.val (.ref a), .val (.int (0 : Int32)), .val (.int (1 : Int32)), .unset, .unset, .unset] [(.int (1 : Int32))])) rfl (hb hby d16_1) rfl (by decide) (cap := 1) (by decide) (by decide) (by decide) (by decide)
  obtain ⟨b2, g2⟩ : ∃ z, z = h0.size := ⟨_, rfl⟩
  rw [← g2] at A2 st2
  have ne_a_b2 : a ≠ b2 := Nat.ne_of_lt (Nat.lt_of_lt_of_le Va.lt (Nat.le_of_eq g2.symm))
  have g_b2 : n0 ≤ b2 := Nat.le_trans Z0 (Nat.le_of_eq g2.symm)
  have sz_b2 : h0.size ≤ b2 := Nat.le_trans (Keep.refl h0 []).1 (Nat.le_of_eq g2.symm)
  have f3 := O.ext E2
  have f4 := (Keep.refl h0 []).ext E2
  have f5 := Va.ext E2
  have Z6 : n0 ≤ h2.size := Nat.le_trans Z0 E2.1
  have V2 : Arv Z h2 b2 k2 .byte (1 : Int32) [(.int (0 : Int32))] (.int (0 : Int32)) := (Arv.new A2 (by decide)).pad (pad_rep [] _ 1)
  have P7 := own_step (C := T2.setTop (mkF m 3 #[.val (.ref a), .val (.int (0 : Int32)), .val (.int (1 : Int32)), .unset, .unset, .unset] [(.ref b2)])) P1 (fun t_ k_ => st2 t_ k_)
  have P8 := own_step (C := T2.setTop (mkF m 9 #[.val (.ref a), .val (.int (0 : Int32)), .val (.int (1 : Int32)), .val (.ref b2), .unset, .unset] [(.int (1 : Int32)), (.int (0 : Int32)), (.ref b2), (.int (0 : Int32)), (.ref a)])) P7 (by
    intro tt_ kk_
    refine XS.astoreN X2.here hx rfl (hb hby d16_3) rfl rfl (l' := #[.val (.ref a), .val (.int (0 : Int32)), .val (.int (1 : Int32)), .val (.ref b2), .unset, .unset]) rfl ?_
    refine XS.aloadN X2.here hx rfl (hb hby d16_4) rfl rfl ?_
    refine XS.iloadN X2.here hx rfl (hb hby d16_5) rfl ?_
    refine XS.aloadN X2.here hx rfl (hb hby d16_6) rfl rfl ?_
    refine XS.iconst X2.here hx rfl (hb hby d16_7) ?_
    refine XS.iloadN X2.here hx rfl (hb hby d16_8) rfl ?_
    exact kk_)
  obtain ⟨_, _, ⟨T9, L9, k9, n9⟩, -, X9, ⟨Lc9, hQ9, l9, y9, z9⟩, st9⟩ := Jvm.LawKit.callS X2 hx (y := (⟨"java/lang/StringUTF16", "compress", "([CI[BII)I"⟩ : MethodName)) hown (mvT hZ (hw _ (List.mem_of_getElem? (i := 88) rfl))) (mvT hZ (hw _ (List.mem_of_getElem? (i := 89) rfl))) (mvT hZ (hw _ (List.mem_of_getElem? (i := 86) rfl))) (mvT hZ (hw _ (List.mem_of_getElem? (i := 90) rfl))) (by decide) (backOf (W := 0) (rm_comp2_1 l Z a0 hw [] a ka b2 k2 c0 h2 n0 Z6 f3 f5 V2 ne_a_b2 g_b2 hc0) hZ (hw _ (List.mem_of_getElem? (i := 90) rfl)) (hw _ (List.mem_of_getElem? (i := 86) rfl)) (by decide) (by decide)) (g := (mkF m 9 #[.val (.ref a), .val (.int (0 : Int32)), .val (.int (1 : Int32)), .val (.ref b2), .unset, .unset] [(.int (1 : Int32)), (.int (0 : Int32)), (.ref b2), (.int (0 : Int32)), (.ref a)])) rfl (by rw [hml]; rfl) (argsL := [(.ref a), (.int (0 : Int32)), (.ref b2), (.int (0 : Int32)), (.int (1 : Int32))]) (rest := []) (lenOf pd9 rfl) rfl (by show 2 * 0 + _ ≤ _; exact Nat.le_of_eq rfl) (hb hby d16_9) (fun _ _ => ⟨rfl, e2, (by decide : 1 + 0 ≤ _), (by decide : 1 + 0 ≤ _)⟩)
  dsimp only [Pt.U, Pt.locs, Pt.cells, Pt.slots] at X9 l9 y9 z9 st9 hQ9
  subst l9 y9 z9
  obtain ⟨rfl, N9q, K9, f10⟩ := hQ9
  have N9 := Fr.app N0 N9q
  have f11 := f3.keep K9 (allS g_b2 all0)
  have f12 := f4.trans K9 (allS (Or.inr sz_b2) all0)
  have f13 := f5.keep K9 (ninS ne_a_b2 nin0)
  have Z15 : n0 ≤ T9.heap.size := Nat.le_trans Z6 K9.1
  have P16 := own_step (C := T9.setTop (mkF m 12 #[.val (.ref a), .val (.int (0 : Int32)), .val (.int (1 : Int32)), .val (.ref b2), .unset, .unset] [(.int (1 : Int32))])) P8 (fun t_ k_ => st9 t_ k_)
  have P17 := own_step (C := T9.setTop (mkF m 17 #[.val (.ref a), .val (.int (0 : Int32)), .val (.int (1 : Int32)), .val (.ref b2), .val (.int (1 : Int32)), .unset] [(.int (1 : Int32)), (.int (1 : Int32))])) P16 (by
    intro tt_ kk_
    refine XS.istore X9.here hx rfl (hb hby d16_12) rfl (l' := #[.val (.ref a), .val (.int (0 : Int32)), .val (.int (1 : Int32)), .val (.ref b2), .val (.int (1 : Int32)), .unset]) rfl ?_
    refine XS.iload X9.here hx rfl (hb hby d16_14) rfl ?_
    refine XS.iloadN X9.here hx rfl (hb hby d16_16) rfl ?_
    exact kk_)
  have P18 := own_step (C := T9.setTop (mkF m 57 #[.val (.ref a), .val (.int (0 : Int32)), .val (.int (1 : Int32)), .val (.ref b2), .val (.int (1 : Int32)), .unset] [])) P17 (by
    intro tt_ kk_
    refine XS.icmpYes X9.here hx rfl (pc0 := 17) (pc' := 57) rfl (hb hby d16_17) rfl (teq (by decide : (1 : Int32) = (1 : Int32))).1 (by decide) (by decide) ?_
    exact kk_)
  have P19 := own_step (C := T9.setTop (mkF m 58 #[.val (.ref a), .val (.int (0 : Int32)), .val (.int (1 : Int32)), .val (.ref b2), .val (.int (1 : Int32)), .unset] [(.ref b2)])) P18 (by
    intro tt_ kk_
    refine XS.aloadN X9.here hx rfl (hb hby d16_57) rfl rfl ?_
    exact kk_)
  obtain ⟨fs, hr, hrun, hended, hW, hsame⟩ := X9.leave (v := some (.ref b2)) (fun h => by rw [Bd.returns] at h; cases h)
  refine ⟨_, _, P19 _ ?_, hrun, hended, _, _, rfl, ?_, ⟨_, rfl⟩, hW, hsame.mono (by decide) (by decide)⟩
  · jvm_step X9.here [X9.here.top, hx, (hb hby d16_58), X9.method', Bd.returns, Value.isRef, FieldType.isReference]
    first | (intro acts; rw [hr _ acts rfl rfl rfl]) | rw [hr _ _ rfl rfl rfl]
    exact Steps.refl _
  · show Q_comp_1 Z _ _ _ h0 n0 _ T9.heap _
    exact ⟨b2, k2, rfl, N9, f12, sz_b2, f10⟩
theorem d18_0 : decode jdk_52_method_15_code 0 = .ok (.iload_n 1, 1) := by decide +kernel
theorem d18_1 : decode jdk_52_method_15_code 1 = .ok (.aload_n 0, 1) := by decide +kernel
theorem d18_2 : decode jdk_52_method_15_code 2 = .ok (.arraylength, 1) := by decide +kernel
theorem d18_3 : decode jdk_52_method_15_code 3 = .ok (.isub, 1) := by decide +kernel
theorem d18_4 : decode jdk_52_method_15_code 4 = .ok (.bipush 31, 2) := by decide +kernel
theorem d18_6 : decode jdk_52_method_15_code 6 = .ok (.iushr, 1) := by decide +kernel
theorem d18_7 : decode jdk_52_method_15_code 7 = .ok (.i2b, 1) := by decide +kernel
theorem d18_8 : decode jdk_52_method_15_code 8 = .ok (.ireturn, 1) := by decide +kernel
theorem ef__cfa_1 (m : MethodId) (x0 : Addr) (x1 : Int32) : entryFrame m #[(.ref x0), (.int x1)] 2 = mkF m 0 #[.val (.ref x0), .val (.int x1)] [] := by first | (simp [entryFrame, mkF, argsToLocals, Value.category]; done) | rfl
def Q_cfa_1 (Z : State) (b : Addr) (k : ClassId) (vs : List Value) (h0 : Heap) (n0 : Nat) (v_ : Option Value) (h : Heap) (L_ : List Loc) : Prop := v_ = some (.int (0 : Int32)) ∧ Fr n0 L_ ∧ h = h0
set_option maxRecDepth 65536 in
set_option maxHeartbeats 40000000 in
theorem rm_cfa_1 (l : Launch) (Z : State) (a0 : Array Value) (hw : ∀ d ∈ tables_1, d.before a0 Z = true) (ws : List Jvm.Cond) (b : Addr) (k : ClassId) (vs : List Value) (h0 : Heap) (n0 : Nat) (Z0 : n0 ≤ h0.size) (Vb : Arv Z h0 b k .byte (1 : Int32) vs (.int 0)) :
    MetFree l (⟨"java/lang/StringUTF16", "coderFromArrayLen", "([BI)B"⟩ : MethodName) (head1 (Jvm.Cond.code (⟨"java/lang/StringUTF16", "coderFromArrayLen", "([BI)B"⟩ : MethodName) jdk_52_method_15_code 2 (some .byte) :: ws) ({ frames := 0, cells := 0, slots := 0, locals := 0 } : Room)) (fun a_ U_ => a_ = #[(.ref b), (.int (1 : Int32))] ∧ Z.Warmed39 U_.vm ∧ U_.heap = h0) (fun _ _ _ _ _ => True) (fun _ U_ o_ V_ => ∃ v_ L_, o_ = .returned v_ ∧ Q_cfa_1 Z b k vs h0 n0 v_ V_.heap L_ ∧ FrameEnd U_ o_ V_ L_ ({ frames := 0, cells := 0, slots := 0, locals := 0 } : Room).cells ({ frames := 0, cells := 0, slots := 0, locals := 0 } : Room).slots) := by
  refine MetFree.of_bodySF (plainFor_of_name pn4) hisR ?_
  intro p e s m args below meth c s₁ Bd hml0 hP hK
  obtain ⟨rfl, hZ, hh⟩ := hP
  have hx := Bd.exec
  have hby := Bd.bytes
  have hml : c.maxLocals = 2 := hml0
  have hown : s.vm.findClass "java/lang/StringUTF16" = some m.cls := findClass_of_methodNamed Bd.named
  have hnm := (name_of_methodNamed Bd.named Bd.method).1
  have X0 : Stand p l e ({ frames := 0, cells := 0, slots := 0, locals := 0 } : Room) s m #[(.ref b), (.int (1 : Int32))] below meth c s₁ [] 0 0 := Stand.of_body Bd
  have e0 : s₁.heap = h0 := by rw [← hh, Bd.state]; rfl
  have N0 := Fr.nil n0
  have pre0 : own_Go p e below (s₁.setTop (entryFrame m #[(.ref b), (.int (1 : Int32))] 2)) (s₁.setTop (mkF m 0 #[.val (.ref b), .val (.int (1 : Int32))] [])) := fun t_ k_ => castTop (ef__cfa_1 m b (1 : Int32)) k_
  have P1 := own_step (C := s₁.setTop (mkF m 2 #[.val (.ref b), .val (.int (1 : Int32))] [(.ref b), (.int (1 : Int32))])) pre0 (by
    intro tt_ kk_
    refine XS.iloadN X0.here hx rfl (hb hby d18_0) rfl ?_
    refine XS.aloadN X0.here hx rfl (hb hby d18_1) rfl rfl ?_
    exact kk_)
  obtain ⟨cl2, Ar2, q2, S2, M2, H2, G2⟩ := id Vb
  have P3 := own_step (C := s₁.setTop (mkF m 3 #[.val (.ref b), .val (.int (1 : Int32))] [(.int (1 : Int32)), (.int (1 : Int32))])) P1 (by
    intro tt_ kk_
    refine X0.arraylength hx (by rw [e0]; exact Ar2.1) (State.isArrayOf_alike hZ.alike Ar2.2.1) (g := (mkF m 2 #[.val (.ref b), .val (.int (1 : Int32))] [(.ref b), (.int (1 : Int32))])) rfl rfl (hb hby d18_2) _ ?_
    rw [len_of S2 M2]
    exact kk_)
  have P4 := own_step (C := s₁.setTop (mkF m 8 #[.val (.ref b), .val (.int (1 : Int32))] [(.int ((((0 : Int32).toUInt32 >>> ((31 : Int32) &&& 31).toUInt32).toInt32).toInt8.toInt32))])) P3 (by
    intro tt_ kk_
    refine XS.isub X0.here hx rfl (hb hby d18_3) rfl ?_
    show Steps p.tables e below (s₁.setTop (mkF m 4 #[.val (.ref b), .val (.int (1 : Int32))] [(.int (0 : Int32))])) _
    refine XS.bipush X0.here hx rfl (hb hby d18_4) ?_
    refine XS.iushr X0.here hx rfl (hb hby d18_6) rfl ?_
    refine XS.i2b X0.here hx rfl (hb hby d18_7) rfl ?_
    exact kk_)
  obtain ⟨fs, hr, hrun, hended, hW, hsame⟩ := X0.leave (v := some (.int (nar .byte ((((0 : Int32).toUInt32 >>> ((31 : Int32) &&& 31).toUInt32).toInt32).toInt8.toInt32)))) (fun h => by rw [Bd.returns] at h; cases h)
  refine ⟨_, _, P4 _ ?_, hrun, hended, _, _, rfl, ?_, ⟨_, rfl⟩, hW, hsame.mono (by decide) (by decide)⟩
  · exact retN X0 hx (t := .byte) Bd.returns (by simp) (hb hby d18_8) hr
  · show Q_cfa_1 Z _ _ _ h0 n0 _ s₁.heap _
    rw [e0]
    exact ⟨(congrArg (fun z : Int32 => some (Value.int z)) (by decide +kernel)), N0, rfl⟩
theorem pd10 : parseMethodDescriptor "([CII)[B" = some ⟨[(.array .char), .int, .int], some (.array .byte)⟩ := by decide +kernel
theorem pd11 : parseMethodDescriptor "([BI)B" = some ⟨[(.array .byte), .int], some .byte⟩ := by decide +kernel
theorem d8_0 : decode jdk_42_method_149_code 0 = .ok (.aload_n 0, 1) := by decide +kernel
theorem d8_1 : decode jdk_42_method_149_code 1 = .ok (.invokespecial 1, 3) := by decide +kernel
theorem d8_4 : decode jdk_42_method_149_code 4 = .ok (.iload_n 3, 1) := by decide +kernel
theorem d8_5 : decode jdk_42_method_149_code 5 = .ok (.ifCond .ne 22, 3) := by decide +kernel
theorem d8_27 : decode jdk_42_method_149_code 27 = .ok (.getstatic 38, 3) := by decide +kernel
theorem d8_30 : decode jdk_42_method_149_code 30 = .ok (.ifCond .eq 28, 3) := by decide +kernel
theorem d8_33 : decode jdk_42_method_149_code 33 = .ok (.aload_n 1, 1) := by decide +kernel
theorem d8_34 : decode jdk_42_method_149_code 34 = .ok (.iload_n 2, 1) := by decide +kernel
theorem d8_35 : decode jdk_42_method_149_code 35 = .ok (.iload_n 3, 1) := by decide +kernel
theorem d8_36 : decode jdk_42_method_149_code 36 = .ok (.invokestatic 177, 3) := by decide +kernel
theorem d8_39 : decode jdk_42_method_149_code 39 = .ok (.astore 5, 2) := by decide +kernel
theorem d8_41 : decode jdk_42_method_149_code 41 = .ok (.aload_n 0, 1) := by decide +kernel
theorem d8_42 : decode jdk_42_method_149_code 42 = .ok (.aload 5, 2) := by decide +kernel
theorem d8_44 : decode jdk_42_method_149_code 44 = .ok (.iload_n 3, 1) := by decide +kernel
theorem d8_45 : decode jdk_42_method_149_code 45 = .ok (.invokestatic 47, 3) := by decide +kernel
theorem d8_48 : decode jdk_42_method_149_code 48 = .ok (.putfield 15, 3) := by decide +kernel
theorem d8_51 : decode jdk_42_method_149_code 51 = .ok (.aload_n 0, 1) := by decide +kernel
theorem d8_52 : decode jdk_42_method_149_code 52 = .ok (.aload 5, 2) := by decide +kernel
theorem d8_54 : decode jdk_42_method_149_code 54 = .ok (.putfield 9, 3) := by decide +kernel
theorem d8_57 : decode jdk_42_method_149_code 57 = .ok (.return_, 1) := by decide +kernel
theorem ef__initV_1 (m : MethodId) (x0 : Addr) (x1 : Addr) (x2 : Int32) (x3 : Int32) : entryFrame m #[(.ref x0), (.ref x1), (.int x2), (.int x3), .null] 6 = mkF m 0 #[.val (.ref x0), .val (.ref x1), .val (.int x2), .val (.int x3), .val .null, .unset] [] := by first | (simp [entryFrame, mkF, argsToLocals, Value.category]; done) | rfl
def Q_initV_1 (Z : State) (a : Addr) (ca : Addr) (ka : ClassId) (c0 : Int32) (cs : Int32) (h0 : Heap) (n0 : Nat) (v_ : Option Value) (h : Heap) (L_ : List Loc) : Prop := ∃ (x : Addr) (kk : ClassId), v_ = none ∧ Fr n0 L_ ∧ Keep h0 h [a] ∧ Exa Z h a "java/lang/String" ∧ Fld Z h a "java/lang/String" "coder" "B" (.int (0 : Int32)) ∧ Fld Z h a "java/lang/String" "value" "[B" (.ref x) ∧ Arv Z h x kk .byte (1 : Int32) [(.int (c0.toInt8.toInt32).toInt8.toInt32)] (.int 0) ∧ h0.size ≤ x
set_option maxRecDepth 65536 in
set_option maxHeartbeats 40000000 in
theorem rm_initV_1 (l : Launch) (Z : State) (a0 : Array Value) (hw : ∀ d ∈ tables_1, d.before a0 Z = true) (ws : List Jvm.Cond) (a : Addr) (ca : Addr) (ka : ClassId) (c0 : Int32) (cs : Int32) (h0 : Heap) (n0 : Nat) (Z0 : n0 ≤ h0.size) (O : Old Z n0 h0) (Scs : Sta Z Z.heap "java/lang/String" "COMPACT_STRINGS" "Z" (.int cs)) (hcs : ¬ (cs = (0 : Int32))) (Ea : Exa Z h0 a "java/lang/String") (Fv : Fld Z h0 a "java/lang/String" "value" "[B" .null) (Fc : Fld Z h0 a "java/lang/String" "coder" "B" (.int (0 : Int32))) (ga : n0 ≤ a) (Vs : Arv Z h0 ca ka .char (1 : Int32) [(.int c0)] (.int 0)) (hc0 : ¬ ((255 : Int32) < c0)) :
    MetFree l (⟨"java/lang/String", "<init>", "([CIILjava/lang/Void;)V"⟩ : MethodName) (head1 (Jvm.Cond.code (⟨"java/lang/String", "<init>", "([CIILjava/lang/Void;)V"⟩ : MethodName) jdk_42_method_149_code 6 none :: ws) ({ frames := 2, cells := 1, slots := 1, locals := 35 } : Room)) (fun a_ U_ => a_ = #[(.ref a), (.ref ca), (.int (0 : Int32)), (.int (1 : Int32)), .null] ∧ Z.Warmed39 U_.vm ∧ U_.heap = h0) (fun _ _ _ _ _ => True) (fun _ U_ o_ V_ => ∃ v_ L_, o_ = .returned v_ ∧ Q_initV_1 Z a ca ka c0 cs h0 n0 v_ V_.heap L_ ∧ FrameEnd U_ o_ V_ L_ ({ frames := 2, cells := 1, slots := 1, locals := 35 } : Room).cells ({ frames := 2, cells := 1, slots := 1, locals := 35 } : Room).slots) := by
  refine MetFree.of_bodySF (plainFor_of_name pn0) hisR ?_
  intro p e s m args below meth c s₁ Bd hml0 hP hK
  obtain ⟨rfl, hZ, hh⟩ := hP
  have hx := Bd.exec
  have hby := Bd.bytes
  have hml : c.maxLocals = 6 := hml0
  have hown : s.vm.findClass "java/lang/String" = some m.cls := findClass_of_methodNamed Bd.named
  have hnm := (name_of_methodNamed Bd.named Bd.method).1
  have X0 : Stand p l e ({ frames := 2, cells := 1, slots := 1, locals := 35 } : Room) s m #[(.ref a), (.ref ca), (.int (0 : Int32)), (.int (1 : Int32)), .null] below meth c s₁ [] 0 0 := Stand.of_body Bd
  have e0 : s₁.heap = h0 := by rw [← hh, Bd.state]; rfl
  have N0 := Fr.nil n0
  have pre0 : own_Go p e below (s₁.setTop (entryFrame m #[(.ref a), (.ref ca), (.int (0 : Int32)), (.int (1 : Int32)), .null] 6)) (s₁.setTop (mkF m 0 #[.val (.ref a), .val (.ref ca), .val (.int (0 : Int32)), .val (.int (1 : Int32)), .val .null, .unset] [])) := fun t_ k_ => castTop (ef__initV_1 m a ca (0 : Int32) (1 : Int32)) k_
  obtain ⟨clV, ArV, -⟩ := id Vs
  have ne_ca_a : ca ≠ a := Ne.symm (ne_arr Ea (hw _ (List.mem_of_getElem? (i := 16) rfl)) ArV)
  have P1 := own_step (C := s₁.setTop (mkF m 1 #[.val (.ref a), .val (.ref ca), .val (.int (0 : Int32)), .val (.int (1 : Int32)), .val .null, .unset] [(.ref a)])) pre0 (by
    intro tt_ kk_
    refine XS.aloadN X0.here hx rfl (hb hby d8_0) rfl rfl ?_
    exact kk_)
  obtain ⟨T2, X2, e2, st2⟩ := initO X0 hx hZ hown (hw _ (List.mem_of_getElem? (i := 25) rfl)) (hw _ (List.mem_of_getElem? (i := 26) rfl)) (hw _ (List.mem_of_getElem? (i := 27) rfl)) e0 (g := (mkF m 1 #[.val (.ref a), .val (.ref ca), .val (.int (0 : Int32)), .val (.int (1 : Int32)), .val .null, .unset] [(.ref a)])) rfl (by rw [hml]; rfl) rfl (hb hby d8_1) (by decide) (W := 0) (by show 2 * 0 + _ ≤ _; exact Nat.le_of_eq rfl) (by decide)
  have P3 := own_step (C := T2.setTop (mkF m 4 #[.val (.ref a), .val (.ref ca), .val (.int (0 : Int32)), .val (.int (1 : Int32)), .val .null, .unset] [])) P1 (fun t_ k_ => st2 t_ k_)
  have P4 := own_step (C := T2.setTop (mkF m 5 #[.val (.ref a), .val (.ref ca), .val (.int (0 : Int32)), .val (.int (1 : Int32)), .val .null, .unset] [(.int (1 : Int32))])) P3 (by
    intro tt_ kk_
    refine XS.iloadN X2.here hx rfl (hb hby d8_4) rfl ?_
    exact kk_)
  have P5 := own_step (C := T2.setTop (mkF m 27 #[.val (.ref a), .val (.ref ca), .val (.int (0 : Int32)), .val (.int (1 : Int32)), .val .null, .unset] [])) P4 (by
    intro tt_ kk_
    refine XS.ifYes X2.here hx rfl (pc0 := 5) (pc' := 27) rfl (hb hby d8_5) rfl ((if0 _ _).trans (feq (by decide : ¬ ((1 : Int32) = (0 : Int32)))).2) (by decide) (by decide) ?_
    exact kk_)
  obtain ⟨T6, X6, e6, st6⟩ := getS2 X2 hx hZ hown (host := "") (Or.inl (hw _ (List.mem_of_getElem? (i := 10) rfl))) Via.refl e2 (Scs.ext O.2) (g := (mkF m 27 #[.val (.ref a), .val (.ref ca), .val (.int (0 : Int32)), .val (.int (1 : Int32)), .val .null, .unset] [])) rfl (hb hby d8_27)
  have P7 := own_step (C := T6.setTop (mkF m 30 #[.val (.ref a), .val (.ref ca), .val (.int (0 : Int32)), .val (.int (1 : Int32)), .val .null, .unset] [(.int cs)])) P5 (fun t_ k_ => st6 t_ k_)
  have P8 := own_step (C := T6.setTop (mkF m 33 #[.val (.ref a), .val (.ref ca), .val (.int (0 : Int32)), .val (.int (1 : Int32)), .val .null, .unset] [])) P7 (by
    intro tt_ kk_
    refine XS.ifNo X6.here hx rfl (hb hby d8_30) rfl ((if0 _ _).trans (feq hcs).1) ?_
    exact kk_)
  have P9 := own_step (C := T6.setTop (mkF m 36 #[.val (.ref a), .val (.ref ca), .val (.int (0 : Int32)), .val (.int (1 : Int32)), .val .null, .unset] [(.int (1 : Int32)), (.int (0 : Int32)), (.ref ca)])) P8 (by
    intro tt_ kk_
    refine XS.aloadN X6.here hx rfl (hb hby d8_33) rfl rfl ?_
    refine XS.iloadN X6.here hx rfl (hb hby d8_34) rfl ?_
    refine XS.iloadN X6.here hx rfl (hb hby d8_35) rfl ?_
    exact kk_)
  obtain ⟨_, _, ⟨T10, L10, k10, n10⟩, -, X10, ⟨Lc10, hQ10, l10, y10, z10⟩, st10⟩ := Jvm.LawKit.callS X6 hx (y := (⟨"java/lang/StringUTF16", "compress", "([CII)[B"⟩ : MethodName)) hown (mvT hZ (hw _ (List.mem_of_getElem? (i := 84) rfl))) (mvT hZ (hw _ (List.mem_of_getElem? (i := 85) rfl))) (mvT hZ (hw _ (List.mem_of_getElem? (i := 86) rfl))) (mvT hZ (hw _ (List.mem_of_getElem? (i := 87) rfl))) (by decide) (backOf (W := 0) (rm_comp_1 l Z a0 hw [] ca ka c0 h0 n0 Z0 O Vs hc0) hZ (hw _ (List.mem_of_getElem? (i := 87) rfl)) (hw _ (List.mem_of_getElem? (i := 86) rfl)) (by decide) (by decide)) (g := (mkF m 36 #[.val (.ref a), .val (.ref ca), .val (.int (0 : Int32)), .val (.int (1 : Int32)), .val .null, .unset] [(.int (1 : Int32)), (.int (0 : Int32)), (.ref ca)])) rfl (by rw [hml]; rfl) (argsL := [(.ref ca), (.int (0 : Int32)), (.int (1 : Int32))]) (rest := []) (lenOf pd10 rfl) rfl (by show 2 * 0 + _ ≤ _; exact Nat.le_of_eq rfl) (hb hby d8_36) (fun _ _ => ⟨rfl, e6, (by decide : 0 + 1 ≤ _), (by decide : 0 + 1 ≤ _)⟩)
  dsimp only [Pt.U, Pt.locs, Pt.cells, Pt.slots] at X10 l10 y10 z10 st10 hQ10
  subst l10 y10 z10
  obtain ⟨x10, kk10, rfl, N10q, K10, f11, f12⟩ := hQ10
  have N10 := Fr.app N0 N10q
  have ne_a_x10 : a ≠ x10 := Nat.ne_of_lt (Nat.lt_of_lt_of_le Ea.lt f11)
  have ne_ca_x10 : ca ≠ x10 := Nat.ne_of_lt (Nat.lt_of_lt_of_le Vs.lt f11)
  have g_x10 : n0 ≤ x10 := Nat.le_trans Z0 f11
  have sz_x10 : h0.size ≤ x10 := Nat.le_trans (Keep.refl h0 [a]).1 f11
  have f13 := O.keep K10 all0
  have f14 := Ea.keep K10
  have f15 := Fc.keep K10 nin0
  have f16 := Fv.keep K10 nin0
  have f17 := (Keep.refl h0 [a]).trans K10 all0
  have f18 := Vs.keep K10 nin0
  have Z19 : n0 ≤ T10.heap.size := Nat.le_trans Z0 K10.1
  have P20 := own_step (C := T10.setTop (mkF m 39 #[.val (.ref a), .val (.ref ca), .val (.int (0 : Int32)), .val (.int (1 : Int32)), .val .null, .unset] [(.ref x10)])) P9 (fun t_ k_ => st10 t_ k_)
  have P21 := own_step (C := T10.setTop (mkF m 45 #[.val (.ref a), .val (.ref ca), .val (.int (0 : Int32)), .val (.int (1 : Int32)), .val .null, .val (.ref x10)] [(.int (1 : Int32)), (.ref x10), (.ref a)])) P20 (by
    intro tt_ kk_
    refine XS.astore X10.here hx rfl (hb hby d8_39) rfl rfl (l' := #[.val (.ref a), .val (.ref ca), .val (.int (0 : Int32)), .val (.int (1 : Int32)), .val .null, .val (.ref x10)]) rfl ?_
    refine XS.aloadN X10.here hx rfl (hb hby d8_41) rfl rfl ?_
    refine XS.aload X10.here hx rfl (hb hby d8_42) rfl rfl ?_
    refine XS.iloadN X10.here hx rfl (hb hby d8_44) rfl ?_
    exact kk_)
  obtain ⟨_, _, ⟨T22, L22, k22, n22⟩, -, X22, ⟨Lc22, hQ22, l22, y22, z22⟩, st22⟩ := Jvm.LawKit.callS X10 hx (y := (⟨"java/lang/StringUTF16", "coderFromArrayLen", "([BI)B"⟩ : MethodName)) hown (mvT hZ (hw _ (List.mem_of_getElem? (i := 91) rfl))) (mvT hZ (hw _ (List.mem_of_getElem? (i := 92) rfl))) (mvT hZ (hw _ (List.mem_of_getElem? (i := 86) rfl))) (mvT hZ (hw _ (List.mem_of_getElem? (i := 93) rfl))) (by decide) (backOf (W := 1) (rm_cfa_1 l Z a0 hw [] x10 kk10 _ T10.heap n0 Z19 f12) hZ (hw _ (List.mem_of_getElem? (i := 93) rfl)) (hw _ (List.mem_of_getElem? (i := 86) rfl)) (by decide) (by decide)) (g := (mkF m 45 #[.val (.ref a), .val (.ref ca), .val (.int (0 : Int32)), .val (.int (1 : Int32)), .val .null, .val (.ref x10)] [(.int (1 : Int32)), (.ref x10), (.ref a)])) rfl (by rw [hml]; rfl) (argsL := [(.ref x10), (.int (1 : Int32))]) (rest := [(.ref a)]) (lenOf pd11 rfl) rfl (by show 2 * 0 + _ ≤ _; exact Nat.le_of_eq rfl) (hb hby d8_45) (fun _ _ => ⟨rfl, rfl, (by decide : 1 + 0 ≤ _), (by decide : 1 + 0 ≤ _)⟩)
  dsimp only [Pt.U, Pt.locs, Pt.cells, Pt.slots] at X22 l22 y22 z22 st22 hQ22
  subst l22 y22 z22
  obtain ⟨rfl, N22q, e22⟩ := hQ22
  have N22 := Fr.app N10 N22q
  have P23 := own_step (C := T22.setTop (mkF m 48 #[.val (.ref a), .val (.ref ca), .val (.int (0 : Int32)), .val (.int (1 : Int32)), .val .null, .val (.ref x10)] [(.int (0 : Int32)), (.ref a)])) P21 (fun t_ k_ => st22 t_ k_)
  obtain ⟨T24, h24, X24, e24, W24, st24⟩ := putFN X22 hx hZ hown (hw _ (List.mem_of_getElem? (i := 30) rfl)) Via.refl e22 f15 f14 (Or.inr ⟨(hw _ (List.mem_of_getElem? (i := 31) rfl)), rfl, hnm⟩) (hw _ (List.mem_of_getElem? (i := 16) rfl)) (ty := .byte) (v' := (.int (0 : Int32).toInt8.toInt32)) (by decide) rfl (fits_nar_byte _) (g := (mkF m 48 #[.val (.ref a), .val (.ref ca), .val (.int (0 : Int32)), .val (.int (1 : Int32)), .val .null, .val (.ref x10)] [(.int (0 : Int32)), (.ref a)])) rfl rfl (hb hby d8_48)
  have f25 := f13.wr W24 ga
  have f26 := f14.wr W24
  have f27 := f15.same W24
  have f28 := f16.other W24 (Or.inr (slot_ne (Or.inr (hw _ (List.mem_of_getElem? (i := 29) rfl))) (Or.inr (hw _ (List.mem_of_getElem? (i := 31) rfl))) (by decide) (t := (.array .byte)) (t' := .byte) (by decide) (by decide)))
  have f29 := f17.wr W24 (Or.inl (List.mem_of_getElem? (i := 0) rfl))
  have f30 := f18.other W24 ne_ca_a
  have f31 := f12.other W24 (Ne.symm ne_a_x10)
  have Z32 : n0 ≤ h24.size := Nat.le_trans Z19 (Keep.of_wr W24).1
  have N24 := Fr.snoc X24 N22 ga
  have P33 := own_step (C := T24.setTop (mkF m 51 #[.val (.ref a), .val (.ref ca), .val (.int (0 : Int32)), .val (.int (1 : Int32)), .val .null, .val (.ref x10)] [])) P23 (fun t_ k_ => st24 t_ k_)
  have P34 := own_step (C := T24.setTop (mkF m 54 #[.val (.ref a), .val (.ref ca), .val (.int (0 : Int32)), .val (.int (1 : Int32)), .val .null, .val (.ref x10)] [(.ref x10), (.ref a)])) P33 (by
    intro tt_ kk_
    refine XS.aloadN X24.here hx rfl (hb hby d8_51) rfl rfl ?_
    refine XS.aload X24.here hx rfl (hb hby d8_52) rfl rfl ?_
    exact kk_)
  obtain ⟨T35, h35, X35, e35, W35, st35⟩ := putF X24 hx hZ hown (host := "") (Or.inl (hw _ (List.mem_of_getElem? (i := 28) rfl))) Via.refl e24 f28 f26 (Or.inr ⟨(hw _ (List.mem_of_getElem? (i := 29) rfl)), rfl, hnm⟩) (hw _ (List.mem_of_getElem? (i := 16) rfl)) (ty := (.array .byte)) (by decide) rfl rfl (g := (mkF m 54 #[.val (.ref a), .val (.ref ca), .val (.int (0 : Int32)), .val (.int (1 : Int32)), .val .null, .val (.ref x10)] [(.ref x10), (.ref a)])) rfl rfl (hb hby d8_54)
  have f36 := f25.wr W35 ga
  have f37 := f26.wr W35
  have f38 := f27.other W35 (Or.inr (slot_ne (Or.inr (hw _ (List.mem_of_getElem? (i := 31) rfl))) (Or.inr (hw _ (List.mem_of_getElem? (i := 29) rfl))) (by decide) (t := .byte) (t' := (.array .byte)) (by decide) (by decide)))
  have f39 := f28.same W35
  have f40 := f29.wr W35 (Or.inl (List.mem_of_getElem? (i := 0) rfl))
  have f41 := f30.other W35 ne_ca_a
  have f42 := f31.other W35 (Ne.symm ne_a_x10)
  have Z43 : n0 ≤ h35.size := Nat.le_trans Z32 (Keep.of_wr W35).1
  have N35 := Fr.snoc X35 N24 ga
  have P44 := own_step (C := T35.setTop (mkF m 57 #[.val (.ref a), .val (.ref ca), .val (.int (0 : Int32)), .val (.int (1 : Int32)), .val .null, .val (.ref x10)] [])) P34 (fun t_ k_ => st35 t_ k_)
  obtain ⟨fs, hr, hrun, hended, hW, hsame⟩ := X35.leave (v := none) (fun _ => rfl)
  refine ⟨_, _, P44 _ ?_, hrun, hended, _, _, rfl, ?_, ⟨_, rfl⟩, hW, hsame.mono (by decide) (by decide)⟩
  · exact X35.returnOut hx Bd.returns (hb hby d8_57) hr
  · show Q_initV_1 Z _ _ _ _ _ h0 n0 _ T35.heap _
    rw [e35]
    exact ⟨x10, kk10, rfl, N35, f40, f37, f38, f39, f42, sz_x10⟩
theorem pd12 : parseMethodDescriptor "([CIILjava/lang/Void;)V" = some ⟨[(.array .char), .int, .int, (.object "java/lang/Void")], none⟩ := by decide +kernel
theorem d7_0 : decode jdk_42_method_3_code 0 = .ok (.aload_n 0, 1) := by decide +kernel
theorem d7_1 : decode jdk_42_method_3_code 1 = .ok (.aload_n 1, 1) := by decide +kernel
theorem d7_2 : decode jdk_42_method_3_code 2 = .ok (.iconst 0, 1) := by decide +kernel
theorem d7_3 : decode jdk_42_method_3_code 3 = .ok (.aload_n 1, 1) := by decide +kernel
theorem d7_4 : decode jdk_42_method_3_code 4 = .ok (.arraylength, 1) := by decide +kernel
theorem d7_5 : decode jdk_42_method_3_code 5 = .ok (.aconst_null, 1) := by decide +kernel
theorem d7_6 : decode jdk_42_method_3_code 6 = .ok (.invokespecial 27, 3) := by decide +kernel
theorem d7_9 : decode jdk_42_method_3_code 9 = .ok (.return_, 1) := by decide +kernel
theorem ef__initC_1 (m : MethodId) (x0 : Addr) (x1 : Addr) : entryFrame m #[(.ref x0), (.ref x1)] 2 = mkF m 0 #[.val (.ref x0), .val (.ref x1)] [] := by first | (simp [entryFrame, mkF, argsToLocals, Value.category]; done) | rfl
def Q_initC_1 (Z : State) (a : Addr) (ca : Addr) (ka : ClassId) (c0 : Int32) (cs : Int32) (h0 : Heap) (n0 : Nat) (v_ : Option Value) (h : Heap) (L_ : List Loc) : Prop := ∃ (x : Addr) (kk : ClassId), v_ = none ∧ Fr n0 L_ ∧ Keep h0 h [a] ∧ Exa Z h a "java/lang/String" ∧ Fld Z h a "java/lang/String" "coder" "B" (.int (0 : Int32)) ∧ Fld Z h a "java/lang/String" "value" "[B" (.ref x) ∧ Arv Z h x kk .byte (1 : Int32) [(.int (c0.toInt8.toInt32).toInt8.toInt32)] (.int 0) ∧ h0.size ≤ x
set_option maxRecDepth 65536 in
set_option maxHeartbeats 40000000 in
theorem rm_initC_1 (l : Launch) (Z : State) (a0 : Array Value) (hw : ∀ d ∈ tables_1, d.before a0 Z = true) (ws : List Jvm.Cond) (a : Addr) (ca : Addr) (ka : ClassId) (c0 : Int32) (cs : Int32) (h0 : Heap) (n0 : Nat) (Z0 : n0 ≤ h0.size) (O : Old Z n0 h0) (Scs : Sta Z Z.heap "java/lang/String" "COMPACT_STRINGS" "Z" (.int cs)) (hcs : ¬ (cs = (0 : Int32))) (Ea : Exa Z h0 a "java/lang/String") (Fv : Fld Z h0 a "java/lang/String" "value" "[B" .null) (Fc : Fld Z h0 a "java/lang/String" "coder" "B" (.int (0 : Int32))) (ga : n0 ≤ a) (Vs : Arv Z h0 ca ka .char (1 : Int32) [(.int c0)] (.int 0)) (hc0 : ¬ ((255 : Int32) < c0)) :
    MetFree l (⟨"java/lang/String", "<init>", "([C)V"⟩ : MethodName) (head1 (Jvm.Cond.code (⟨"java/lang/String", "<init>", "([C)V"⟩ : MethodName) jdk_42_method_3_code 2 none :: ws) ({ frames := 3, cells := 1, slots := 1, locals := 52 } : Room)) (fun a_ U_ => a_ = #[(.ref a), (.ref ca)] ∧ Z.Warmed39 U_.vm ∧ U_.heap = h0) (fun _ _ _ _ _ => True) (fun _ U_ o_ V_ => ∃ v_ L_, o_ = .returned v_ ∧ Q_initC_1 Z a ca ka c0 cs h0 n0 v_ V_.heap L_ ∧ FrameEnd U_ o_ V_ L_ ({ frames := 3, cells := 1, slots := 1, locals := 52 } : Room).cells ({ frames := 3, cells := 1, slots := 1, locals := 52 } : Room).slots) := by
  refine MetFree.of_bodySF (plainFor_of_name pn0) hisR ?_
  intro p e s m args below meth c s₁ Bd hml0 hP hK
  obtain ⟨rfl, hZ, hh⟩ := hP
  have hx := Bd.exec
  have hby := Bd.bytes
  have hml : c.maxLocals = 2 := hml0
  have hown : s.vm.findClass "java/lang/String" = some m.cls := findClass_of_methodNamed Bd.named
  have hnm := (name_of_methodNamed Bd.named Bd.method).1
  have X0 : Stand p l e ({ frames := 3, cells := 1, slots := 1, locals := 52 } : Room) s m #[(.ref a), (.ref ca)] below meth c s₁ [] 0 0 := Stand.of_body Bd
  have e0 : s₁.heap = h0 := by rw [← hh, Bd.state]; rfl
  have N0 := Fr.nil n0
  have pre0 : own_Go p e below (s₁.setTop (entryFrame m #[(.ref a), (.ref ca)] 2)) (s₁.setTop (mkF m 0 #[.val (.ref a), .val (.ref ca)] [])) := fun t_ k_ => castTop (ef__initC_1 m a ca) k_
  obtain ⟨clV, ArV, -⟩ := id Vs
  have ne_ca_a : ca ≠ a := Ne.symm (ne_arr Ea (hw _ (List.mem_of_getElem? (i := 16) rfl)) ArV)
  have P1 := own_step (C := s₁.setTop (mkF m 4 #[.val (.ref a), .val (.ref ca)] [(.ref ca), (.int (0 : Int32)), (.ref ca), (.ref a)])) pre0 (by
    intro tt_ kk_
    refine XS.aloadN X0.here hx rfl (hb hby d7_0) rfl rfl ?_
    refine XS.aloadN X0.here hx rfl (hb hby d7_1) rfl rfl ?_
    refine XS.iconst X0.here hx rfl (hb hby d7_2) ?_
    refine XS.aloadN X0.here hx rfl (hb hby d7_3) rfl rfl ?_
    exact kk_)
  obtain ⟨cl2, Ar2, q2, S2, M2, H2, G2⟩ := id Vs
  have P3 := own_step (C := s₁.setTop (mkF m 5 #[.val (.ref a), .val (.ref ca)] [(.int (1 : Int32)), (.int (0 : Int32)), (.ref ca), (.ref a)])) P1 (by
    intro tt_ kk_
    refine X0.arraylength hx (by rw [e0]; exact Ar2.1) (State.isArrayOf_alike hZ.alike Ar2.2.1) (g := (mkF m 4 #[.val (.ref a), .val (.ref ca)] [(.ref ca), (.int (0 : Int32)), (.ref ca), (.ref a)])) rfl rfl (hb hby d7_4) _ ?_
    rw [len_of S2 M2]
    exact kk_)
  have P4 := own_step (C := s₁.setTop (mkF m 6 #[.val (.ref a), .val (.ref ca)] [.null, (.int (1 : Int32)), (.int (0 : Int32)), (.ref ca), (.ref a)])) P3 (by
    intro tt_ kk_
    refine XS.aconstNull X0.here hx rfl (hb hby d7_5) ?_
    exact kk_)
  obtain ⟨_, _, ⟨T5, L5, k5, n5⟩, -, X5, ⟨Lc5, hQ5, l5, y5, z5⟩, st5⟩ := X0.specialBack hx (y := (⟨"java/lang/String", "<init>", "([CIILjava/lang/Void;)V"⟩ : MethodName)) rfl hown (mvT hZ (hw _ (List.mem_of_getElem? (i := 39) rfl))) (mvT hZ (hw _ (List.mem_of_getElem? (i := 40) rfl))) (mvT hZ (hw _ (List.mem_of_getElem? (i := 41) rfl))) (by decide) (backOf (W := 0) (rm_initV_1 l Z a0 hw [] a ca ka c0 cs h0 n0 Z0 O Scs hcs Ea Fv Fc ga Vs hc0) hZ (hw _ (List.mem_of_getElem? (i := 41) rfl)) (hw _ (List.mem_of_getElem? (i := 8) rfl)) (by decide) (by decide)) (g := (mkF m 6 #[.val (.ref a), .val (.ref ca)] [.null, (.int (1 : Int32)), (.int (0 : Int32)), (.ref ca), (.ref a)])) rfl (by rw [hml]; rfl) (Steps.refl _) (a := a) (argsL := [(.ref ca), (.int (0 : Int32)), (.int (1 : Int32)), .null]) (rest := []) (lenOf pd12 rfl) rfl (by show 2 * 0 + _ ≤ _; exact Nat.le_of_eq rfl) (hb hby d7_6) (fun _ _ => ⟨rfl, e0, (by decide : 0 + 1 ≤ _), (by decide : 0 + 1 ≤ _)⟩)
  dsimp only [Pt.U, Pt.locs, Pt.cells, Pt.slots] at X5 l5 y5 z5 st5 hQ5
  subst l5 y5 z5
  obtain ⟨x5, kk5, rfl, N5q, K5, f6, f7, f8, f9, f10⟩ := hQ5
  have N5 := Fr.app N0 N5q
  have ne_a_x5 : a ≠ x5 := Nat.ne_of_lt (Nat.lt_of_lt_of_le Ea.lt f10)
  have ne_ca_x5 : ca ≠ x5 := Nat.ne_of_lt (Nat.lt_of_lt_of_le Vs.lt f10)
  have g_x5 : n0 ≤ x5 := Nat.le_trans Z0 f10
  have sz_x5 : h0.size ≤ x5 := Nat.le_trans (Keep.refl h0 [a]).1 f10
  have f11 := O.keep K5 (allS ga all0)
  have f12 := Ea.keep K5
  have f15 := (Keep.refl h0 [a]).trans K5 (allS (Or.inl (List.mem_of_getElem? (i := 0) rfl)) all0)
  have f16 := Vs.keep K5 (ninS ne_ca_a nin0)
  have Z17 : n0 ≤ T5.heap.size := Nat.le_trans Z0 K5.1
  have P18 := own_step (C := T5.setTop (mkF m 9 #[.val (.ref a), .val (.ref ca)] [])) P4 (fun t_ k_ => st5.trans k_)
  obtain ⟨fs, hr, hrun, hended, hW, hsame⟩ := X5.leave (v := none) (fun _ => rfl)
  refine ⟨_, _, P18 _ ?_, hrun, hended, _, _, rfl, ?_, ⟨_, rfl⟩, hW, hsame.mono (by decide) (by decide)⟩
  · exact X5.returnOut hx Bd.returns (hb hby d7_9) hr
  · show Q_initC_1 Z _ _ _ _ _ h0 n0 _ T5.heap _
    exact ⟨x5, kk5, rfl, N5, f15, f6, f7, f8, f9, f10⟩
theorem ef__comp2_2 (m : MethodId) (x0 : Addr) (x1 : Int32) (x2 : Addr) (x3 : Int32) (x4 : Int32) : entryFrame m #[(.ref x0), (.int x1), (.ref x2), (.int x3), (.int x4)] 7 = mkF m 0 #[.val (.ref x0), .val (.int x1), .val (.ref x2), .val (.int x3), .val (.int x4), .unset, .unset] [] := by first | (simp [entryFrame, mkF, argsToLocals, Value.category]; done) | rfl
def Q_comp2_2 (Z : State) (a : Addr) (ka : ClassId) (d : Addr) (kd : ClassId) (c0 : Int32) (c1 : Int32) (h0 : Heap) (n0 : Nat) (v_ : Option Value) (h : Heap) (L_ : List Loc) : Prop := v_ = some (.int (2 : Int32)) ∧ Fr n0 L_ ∧ Keep h0 h [d] ∧ Arv Z h d kd .byte (2 : Int32) [(.int (c0.toInt8.toInt32).toInt8.toInt32), (.int (c1.toInt8.toInt32).toInt8.toInt32)] (.int 0)
set_option maxRecDepth 65536 in
set_option maxHeartbeats 40000000 in
theorem rm_comp2_2 (l : Launch) (Z : State) (a0 : Array Value) (hw : ∀ d ∈ tables_1, d.before a0 Z = true) (ws : List Jvm.Cond) (a : Addr) (ka : ClassId) (d : Addr) (kd : ClassId) (c0 : Int32) (c1 : Int32) (h0 : Heap) (n0 : Nat) (Z0 : n0 ≤ h0.size) (O : Old Z n0 h0) (Va : Arv Z h0 a ka .char (2 : Int32) [(.int c0), (.int c1)] (.int 0)) (Vd : Arv Z h0 d kd .byte (2 : Int32) [(.int (0 : Int32)), (.int (0 : Int32))] (.int 0)) (nad : a ≠ d) (gd : n0 ≤ d) (hc0 : ¬ ((255 : Int32) < c0)) (hc1 : ¬ ((255 : Int32) < c1)) :
    MetFree l (⟨"java/lang/StringUTF16", "compress", "([CI[BII)I"⟩ : MethodName) (head1 (Jvm.Cond.code (⟨"java/lang/StringUTF16", "compress", "([CI[BII)I"⟩ : MethodName) jdk_52_method_21_code 7 (some .int) :: ws) ({ frames := 0, cells := 0, slots := 0, locals := 0 } : Room)) (fun a_ U_ => a_ = #[(.ref a), (.int (0 : Int32)), (.ref d), (.int (0 : Int32)), (.int (2 : Int32))] ∧ Z.Warmed39 U_.vm ∧ U_.heap = h0) (fun _ _ _ _ _ => True) (fun _ U_ o_ V_ => ∃ v_ L_, o_ = .returned v_ ∧ Q_comp2_2 Z a ka d kd c0 c1 h0 n0 v_ V_.heap L_ ∧ FrameEnd U_ o_ V_ L_ ({ frames := 0, cells := 0, slots := 0, locals := 0 } : Room).cells ({ frames := 0, cells := 0, slots := 0, locals := 0 } : Room).slots) := by
  refine MetFree.of_bodySF (plainFor_of_name pn4) hisR ?_
  intro p e s m args below meth c s₁ Bd hml0 hP hK
  obtain ⟨rfl, hZ, hh⟩ := hP
  have hx := Bd.exec
  have hby := Bd.bytes
  have hml : c.maxLocals = 7 := hml0
  have hown : s.vm.findClass "java/lang/StringUTF16" = some m.cls := findClass_of_methodNamed Bd.named
  have hnm := (name_of_methodNamed Bd.named Bd.method).1
  have X0 : Stand p l e ({ frames := 0, cells := 0, slots := 0, locals := 0 } : Room) s m #[(.ref a), (.int (0 : Int32)), (.ref d), (.int (0 : Int32)), (.int (2 : Int32))] below meth c s₁ [] 0 0 := Stand.of_body Bd
  have e0 : s₁.heap = h0 := by rw [← hh, Bd.state]; rfl
  have N0 := Fr.nil n0
  have pre0 : own_Go p e below (s₁.setTop (entryFrame m #[(.ref a), (.int (0 : Int32)), (.ref d), (.int (0 : Int32)), (.int (2 : Int32))] 7)) (s₁.setTop (mkF m 0 #[.val (.ref a), .val (.int (0 : Int32)), .val (.ref d), .val (.int (0 : Int32)), .val (.int (2 : Int32)), .unset, .unset] [])) := fun t_ k_ => castTop (ef__comp2_2 m a (0 : Int32) d (0 : Int32) (2 : Int32)) k_
  have P1 := own_step (C := s₁.setTop (mkF m 7 #[.val (.ref a), .val (.int (0 : Int32)), .val (.ref d), .val (.int (0 : Int32)), .val (.int (2 : Int32)), .val (.int (0 : Int32)), .unset] [(.int (2 : Int32)), (.int (0 : Int32))])) pre0 (by
    intro tt_ kk_
    refine XS.iconst X0.here hx rfl (hb hby d17_0) ?_
    refine XS.istore X0.here hx rfl (hb hby d17_1) rfl (l' := #[.val (.ref a), .val (.int (0 : Int32)), .val (.ref d), .val (.int (0 : Int32)), .val (.int (2 : Int32)), .val (.int (0 : Int32)), .unset]) rfl ?_
    refine XS.iload X0.here hx rfl (hb hby d17_3) rfl ?_
    refine XS.iload X0.here hx rfl (hb hby d17_5) rfl ?_
    exact kk_)
  have P2 := own_step (C := s₁.setTop (mkF m 10 #[.val (.ref a), .val (.int (0 : Int32)), .val (.ref d), .val (.int (0 : Int32)), .val (.int (2 : Int32)), .val (.int (0 : Int32)), .unset] [])) P1 (by
    intro tt_ kk_
    refine XS.icmpNo X0.here hx rfl (hb hby d17_7) rfl (tlt (by decide : (0 : Int32) < (2 : Int32))).2.1 ?_
    exact kk_)
  have P3 := own_step (C := s₁.setTop (mkF m 12 #[.val (.ref a), .val (.int (0 : Int32)), .val (.ref d), .val (.int (0 : Int32)), .val (.int (2 : Int32)), .val (.int (0 : Int32)), .unset] [(.int (0 : Int32)), (.ref a)])) P2 (by
    intro tt_ kk_
    refine XS.aloadN X0.here hx rfl (hb hby d17_10) rfl rfl ?_
    refine XS.iloadN X0.here hx rfl (hb hby d17_11) rfl ?_
    exact kk_)
  obtain ⟨cl4, Ar4, q4, S4, M4, H4, G4⟩ := id Va
  have hin4 := inb_of S4 (by decide : ¬ (0 : Int32) < 0 ∧ (0 : Int32) < (2 : Int32))
  have hat4 := Has.at H4 hin4 (v := .int c0) rfl
  have P5 := own_step (C := s₁.setTop (mkF m 13 #[.val (.ref a), .val (.int (0 : Int32)), .val (.ref d), .val (.int (0 : Int32)), .val (.int (2 : Int32)), .val (.int (0 : Int32)), .unset] [(.int c0)])) P3 (by
    intro tt_ kk_
    refine X0.caload hx (j := (0 : Int32)) (v := (.int c0)) (by rw [e0]; exact Ar4.1) (State.isArrayOf_alike hZ.alike Ar4.2.1) Ar4.2.2 hin4 hat4 (g := (mkF m 12 #[.val (.ref a), .val (.int (0 : Int32)), .val (.ref d), .val (.int (0 : Int32)), .val (.int (2 : Int32)), .val (.int (0 : Int32)), .unset] [(.int (0 : Int32)), (.ref a)])) rfl rfl (hb hby d17_12) _ ?_
    exact kk_)
  have P6 := own_step (C := s₁.setTop (mkF m 20 #[.val (.ref a), .val (.int (0 : Int32)), .val (.ref d), .val (.int (0 : Int32)), .val (.int (2 : Int32)), .val (.int (0 : Int32)), .val (.int c0)] [(.int (255 : Int32)), (.int c0)])) P5 (by
    intro tt_ kk_
    refine XS.istore X0.here hx rfl (hb hby d17_13) rfl (l' := #[.val (.ref a), .val (.int (0 : Int32)), .val (.ref d), .val (.int (0 : Int32)), .val (.int (2 : Int32)), .val (.int (0 : Int32)), .val (.int c0)]) rfl ?_
    refine XS.iload X0.here hx rfl (hb hby d17_15) rfl ?_
    refine XS.sipush X0.here hx rfl (hb hby d17_17) ?_
    exact kk_)
  have P7 := own_step (C := s₁.setTop (mkF m 26 #[.val (.ref a), .val (.int (0 : Int32)), .val (.ref d), .val (.int (0 : Int32)), .val (.int (2 : Int32)), .val (.int (0 : Int32)), .val (.int c0)] [])) P6 (by
    intro tt_ kk_
    refine XS.icmpYes X0.here hx rfl (pc0 := 20) (pc' := 26) rfl (hb hby d17_20) rfl (flt hc0).2.2.2 (by decide) (by decide) ?_
    exact kk_)
  have P8 := own_step (C := s₁.setTop (mkF m 31 #[.val (.ref a), .val (.int (0 : Int32)), .val (.ref d), .val (.int (0 : Int32)), .val (.int (2 : Int32)), .val (.int (0 : Int32)), .val (.int c0)] [(.int (c0.toInt8.toInt32)), (.int (0 : Int32)), (.ref d)])) P7 (by
    intro tt_ kk_
    refine XS.aloadN X0.here hx rfl (hb hby d17_26) rfl rfl ?_
    refine XS.iloadN X0.here hx rfl (hb hby d17_27) rfl ?_
    refine XS.iload X0.here hx rfl (hb hby d17_28) rfl ?_
    refine XS.i2b X0.here hx rfl (hb hby d17_30) rfl ?_
    exact kk_)
  obtain ⟨cl9, Ar9, q9, S9, M9, H9, G9⟩ := id Vd
  obtain ⟨T10, h10, X10, e10, W10, st10⟩ := stB X0 hx hZ e0 Ar9 (j := (0 : Int32)) (inb_of S9 (by decide : ¬ (0 : Int32) < 0 ∧ (0 : Int32) < (2 : Int32))) (g := (mkF m 31 #[.val (.ref a), .val (.int (0 : Int32)), .val (.ref d), .val (.int (0 : Int32)), .val (.int (2 : Int32)), .val (.int (0 : Int32)), .val (.int c0)] [(.int (c0.toInt8.toInt32)), (.int (0 : Int32)), (.ref d)])) rfl rfl (hb hby d17_31)
  have f11 := O.wr W10 gd
  have f12 := Va.other W10 nad
  have f14 := (Keep.refl h0 [d]).wr W10 (Or.inl (List.mem_of_getElem? (i := 0) rfl))
  have Z15 : n0 ≤ h10.size := Nat.le_trans Z0 (Keep.of_wr W10).1
  have V10 : Arv Z h10 d kd .byte (2 : Int32) [(.int (c0.toInt8.toInt32).toInt8.toInt32), (.int (0 : Int32))] (.int 0) := Arv.set Ar9 q9 S9 M9 H9 G9 (fits_nar_byte _) W10 0 rfl (Nat.le_of_ble_eq_true rfl)
  have N10 := Fr.snoc X10 N0 gd
  have P16 := own_step (C := T10.setTop (mkF m 32 #[.val (.ref a), .val (.int (0 : Int32)), .val (.ref d), .val (.int (0 : Int32)), .val (.int (2 : Int32)), .val (.int (0 : Int32)), .val (.int c0)] [])) P8 (fun t_ k_ => st10 t_ k_)
  have P17 := own_step (C := T10.setTop (mkF m 7 #[.val (.ref a), .val (.int (1 : Int32)), .val (.ref d), .val (.int (1 : Int32)), .val (.int (2 : Int32)), .val (.int (1 : Int32)), .val (.int c0)] [(.int (2 : Int32)), (.int (1 : Int32))])) P16 (by
    intro tt_ kk_
    refine XS.iinc X10.here hx rfl (hb hby d17_32) rfl (l' := #[.val (.ref a), .val (.int (1 : Int32)), .val (.ref d), .val (.int (0 : Int32)), .val (.int (2 : Int32)), .val (.int (0 : Int32)), .val (.int c0)]) rfl ?_
    show Steps p.tables e below (T10.setTop (mkF m 35 #[.val (.ref a), .val (.int (1 : Int32)), .val (.ref d), .val (.int (0 : Int32)), .val (.int (2 : Int32)), .val (.int (0 : Int32)), .val (.int c0)] [])) _
    refine XS.iinc X10.here hx rfl (hb hby d17_35) rfl (l' := #[.val (.ref a), .val (.int (1 : Int32)), .val (.ref d), .val (.int (1 : Int32)), .val (.int (2 : Int32)), .val (.int (0 : Int32)), .val (.int c0)]) rfl ?_
    show Steps p.tables e below (T10.setTop (mkF m 38 #[.val (.ref a), .val (.int (1 : Int32)), .val (.ref d), .val (.int (1 : Int32)), .val (.int (2 : Int32)), .val (.int (0 : Int32)), .val (.int c0)] [])) _
    refine XS.iinc X10.here hx rfl (hb hby d17_38) rfl (l' := #[.val (.ref a), .val (.int (1 : Int32)), .val (.ref d), .val (.int (1 : Int32)), .val (.int (2 : Int32)), .val (.int (1 : Int32)), .val (.int c0)]) rfl ?_
    show Steps p.tables e below (T10.setTop (mkF m 41 #[.val (.ref a), .val (.int (1 : Int32)), .val (.ref d), .val (.int (1 : Int32)), .val (.int (2 : Int32)), .val (.int (1 : Int32)), .val (.int c0)] [])) _
    refine XS.goto X10.here hx rfl (pc0 := 41) (pc' := 3) rfl (hb hby d17_41) (by decide) (by decide) ?_
    refine XS.iload X10.here hx rfl (hb hby d17_3) rfl ?_
    refine XS.iload X10.here hx rfl (hb hby d17_5) rfl ?_
    exact kk_)
  have P18 := own_step (C := T10.setTop (mkF m 10 #[.val (.ref a), .val (.int (1 : Int32)), .val (.ref d), .val (.int (1 : Int32)), .val (.int (2 : Int32)), .val (.int (1 : Int32)), .val (.int c0)] [])) P17 (by
    intro tt_ kk_
    refine XS.icmpNo X10.here hx rfl (hb hby d17_7) rfl (tlt (by decide : (1 : Int32) < (2 : Int32))).2.1 ?_
    exact kk_)
  have P19 := own_step (C := T10.setTop (mkF m 12 #[.val (.ref a), .val (.int (1 : Int32)), .val (.ref d), .val (.int (1 : Int32)), .val (.int (2 : Int32)), .val (.int (1 : Int32)), .val (.int c0)] [(.int (1 : Int32)), (.ref a)])) P18 (by
    intro tt_ kk_
    refine XS.aloadN X10.here hx rfl (hb hby d17_10) rfl rfl ?_
    refine XS.iloadN X10.here hx rfl (hb hby d17_11) rfl ?_
    exact kk_)
  obtain ⟨cl20, Ar20, q20, S20, M20, H20, G20⟩ := id f12
  have hin20 := inb_of S20 (by decide : ¬ (1 : Int32) < 0 ∧ (1 : Int32) < (2 : Int32))
  have hat20 := Has.at H20 hin20 (v := .int c1) rfl
  have P21 := own_step (C := T10.setTop (mkF m 13 #[.val (.ref a), .val (.int (1 : Int32)), .val (.ref d), .val (.int (1 : Int32)), .val (.int (2 : Int32)), .val (.int (1 : Int32)), .val (.int c0)] [(.int c1)])) P19 (by
    intro tt_ kk_
    refine X10.caload hx (j := (1 : Int32)) (v := (.int c1)) (by rw [e10]; exact Ar20.1) (State.isArrayOf_alike hZ.alike Ar20.2.1) Ar20.2.2 hin20 hat20 (g := (mkF m 12 #[.val (.ref a), .val (.int (1 : Int32)), .val (.ref d), .val (.int (1 : Int32)), .val (.int (2 : Int32)), .val (.int (1 : Int32)), .val (.int c0)] [(.int (1 : Int32)), (.ref a)])) rfl rfl (hb hby d17_12) _ ?_
    exact kk_)
  have P22 := own_step (C := T10.setTop (mkF m 20 #[.val (.ref a), .val (.int (1 : Int32)), .val (.ref d), .val (.int (1 : Int32)), .val (.int (2 : Int32)), .val (.int (1 : Int32)), .val (.int c1)] [(.int (255 : Int32)), (.int c1)])) P21 (by
    intro tt_ kk_
    refine XS.istore X10.here hx rfl (hb hby d17_13) rfl (l' := #[.val (.ref a), .val (.int (1 : Int32)), .val (.ref d), .val (.int (1 : Int32)), .val (.int (2 : Int32)), .val (.int (1 : Int32)), .val (.int c1)]) rfl ?_
    refine XS.iload X10.here hx rfl (hb hby d17_15) rfl ?_
    refine XS.sipush X10.here hx rfl (hb hby d17_17) ?_
    exact kk_)
  have P23 := own_step (C := T10.setTop (mkF m 26 #[.val (.ref a), .val (.int (1 : Int32)), .val (.ref d), .val (.int (1 : Int32)), .val (.int (2 : Int32)), .val (.int (1 : Int32)), .val (.int c1)] [])) P22 (by
    intro tt_ kk_
    refine XS.icmpYes X10.here hx rfl (pc0 := 20) (pc' := 26) rfl (hb hby d17_20) rfl (flt hc1).2.2.2 (by decide) (by decide) ?_
    exact kk_)
  have P24 := own_step (C := T10.setTop (mkF m 31 #[.val (.ref a), .val (.int (1 : Int32)), .val (.ref d), .val (.int (1 : Int32)), .val (.int (2 : Int32)), .val (.int (1 : Int32)), .val (.int c1)] [(.int (c1.toInt8.toInt32)), (.int (1 : Int32)), (.ref d)])) P23 (by
    intro tt_ kk_
    refine XS.aloadN X10.here hx rfl (hb hby d17_26) rfl rfl ?_
    refine XS.iloadN X10.here hx rfl (hb hby d17_27) rfl ?_
    refine XS.iload X10.here hx rfl (hb hby d17_28) rfl ?_
    refine XS.i2b X10.here hx rfl (hb hby d17_30) rfl ?_
    exact kk_)
  obtain ⟨cl25, Ar25, q25, S25, M25, H25, G25⟩ := id V10
  obtain ⟨T26, h26, X26, e26, W26, st26⟩ := stB X10 hx hZ e10 Ar25 (j := (1 : Int32)) (inb_of S25 (by decide : ¬ (1 : Int32) < 0 ∧ (1 : Int32) < (2 : Int32))) (g := (mkF m 31 #[.val (.ref a), .val (.int (1 : Int32)), .val (.ref d), .val (.int (1 : Int32)), .val (.int (2 : Int32)), .val (.int (1 : Int32)), .val (.int c1)] [(.int (c1.toInt8.toInt32)), (.int (1 : Int32)), (.ref d)])) rfl rfl (hb hby d17_31)
  have f27 := f11.wr W26 gd
  have f28 := f12.other W26 nad
  have f30 := f14.wr W26 (Or.inl (List.mem_of_getElem? (i := 0) rfl))
  have Z31 : n0 ≤ h26.size := Nat.le_trans Z15 (Keep.of_wr W26).1
  have V26 : Arv Z h26 d kd .byte (2 : Int32) [(.int (c0.toInt8.toInt32).toInt8.toInt32), (.int (c1.toInt8.toInt32).toInt8.toInt32)] (.int 0) := Arv.set Ar25 q25 S25 M25 H25 G25 (fits_nar_byte _) W26 1 rfl (Nat.le_of_ble_eq_true rfl)
  have N26 := Fr.snoc X26 N10 gd
  have P32 := own_step (C := T26.setTop (mkF m 32 #[.val (.ref a), .val (.int (1 : Int32)), .val (.ref d), .val (.int (1 : Int32)), .val (.int (2 : Int32)), .val (.int (1 : Int32)), .val (.int c1)] [])) P24 (fun t_ k_ => st26 t_ k_)
  have P33 := own_step (C := T26.setTop (mkF m 7 #[.val (.ref a), .val (.int (2 : Int32)), .val (.ref d), .val (.int (2 : Int32)), .val (.int (2 : Int32)), .val (.int (2 : Int32)), .val (.int c1)] [(.int (2 : Int32)), (.int (2 : Int32))])) P32 (by
    intro tt_ kk_
    refine XS.iinc X26.here hx rfl (hb hby d17_32) rfl (l' := #[.val (.ref a), .val (.int (2 : Int32)), .val (.ref d), .val (.int (1 : Int32)), .val (.int (2 : Int32)), .val (.int (1 : Int32)), .val (.int c1)]) rfl ?_
    show Steps p.tables e below (T26.setTop (mkF m 35 #[.val (.ref a), .val (.int (2 : Int32)), .val (.ref d), .val (.int (1 : Int32)), .val (.int (2 : Int32)), .val (.int (1 : Int32)), .val (.int c1)] [])) _
    refine XS.iinc X26.here hx rfl (hb hby d17_35) rfl (l' := #[.val (.ref a), .val (.int (2 : Int32)), .val (.ref d), .val (.int (2 : Int32)), .val (.int (2 : Int32)), .val (.int (1 : Int32)), .val (.int c1)]) rfl ?_
    show Steps p.tables e below (T26.setTop (mkF m 38 #[.val (.ref a), .val (.int (2 : Int32)), .val (.ref d), .val (.int (2 : Int32)), .val (.int (2 : Int32)), .val (.int (1 : Int32)), .val (.int c1)] [])) _
    refine XS.iinc X26.here hx rfl (hb hby d17_38) rfl (l' := #[.val (.ref a), .val (.int (2 : Int32)), .val (.ref d), .val (.int (2 : Int32)), .val (.int (2 : Int32)), .val (.int (2 : Int32)), .val (.int c1)]) rfl ?_
    show Steps p.tables e below (T26.setTop (mkF m 41 #[.val (.ref a), .val (.int (2 : Int32)), .val (.ref d), .val (.int (2 : Int32)), .val (.int (2 : Int32)), .val (.int (2 : Int32)), .val (.int c1)] [])) _
    refine XS.goto X26.here hx rfl (pc0 := 41) (pc' := 3) rfl (hb hby d17_41) (by decide) (by decide) ?_
    refine XS.iload X26.here hx rfl (hb hby d17_3) rfl ?_
    refine XS.iload X26.here hx rfl (hb hby d17_5) rfl ?_
    exact kk_)
  have P34 := own_step (C := T26.setTop (mkF m 44 #[.val (.ref a), .val (.int (2 : Int32)), .val (.ref d), .val (.int (2 : Int32)), .val (.int (2 : Int32)), .val (.int (2 : Int32)), .val (.int c1)] [])) P33 (by
    intro tt_ kk_
    refine XS.icmpYes X26.here hx rfl (pc0 := 7) (pc' := 44) rfl (hb hby d17_7) rfl (flt (by decide : ¬ ((2 : Int32) < (2 : Int32)))).2.1 (by decide) (by decide) ?_
    exact kk_)
  have P35 := own_step (C := T26.setTop (mkF m 46 #[.val (.ref a), .val (.int (2 : Int32)), .val (.ref d), .val (.int (2 : Int32)), .val (.int (2 : Int32)), .val (.int (2 : Int32)), .val (.int c1)] [(.int (2 : Int32))])) P34 (by
    intro tt_ kk_
    refine XS.iload X26.here hx rfl (hb hby d17_44) rfl ?_
    exact kk_)
  obtain ⟨fs, hr, hrun, hended, hW, hsame⟩ := X26.leave (v := some (.int (2 : Int32))) (fun h => by rw [Bd.returns] at h; cases h)
  refine ⟨_, _, P35 _ ?_, hrun, hended, _, _, rfl, ?_, ⟨_, rfl⟩, hW, hsame.mono (by decide) (by decide)⟩
  · exact retI X26 hx Bd.returns (hb hby d17_46) hr
  · show Q_comp2_2 Z _ _ _ _ _ _ h0 n0 _ T26.heap _
    rw [e26]
    exact ⟨rfl, N26, f30, V26⟩
theorem ef__comp_2 (m : MethodId) (x0 : Addr) (x1 : Int32) (x2 : Int32) : entryFrame m #[(.ref x0), (.int x1), (.int x2)] 6 = mkF m 0 #[.val (.ref x0), .val (.int x1), .val (.int x2), .unset, .unset, .unset] [] := by first | (simp [entryFrame, mkF, argsToLocals, Value.category]; done) | rfl
def Q_comp_2 (Z : State) (a : Addr) (ka : ClassId) (c0 : Int32) (c1 : Int32) (h0 : Heap) (n0 : Nat) (v_ : Option Value) (h : Heap) (L_ : List Loc) : Prop := ∃ (x : Addr) (kk : ClassId), v_ = some (.ref x) ∧ Fr n0 L_ ∧ Keep h0 h [] ∧ h0.size ≤ x ∧ Arv Z h x kk .byte (2 : Int32) [(.int (c0.toInt8.toInt32).toInt8.toInt32), (.int (c1.toInt8.toInt32).toInt8.toInt32)] (.int 0)
set_option maxRecDepth 65536 in
set_option maxHeartbeats 40000000 in
theorem rm_comp_2 (l : Launch) (Z : State) (a0 : Array Value) (hw : ∀ d ∈ tables_1, d.before a0 Z = true) (ws : List Jvm.Cond) (a : Addr) (ka : ClassId) (c0 : Int32) (c1 : Int32) (h0 : Heap) (n0 : Nat) (Z0 : n0 ≤ h0.size) (O : Old Z n0 h0) (Va : Arv Z h0 a ka .char (2 : Int32) [(.int c0), (.int c1)] (.int 0)) (hc0 : ¬ ((255 : Int32) < c0)) (hc1 : ¬ ((255 : Int32) < c1)) :
    MetFree l (⟨"java/lang/StringUTF16", "compress", "([CII)[B"⟩ : MethodName) (head1 (Jvm.Cond.code (⟨"java/lang/StringUTF16", "compress", "([CII)[B"⟩ : MethodName) jdk_52_method_16_code 6 (some (.array .byte)) :: ws) ({ frames := 1, cells := 1, slots := 2, locals := 18 } : Room)) (fun a_ U_ => a_ = #[(.ref a), (.int (0 : Int32)), (.int (2 : Int32))] ∧ Z.Warmed39 U_.vm ∧ U_.heap = h0) (fun _ _ _ _ _ => True) (fun _ U_ o_ V_ => ∃ v_ L_, o_ = .returned v_ ∧ Q_comp_2 Z a ka c0 c1 h0 n0 v_ V_.heap L_ ∧ FrameEnd U_ o_ V_ L_ ({ frames := 1, cells := 1, slots := 2, locals := 18 } : Room).cells ({ frames := 1, cells := 1, slots := 2, locals := 18 } : Room).slots) := by
  refine MetFree.of_bodySF (plainFor_of_name pn4) hisR ?_
  intro p e s m args below meth c s₁ Bd hml0 hP hK
  obtain ⟨rfl, hZ, hh⟩ := hP
  have hx := Bd.exec
  have hby := Bd.bytes
  have hml : c.maxLocals = 6 := hml0
  have hown : s.vm.findClass "java/lang/StringUTF16" = some m.cls := findClass_of_methodNamed Bd.named
  have hnm := (name_of_methodNamed Bd.named Bd.method).1
  have X0 : Stand p l e ({ frames := 1, cells := 1, slots := 2, locals := 18 } : Room) s m #[(.ref a), (.int (0 : Int32)), (.int (2 : Int32))] below meth c s₁ [] 0 0 := Stand.of_body Bd
  have e0 : s₁.heap = h0 := by rw [← hh, Bd.state]; rfl
  have N0 := Fr.nil n0
  have pre0 : own_Go p e below (s₁.setTop (entryFrame m #[(.ref a), (.int (0 : Int32)), (.int (2 : Int32))] 6)) (s₁.setTop (mkF m 0 #[.val (.ref a), .val (.int (0 : Int32)), .val (.int (2 : Int32)), .unset, .unset, .unset] [])) := fun t_ k_ => castTop (ef__comp_2 m a (0 : Int32) (2 : Int32)) k_
  have P1 := own_step (C := s₁.setTop (mkF m 1 #[.val (.ref a), .val (.int (0 : Int32)), .val (.int (2 : Int32)), .unset, .unset, .unset] [(.int (2 : Int32))])) pre0 (by
    intro tt_ kk_
    refine XS.iloadN X0.here hx rfl (hb hby d16_0) rfl ?_
    exact kk_)
  obtain ⟨T2, h2, k2, X2, e2, E2, A2, st2⟩ := newP X0 hx hZ (hw _ (List.mem_of_getElem? (i := 20) rfl)) e0 (g := (mkF m 1 #[.val (.ref a), .val (.int (0 : Int32)), .val (.int (2 : Int32)), .unset, .unset, .unset] [(.int (2 : Int32))])) rfl (hb hby d16_1) rfl (by decide) (cap := 2) (by decide) (by decide) (by decide) (by decide)
  obtain ⟨b2, g2⟩ : ∃ z, z = h0.size := ⟨_, rfl⟩
  rw [← g2] at A2 st2
  have ne_a_b2 : a ≠ b2 := Nat.ne_of_lt (Nat.lt_of_lt_of_le Va.lt (Nat.le_of_eq g2.symm))
  have g_b2 : n0 ≤ b2 := Nat.le_trans Z0 (Nat.le_of_eq g2.symm)
  have sz_b2 : h0.size ≤ b2 := Nat.le_trans (Keep.refl h0 []).1 (Nat.le_of_eq g2.symm)
  have f3 := O.ext E2
  have f4 := (Keep.refl h0 []).ext E2
  have f5 := Va.ext E2
  have Z6 : n0 ≤ h2.size := Nat.le_trans Z0 E2.1
  have V2 : Arv Z h2 b2 k2 .byte (2 : Int32) [(.int (0 : Int32)), (.int (0 : Int32))] (.int (0 : Int32)) := (Arv.new A2 (by decide)).pad (pad_rep [] _ 2)
  have P7 := own_step (C := T2.setTop (mkF m 3 #[.val (.ref a), .val (.int (0 : Int32)), .val (.int (2 : Int32)), .unset, .unset, .unset] [(.ref b2)])) P1 (fun t_ k_ => st2 t_ k_)
  have P8 := own_step (C := T2.setTop (mkF m 9 #[.val (.ref a), .val (.int (0 : Int32)), .val (.int (2 : Int32)), .val (.ref b2), .unset, .unset] [(.int (2 : Int32)), (.int (0 : Int32)), (.ref b2), (.int (0 : Int32)), (.ref a)])) P7 (by
    intro tt_ kk_
    refine XS.astoreN X2.here hx rfl (hb hby d16_3) rfl rfl (l' := #[.val (.ref a), .val (.int (0 : Int32)), .val (.int (2 : Int32)), .val (.ref b2), .unset, .unset]) rfl ?_
    refine XS.aloadN X2.here hx rfl (hb hby d16_4) rfl rfl ?_
    refine XS.iloadN X2.here hx rfl (hb hby d16_5) rfl ?_
    refine XS.aloadN X2.here hx rfl (hb hby d16_6) rfl rfl ?_
    refine XS.iconst X2.here hx rfl (hb hby d16_7) ?_
    refine XS.iloadN X2.here hx rfl (hb hby d16_8) rfl ?_
    exact kk_)
  obtain ⟨_, _, ⟨T9, L9, k9, n9⟩, -, X9, ⟨Lc9, hQ9, l9, y9, z9⟩, st9⟩ := Jvm.LawKit.callS X2 hx (y := (⟨"java/lang/StringUTF16", "compress", "([CI[BII)I"⟩ : MethodName)) hown (mvT hZ (hw _ (List.mem_of_getElem? (i := 88) rfl))) (mvT hZ (hw _ (List.mem_of_getElem? (i := 89) rfl))) (mvT hZ (hw _ (List.mem_of_getElem? (i := 86) rfl))) (mvT hZ (hw _ (List.mem_of_getElem? (i := 90) rfl))) (by decide) (backOf (W := 0) (rm_comp2_2 l Z a0 hw [] a ka b2 k2 c0 c1 h2 n0 Z6 f3 f5 V2 ne_a_b2 g_b2 hc0 hc1) hZ (hw _ (List.mem_of_getElem? (i := 90) rfl)) (hw _ (List.mem_of_getElem? (i := 86) rfl)) (by decide) (by decide)) (g := (mkF m 9 #[.val (.ref a), .val (.int (0 : Int32)), .val (.int (2 : Int32)), .val (.ref b2), .unset, .unset] [(.int (2 : Int32)), (.int (0 : Int32)), (.ref b2), (.int (0 : Int32)), (.ref a)])) rfl (by rw [hml]; rfl) (argsL := [(.ref a), (.int (0 : Int32)), (.ref b2), (.int (0 : Int32)), (.int (2 : Int32))]) (rest := []) (lenOf pd9 rfl) rfl (by show 2 * 0 + _ ≤ _; exact Nat.le_of_eq rfl) (hb hby d16_9) (fun _ _ => ⟨rfl, e2, (by decide : 1 + 0 ≤ _), (by decide : 2 + 0 ≤ _)⟩)
  dsimp only [Pt.U, Pt.locs, Pt.cells, Pt.slots] at X9 l9 y9 z9 st9 hQ9
  subst l9 y9 z9
  obtain ⟨rfl, N9q, K9, f10⟩ := hQ9
  have N9 := Fr.app N0 N9q
  have f11 := f3.keep K9 (allS g_b2 all0)
  have f12 := f4.trans K9 (allS (Or.inr sz_b2) all0)
  have f13 := f5.keep K9 (ninS ne_a_b2 nin0)
  have Z15 : n0 ≤ T9.heap.size := Nat.le_trans Z6 K9.1
  have P16 := own_step (C := T9.setTop (mkF m 12 #[.val (.ref a), .val (.int (0 : Int32)), .val (.int (2 : Int32)), .val (.ref b2), .unset, .unset] [(.int (2 : Int32))])) P8 (fun t_ k_ => st9 t_ k_)
  have P17 := own_step (C := T9.setTop (mkF m 17 #[.val (.ref a), .val (.int (0 : Int32)), .val (.int (2 : Int32)), .val (.ref b2), .val (.int (2 : Int32)), .unset] [(.int (2 : Int32)), (.int (2 : Int32))])) P16 (by
    intro tt_ kk_
    refine XS.istore X9.here hx rfl (hb hby d16_12) rfl (l' := #[.val (.ref a), .val (.int (0 : Int32)), .val (.int (2 : Int32)), .val (.ref b2), .val (.int (2 : Int32)), .unset]) rfl ?_
    refine XS.iload X9.here hx rfl (hb hby d16_14) rfl ?_
    refine XS.iloadN X9.here hx rfl (hb hby d16_16) rfl ?_
    exact kk_)
  have P18 := own_step (C := T9.setTop (mkF m 57 #[.val (.ref a), .val (.int (0 : Int32)), .val (.int (2 : Int32)), .val (.ref b2), .val (.int (2 : Int32)), .unset] [])) P17 (by
    intro tt_ kk_
    refine XS.icmpYes X9.here hx rfl (pc0 := 17) (pc' := 57) rfl (hb hby d16_17) rfl (teq (by decide : (2 : Int32) = (2 : Int32))).1 (by decide) (by decide) ?_
    exact kk_)
  have P19 := own_step (C := T9.setTop (mkF m 58 #[.val (.ref a), .val (.int (0 : Int32)), .val (.int (2 : Int32)), .val (.ref b2), .val (.int (2 : Int32)), .unset] [(.ref b2)])) P18 (by
    intro tt_ kk_
    refine XS.aloadN X9.here hx rfl (hb hby d16_57) rfl rfl ?_
    exact kk_)
  obtain ⟨fs, hr, hrun, hended, hW, hsame⟩ := X9.leave (v := some (.ref b2)) (fun h => by rw [Bd.returns] at h; cases h)
  refine ⟨_, _, P19 _ ?_, hrun, hended, _, _, rfl, ?_, ⟨_, rfl⟩, hW, hsame.mono (by decide) (by decide)⟩
  · jvm_step X9.here [X9.here.top, hx, (hb hby d16_58), X9.method', Bd.returns, Value.isRef, FieldType.isReference]
    first | (intro acts; rw [hr _ acts rfl rfl rfl]) | rw [hr _ _ rfl rfl rfl]
    exact Steps.refl _
  · show Q_comp_2 Z _ _ _ _ h0 n0 _ T9.heap _
    exact ⟨b2, k2, rfl, N9, f12, sz_b2, f10⟩
theorem ef__cfa_2 (m : MethodId) (x0 : Addr) (x1 : Int32) : entryFrame m #[(.ref x0), (.int x1)] 2 = mkF m 0 #[.val (.ref x0), .val (.int x1)] [] := by first | (simp [entryFrame, mkF, argsToLocals, Value.category]; done) | rfl
def Q_cfa_2 (Z : State) (b : Addr) (k : ClassId) (vs : List Value) (h0 : Heap) (n0 : Nat) (v_ : Option Value) (h : Heap) (L_ : List Loc) : Prop := v_ = some (.int (0 : Int32)) ∧ Fr n0 L_ ∧ h = h0
set_option maxRecDepth 65536 in
set_option maxHeartbeats 40000000 in
theorem rm_cfa_2 (l : Launch) (Z : State) (a0 : Array Value) (hw : ∀ d ∈ tables_1, d.before a0 Z = true) (ws : List Jvm.Cond) (b : Addr) (k : ClassId) (vs : List Value) (h0 : Heap) (n0 : Nat) (Z0 : n0 ≤ h0.size) (Vb : Arv Z h0 b k .byte (2 : Int32) vs (.int 0)) :
    MetFree l (⟨"java/lang/StringUTF16", "coderFromArrayLen", "([BI)B"⟩ : MethodName) (head1 (Jvm.Cond.code (⟨"java/lang/StringUTF16", "coderFromArrayLen", "([BI)B"⟩ : MethodName) jdk_52_method_15_code 2 (some .byte) :: ws) ({ frames := 0, cells := 0, slots := 0, locals := 0 } : Room)) (fun a_ U_ => a_ = #[(.ref b), (.int (2 : Int32))] ∧ Z.Warmed39 U_.vm ∧ U_.heap = h0) (fun _ _ _ _ _ => True) (fun _ U_ o_ V_ => ∃ v_ L_, o_ = .returned v_ ∧ Q_cfa_2 Z b k vs h0 n0 v_ V_.heap L_ ∧ FrameEnd U_ o_ V_ L_ ({ frames := 0, cells := 0, slots := 0, locals := 0 } : Room).cells ({ frames := 0, cells := 0, slots := 0, locals := 0 } : Room).slots) := by
  refine MetFree.of_bodySF (plainFor_of_name pn4) hisR ?_
  intro p e s m args below meth c s₁ Bd hml0 hP hK
  obtain ⟨rfl, hZ, hh⟩ := hP
  have hx := Bd.exec
  have hby := Bd.bytes
  have hml : c.maxLocals = 2 := hml0
  have hown : s.vm.findClass "java/lang/StringUTF16" = some m.cls := findClass_of_methodNamed Bd.named
  have hnm := (name_of_methodNamed Bd.named Bd.method).1
  have X0 : Stand p l e ({ frames := 0, cells := 0, slots := 0, locals := 0 } : Room) s m #[(.ref b), (.int (2 : Int32))] below meth c s₁ [] 0 0 := Stand.of_body Bd
  have e0 : s₁.heap = h0 := by rw [← hh, Bd.state]; rfl
  have N0 := Fr.nil n0
  have pre0 : own_Go p e below (s₁.setTop (entryFrame m #[(.ref b), (.int (2 : Int32))] 2)) (s₁.setTop (mkF m 0 #[.val (.ref b), .val (.int (2 : Int32))] [])) := fun t_ k_ => castTop (ef__cfa_2 m b (2 : Int32)) k_
  have P1 := own_step (C := s₁.setTop (mkF m 2 #[.val (.ref b), .val (.int (2 : Int32))] [(.ref b), (.int (2 : Int32))])) pre0 (by
    intro tt_ kk_
    refine XS.iloadN X0.here hx rfl (hb hby d18_0) rfl ?_
    refine XS.aloadN X0.here hx rfl (hb hby d18_1) rfl rfl ?_
    exact kk_)
  obtain ⟨cl2, Ar2, q2, S2, M2, H2, G2⟩ := id Vb
  have P3 := own_step (C := s₁.setTop (mkF m 3 #[.val (.ref b), .val (.int (2 : Int32))] [(.int (2 : Int32)), (.int (2 : Int32))])) P1 (by
    intro tt_ kk_
    refine X0.arraylength hx (by rw [e0]; exact Ar2.1) (State.isArrayOf_alike hZ.alike Ar2.2.1) (g := (mkF m 2 #[.val (.ref b), .val (.int (2 : Int32))] [(.ref b), (.int (2 : Int32))])) rfl rfl (hb hby d18_2) _ ?_
    rw [len_of S2 M2]
    exact kk_)
  have P4 := own_step (C := s₁.setTop (mkF m 8 #[.val (.ref b), .val (.int (2 : Int32))] [(.int ((((0 : Int32).toUInt32 >>> ((31 : Int32) &&& 31).toUInt32).toInt32).toInt8.toInt32))])) P3 (by
    intro tt_ kk_
    refine XS.isub X0.here hx rfl (hb hby d18_3) rfl ?_
    show Steps p.tables e below (s₁.setTop (mkF m 4 #[.val (.ref b), .val (.int (2 : Int32))] [(.int (0 : Int32))])) _
    refine XS.bipush X0.here hx rfl (hb hby d18_4) ?_
    refine XS.iushr X0.here hx rfl (hb hby d18_6) rfl ?_
    refine XS.i2b X0.here hx rfl (hb hby d18_7) rfl ?_
    exact kk_)
  obtain ⟨fs, hr, hrun, hended, hW, hsame⟩ := X0.leave (v := some (.int (nar .byte ((((0 : Int32).toUInt32 >>> ((31 : Int32) &&& 31).toUInt32).toInt32).toInt8.toInt32)))) (fun h => by rw [Bd.returns] at h; cases h)
  refine ⟨_, _, P4 _ ?_, hrun, hended, _, _, rfl, ?_, ⟨_, rfl⟩, hW, hsame.mono (by decide) (by decide)⟩
  · exact retN X0 hx (t := .byte) Bd.returns (by simp) (hb hby d18_8) hr
  · show Q_cfa_2 Z _ _ _ h0 n0 _ s₁.heap _
    rw [e0]
    exact ⟨(congrArg (fun z : Int32 => some (Value.int z)) (by decide +kernel)), N0, rfl⟩
theorem ef__initV_2 (m : MethodId) (x0 : Addr) (x1 : Addr) (x2 : Int32) (x3 : Int32) : entryFrame m #[(.ref x0), (.ref x1), (.int x2), (.int x3), .null] 6 = mkF m 0 #[.val (.ref x0), .val (.ref x1), .val (.int x2), .val (.int x3), .val .null, .unset] [] := by first | (simp [entryFrame, mkF, argsToLocals, Value.category]; done) | rfl
def Q_initV_2 (Z : State) (a : Addr) (ca : Addr) (ka : ClassId) (c0 : Int32) (c1 : Int32) (cs : Int32) (h0 : Heap) (n0 : Nat) (v_ : Option Value) (h : Heap) (L_ : List Loc) : Prop := ∃ (x : Addr) (kk : ClassId), v_ = none ∧ Fr n0 L_ ∧ Keep h0 h [a] ∧ Exa Z h a "java/lang/String" ∧ Fld Z h a "java/lang/String" "coder" "B" (.int (0 : Int32)) ∧ Fld Z h a "java/lang/String" "value" "[B" (.ref x) ∧ Arv Z h x kk .byte (2 : Int32) [(.int (c0.toInt8.toInt32).toInt8.toInt32), (.int (c1.toInt8.toInt32).toInt8.toInt32)] (.int 0) ∧ h0.size ≤ x
set_option maxRecDepth 65536 in
set_option maxHeartbeats 40000000 in
theorem rm_initV_2 (l : Launch) (Z : State) (a0 : Array Value) (hw : ∀ d ∈ tables_1, d.before a0 Z = true) (ws : List Jvm.Cond) (a : Addr) (ca : Addr) (ka : ClassId) (c0 : Int32) (c1 : Int32) (cs : Int32) (h0 : Heap) (n0 : Nat) (Z0 : n0 ≤ h0.size) (O : Old Z n0 h0) (Scs : Sta Z Z.heap "java/lang/String" "COMPACT_STRINGS" "Z" (.int cs)) (hcs : ¬ (cs = (0 : Int32))) (Ea : Exa Z h0 a "java/lang/String") (Fv : Fld Z h0 a "java/lang/String" "value" "[B" .null) (Fc : Fld Z h0 a "java/lang/String" "coder" "B" (.int (0 : Int32))) (ga : n0 ≤ a) (Vs : Arv Z h0 ca ka .char (2 : Int32) [(.int c0), (.int c1)] (.int 0)) (hc0 : ¬ ((255 : Int32) < c0)) (hc1 : ¬ ((255 : Int32) < c1)) :
    MetFree l (⟨"java/lang/String", "<init>", "([CIILjava/lang/Void;)V"⟩ : MethodName) (head1 (Jvm.Cond.code (⟨"java/lang/String", "<init>", "([CIILjava/lang/Void;)V"⟩ : MethodName) jdk_42_method_149_code 6 none :: ws) ({ frames := 2, cells := 1, slots := 2, locals := 35 } : Room)) (fun a_ U_ => a_ = #[(.ref a), (.ref ca), (.int (0 : Int32)), (.int (2 : Int32)), .null] ∧ Z.Warmed39 U_.vm ∧ U_.heap = h0) (fun _ _ _ _ _ => True) (fun _ U_ o_ V_ => ∃ v_ L_, o_ = .returned v_ ∧ Q_initV_2 Z a ca ka c0 c1 cs h0 n0 v_ V_.heap L_ ∧ FrameEnd U_ o_ V_ L_ ({ frames := 2, cells := 1, slots := 2, locals := 35 } : Room).cells ({ frames := 2, cells := 1, slots := 2, locals := 35 } : Room).slots) := by
  refine MetFree.of_bodySF (plainFor_of_name pn0) hisR ?_
  intro p e s m args below meth c s₁ Bd hml0 hP hK
  obtain ⟨rfl, hZ, hh⟩ := hP
  have hx := Bd.exec
  have hby := Bd.bytes
  have hml : c.maxLocals = 6 := hml0
  have hown : s.vm.findClass "java/lang/String" = some m.cls := findClass_of_methodNamed Bd.named
  have hnm := (name_of_methodNamed Bd.named Bd.method).1
  have X0 : Stand p l e ({ frames := 2, cells := 1, slots := 2, locals := 35 } : Room) s m #[(.ref a), (.ref ca), (.int (0 : Int32)), (.int (2 : Int32)), .null] below meth c s₁ [] 0 0 := Stand.of_body Bd
  have e0 : s₁.heap = h0 := by rw [← hh, Bd.state]; rfl
  have N0 := Fr.nil n0
  have pre0 : own_Go p e below (s₁.setTop (entryFrame m #[(.ref a), (.ref ca), (.int (0 : Int32)), (.int (2 : Int32)), .null] 6)) (s₁.setTop (mkF m 0 #[.val (.ref a), .val (.ref ca), .val (.int (0 : Int32)), .val (.int (2 : Int32)), .val .null, .unset] [])) := fun t_ k_ => castTop (ef__initV_2 m a ca (0 : Int32) (2 : Int32)) k_
  obtain ⟨clV, ArV, -⟩ := id Vs
  have ne_ca_a : ca ≠ a := Ne.symm (ne_arr Ea (hw _ (List.mem_of_getElem? (i := 16) rfl)) ArV)
  have P1 := own_step (C := s₁.setTop (mkF m 1 #[.val (.ref a), .val (.ref ca), .val (.int (0 : Int32)), .val (.int (2 : Int32)), .val .null, .unset] [(.ref a)])) pre0 (by
    intro tt_ kk_
    refine XS.aloadN X0.here hx rfl (hb hby d8_0) rfl rfl ?_
    exact kk_)
  obtain ⟨T2, X2, e2, st2⟩ := initO X0 hx hZ hown (hw _ (List.mem_of_getElem? (i := 25) rfl)) (hw _ (List.mem_of_getElem? (i := 26) rfl)) (hw _ (List.mem_of_getElem? (i := 27) rfl)) e0 (g := (mkF m 1 #[.val (.ref a), .val (.ref ca), .val (.int (0 : Int32)), .val (.int (2 : Int32)), .val .null, .unset] [(.ref a)])) rfl (by rw [hml]; rfl) rfl (hb hby d8_1) (by decide) (W := 0) (by show 2 * 0 + _ ≤ _; exact Nat.le_of_eq rfl) (by decide)
  have P3 := own_step (C := T2.setTop (mkF m 4 #[.val (.ref a), .val (.ref ca), .val (.int (0 : Int32)), .val (.int (2 : Int32)), .val .null, .unset] [])) P1 (fun t_ k_ => st2 t_ k_)
  have P4 := own_step (C := T2.setTop (mkF m 5 #[.val (.ref a), .val (.ref ca), .val (.int (0 : Int32)), .val (.int (2 : Int32)), .val .null, .unset] [(.int (2 : Int32))])) P3 (by
    intro tt_ kk_
    refine XS.iloadN X2.here hx rfl (hb hby d8_4) rfl ?_
    exact kk_)
  have P5 := own_step (C := T2.setTop (mkF m 27 #[.val (.ref a), .val (.ref ca), .val (.int (0 : Int32)), .val (.int (2 : Int32)), .val .null, .unset] [])) P4 (by
    intro tt_ kk_
    refine XS.ifYes X2.here hx rfl (pc0 := 5) (pc' := 27) rfl (hb hby d8_5) rfl ((if0 _ _).trans (feq (by decide : ¬ ((2 : Int32) = (0 : Int32)))).2) (by decide) (by decide) ?_
    exact kk_)
  obtain ⟨T6, X6, e6, st6⟩ := getS2 X2 hx hZ hown (host := "") (Or.inl (hw _ (List.mem_of_getElem? (i := 10) rfl))) Via.refl e2 (Scs.ext O.2) (g := (mkF m 27 #[.val (.ref a), .val (.ref ca), .val (.int (0 : Int32)), .val (.int (2 : Int32)), .val .null, .unset] [])) rfl (hb hby d8_27)
  have P7 := own_step (C := T6.setTop (mkF m 30 #[.val (.ref a), .val (.ref ca), .val (.int (0 : Int32)), .val (.int (2 : Int32)), .val .null, .unset] [(.int cs)])) P5 (fun t_ k_ => st6 t_ k_)
  have P8 := own_step (C := T6.setTop (mkF m 33 #[.val (.ref a), .val (.ref ca), .val (.int (0 : Int32)), .val (.int (2 : Int32)), .val .null, .unset] [])) P7 (by
    intro tt_ kk_
    refine XS.ifNo X6.here hx rfl (hb hby d8_30) rfl ((if0 _ _).trans (feq hcs).1) ?_
    exact kk_)
  have P9 := own_step (C := T6.setTop (mkF m 36 #[.val (.ref a), .val (.ref ca), .val (.int (0 : Int32)), .val (.int (2 : Int32)), .val .null, .unset] [(.int (2 : Int32)), (.int (0 : Int32)), (.ref ca)])) P8 (by
    intro tt_ kk_
    refine XS.aloadN X6.here hx rfl (hb hby d8_33) rfl rfl ?_
    refine XS.iloadN X6.here hx rfl (hb hby d8_34) rfl ?_
    refine XS.iloadN X6.here hx rfl (hb hby d8_35) rfl ?_
    exact kk_)
  obtain ⟨_, _, ⟨T10, L10, k10, n10⟩, -, X10, ⟨Lc10, hQ10, l10, y10, z10⟩, st10⟩ := Jvm.LawKit.callS X6 hx (y := (⟨"java/lang/StringUTF16", "compress", "([CII)[B"⟩ : MethodName)) hown (mvT hZ (hw _ (List.mem_of_getElem? (i := 84) rfl))) (mvT hZ (hw _ (List.mem_of_getElem? (i := 85) rfl))) (mvT hZ (hw _ (List.mem_of_getElem? (i := 86) rfl))) (mvT hZ (hw _ (List.mem_of_getElem? (i := 87) rfl))) (by decide) (backOf (W := 0) (rm_comp_2 l Z a0 hw [] ca ka c0 c1 h0 n0 Z0 O Vs hc0 hc1) hZ (hw _ (List.mem_of_getElem? (i := 87) rfl)) (hw _ (List.mem_of_getElem? (i := 86) rfl)) (by decide) (by decide)) (g := (mkF m 36 #[.val (.ref a), .val (.ref ca), .val (.int (0 : Int32)), .val (.int (2 : Int32)), .val .null, .unset] [(.int (2 : Int32)), (.int (0 : Int32)), (.ref ca)])) rfl (by rw [hml]; rfl) (argsL := [(.ref ca), (.int (0 : Int32)), (.int (2 : Int32))]) (rest := []) (lenOf pd10 rfl) rfl (by show 2 * 0 + _ ≤ _; exact Nat.le_of_eq rfl) (hb hby d8_36) (fun _ _ => ⟨rfl, e6, (by decide : 0 + 1 ≤ _), (by decide : 0 + 2 ≤ _)⟩)
  dsimp only [Pt.U, Pt.locs, Pt.cells, Pt.slots] at X10 l10 y10 z10 st10 hQ10
  subst l10 y10 z10
  obtain ⟨x10, kk10, rfl, N10q, K10, f11, f12⟩ := hQ10
  have N10 := Fr.app N0 N10q
  have ne_a_x10 : a ≠ x10 := Nat.ne_of_lt (Nat.lt_of_lt_of_le Ea.lt f11)
  have ne_ca_x10 : ca ≠ x10 := Nat.ne_of_lt (Nat.lt_of_lt_of_le Vs.lt f11)
  have g_x10 : n0 ≤ x10 := Nat.le_trans Z0 f11
  have sz_x10 : h0.size ≤ x10 := Nat.le_trans (Keep.refl h0 [a]).1 f11
  have f13 := O.keep K10 all0
  have f14 := Ea.keep K10
  have f15 := Fc.keep K10 nin0
  have f16 := Fv.keep K10 nin0
  have f17 := (Keep.refl h0 [a]).trans K10 all0
  have f18 := Vs.keep K10 nin0
  have Z19 : n0 ≤ T10.heap.size := Nat.le_trans Z0 K10.1
  have P20 := own_step (C := T10.setTop (mkF m 39 #[.val (.ref a), .val (.ref ca), .val (.int (0 : Int32)), .val (.int (2 : Int32)), .val .null, .unset] [(.ref x10)])) P9 (fun t_ k_ => st10 t_ k_)
  have P21 := own_step (C := T10.setTop (mkF m 45 #[.val (.ref a), .val (.ref ca), .val (.int (0 : Int32)), .val (.int (2 : Int32)), .val .null, .val (.ref x10)] [(.int (2 : Int32)), (.ref x10), (.ref a)])) P20 (by
    intro tt_ kk_
    refine XS.astore X10.here hx rfl (hb hby d8_39) rfl rfl (l' := #[.val (.ref a), .val (.ref ca), .val (.int (0 : Int32)), .val (.int (2 : Int32)), .val .null, .val (.ref x10)]) rfl ?_
    refine XS.aloadN X10.here hx rfl (hb hby d8_41) rfl rfl ?_
    refine XS.aload X10.here hx rfl (hb hby d8_42) rfl rfl ?_
    refine XS.iloadN X10.here hx rfl (hb hby d8_44) rfl ?_
    exact kk_)
  obtain ⟨_, _, ⟨T22, L22, k22, n22⟩, -, X22, ⟨Lc22, hQ22, l22, y22, z22⟩, st22⟩ := Jvm.LawKit.callS X10 hx (y := (⟨"java/lang/StringUTF16", "coderFromArrayLen", "([BI)B"⟩ : MethodName)) hown (mvT hZ (hw _ (List.mem_of_getElem? (i := 91) rfl))) (mvT hZ (hw _ (List.mem_of_getElem? (i := 92) rfl))) (mvT hZ (hw _ (List.mem_of_getElem? (i := 86) rfl))) (mvT hZ (hw _ (List.mem_of_getElem? (i := 93) rfl))) (by decide) (backOf (W := 1) (rm_cfa_2 l Z a0 hw [] x10 kk10 _ T10.heap n0 Z19 f12) hZ (hw _ (List.mem_of_getElem? (i := 93) rfl)) (hw _ (List.mem_of_getElem? (i := 86) rfl)) (by decide) (by decide)) (g := (mkF m 45 #[.val (.ref a), .val (.ref ca), .val (.int (0 : Int32)), .val (.int (2 : Int32)), .val .null, .val (.ref x10)] [(.int (2 : Int32)), (.ref x10), (.ref a)])) rfl (by rw [hml]; rfl) (argsL := [(.ref x10), (.int (2 : Int32))]) (rest := [(.ref a)]) (lenOf pd11 rfl) rfl (by show 2 * 0 + _ ≤ _; exact Nat.le_of_eq rfl) (hb hby d8_45) (fun _ _ => ⟨rfl, rfl, (by decide : 1 + 0 ≤ _), (by decide : 2 + 0 ≤ _)⟩)
  dsimp only [Pt.U, Pt.locs, Pt.cells, Pt.slots] at X22 l22 y22 z22 st22 hQ22
  subst l22 y22 z22
  obtain ⟨rfl, N22q, e22⟩ := hQ22
  have N22 := Fr.app N10 N22q
  have P23 := own_step (C := T22.setTop (mkF m 48 #[.val (.ref a), .val (.ref ca), .val (.int (0 : Int32)), .val (.int (2 : Int32)), .val .null, .val (.ref x10)] [(.int (0 : Int32)), (.ref a)])) P21 (fun t_ k_ => st22 t_ k_)
  obtain ⟨T24, h24, X24, e24, W24, st24⟩ := putFN X22 hx hZ hown (hw _ (List.mem_of_getElem? (i := 30) rfl)) Via.refl e22 f15 f14 (Or.inr ⟨(hw _ (List.mem_of_getElem? (i := 31) rfl)), rfl, hnm⟩) (hw _ (List.mem_of_getElem? (i := 16) rfl)) (ty := .byte) (v' := (.int (0 : Int32).toInt8.toInt32)) (by decide) rfl (fits_nar_byte _) (g := (mkF m 48 #[.val (.ref a), .val (.ref ca), .val (.int (0 : Int32)), .val (.int (2 : Int32)), .val .null, .val (.ref x10)] [(.int (0 : Int32)), (.ref a)])) rfl rfl (hb hby d8_48)
  have f25 := f13.wr W24 ga
  have f26 := f14.wr W24
  have f27 := f15.same W24
  have f28 := f16.other W24 (Or.inr (slot_ne (Or.inr (hw _ (List.mem_of_getElem? (i := 29) rfl))) (Or.inr (hw _ (List.mem_of_getElem? (i := 31) rfl))) (by decide) (t := (.array .byte)) (t' := .byte) (by decide) (by decide)))
  have f29 := f17.wr W24 (Or.inl (List.mem_of_getElem? (i := 0) rfl))
  have f30 := f18.other W24 ne_ca_a
  have f31 := f12.other W24 (Ne.symm ne_a_x10)
  have Z32 : n0 ≤ h24.size := Nat.le_trans Z19 (Keep.of_wr W24).1
  have N24 := Fr.snoc X24 N22 ga
  have P33 := own_step (C := T24.setTop (mkF m 51 #[.val (.ref a), .val (.ref ca), .val (.int (0 : Int32)), .val (.int (2 : Int32)), .val .null, .val (.ref x10)] [])) P23 (fun t_ k_ => st24 t_ k_)
  have P34 := own_step (C := T24.setTop (mkF m 54 #[.val (.ref a), .val (.ref ca), .val (.int (0 : Int32)), .val (.int (2 : Int32)), .val .null, .val (.ref x10)] [(.ref x10), (.ref a)])) P33 (by
    intro tt_ kk_
    refine XS.aloadN X24.here hx rfl (hb hby d8_51) rfl rfl ?_
    refine XS.aload X24.here hx rfl (hb hby d8_52) rfl rfl ?_
    exact kk_)
  obtain ⟨T35, h35, X35, e35, W35, st35⟩ := putF X24 hx hZ hown (host := "") (Or.inl (hw _ (List.mem_of_getElem? (i := 28) rfl))) Via.refl e24 f28 f26 (Or.inr ⟨(hw _ (List.mem_of_getElem? (i := 29) rfl)), rfl, hnm⟩) (hw _ (List.mem_of_getElem? (i := 16) rfl)) (ty := (.array .byte)) (by decide) rfl rfl (g := (mkF m 54 #[.val (.ref a), .val (.ref ca), .val (.int (0 : Int32)), .val (.int (2 : Int32)), .val .null, .val (.ref x10)] [(.ref x10), (.ref a)])) rfl rfl (hb hby d8_54)
  have f36 := f25.wr W35 ga
  have f37 := f26.wr W35
  have f38 := f27.other W35 (Or.inr (slot_ne (Or.inr (hw _ (List.mem_of_getElem? (i := 31) rfl))) (Or.inr (hw _ (List.mem_of_getElem? (i := 29) rfl))) (by decide) (t := .byte) (t' := (.array .byte)) (by decide) (by decide)))
  have f39 := f28.same W35
  have f40 := f29.wr W35 (Or.inl (List.mem_of_getElem? (i := 0) rfl))
  have f41 := f30.other W35 ne_ca_a
  have f42 := f31.other W35 (Ne.symm ne_a_x10)
  have Z43 : n0 ≤ h35.size := Nat.le_trans Z32 (Keep.of_wr W35).1
  have N35 := Fr.snoc X35 N24 ga
  have P44 := own_step (C := T35.setTop (mkF m 57 #[.val (.ref a), .val (.ref ca), .val (.int (0 : Int32)), .val (.int (2 : Int32)), .val .null, .val (.ref x10)] [])) P34 (fun t_ k_ => st35 t_ k_)
  obtain ⟨fs, hr, hrun, hended, hW, hsame⟩ := X35.leave (v := none) (fun _ => rfl)
  refine ⟨_, _, P44 _ ?_, hrun, hended, _, _, rfl, ?_, ⟨_, rfl⟩, hW, hsame.mono (by decide) (by decide)⟩
  · exact X35.returnOut hx Bd.returns (hb hby d8_57) hr
  · show Q_initV_2 Z _ _ _ _ _ _ h0 n0 _ T35.heap _
    rw [e35]
    exact ⟨x10, kk10, rfl, N35, f40, f37, f38, f39, f42, sz_x10⟩
theorem ef__initC_2 (m : MethodId) (x0 : Addr) (x1 : Addr) : entryFrame m #[(.ref x0), (.ref x1)] 2 = mkF m 0 #[.val (.ref x0), .val (.ref x1)] [] := by first | (simp [entryFrame, mkF, argsToLocals, Value.category]; done) | rfl
def Q_initC_2 (Z : State) (a : Addr) (ca : Addr) (ka : ClassId) (c0 : Int32) (c1 : Int32) (cs : Int32) (h0 : Heap) (n0 : Nat) (v_ : Option Value) (h : Heap) (L_ : List Loc) : Prop := ∃ (x : Addr) (kk : ClassId), v_ = none ∧ Fr n0 L_ ∧ Keep h0 h [a] ∧ Exa Z h a "java/lang/String" ∧ Fld Z h a "java/lang/String" "coder" "B" (.int (0 : Int32)) ∧ Fld Z h a "java/lang/String" "value" "[B" (.ref x) ∧ Arv Z h x kk .byte (2 : Int32) [(.int (c0.toInt8.toInt32).toInt8.toInt32), (.int (c1.toInt8.toInt32).toInt8.toInt32)] (.int 0) ∧ h0.size ≤ x
set_option maxRecDepth 65536 in
set_option maxHeartbeats 40000000 in
theorem rm_initC_2 (l : Launch) (Z : State) (a0 : Array Value) (hw : ∀ d ∈ tables_1, d.before a0 Z = true) (ws : List Jvm.Cond) (a : Addr) (ca : Addr) (ka : ClassId) (c0 : Int32) (c1 : Int32) (cs : Int32) (h0 : Heap) (n0 : Nat) (Z0 : n0 ≤ h0.size) (O : Old Z n0 h0) (Scs : Sta Z Z.heap "java/lang/String" "COMPACT_STRINGS" "Z" (.int cs)) (hcs : ¬ (cs = (0 : Int32))) (Ea : Exa Z h0 a "java/lang/String") (Fv : Fld Z h0 a "java/lang/String" "value" "[B" .null) (Fc : Fld Z h0 a "java/lang/String" "coder" "B" (.int (0 : Int32))) (ga : n0 ≤ a) (Vs : Arv Z h0 ca ka .char (2 : Int32) [(.int c0), (.int c1)] (.int 0)) (hc0 : ¬ ((255 : Int32) < c0)) (hc1 : ¬ ((255 : Int32) < c1)) :
    MetFree l (⟨"java/lang/String", "<init>", "([C)V"⟩ : MethodName) (head1 (Jvm.Cond.code (⟨"java/lang/String", "<init>", "([C)V"⟩ : MethodName) jdk_42_method_3_code 2 none :: ws) ({ frames := 3, cells := 1, slots := 2, locals := 52 } : Room)) (fun a_ U_ => a_ = #[(.ref a), (.ref ca)] ∧ Z.Warmed39 U_.vm ∧ U_.heap = h0) (fun _ _ _ _ _ => True) (fun _ U_ o_ V_ => ∃ v_ L_, o_ = .returned v_ ∧ Q_initC_2 Z a ca ka c0 c1 cs h0 n0 v_ V_.heap L_ ∧ FrameEnd U_ o_ V_ L_ ({ frames := 3, cells := 1, slots := 2, locals := 52 } : Room).cells ({ frames := 3, cells := 1, slots := 2, locals := 52 } : Room).slots) := by
  refine MetFree.of_bodySF (plainFor_of_name pn0) hisR ?_
  intro p e s m args below meth c s₁ Bd hml0 hP hK
  obtain ⟨rfl, hZ, hh⟩ := hP
  have hx := Bd.exec
  have hby := Bd.bytes
  have hml : c.maxLocals = 2 := hml0
  have hown : s.vm.findClass "java/lang/String" = some m.cls := findClass_of_methodNamed Bd.named
  have hnm := (name_of_methodNamed Bd.named Bd.method).1
  have X0 : Stand p l e ({ frames := 3, cells := 1, slots := 2, locals := 52 } : Room) s m #[(.ref a), (.ref ca)] below meth c s₁ [] 0 0 := Stand.of_body Bd
  have e0 : s₁.heap = h0 := by rw [← hh, Bd.state]; rfl
  have N0 := Fr.nil n0
  have pre0 : own_Go p e below (s₁.setTop (entryFrame m #[(.ref a), (.ref ca)] 2)) (s₁.setTop (mkF m 0 #[.val (.ref a), .val (.ref ca)] [])) := fun t_ k_ => castTop (ef__initC_2 m a ca) k_
  obtain ⟨clV, ArV, -⟩ := id Vs
  have ne_ca_a : ca ≠ a := Ne.symm (ne_arr Ea (hw _ (List.mem_of_getElem? (i := 16) rfl)) ArV)
  have P1 := own_step (C := s₁.setTop (mkF m 4 #[.val (.ref a), .val (.ref ca)] [(.ref ca), (.int (0 : Int32)), (.ref ca), (.ref a)])) pre0 (by
    intro tt_ kk_
    refine XS.aloadN X0.here hx rfl (hb hby d7_0) rfl rfl ?_
    refine XS.aloadN X0.here hx rfl (hb hby d7_1) rfl rfl ?_
    refine XS.iconst X0.here hx rfl (hb hby d7_2) ?_
    refine XS.aloadN X0.here hx rfl (hb hby d7_3) rfl rfl ?_
    exact kk_)
  obtain ⟨cl2, Ar2, q2, S2, M2, H2, G2⟩ := id Vs
  have P3 := own_step (C := s₁.setTop (mkF m 5 #[.val (.ref a), .val (.ref ca)] [(.int (2 : Int32)), (.int (0 : Int32)), (.ref ca), (.ref a)])) P1 (by
    intro tt_ kk_
    refine X0.arraylength hx (by rw [e0]; exact Ar2.1) (State.isArrayOf_alike hZ.alike Ar2.2.1) (g := (mkF m 4 #[.val (.ref a), .val (.ref ca)] [(.ref ca), (.int (0 : Int32)), (.ref ca), (.ref a)])) rfl rfl (hb hby d7_4) _ ?_
    rw [len_of S2 M2]
    exact kk_)
  have P4 := own_step (C := s₁.setTop (mkF m 6 #[.val (.ref a), .val (.ref ca)] [.null, (.int (2 : Int32)), (.int (0 : Int32)), (.ref ca), (.ref a)])) P3 (by
    intro tt_ kk_
    refine XS.aconstNull X0.here hx rfl (hb hby d7_5) ?_
    exact kk_)
  obtain ⟨_, _, ⟨T5, L5, k5, n5⟩, -, X5, ⟨Lc5, hQ5, l5, y5, z5⟩, st5⟩ := X0.specialBack hx (y := (⟨"java/lang/String", "<init>", "([CIILjava/lang/Void;)V"⟩ : MethodName)) rfl hown (mvT hZ (hw _ (List.mem_of_getElem? (i := 39) rfl))) (mvT hZ (hw _ (List.mem_of_getElem? (i := 40) rfl))) (mvT hZ (hw _ (List.mem_of_getElem? (i := 41) rfl))) (by decide) (backOf (W := 0) (rm_initV_2 l Z a0 hw [] a ca ka c0 c1 cs h0 n0 Z0 O Scs hcs Ea Fv Fc ga Vs hc0 hc1) hZ (hw _ (List.mem_of_getElem? (i := 41) rfl)) (hw _ (List.mem_of_getElem? (i := 8) rfl)) (by decide) (by decide)) (g := (mkF m 6 #[.val (.ref a), .val (.ref ca)] [.null, (.int (2 : Int32)), (.int (0 : Int32)), (.ref ca), (.ref a)])) rfl (by rw [hml]; rfl) (Steps.refl _) (a := a) (argsL := [(.ref ca), (.int (0 : Int32)), (.int (2 : Int32)), .null]) (rest := []) (lenOf pd12 rfl) rfl (by show 2 * 0 + _ ≤ _; exact Nat.le_of_eq rfl) (hb hby d7_6) (fun _ _ => ⟨rfl, e0, (by decide : 0 + 1 ≤ _), (by decide : 0 + 2 ≤ _)⟩)
  dsimp only [Pt.U, Pt.locs, Pt.cells, Pt.slots] at X5 l5 y5 z5 st5 hQ5
  subst l5 y5 z5
  obtain ⟨x5, kk5, rfl, N5q, K5, f6, f7, f8, f9, f10⟩ := hQ5
  have N5 := Fr.app N0 N5q
  have ne_a_x5 : a ≠ x5 := Nat.ne_of_lt (Nat.lt_of_lt_of_le Ea.lt f10)
  have ne_ca_x5 : ca ≠ x5 := Nat.ne_of_lt (Nat.lt_of_lt_of_le Vs.lt f10)
  have g_x5 : n0 ≤ x5 := Nat.le_trans Z0 f10
  have sz_x5 : h0.size ≤ x5 := Nat.le_trans (Keep.refl h0 [a]).1 f10
  have f11 := O.keep K5 (allS ga all0)
  have f12 := Ea.keep K5
  have f15 := (Keep.refl h0 [a]).trans K5 (allS (Or.inl (List.mem_of_getElem? (i := 0) rfl)) all0)
  have f16 := Vs.keep K5 (ninS ne_ca_a nin0)
  have Z17 : n0 ≤ T5.heap.size := Nat.le_trans Z0 K5.1
  have P18 := own_step (C := T5.setTop (mkF m 9 #[.val (.ref a), .val (.ref ca)] [])) P4 (fun t_ k_ => st5.trans k_)
  obtain ⟨fs, hr, hrun, hended, hW, hsame⟩ := X5.leave (v := none) (fun _ => rfl)
  refine ⟨_, _, P18 _ ?_, hrun, hended, _, _, rfl, ?_, ⟨_, rfl⟩, hW, hsame.mono (by decide) (by decide)⟩
  · exact X5.returnOut hx Bd.returns (hb hby d7_9) hr
  · show Q_initC_2 Z _ _ _ _ _ _ h0 n0 _ T5.heap _
    exact ⟨x5, kk5, rfl, N5, f15, f6, f7, f8, f9, f10⟩
theorem ef__comp2_3 (m : MethodId) (x0 : Addr) (x1 : Int32) (x2 : Addr) (x3 : Int32) (x4 : Int32) : entryFrame m #[(.ref x0), (.int x1), (.ref x2), (.int x3), (.int x4)] 7 = mkF m 0 #[.val (.ref x0), .val (.int x1), .val (.ref x2), .val (.int x3), .val (.int x4), .unset, .unset] [] := by first | (simp [entryFrame, mkF, argsToLocals, Value.category]; done) | rfl
def Q_comp2_3 (Z : State) (a : Addr) (ka : ClassId) (d : Addr) (kd : ClassId) (c0 : Int32) (c1 : Int32) (c2 : Int32) (h0 : Heap) (n0 : Nat) (v_ : Option Value) (h : Heap) (L_ : List Loc) : Prop := v_ = some (.int (3 : Int32)) ∧ Fr n0 L_ ∧ Keep h0 h [d] ∧ Arv Z h d kd .byte (3 : Int32) [(.int (c0.toInt8.toInt32).toInt8.toInt32), (.int (c1.toInt8.toInt32).toInt8.toInt32), (.int (c2.toInt8.toInt32).toInt8.toInt32)] (.int 0)
set_option maxRecDepth 65536 in
set_option maxHeartbeats 40000000 in
theorem rm_comp2_3 (l : Launch) (Z : State) (a0 : Array Value) (hw : ∀ d ∈ tables_1, d.before a0 Z = true) (ws : List Jvm.Cond) (a : Addr) (ka : ClassId) (d : Addr) (kd : ClassId) (c0 : Int32) (c1 : Int32) (c2 : Int32) (h0 : Heap) (n0 : Nat) (Z0 : n0 ≤ h0.size) (O : Old Z n0 h0) (Va : Arv Z h0 a ka .char (3 : Int32) [(.int c0), (.int c1), (.int c2)] (.int 0)) (Vd : Arv Z h0 d kd .byte (3 : Int32) [(.int (0 : Int32)), (.int (0 : Int32)), (.int (0 : Int32))] (.int 0)) (nad : a ≠ d) (gd : n0 ≤ d) (hc0 : ¬ ((255 : Int32) < c0)) (hc1 : ¬ ((255 : Int32) < c1)) (hc2 : ¬ ((255 : Int32) < c2)) :
    MetFree l (⟨"java/lang/StringUTF16", "compress", "([CI[BII)I"⟩ : MethodName) (head1 (Jvm.Cond.code (⟨"java/lang/StringUTF16", "compress", "([CI[BII)I"⟩ : MethodName) jdk_52_method_21_code 7 (some .int) :: ws) ({ frames := 0, cells := 0, slots := 0, locals := 0 } : Room)) (fun a_ U_ => a_ = #[(.ref a), (.int (0 : Int32)), (.ref d), (.int (0 : Int32)), (.int (3 : Int32))] ∧ Z.Warmed39 U_.vm ∧ U_.heap = h0) (fun _ _ _ _ _ => True) (fun _ U_ o_ V_ => ∃ v_ L_, o_ = .returned v_ ∧ Q_comp2_3 Z a ka d kd c0 c1 c2 h0 n0 v_ V_.heap L_ ∧ FrameEnd U_ o_ V_ L_ ({ frames := 0, cells := 0, slots := 0, locals := 0 } : Room).cells ({ frames := 0, cells := 0, slots := 0, locals := 0 } : Room).slots) := by
  refine MetFree.of_bodySF (plainFor_of_name pn4) hisR ?_
  intro p e s m args below meth c s₁ Bd hml0 hP hK
  obtain ⟨rfl, hZ, hh⟩ := hP
  have hx := Bd.exec
  have hby := Bd.bytes
  have hml : c.maxLocals = 7 := hml0
  have hown : s.vm.findClass "java/lang/StringUTF16" = some m.cls := findClass_of_methodNamed Bd.named
  have hnm := (name_of_methodNamed Bd.named Bd.method).1
  have X0 : Stand p l e ({ frames := 0, cells := 0, slots := 0, locals := 0 } : Room) s m #[(.ref a), (.int (0 : Int32)), (.ref d), (.int (0 : Int32)), (.int (3 : Int32))] below meth c s₁ [] 0 0 := Stand.of_body Bd
  have e0 : s₁.heap = h0 := by rw [← hh, Bd.state]; rfl
  have N0 := Fr.nil n0
  have pre0 : own_Go p e below (s₁.setTop (entryFrame m #[(.ref a), (.int (0 : Int32)), (.ref d), (.int (0 : Int32)), (.int (3 : Int32))] 7)) (s₁.setTop (mkF m 0 #[.val (.ref a), .val (.int (0 : Int32)), .val (.ref d), .val (.int (0 : Int32)), .val (.int (3 : Int32)), .unset, .unset] [])) := fun t_ k_ => castTop (ef__comp2_3 m a (0 : Int32) d (0 : Int32) (3 : Int32)) k_
  have P1 := own_step (C := s₁.setTop (mkF m 7 #[.val (.ref a), .val (.int (0 : Int32)), .val (.ref d), .val (.int (0 : Int32)), .val (.int (3 : Int32)), .val (.int (0 : Int32)), .unset] [(.int (3 : Int32)), (.int (0 : Int32))])) pre0 (by
    intro tt_ kk_
    refine XS.iconst X0.here hx rfl (hb hby d17_0) ?_
    refine XS.istore X0.here hx rfl (hb hby d17_1) rfl (l' := #[.val (.ref a), .val (.int (0 : Int32)), .val (.ref d), .val (.int (0 : Int32)), .val (.int (3 : Int32)), .val (.int (0 : Int32)), .unset]) rfl ?_
    refine XS.iload X0.here hx rfl (hb hby d17_3) rfl ?_
    refine XS.iload X0.here hx rfl (hb hby d17_5) rfl ?_
    exact kk_)
  have P2 := own_step (C := s₁.setTop (mkF m 10 #[.val (.ref a), .val (.int (0 : Int32)), .val (.ref d), .val (.int (0 : Int32)), .val (.int (3 : Int32)), .val (.int (0 : Int32)), .unset] [])) P1 (by
    intro tt_ kk_
    refine XS.icmpNo X0.here hx rfl (hb hby d17_7) rfl (tlt (by decide : (0 : Int32) < (3 : Int32))).2.1 ?_
    exact kk_)
  have P3 := own_step (C := s₁.setTop (mkF m 12 #[.val (.ref a), .val (.int (0 : Int32)), .val (.ref d), .val (.int (0 : Int32)), .val (.int (3 : Int32)), .val (.int (0 : Int32)), .unset] [(.int (0 : Int32)), (.ref a)])) P2 (by
    intro tt_ kk_
    refine XS.aloadN X0.here hx rfl (hb hby d17_10) rfl rfl ?_
    refine XS.iloadN X0.here hx rfl (hb hby d17_11) rfl ?_
    exact kk_)
  obtain ⟨cl4, Ar4, q4, S4, M4, H4, G4⟩ := id Va
  have hin4 := inb_of S4 (by decide : ¬ (0 : Int32) < 0 ∧ (0 : Int32) < (3 : Int32))
  have hat4 := Has.at H4 hin4 (v := .int c0) rfl
  have P5 := own_step (C := s₁.setTop (mkF m 13 #[.val (.ref a), .val (.int (0 : Int32)), .val (.ref d), .val (.int (0 : Int32)), .val (.int (3 : Int32)), .val (.int (0 : Int32)), .unset] [(.int c0)])) P3 (by
    intro tt_ kk_
    refine X0.caload hx (j := (0 : Int32)) (v := (.int c0)) (by rw [e0]; exact Ar4.1) (State.isArrayOf_alike hZ.alike Ar4.2.1) Ar4.2.2 hin4 hat4 (g := (mkF m 12 #[.val (.ref a), .val (.int (0 : Int32)), .val (.ref d), .val (.int (0 : Int32)), .val (.int (3 : Int32)), .val (.int (0 : Int32)), .unset] [(.int (0 : Int32)), (.ref a)])) rfl rfl (hb hby d17_12) _ ?_
    exact kk_)
  have P6 := own_step (C := s₁.setTop (mkF m 20 #[.val (.ref a), .val (.int (0 : Int32)), .val (.ref d), .val (.int (0 : Int32)), .val (.int (3 : Int32)), .val (.int (0 : Int32)), .val (.int c0)] [(.int (255 : Int32)), (.int c0)])) P5 (by
    intro tt_ kk_
    refine XS.istore X0.here hx rfl (hb hby d17_13) rfl (l' := #[.val (.ref a), .val (.int (0 : Int32)), .val (.ref d), .val (.int (0 : Int32)), .val (.int (3 : Int32)), .val (.int (0 : Int32)), .val (.int c0)]) rfl ?_
    refine XS.iload X0.here hx rfl (hb hby d17_15) rfl ?_
    refine XS.sipush X0.here hx rfl (hb hby d17_17) ?_
    exact kk_)
  have P7 := own_step (C := s₁.setTop (mkF m 26 #[.val (.ref a), .val (.int (0 : Int32)), .val (.ref d), .val (.int (0 : Int32)), .val (.int (3 : Int32)), .val (.int (0 : Int32)), .val (.int c0)] [])) P6 (by
    intro tt_ kk_
    refine XS.icmpYes X0.here hx rfl (pc0 := 20) (pc' := 26) rfl (hb hby d17_20) rfl (flt hc0).2.2.2 (by decide) (by decide) ?_
    exact kk_)
  have P8 := own_step (C := s₁.setTop (mkF m 31 #[.val (.ref a), .val (.int (0 : Int32)), .val (.ref d), .val (.int (0 : Int32)), .val (.int (3 : Int32)), .val (.int (0 : Int32)), .val (.int c0)] [(.int (c0.toInt8.toInt32)), (.int (0 : Int32)), (.ref d)])) P7 (by
    intro tt_ kk_
    refine XS.aloadN X0.here hx rfl (hb hby d17_26) rfl rfl ?_
    refine XS.iloadN X0.here hx rfl (hb hby d17_27) rfl ?_
    refine XS.iload X0.here hx rfl (hb hby d17_28) rfl ?_
    refine XS.i2b X0.here hx rfl (hb hby d17_30) rfl ?_
    exact kk_)
  obtain ⟨cl9, Ar9, q9, S9, M9, H9, G9⟩ := id Vd
  obtain ⟨T10, h10, X10, e10, W10, st10⟩ := stB X0 hx hZ e0 Ar9 (j := (0 : Int32)) (inb_of S9 (by decide : ¬ (0 : Int32) < 0 ∧ (0 : Int32) < (3 : Int32))) (g := (mkF m 31 #[.val (.ref a), .val (.int (0 : Int32)), .val (.ref d), .val (.int (0 : Int32)), .val (.int (3 : Int32)), .val (.int (0 : Int32)), .val (.int c0)] [(.int (c0.toInt8.toInt32)), (.int (0 : Int32)), (.ref d)])) rfl rfl (hb hby d17_31)
  have f11 := O.wr W10 gd
  have f12 := Va.other W10 nad
  have f14 := (Keep.refl h0 [d]).wr W10 (Or.inl (List.mem_of_getElem? (i := 0) rfl))
  have Z15 : n0 ≤ h10.size := Nat.le_trans Z0 (Keep.of_wr W10).1
  have V10 : Arv Z h10 d kd .byte (3 : Int32) [(.int (c0.toInt8.toInt32).toInt8.toInt32), (.int (0 : Int32)), (.int (0 : Int32))] (.int 0) := Arv.set Ar9 q9 S9 M9 H9 G9 (fits_nar_byte _) W10 0 rfl (Nat.le_of_ble_eq_true rfl)
  have N10 := Fr.snoc X10 N0 gd
  have P16 := own_step (C := T10.setTop (mkF m 32 #[.val (.ref a), .val (.int (0 : Int32)), .val (.ref d), .val (.int (0 : Int32)), .val (.int (3 : Int32)), .val (.int (0 : Int32)), .val (.int c0)] [])) P8 (fun t_ k_ => st10 t_ k_)
  have P17 := own_step (C := T10.setTop (mkF m 7 #[.val (.ref a), .val (.int (1 : Int32)), .val (.ref d), .val (.int (1 : Int32)), .val (.int (3 : Int32)), .val (.int (1 : Int32)), .val (.int c0)] [(.int (3 : Int32)), (.int (1 : Int32))])) P16 (by
    intro tt_ kk_
    refine XS.iinc X10.here hx rfl (hb hby d17_32) rfl (l' := #[.val (.ref a), .val (.int (1 : Int32)), .val (.ref d), .val (.int (0 : Int32)), .val (.int (3 : Int32)), .val (.int (0 : Int32)), .val (.int c0)]) rfl ?_
    show Steps p.tables e below (T10.setTop (mkF m 35 #[.val (.ref a), .val (.int (1 : Int32)), .val (.ref d), .val (.int (0 : Int32)), .val (.int (3 : Int32)), .val (.int (0 : Int32)), .val (.int c0)] [])) _
    refine XS.iinc X10.here hx rfl (hb hby d17_35) rfl (l' := #[.val (.ref a), .val (.int (1 : Int32)), .val (.ref d), .val (.int (1 : Int32)), .val (.int (3 : Int32)), .val (.int (0 : Int32)), .val (.int c0)]) rfl ?_
    show Steps p.tables e below (T10.setTop (mkF m 38 #[.val (.ref a), .val (.int (1 : Int32)), .val (.ref d), .val (.int (1 : Int32)), .val (.int (3 : Int32)), .val (.int (0 : Int32)), .val (.int c0)] [])) _
    refine XS.iinc X10.here hx rfl (hb hby d17_38) rfl (l' := #[.val (.ref a), .val (.int (1 : Int32)), .val (.ref d), .val (.int (1 : Int32)), .val (.int (3 : Int32)), .val (.int (1 : Int32)), .val (.int c0)]) rfl ?_
    show Steps p.tables e below (T10.setTop (mkF m 41 #[.val (.ref a), .val (.int (1 : Int32)), .val (.ref d), .val (.int (1 : Int32)), .val (.int (3 : Int32)), .val (.int (1 : Int32)), .val (.int c0)] [])) _
    refine XS.goto X10.here hx rfl (pc0 := 41) (pc' := 3) rfl (hb hby d17_41) (by decide) (by decide) ?_
    refine XS.iload X10.here hx rfl (hb hby d17_3) rfl ?_
    refine XS.iload X10.here hx rfl (hb hby d17_5) rfl ?_
    exact kk_)
  have P18 := own_step (C := T10.setTop (mkF m 10 #[.val (.ref a), .val (.int (1 : Int32)), .val (.ref d), .val (.int (1 : Int32)), .val (.int (3 : Int32)), .val (.int (1 : Int32)), .val (.int c0)] [])) P17 (by
    intro tt_ kk_
    refine XS.icmpNo X10.here hx rfl (hb hby d17_7) rfl (tlt (by decide : (1 : Int32) < (3 : Int32))).2.1 ?_
    exact kk_)
  have P19 := own_step (C := T10.setTop (mkF m 12 #[.val (.ref a), .val (.int (1 : Int32)), .val (.ref d), .val (.int (1 : Int32)), .val (.int (3 : Int32)), .val (.int (1 : Int32)), .val (.int c0)] [(.int (1 : Int32)), (.ref a)])) P18 (by
    intro tt_ kk_
    refine XS.aloadN X10.here hx rfl (hb hby d17_10) rfl rfl ?_
    refine XS.iloadN X10.here hx rfl (hb hby d17_11) rfl ?_
    exact kk_)
  obtain ⟨cl20, Ar20, q20, S20, M20, H20, G20⟩ := id f12
  have hin20 := inb_of S20 (by decide : ¬ (1 : Int32) < 0 ∧ (1 : Int32) < (3 : Int32))
  have hat20 := Has.at H20 hin20 (v := .int c1) rfl
  have P21 := own_step (C := T10.setTop (mkF m 13 #[.val (.ref a), .val (.int (1 : Int32)), .val (.ref d), .val (.int (1 : Int32)), .val (.int (3 : Int32)), .val (.int (1 : Int32)), .val (.int c0)] [(.int c1)])) P19 (by
    intro tt_ kk_
    refine X10.caload hx (j := (1 : Int32)) (v := (.int c1)) (by rw [e10]; exact Ar20.1) (State.isArrayOf_alike hZ.alike Ar20.2.1) Ar20.2.2 hin20 hat20 (g := (mkF m 12 #[.val (.ref a), .val (.int (1 : Int32)), .val (.ref d), .val (.int (1 : Int32)), .val (.int (3 : Int32)), .val (.int (1 : Int32)), .val (.int c0)] [(.int (1 : Int32)), (.ref a)])) rfl rfl (hb hby d17_12) _ ?_
    exact kk_)
  have P22 := own_step (C := T10.setTop (mkF m 20 #[.val (.ref a), .val (.int (1 : Int32)), .val (.ref d), .val (.int (1 : Int32)), .val (.int (3 : Int32)), .val (.int (1 : Int32)), .val (.int c1)] [(.int (255 : Int32)), (.int c1)])) P21 (by
    intro tt_ kk_
    refine XS.istore X10.here hx rfl (hb hby d17_13) rfl (l' := #[.val (.ref a), .val (.int (1 : Int32)), .val (.ref d), .val (.int (1 : Int32)), .val (.int (3 : Int32)), .val (.int (1 : Int32)), .val (.int c1)]) rfl ?_
    refine XS.iload X10.here hx rfl (hb hby d17_15) rfl ?_
    refine XS.sipush X10.here hx rfl (hb hby d17_17) ?_
    exact kk_)
  have P23 := own_step (C := T10.setTop (mkF m 26 #[.val (.ref a), .val (.int (1 : Int32)), .val (.ref d), .val (.int (1 : Int32)), .val (.int (3 : Int32)), .val (.int (1 : Int32)), .val (.int c1)] [])) P22 (by
    intro tt_ kk_
    refine XS.icmpYes X10.here hx rfl (pc0 := 20) (pc' := 26) rfl (hb hby d17_20) rfl (flt hc1).2.2.2 (by decide) (by decide) ?_
    exact kk_)
  have P24 := own_step (C := T10.setTop (mkF m 31 #[.val (.ref a), .val (.int (1 : Int32)), .val (.ref d), .val (.int (1 : Int32)), .val (.int (3 : Int32)), .val (.int (1 : Int32)), .val (.int c1)] [(.int (c1.toInt8.toInt32)), (.int (1 : Int32)), (.ref d)])) P23 (by
    intro tt_ kk_
    refine XS.aloadN X10.here hx rfl (hb hby d17_26) rfl rfl ?_
    refine XS.iloadN X10.here hx rfl (hb hby d17_27) rfl ?_
    refine XS.iload X10.here hx rfl (hb hby d17_28) rfl ?_
    refine XS.i2b X10.here hx rfl (hb hby d17_30) rfl ?_
    exact kk_)
  obtain ⟨cl25, Ar25, q25, S25, M25, H25, G25⟩ := id V10
  obtain ⟨T26, h26, X26, e26, W26, st26⟩ := stB X10 hx hZ e10 Ar25 (j := (1 : Int32)) (inb_of S25 (by decide : ¬ (1 : Int32) < 0 ∧ (1 : Int32) < (3 : Int32))) (g := (mkF m 31 #[.val (.ref a), .val (.int (1 : Int32)), .val (.ref d), .val (.int (1 : Int32)), .val (.int (3 : Int32)), .val (.int (1 : Int32)), .val (.int c1)] [(.int (c1.toInt8.toInt32)), (.int (1 : Int32)), (.ref d)])) rfl rfl (hb hby d17_31)
  have f27 := f11.wr W26 gd
  have f28 := f12.other W26 nad
  have f30 := f14.wr W26 (Or.inl (List.mem_of_getElem? (i := 0) rfl))
  have Z31 : n0 ≤ h26.size := Nat.le_trans Z15 (Keep.of_wr W26).1
  have V26 : Arv Z h26 d kd .byte (3 : Int32) [(.int (c0.toInt8.toInt32).toInt8.toInt32), (.int (c1.toInt8.toInt32).toInt8.toInt32), (.int (0 : Int32))] (.int 0) := Arv.set Ar25 q25 S25 M25 H25 G25 (fits_nar_byte _) W26 1 rfl (Nat.le_of_ble_eq_true rfl)
  have N26 := Fr.snoc X26 N10 gd
  have P32 := own_step (C := T26.setTop (mkF m 32 #[.val (.ref a), .val (.int (1 : Int32)), .val (.ref d), .val (.int (1 : Int32)), .val (.int (3 : Int32)), .val (.int (1 : Int32)), .val (.int c1)] [])) P24 (fun t_ k_ => st26 t_ k_)
  have P33 := own_step (C := T26.setTop (mkF m 7 #[.val (.ref a), .val (.int (2 : Int32)), .val (.ref d), .val (.int (2 : Int32)), .val (.int (3 : Int32)), .val (.int (2 : Int32)), .val (.int c1)] [(.int (3 : Int32)), (.int (2 : Int32))])) P32 (by
    intro tt_ kk_
    refine XS.iinc X26.here hx rfl (hb hby d17_32) rfl (l' := #[.val (.ref a), .val (.int (2 : Int32)), .val (.ref d), .val (.int (1 : Int32)), .val (.int (3 : Int32)), .val (.int (1 : Int32)), .val (.int c1)]) rfl ?_
    show Steps p.tables e below (T26.setTop (mkF m 35 #[.val (.ref a), .val (.int (2 : Int32)), .val (.ref d), .val (.int (1 : Int32)), .val (.int (3 : Int32)), .val (.int (1 : Int32)), .val (.int c1)] [])) _
    refine XS.iinc X26.here hx rfl (hb hby d17_35) rfl (l' := #[.val (.ref a), .val (.int (2 : Int32)), .val (.ref d), .val (.int (2 : Int32)), .val (.int (3 : Int32)), .val (.int (1 : Int32)), .val (.int c1)]) rfl ?_
    show Steps p.tables e below (T26.setTop (mkF m 38 #[.val (.ref a), .val (.int (2 : Int32)), .val (.ref d), .val (.int (2 : Int32)), .val (.int (3 : Int32)), .val (.int (1 : Int32)), .val (.int c1)] [])) _
    refine XS.iinc X26.here hx rfl (hb hby d17_38) rfl (l' := #[.val (.ref a), .val (.int (2 : Int32)), .val (.ref d), .val (.int (2 : Int32)), .val (.int (3 : Int32)), .val (.int (2 : Int32)), .val (.int c1)]) rfl ?_
    show Steps p.tables e below (T26.setTop (mkF m 41 #[.val (.ref a), .val (.int (2 : Int32)), .val (.ref d), .val (.int (2 : Int32)), .val (.int (3 : Int32)), .val (.int (2 : Int32)), .val (.int c1)] [])) _
    refine XS.goto X26.here hx rfl (pc0 := 41) (pc' := 3) rfl (hb hby d17_41) (by decide) (by decide) ?_
    refine XS.iload X26.here hx rfl (hb hby d17_3) rfl ?_
    refine XS.iload X26.here hx rfl (hb hby d17_5) rfl ?_
    exact kk_)
  have P34 := own_step (C := T26.setTop (mkF m 10 #[.val (.ref a), .val (.int (2 : Int32)), .val (.ref d), .val (.int (2 : Int32)), .val (.int (3 : Int32)), .val (.int (2 : Int32)), .val (.int c1)] [])) P33 (by
    intro tt_ kk_
    refine XS.icmpNo X26.here hx rfl (hb hby d17_7) rfl (tlt (by decide : (2 : Int32) < (3 : Int32))).2.1 ?_
    exact kk_)
  have P35 := own_step (C := T26.setTop (mkF m 12 #[.val (.ref a), .val (.int (2 : Int32)), .val (.ref d), .val (.int (2 : Int32)), .val (.int (3 : Int32)), .val (.int (2 : Int32)), .val (.int c1)] [(.int (2 : Int32)), (.ref a)])) P34 (by
    intro tt_ kk_
    refine XS.aloadN X26.here hx rfl (hb hby d17_10) rfl rfl ?_
    refine XS.iloadN X26.here hx rfl (hb hby d17_11) rfl ?_
    exact kk_)
  obtain ⟨cl36, Ar36, q36, S36, M36, H36, G36⟩ := id f28
  have hin36 := inb_of S36 (by decide : ¬ (2 : Int32) < 0 ∧ (2 : Int32) < (3 : Int32))
  have hat36 := Has.at H36 hin36 (v := .int c2) rfl
  have P37 := own_step (C := T26.setTop (mkF m 13 #[.val (.ref a), .val (.int (2 : Int32)), .val (.ref d), .val (.int (2 : Int32)), .val (.int (3 : Int32)), .val (.int (2 : Int32)), .val (.int c1)] [(.int c2)])) P35 (by
    intro tt_ kk_
    refine X26.caload hx (j := (2 : Int32)) (v := (.int c2)) (by rw [e26]; exact Ar36.1) (State.isArrayOf_alike hZ.alike Ar36.2.1) Ar36.2.2 hin36 hat36 (g := (mkF m 12 #[.val (.ref a), .val (.int (2 : Int32)), .val (.ref d), .val (.int (2 : Int32)), .val (.int (3 : Int32)), .val (.int (2 : Int32)), .val (.int c1)] [(.int (2 : Int32)), (.ref a)])) rfl rfl (hb hby d17_12) _ ?_
    exact kk_)
  have P38 := own_step (C := T26.setTop (mkF m 20 #[.val (.ref a), .val (.int (2 : Int32)), .val (.ref d), .val (.int (2 : Int32)), .val (.int (3 : Int32)), .val (.int (2 : Int32)), .val (.int c2)] [(.int (255 : Int32)), (.int c2)])) P37 (by
    intro tt_ kk_
    refine XS.istore X26.here hx rfl (hb hby d17_13) rfl (l' := #[.val (.ref a), .val (.int (2 : Int32)), .val (.ref d), .val (.int (2 : Int32)), .val (.int (3 : Int32)), .val (.int (2 : Int32)), .val (.int c2)]) rfl ?_
    refine XS.iload X26.here hx rfl (hb hby d17_15) rfl ?_
    refine XS.sipush X26.here hx rfl (hb hby d17_17) ?_
    exact kk_)
  have P39 := own_step (C := T26.setTop (mkF m 26 #[.val (.ref a), .val (.int (2 : Int32)), .val (.ref d), .val (.int (2 : Int32)), .val (.int (3 : Int32)), .val (.int (2 : Int32)), .val (.int c2)] [])) P38 (by
    intro tt_ kk_
    refine XS.icmpYes X26.here hx rfl (pc0 := 20) (pc' := 26) rfl (hb hby d17_20) rfl (flt hc2).2.2.2 (by decide) (by decide) ?_
    exact kk_)
  have P40 := own_step (C := T26.setTop (mkF m 31 #[.val (.ref a), .val (.int (2 : Int32)), .val (.ref d), .val (.int (2 : Int32)), .val (.int (3 : Int32)), .val (.int (2 : Int32)), .val (.int c2)] [(.int (c2.toInt8.toInt32)), (.int (2 : Int32)), (.ref d)])) P39 (by
    intro tt_ kk_
    refine XS.aloadN X26.here hx rfl (hb hby d17_26) rfl rfl ?_
    refine XS.iloadN X26.here hx rfl (hb hby d17_27) rfl ?_
    refine XS.iload X26.here hx rfl (hb hby d17_28) rfl ?_
    refine XS.i2b X26.here hx rfl (hb hby d17_30) rfl ?_
    exact kk_)
  obtain ⟨cl41, Ar41, q41, S41, M41, H41, G41⟩ := id V26
  obtain ⟨T42, h42, X42, e42, W42, st42⟩ := stB X26 hx hZ e26 Ar41 (j := (2 : Int32)) (inb_of S41 (by decide : ¬ (2 : Int32) < 0 ∧ (2 : Int32) < (3 : Int32))) (g := (mkF m 31 #[.val (.ref a), .val (.int (2 : Int32)), .val (.ref d), .val (.int (2 : Int32)), .val (.int (3 : Int32)), .val (.int (2 : Int32)), .val (.int c2)] [(.int (c2.toInt8.toInt32)), (.int (2 : Int32)), (.ref d)])) rfl rfl (hb hby d17_31)
  have f43 := f27.wr W42 gd
  have f44 := f28.other W42 nad
  have f46 := f30.wr W42 (Or.inl (List.mem_of_getElem? (i := 0) rfl))
  have Z47 : n0 ≤ h42.size := Nat.le_trans Z31 (Keep.of_wr W42).1
  have V42 : Arv Z h42 d kd .byte (3 : Int32) [(.int (c0.toInt8.toInt32).toInt8.toInt32), (.int (c1.toInt8.toInt32).toInt8.toInt32), (.int (c2.toInt8.toInt32).toInt8.toInt32)] (.int 0) := Arv.set Ar41 q41 S41 M41 H41 G41 (fits_nar_byte _) W42 2 rfl (Nat.le_of_ble_eq_true rfl)
  have N42 := Fr.snoc X42 N26 gd
  have P48 := own_step (C := T42.setTop (mkF m 32 #[.val (.ref a), .val (.int (2 : Int32)), .val (.ref d), .val (.int (2 : Int32)), .val (.int (3 : Int32)), .val (.int (2 : Int32)), .val (.int c2)] [])) P40 (fun t_ k_ => st42 t_ k_)
  have P49 := own_step (C := T42.setTop (mkF m 7 #[.val (.ref a), .val (.int (3 : Int32)), .val (.ref d), .val (.int (3 : Int32)), .val (.int (3 : Int32)), .val (.int (3 : Int32)), .val (.int c2)] [(.int (3 : Int32)), (.int (3 : Int32))])) P48 (by
    intro tt_ kk_
    refine XS.iinc X42.here hx rfl (hb hby d17_32) rfl (l' := #[.val (.ref a), .val (.int (3 : Int32)), .val (.ref d), .val (.int (2 : Int32)), .val (.int (3 : Int32)), .val (.int (2 : Int32)), .val (.int c2)]) rfl ?_
    show Steps p.tables e below (T42.setTop (mkF m 35 #[.val (.ref a), .val (.int (3 : Int32)), .val (.ref d), .val (.int (2 : Int32)), .val (.int (3 : Int32)), .val (.int (2 : Int32)), .val (.int c2)] [])) _
    refine XS.iinc X42.here hx rfl (hb hby d17_35) rfl (l' := #[.val (.ref a), .val (.int (3 : Int32)), .val (.ref d), .val (.int (3 : Int32)), .val (.int (3 : Int32)), .val (.int (2 : Int32)), .val (.int c2)]) rfl ?_
    show Steps p.tables e below (T42.setTop (mkF m 38 #[.val (.ref a), .val (.int (3 : Int32)), .val (.ref d), .val (.int (3 : Int32)), .val (.int (3 : Int32)), .val (.int (2 : Int32)), .val (.int c2)] [])) _
    refine XS.iinc X42.here hx rfl (hb hby d17_38) rfl (l' := #[.val (.ref a), .val (.int (3 : Int32)), .val (.ref d), .val (.int (3 : Int32)), .val (.int (3 : Int32)), .val (.int (3 : Int32)), .val (.int c2)]) rfl ?_
    show Steps p.tables e below (T42.setTop (mkF m 41 #[.val (.ref a), .val (.int (3 : Int32)), .val (.ref d), .val (.int (3 : Int32)), .val (.int (3 : Int32)), .val (.int (3 : Int32)), .val (.int c2)] [])) _
    refine XS.goto X42.here hx rfl (pc0 := 41) (pc' := 3) rfl (hb hby d17_41) (by decide) (by decide) ?_
    refine XS.iload X42.here hx rfl (hb hby d17_3) rfl ?_
    refine XS.iload X42.here hx rfl (hb hby d17_5) rfl ?_
    exact kk_)
  have P50 := own_step (C := T42.setTop (mkF m 44 #[.val (.ref a), .val (.int (3 : Int32)), .val (.ref d), .val (.int (3 : Int32)), .val (.int (3 : Int32)), .val (.int (3 : Int32)), .val (.int c2)] [])) P49 (by
    intro tt_ kk_
    refine XS.icmpYes X42.here hx rfl (pc0 := 7) (pc' := 44) rfl (hb hby d17_7) rfl (flt (by decide : ¬ ((3 : Int32) < (3 : Int32)))).2.1 (by decide) (by decide) ?_
    exact kk_)
  have P51 := own_step (C := T42.setTop (mkF m 46 #[.val (.ref a), .val (.int (3 : Int32)), .val (.ref d), .val (.int (3 : Int32)), .val (.int (3 : Int32)), .val (.int (3 : Int32)), .val (.int c2)] [(.int (3 : Int32))])) P50 (by
    intro tt_ kk_
    refine XS.iload X42.here hx rfl (hb hby d17_44) rfl ?_
    exact kk_)
  obtain ⟨fs, hr, hrun, hended, hW, hsame⟩ := X42.leave (v := some (.int (3 : Int32))) (fun h => by rw [Bd.returns] at h; cases h)
  refine ⟨_, _, P51 _ ?_, hrun, hended, _, _, rfl, ?_, ⟨_, rfl⟩, hW, hsame.mono (by decide) (by decide)⟩
  · exact retI X42 hx Bd.returns (hb hby d17_46) hr
  · show Q_comp2_3 Z _ _ _ _ _ _ _ h0 n0 _ T42.heap _
    rw [e42]
    exact ⟨rfl, N42, f46, V42⟩
theorem ef__comp_3 (m : MethodId) (x0 : Addr) (x1 : Int32) (x2 : Int32) : entryFrame m #[(.ref x0), (.int x1), (.int x2)] 6 = mkF m 0 #[.val (.ref x0), .val (.int x1), .val (.int x2), .unset, .unset, .unset] [] := by first | (simp [entryFrame, mkF, argsToLocals, Value.category]; done) | rfl
def Q_comp_3 (Z : State) (a : Addr) (ka : ClassId) (c0 : Int32) (c1 : Int32) (c2 : Int32) (h0 : Heap) (n0 : Nat) (v_ : Option Value) (h : Heap) (L_ : List Loc) : Prop := ∃ (x : Addr) (kk : ClassId), v_ = some (.ref x) ∧ Fr n0 L_ ∧ Keep h0 h [] ∧ h0.size ≤ x ∧ Arv Z h x kk .byte (3 : Int32) [(.int (c0.toInt8.toInt32).toInt8.toInt32), (.int (c1.toInt8.toInt32).toInt8.toInt32), (.int (c2.toInt8.toInt32).toInt8.toInt32)] (.int 0)
set_option maxRecDepth 65536 in
set_option maxHeartbeats 40000000 in
theorem rm_comp_3 (l : Launch) (Z : State) (a0 : Array Value) (hw : ∀ d ∈ tables_1, d.before a0 Z = true) (ws : List Jvm.Cond) (a : Addr) (ka : ClassId) (c0 : Int32) (c1 : Int32) (c2 : Int32) (h0 : Heap) (n0 : Nat) (Z0 : n0 ≤ h0.size) (O : Old Z n0 h0) (Va : Arv Z h0 a ka .char (3 : Int32) [(.int c0), (.int c1), (.int c2)] (.int 0)) (hc0 : ¬ ((255 : Int32) < c0)) (hc1 : ¬ ((255 : Int32) < c1)) (hc2 : ¬ ((255 : Int32) < c2)) :
    MetFree l (⟨"java/lang/StringUTF16", "compress", "([CII)[B"⟩ : MethodName) (head1 (Jvm.Cond.code (⟨"java/lang/StringUTF16", "compress", "([CII)[B"⟩ : MethodName) jdk_52_method_16_code 6 (some (.array .byte)) :: ws) ({ frames := 1, cells := 1, slots := 3, locals := 18 } : Room)) (fun a_ U_ => a_ = #[(.ref a), (.int (0 : Int32)), (.int (3 : Int32))] ∧ Z.Warmed39 U_.vm ∧ U_.heap = h0) (fun _ _ _ _ _ => True) (fun _ U_ o_ V_ => ∃ v_ L_, o_ = .returned v_ ∧ Q_comp_3 Z a ka c0 c1 c2 h0 n0 v_ V_.heap L_ ∧ FrameEnd U_ o_ V_ L_ ({ frames := 1, cells := 1, slots := 3, locals := 18 } : Room).cells ({ frames := 1, cells := 1, slots := 3, locals := 18 } : Room).slots) := by
  refine MetFree.of_bodySF (plainFor_of_name pn4) hisR ?_
  intro p e s m args below meth c s₁ Bd hml0 hP hK
  obtain ⟨rfl, hZ, hh⟩ := hP
  have hx := Bd.exec
  have hby := Bd.bytes
  have hml : c.maxLocals = 6 := hml0
  have hown : s.vm.findClass "java/lang/StringUTF16" = some m.cls := findClass_of_methodNamed Bd.named
  have hnm := (name_of_methodNamed Bd.named Bd.method).1
  have X0 : Stand p l e ({ frames := 1, cells := 1, slots := 3, locals := 18 } : Room) s m #[(.ref a), (.int (0 : Int32)), (.int (3 : Int32))] below meth c s₁ [] 0 0 := Stand.of_body Bd
  have e0 : s₁.heap = h0 := by rw [← hh, Bd.state]; rfl
  have N0 := Fr.nil n0
  have pre0 : own_Go p e below (s₁.setTop (entryFrame m #[(.ref a), (.int (0 : Int32)), (.int (3 : Int32))] 6)) (s₁.setTop (mkF m 0 #[.val (.ref a), .val (.int (0 : Int32)), .val (.int (3 : Int32)), .unset, .unset, .unset] [])) := fun t_ k_ => castTop (ef__comp_3 m a (0 : Int32) (3 : Int32)) k_
  have P1 := own_step (C := s₁.setTop (mkF m 1 #[.val (.ref a), .val (.int (0 : Int32)), .val (.int (3 : Int32)), .unset, .unset, .unset] [(.int (3 : Int32))])) pre0 (by
    intro tt_ kk_
    refine XS.iloadN X0.here hx rfl (hb hby d16_0) rfl ?_
    exact kk_)
  obtain ⟨T2, h2, k2, X2, e2, E2, A2, st2⟩ := newP X0 hx hZ (hw _ (List.mem_of_getElem? (i := 20) rfl)) e0 (g := (mkF m 1 #[.val (.ref a), .val (.int (0 : Int32)), .val (.int (3 : Int32)), .unset, .unset, .unset] [(.int (3 : Int32))])) rfl (hb hby d16_1) rfl (by decide) (cap := 3) (by decide) (by decide) (by decide) (by decide)
  obtain ⟨b2, g2⟩ : ∃ z, z = h0.size := ⟨_, rfl⟩
  rw [← g2] at A2 st2
  have ne_a_b2 : a ≠ b2 := Nat.ne_of_lt (Nat.lt_of_lt_of_le Va.lt (Nat.le_of_eq g2.symm))
  have g_b2 : n0 ≤ b2 := Nat.le_trans Z0 (Nat.le_of_eq g2.symm)
  have sz_b2 : h0.size ≤ b2 := Nat.le_trans (Keep.refl h0 []).1 (Nat.le_of_eq g2.symm)
  have f3 := O.ext E2
  have f4 := (Keep.refl h0 []).ext E2
  have f5 := Va.ext E2
  have Z6 : n0 ≤ h2.size := Nat.le_trans Z0 E2.1
  have V2 : Arv Z h2 b2 k2 .byte (3 : Int32) [(.int (0 : Int32)), (.int (0 : Int32)), (.int (0 : Int32))] (.int (0 : Int32)) := (Arv.new A2 (by decide)).pad (pad_rep [] _ 3)
  have P7 := own_step (C := T2.setTop (mkF m 3 #[.val (.ref a), .val (.int (0 : Int32)), .val (.int (3 : Int32)), .unset, .unset, .unset] [(.ref b2)])) P1 (fun t_ k_ => st2 t_ k_)
  have P8 := own_step (C := T2.setTop (mkF m 9 #[.val (.ref a), .val (.int (0 : Int32)), .val (.int (3 : Int32)), .val (.ref b2), .unset, .unset] [(.int (3 : Int32)), (.int (0 : Int32)), (.ref b2), (.int (0 : Int32)), (.ref a)])) P7 (by
    intro tt_ kk_
    refine XS.astoreN X2.here hx rfl (hb hby d16_3) rfl rfl (l' := #[.val (.ref a), .val (.int (0 : Int32)), .val (.int (3 : Int32)), .val (.ref b2), .unset, .unset]) rfl ?_
    refine XS.aloadN X2.here hx rfl (hb hby d16_4) rfl rfl ?_
    refine XS.iloadN X2.here hx rfl (hb hby d16_5) rfl ?_
    refine XS.aloadN X2.here hx rfl (hb hby d16_6) rfl rfl ?_
    refine XS.iconst X2.here hx rfl (hb hby d16_7) ?_
    refine XS.iloadN X2.here hx rfl (hb hby d16_8) rfl ?_
    exact kk_)
  obtain ⟨_, _, ⟨T9, L9, k9, n9⟩, -, X9, ⟨Lc9, hQ9, l9, y9, z9⟩, st9⟩ := Jvm.LawKit.callS X2 hx (y := (⟨"java/lang/StringUTF16", "compress", "([CI[BII)I"⟩ : MethodName)) hown (mvT hZ (hw _ (List.mem_of_getElem? (i := 88) rfl))) (mvT hZ (hw _ (List.mem_of_getElem? (i := 89) rfl))) (mvT hZ (hw _ (List.mem_of_getElem? (i := 86) rfl))) (mvT hZ (hw _ (List.mem_of_getElem? (i := 90) rfl))) (by decide) (backOf (W := 0) (rm_comp2_3 l Z a0 hw [] a ka b2 k2 c0 c1 c2 h2 n0 Z6 f3 f5 V2 ne_a_b2 g_b2 hc0 hc1 hc2) hZ (hw _ (List.mem_of_getElem? (i := 90) rfl)) (hw _ (List.mem_of_getElem? (i := 86) rfl)) (by decide) (by decide)) (g := (mkF m 9 #[.val (.ref a), .val (.int (0 : Int32)), .val (.int (3 : Int32)), .val (.ref b2), .unset, .unset] [(.int (3 : Int32)), (.int (0 : Int32)), (.ref b2), (.int (0 : Int32)), (.ref a)])) rfl (by rw [hml]; rfl) (argsL := [(.ref a), (.int (0 : Int32)), (.ref b2), (.int (0 : Int32)), (.int (3 : Int32))]) (rest := []) (lenOf pd9 rfl) rfl (by show 2 * 0 + _ ≤ _; exact Nat.le_of_eq rfl) (hb hby d16_9) (fun _ _ => ⟨rfl, e2, (by decide : 1 + 0 ≤ _), (by decide : 3 + 0 ≤ _)⟩)
  dsimp only [Pt.U, Pt.locs, Pt.cells, Pt.slots] at X9 l9 y9 z9 st9 hQ9
  subst l9 y9 z9
  obtain ⟨rfl, N9q, K9, f10⟩ := hQ9
  have N9 := Fr.app N0 N9q
  have f11 := f3.keep K9 (allS g_b2 all0)
  have f12 := f4.trans K9 (allS (Or.inr sz_b2) all0)
  have f13 := f5.keep K9 (ninS ne_a_b2 nin0)
  have Z15 : n0 ≤ T9.heap.size := Nat.le_trans Z6 K9.1
  have P16 := own_step (C := T9.setTop (mkF m 12 #[.val (.ref a), .val (.int (0 : Int32)), .val (.int (3 : Int32)), .val (.ref b2), .unset, .unset] [(.int (3 : Int32))])) P8 (fun t_ k_ => st9 t_ k_)
  have P17 := own_step (C := T9.setTop (mkF m 17 #[.val (.ref a), .val (.int (0 : Int32)), .val (.int (3 : Int32)), .val (.ref b2), .val (.int (3 : Int32)), .unset] [(.int (3 : Int32)), (.int (3 : Int32))])) P16 (by
    intro tt_ kk_
    refine XS.istore X9.here hx rfl (hb hby d16_12) rfl (l' := #[.val (.ref a), .val (.int (0 : Int32)), .val (.int (3 : Int32)), .val (.ref b2), .val (.int (3 : Int32)), .unset]) rfl ?_
    refine XS.iload X9.here hx rfl (hb hby d16_14) rfl ?_
    refine XS.iloadN X9.here hx rfl (hb hby d16_16) rfl ?_
    exact kk_)
  have P18 := own_step (C := T9.setTop (mkF m 57 #[.val (.ref a), .val (.int (0 : Int32)), .val (.int (3 : Int32)), .val (.ref b2), .val (.int (3 : Int32)), .unset] [])) P17 (by
    intro tt_ kk_
    refine XS.icmpYes X9.here hx rfl (pc0 := 17) (pc' := 57) rfl (hb hby d16_17) rfl (teq (by decide : (3 : Int32) = (3 : Int32))).1 (by decide) (by decide) ?_
    exact kk_)
  have P19 := own_step (C := T9.setTop (mkF m 58 #[.val (.ref a), .val (.int (0 : Int32)), .val (.int (3 : Int32)), .val (.ref b2), .val (.int (3 : Int32)), .unset] [(.ref b2)])) P18 (by
    intro tt_ kk_
    refine XS.aloadN X9.here hx rfl (hb hby d16_57) rfl rfl ?_
    exact kk_)
  obtain ⟨fs, hr, hrun, hended, hW, hsame⟩ := X9.leave (v := some (.ref b2)) (fun h => by rw [Bd.returns] at h; cases h)
  refine ⟨_, _, P19 _ ?_, hrun, hended, _, _, rfl, ?_, ⟨_, rfl⟩, hW, hsame.mono (by decide) (by decide)⟩
  · jvm_step X9.here [X9.here.top, hx, (hb hby d16_58), X9.method', Bd.returns, Value.isRef, FieldType.isReference]
    first | (intro acts; rw [hr _ acts rfl rfl rfl]) | rw [hr _ _ rfl rfl rfl]
    exact Steps.refl _
  · show Q_comp_3 Z _ _ _ _ _ h0 n0 _ T9.heap _
    exact ⟨b2, k2, rfl, N9, f12, sz_b2, f10⟩
theorem ef__cfa_3 (m : MethodId) (x0 : Addr) (x1 : Int32) : entryFrame m #[(.ref x0), (.int x1)] 2 = mkF m 0 #[.val (.ref x0), .val (.int x1)] [] := by first | (simp [entryFrame, mkF, argsToLocals, Value.category]; done) | rfl
def Q_cfa_3 (Z : State) (b : Addr) (k : ClassId) (vs : List Value) (h0 : Heap) (n0 : Nat) (v_ : Option Value) (h : Heap) (L_ : List Loc) : Prop := v_ = some (.int (0 : Int32)) ∧ Fr n0 L_ ∧ h = h0
set_option maxRecDepth 65536 in
set_option maxHeartbeats 40000000 in
theorem rm_cfa_3 (l : Launch) (Z : State) (a0 : Array Value) (hw : ∀ d ∈ tables_1, d.before a0 Z = true) (ws : List Jvm.Cond) (b : Addr) (k : ClassId) (vs : List Value) (h0 : Heap) (n0 : Nat) (Z0 : n0 ≤ h0.size) (Vb : Arv Z h0 b k .byte (3 : Int32) vs (.int 0)) :
    MetFree l (⟨"java/lang/StringUTF16", "coderFromArrayLen", "([BI)B"⟩ : MethodName) (head1 (Jvm.Cond.code (⟨"java/lang/StringUTF16", "coderFromArrayLen", "([BI)B"⟩ : MethodName) jdk_52_method_15_code 2 (some .byte) :: ws) ({ frames := 0, cells := 0, slots := 0, locals := 0 } : Room)) (fun a_ U_ => a_ = #[(.ref b), (.int (3 : Int32))] ∧ Z.Warmed39 U_.vm ∧ U_.heap = h0) (fun _ _ _ _ _ => True) (fun _ U_ o_ V_ => ∃ v_ L_, o_ = .returned v_ ∧ Q_cfa_3 Z b k vs h0 n0 v_ V_.heap L_ ∧ FrameEnd U_ o_ V_ L_ ({ frames := 0, cells := 0, slots := 0, locals := 0 } : Room).cells ({ frames := 0, cells := 0, slots := 0, locals := 0 } : Room).slots) := by
  refine MetFree.of_bodySF (plainFor_of_name pn4) hisR ?_
  intro p e s m args below meth c s₁ Bd hml0 hP hK
  obtain ⟨rfl, hZ, hh⟩ := hP
  have hx := Bd.exec
  have hby := Bd.bytes
  have hml : c.maxLocals = 2 := hml0
  have hown : s.vm.findClass "java/lang/StringUTF16" = some m.cls := findClass_of_methodNamed Bd.named
  have hnm := (name_of_methodNamed Bd.named Bd.method).1
  have X0 : Stand p l e ({ frames := 0, cells := 0, slots := 0, locals := 0 } : Room) s m #[(.ref b), (.int (3 : Int32))] below meth c s₁ [] 0 0 := Stand.of_body Bd
  have e0 : s₁.heap = h0 := by rw [← hh, Bd.state]; rfl
  have N0 := Fr.nil n0
  have pre0 : own_Go p e below (s₁.setTop (entryFrame m #[(.ref b), (.int (3 : Int32))] 2)) (s₁.setTop (mkF m 0 #[.val (.ref b), .val (.int (3 : Int32))] [])) := fun t_ k_ => castTop (ef__cfa_3 m b (3 : Int32)) k_
  have P1 := own_step (C := s₁.setTop (mkF m 2 #[.val (.ref b), .val (.int (3 : Int32))] [(.ref b), (.int (3 : Int32))])) pre0 (by
    intro tt_ kk_
    refine XS.iloadN X0.here hx rfl (hb hby d18_0) rfl ?_
    refine XS.aloadN X0.here hx rfl (hb hby d18_1) rfl rfl ?_
    exact kk_)
  obtain ⟨cl2, Ar2, q2, S2, M2, H2, G2⟩ := id Vb
  have P3 := own_step (C := s₁.setTop (mkF m 3 #[.val (.ref b), .val (.int (3 : Int32))] [(.int (3 : Int32)), (.int (3 : Int32))])) P1 (by
    intro tt_ kk_
    refine X0.arraylength hx (by rw [e0]; exact Ar2.1) (State.isArrayOf_alike hZ.alike Ar2.2.1) (g := (mkF m 2 #[.val (.ref b), .val (.int (3 : Int32))] [(.ref b), (.int (3 : Int32))])) rfl rfl (hb hby d18_2) _ ?_
    rw [len_of S2 M2]
    exact kk_)
  have P4 := own_step (C := s₁.setTop (mkF m 8 #[.val (.ref b), .val (.int (3 : Int32))] [(.int ((((0 : Int32).toUInt32 >>> ((31 : Int32) &&& 31).toUInt32).toInt32).toInt8.toInt32))])) P3 (by
    intro tt_ kk_
    refine XS.isub X0.here hx rfl (hb hby d18_3) rfl ?_
    show Steps p.tables e below (s₁.setTop (mkF m 4 #[.val (.ref b), .val (.int (3 : Int32))] [(.int (0 : Int32))])) _
    refine XS.bipush X0.here hx rfl (hb hby d18_4) ?_
    refine XS.iushr X0.here hx rfl (hb hby d18_6) rfl ?_
    refine XS.i2b X0.here hx rfl (hb hby d18_7) rfl ?_
    exact kk_)
  obtain ⟨fs, hr, hrun, hended, hW, hsame⟩ := X0.leave (v := some (.int (nar .byte ((((0 : Int32).toUInt32 >>> ((31 : Int32) &&& 31).toUInt32).toInt32).toInt8.toInt32)))) (fun h => by rw [Bd.returns] at h; cases h)
  refine ⟨_, _, P4 _ ?_, hrun, hended, _, _, rfl, ?_, ⟨_, rfl⟩, hW, hsame.mono (by decide) (by decide)⟩
  · exact retN X0 hx (t := .byte) Bd.returns (by simp) (hb hby d18_8) hr
  · show Q_cfa_3 Z _ _ _ h0 n0 _ s₁.heap _
    rw [e0]
    exact ⟨(congrArg (fun z : Int32 => some (Value.int z)) (by decide +kernel)), N0, rfl⟩
theorem ef__initV_3 (m : MethodId) (x0 : Addr) (x1 : Addr) (x2 : Int32) (x3 : Int32) : entryFrame m #[(.ref x0), (.ref x1), (.int x2), (.int x3), .null] 6 = mkF m 0 #[.val (.ref x0), .val (.ref x1), .val (.int x2), .val (.int x3), .val .null, .unset] [] := by first | (simp [entryFrame, mkF, argsToLocals, Value.category]; done) | rfl
def Q_initV_3 (Z : State) (a : Addr) (ca : Addr) (ka : ClassId) (c0 : Int32) (c1 : Int32) (c2 : Int32) (cs : Int32) (h0 : Heap) (n0 : Nat) (v_ : Option Value) (h : Heap) (L_ : List Loc) : Prop := ∃ (x : Addr) (kk : ClassId), v_ = none ∧ Fr n0 L_ ∧ Keep h0 h [a] ∧ Exa Z h a "java/lang/String" ∧ Fld Z h a "java/lang/String" "coder" "B" (.int (0 : Int32)) ∧ Fld Z h a "java/lang/String" "value" "[B" (.ref x) ∧ Arv Z h x kk .byte (3 : Int32) [(.int (c0.toInt8.toInt32).toInt8.toInt32), (.int (c1.toInt8.toInt32).toInt8.toInt32), (.int (c2.toInt8.toInt32).toInt8.toInt32)] (.int 0) ∧ h0.size ≤ x
set_option maxRecDepth 65536 in
set_option maxHeartbeats 40000000 in
theorem rm_initV_3 (l : Launch) (Z : State) (a0 : Array Value) (hw : ∀ d ∈ tables_1, d.before a0 Z = true) (ws : List Jvm.Cond) (a : Addr) (ca : Addr) (ka : ClassId) (c0 : Int32) (c1 : Int32) (c2 : Int32) (cs : Int32) (h0 : Heap) (n0 : Nat) (Z0 : n0 ≤ h0.size) (O : Old Z n0 h0) (Scs : Sta Z Z.heap "java/lang/String" "COMPACT_STRINGS" "Z" (.int cs)) (hcs : ¬ (cs = (0 : Int32))) (Ea : Exa Z h0 a "java/lang/String") (Fv : Fld Z h0 a "java/lang/String" "value" "[B" .null) (Fc : Fld Z h0 a "java/lang/String" "coder" "B" (.int (0 : Int32))) (ga : n0 ≤ a) (Vs : Arv Z h0 ca ka .char (3 : Int32) [(.int c0), (.int c1), (.int c2)] (.int 0)) (hc0 : ¬ ((255 : Int32) < c0)) (hc1 : ¬ ((255 : Int32) < c1)) (hc2 : ¬ ((255 : Int32) < c2)) :
    MetFree l (⟨"java/lang/String", "<init>", "([CIILjava/lang/Void;)V"⟩ : MethodName) (head1 (Jvm.Cond.code (⟨"java/lang/String", "<init>", "([CIILjava/lang/Void;)V"⟩ : MethodName) jdk_42_method_149_code 6 none :: ws) ({ frames := 2, cells := 1, slots := 3, locals := 35 } : Room)) (fun a_ U_ => a_ = #[(.ref a), (.ref ca), (.int (0 : Int32)), (.int (3 : Int32)), .null] ∧ Z.Warmed39 U_.vm ∧ U_.heap = h0) (fun _ _ _ _ _ => True) (fun _ U_ o_ V_ => ∃ v_ L_, o_ = .returned v_ ∧ Q_initV_3 Z a ca ka c0 c1 c2 cs h0 n0 v_ V_.heap L_ ∧ FrameEnd U_ o_ V_ L_ ({ frames := 2, cells := 1, slots := 3, locals := 35 } : Room).cells ({ frames := 2, cells := 1, slots := 3, locals := 35 } : Room).slots) := by
  refine MetFree.of_bodySF (plainFor_of_name pn0) hisR ?_
  intro p e s m args below meth c s₁ Bd hml0 hP hK
  obtain ⟨rfl, hZ, hh⟩ := hP
  have hx := Bd.exec
  have hby := Bd.bytes
  have hml : c.maxLocals = 6 := hml0
  have hown : s.vm.findClass "java/lang/String" = some m.cls := findClass_of_methodNamed Bd.named
  have hnm := (name_of_methodNamed Bd.named Bd.method).1
  have X0 : Stand p l e ({ frames := 2, cells := 1, slots := 3, locals := 35 } : Room) s m #[(.ref a), (.ref ca), (.int (0 : Int32)), (.int (3 : Int32)), .null] below meth c s₁ [] 0 0 := Stand.of_body Bd
  have e0 : s₁.heap = h0 := by rw [← hh, Bd.state]; rfl
  have N0 := Fr.nil n0
  have pre0 : own_Go p e below (s₁.setTop (entryFrame m #[(.ref a), (.ref ca), (.int (0 : Int32)), (.int (3 : Int32)), .null] 6)) (s₁.setTop (mkF m 0 #[.val (.ref a), .val (.ref ca), .val (.int (0 : Int32)), .val (.int (3 : Int32)), .val .null, .unset] [])) := fun t_ k_ => castTop (ef__initV_3 m a ca (0 : Int32) (3 : Int32)) k_
  obtain ⟨clV, ArV, -⟩ := id Vs
  have ne_ca_a : ca ≠ a := Ne.symm (ne_arr Ea (hw _ (List.mem_of_getElem? (i := 16) rfl)) ArV)
  have P1 := own_step (C := s₁.setTop (mkF m 1 #[.val (.ref a), .val (.ref ca), .val (.int (0 : Int32)), .val (.int (3 : Int32)), .val .null, .unset] [(.ref a)])) pre0 (by
    intro tt_ kk_
    refine XS.aloadN X0.here hx rfl (hb hby d8_0) rfl rfl ?_
    exact kk_)
  obtain ⟨T2, X2, e2, st2⟩ := initO X0 hx hZ hown (hw _ (List.mem_of_getElem? (i := 25) rfl)) (hw _ (List.mem_of_getElem? (i := 26) rfl)) (hw _ (List.mem_of_getElem? (i := 27) rfl)) e0 (g := (mkF m 1 #[.val (.ref a), .val (.ref ca), .val (.int (0 : Int32)), .val (.int (3 : Int32)), .val .null, .unset] [(.ref a)])) rfl (by rw [hml]; rfl) rfl (hb hby d8_1) (by decide) (W := 0) (by show 2 * 0 + _ ≤ _; exact Nat.le_of_eq rfl) (by decide)
  have P3 := own_step (C := T2.setTop (mkF m 4 #[.val (.ref a), .val (.ref ca), .val (.int (0 : Int32)), .val (.int (3 : Int32)), .val .null, .unset] [])) P1 (fun t_ k_ => st2 t_ k_)
  have P4 := own_step (C := T2.setTop (mkF m 5 #[.val (.ref a), .val (.ref ca), .val (.int (0 : Int32)), .val (.int (3 : Int32)), .val .null, .unset] [(.int (3 : Int32))])) P3 (by
    intro tt_ kk_
    refine XS.iloadN X2.here hx rfl (hb hby d8_4) rfl ?_
    exact kk_)
  have P5 := own_step (C := T2.setTop (mkF m 27 #[.val (.ref a), .val (.ref ca), .val (.int (0 : Int32)), .val (.int (3 : Int32)), .val .null, .unset] [])) P4 (by
    intro tt_ kk_
    refine XS.ifYes X2.here hx rfl (pc0 := 5) (pc' := 27) rfl (hb hby d8_5) rfl ((if0 _ _).trans (feq (by decide : ¬ ((3 : Int32) = (0 : Int32)))).2) (by decide) (by decide) ?_
    exact kk_)
  obtain ⟨T6, X6, e6, st6⟩ := getS2 X2 hx hZ hown (host := "") (Or.inl (hw _ (List.mem_of_getElem? (i := 10) rfl))) Via.refl e2 (Scs.ext O.2) (g := (mkF m 27 #[.val (.ref a), .val (.ref ca), .val (.int (0 : Int32)), .val (.int (3 : Int32)), .val .null, .unset] [])) rfl (hb hby d8_27)
  have P7 := own_step (C := T6.setTop (mkF m 30 #[.val (.ref a), .val (.ref ca), .val (.int (0 : Int32)), .val (.int (3 : Int32)), .val .null, .unset] [(.int cs)])) P5 (fun t_ k_ => st6 t_ k_)
  have P8 := own_step (C := T6.setTop (mkF m 33 #[.val (.ref a), .val (.ref ca), .val (.int (0 : Int32)), .val (.int (3 : Int32)), .val .null, .unset] [])) P7 (by
    intro tt_ kk_
    refine XS.ifNo X6.here hx rfl (hb hby d8_30) rfl ((if0 _ _).trans (feq hcs).1) ?_
    exact kk_)
  have P9 := own_step (C := T6.setTop (mkF m 36 #[.val (.ref a), .val (.ref ca), .val (.int (0 : Int32)), .val (.int (3 : Int32)), .val .null, .unset] [(.int (3 : Int32)), (.int (0 : Int32)), (.ref ca)])) P8 (by
    intro tt_ kk_
    refine XS.aloadN X6.here hx rfl (hb hby d8_33) rfl rfl ?_
    refine XS.iloadN X6.here hx rfl (hb hby d8_34) rfl ?_
    refine XS.iloadN X6.here hx rfl (hb hby d8_35) rfl ?_
    exact kk_)
  obtain ⟨_, _, ⟨T10, L10, k10, n10⟩, -, X10, ⟨Lc10, hQ10, l10, y10, z10⟩, st10⟩ := Jvm.LawKit.callS X6 hx (y := (⟨"java/lang/StringUTF16", "compress", "([CII)[B"⟩ : MethodName)) hown (mvT hZ (hw _ (List.mem_of_getElem? (i := 84) rfl))) (mvT hZ (hw _ (List.mem_of_getElem? (i := 85) rfl))) (mvT hZ (hw _ (List.mem_of_getElem? (i := 86) rfl))) (mvT hZ (hw _ (List.mem_of_getElem? (i := 87) rfl))) (by decide) (backOf (W := 0) (rm_comp_3 l Z a0 hw [] ca ka c0 c1 c2 h0 n0 Z0 O Vs hc0 hc1 hc2) hZ (hw _ (List.mem_of_getElem? (i := 87) rfl)) (hw _ (List.mem_of_getElem? (i := 86) rfl)) (by decide) (by decide)) (g := (mkF m 36 #[.val (.ref a), .val (.ref ca), .val (.int (0 : Int32)), .val (.int (3 : Int32)), .val .null, .unset] [(.int (3 : Int32)), (.int (0 : Int32)), (.ref ca)])) rfl (by rw [hml]; rfl) (argsL := [(.ref ca), (.int (0 : Int32)), (.int (3 : Int32))]) (rest := []) (lenOf pd10 rfl) rfl (by show 2 * 0 + _ ≤ _; exact Nat.le_of_eq rfl) (hb hby d8_36) (fun _ _ => ⟨rfl, e6, (by decide : 0 + 1 ≤ _), (by decide : 0 + 3 ≤ _)⟩)
  dsimp only [Pt.U, Pt.locs, Pt.cells, Pt.slots] at X10 l10 y10 z10 st10 hQ10
  subst l10 y10 z10
  obtain ⟨x10, kk10, rfl, N10q, K10, f11, f12⟩ := hQ10
  have N10 := Fr.app N0 N10q
  have ne_a_x10 : a ≠ x10 := Nat.ne_of_lt (Nat.lt_of_lt_of_le Ea.lt f11)
  have ne_ca_x10 : ca ≠ x10 := Nat.ne_of_lt (Nat.lt_of_lt_of_le Vs.lt f11)
  have g_x10 : n0 ≤ x10 := Nat.le_trans Z0 f11
  have sz_x10 : h0.size ≤ x10 := Nat.le_trans (Keep.refl h0 [a]).1 f11
  have f13 := O.keep K10 all0
  have f14 := Ea.keep K10
  have f15 := Fc.keep K10 nin0
  have f16 := Fv.keep K10 nin0
  have f17 := (Keep.refl h0 [a]).trans K10 all0
  have f18 := Vs.keep K10 nin0
  have Z19 : n0 ≤ T10.heap.size := Nat.le_trans Z0 K10.1
  have P20 := own_step (C := T10.setTop (mkF m 39 #[.val (.ref a), .val (.ref ca), .val (.int (0 : Int32)), .val (.int (3 : Int32)), .val .null, .unset] [(.ref x10)])) P9 (fun t_ k_ => st10 t_ k_)
  have P21 := own_step (C := T10.setTop (mkF m 45 #[.val (.ref a), .val (.ref ca), .val (.int (0 : Int32)), .val (.int (3 : Int32)), .val .null, .val (.ref x10)] [(.int (3 : Int32)), (.ref x10), (.ref a)])) P20 (by
    intro tt_ kk_
    refine XS.astore X10.here hx rfl (hb hby d8_39) rfl rfl (l' := #[.val (.ref a), .val (.ref ca), .val (.int (0 : Int32)), .val (.int (3 : Int32)), .val .null, .val (.ref x10)]) rfl ?_
    refine XS.aloadN X10.here hx rfl (hb hby d8_41) rfl rfl ?_
    refine XS.aload X10.here hx rfl (hb hby d8_42) rfl rfl ?_
    refine XS.iloadN X10.here hx rfl (hb hby d8_44) rfl ?_
    exact kk_)
  obtain ⟨_, _, ⟨T22, L22, k22, n22⟩, -, X22, ⟨Lc22, hQ22, l22, y22, z22⟩, st22⟩ := Jvm.LawKit.callS X10 hx (y := (⟨"java/lang/StringUTF16", "coderFromArrayLen", "([BI)B"⟩ : MethodName)) hown (mvT hZ (hw _ (List.mem_of_getElem? (i := 91) rfl))) (mvT hZ (hw _ (List.mem_of_getElem? (i := 92) rfl))) (mvT hZ (hw _ (List.mem_of_getElem? (i := 86) rfl))) (mvT hZ (hw _ (List.mem_of_getElem? (i := 93) rfl))) (by decide) (backOf (W := 1) (rm_cfa_3 l Z a0 hw [] x10 kk10 _ T10.heap n0 Z19 f12) hZ (hw _ (List.mem_of_getElem? (i := 93) rfl)) (hw _ (List.mem_of_getElem? (i := 86) rfl)) (by decide) (by decide)) (g := (mkF m 45 #[.val (.ref a), .val (.ref ca), .val (.int (0 : Int32)), .val (.int (3 : Int32)), .val .null, .val (.ref x10)] [(.int (3 : Int32)), (.ref x10), (.ref a)])) rfl (by rw [hml]; rfl) (argsL := [(.ref x10), (.int (3 : Int32))]) (rest := [(.ref a)]) (lenOf pd11 rfl) rfl (by show 2 * 0 + _ ≤ _; exact Nat.le_of_eq rfl) (hb hby d8_45) (fun _ _ => ⟨rfl, rfl, (by decide : 1 + 0 ≤ _), (by decide : 3 + 0 ≤ _)⟩)
  dsimp only [Pt.U, Pt.locs, Pt.cells, Pt.slots] at X22 l22 y22 z22 st22 hQ22
  subst l22 y22 z22
  obtain ⟨rfl, N22q, e22⟩ := hQ22
  have N22 := Fr.app N10 N22q
  have P23 := own_step (C := T22.setTop (mkF m 48 #[.val (.ref a), .val (.ref ca), .val (.int (0 : Int32)), .val (.int (3 : Int32)), .val .null, .val (.ref x10)] [(.int (0 : Int32)), (.ref a)])) P21 (fun t_ k_ => st22 t_ k_)
  obtain ⟨T24, h24, X24, e24, W24, st24⟩ := putFN X22 hx hZ hown (hw _ (List.mem_of_getElem? (i := 30) rfl)) Via.refl e22 f15 f14 (Or.inr ⟨(hw _ (List.mem_of_getElem? (i := 31) rfl)), rfl, hnm⟩) (hw _ (List.mem_of_getElem? (i := 16) rfl)) (ty := .byte) (v' := (.int (0 : Int32).toInt8.toInt32)) (by decide) rfl (fits_nar_byte _) (g := (mkF m 48 #[.val (.ref a), .val (.ref ca), .val (.int (0 : Int32)), .val (.int (3 : Int32)), .val .null, .val (.ref x10)] [(.int (0 : Int32)), (.ref a)])) rfl rfl (hb hby d8_48)
  have f25 := f13.wr W24 ga
  have f26 := f14.wr W24
  have f27 := f15.same W24
  have f28 := f16.other W24 (Or.inr (slot_ne (Or.inr (hw _ (List.mem_of_getElem? (i := 29) rfl))) (Or.inr (hw _ (List.mem_of_getElem? (i := 31) rfl))) (by decide) (t := (.array .byte)) (t' := .byte) (by decide) (by decide)))
  have f29 := f17.wr W24 (Or.inl (List.mem_of_getElem? (i := 0) rfl))
  have f30 := f18.other W24 ne_ca_a
  have f31 := f12.other W24 (Ne.symm ne_a_x10)
  have Z32 : n0 ≤ h24.size := Nat.le_trans Z19 (Keep.of_wr W24).1
  have N24 := Fr.snoc X24 N22 ga
  have P33 := own_step (C := T24.setTop (mkF m 51 #[.val (.ref a), .val (.ref ca), .val (.int (0 : Int32)), .val (.int (3 : Int32)), .val .null, .val (.ref x10)] [])) P23 (fun t_ k_ => st24 t_ k_)
  have P34 := own_step (C := T24.setTop (mkF m 54 #[.val (.ref a), .val (.ref ca), .val (.int (0 : Int32)), .val (.int (3 : Int32)), .val .null, .val (.ref x10)] [(.ref x10), (.ref a)])) P33 (by
    intro tt_ kk_
    refine XS.aloadN X24.here hx rfl (hb hby d8_51) rfl rfl ?_
    refine XS.aload X24.here hx rfl (hb hby d8_52) rfl rfl ?_
    exact kk_)
  obtain ⟨T35, h35, X35, e35, W35, st35⟩ := putF X24 hx hZ hown (host := "") (Or.inl (hw _ (List.mem_of_getElem? (i := 28) rfl))) Via.refl e24 f28 f26 (Or.inr ⟨(hw _ (List.mem_of_getElem? (i := 29) rfl)), rfl, hnm⟩) (hw _ (List.mem_of_getElem? (i := 16) rfl)) (ty := (.array .byte)) (by decide) rfl rfl (g := (mkF m 54 #[.val (.ref a), .val (.ref ca), .val (.int (0 : Int32)), .val (.int (3 : Int32)), .val .null, .val (.ref x10)] [(.ref x10), (.ref a)])) rfl rfl (hb hby d8_54)
  have f36 := f25.wr W35 ga
  have f37 := f26.wr W35
  have f38 := f27.other W35 (Or.inr (slot_ne (Or.inr (hw _ (List.mem_of_getElem? (i := 31) rfl))) (Or.inr (hw _ (List.mem_of_getElem? (i := 29) rfl))) (by decide) (t := .byte) (t' := (.array .byte)) (by decide) (by decide)))
  have f39 := f28.same W35
  have f40 := f29.wr W35 (Or.inl (List.mem_of_getElem? (i := 0) rfl))
  have f41 := f30.other W35 ne_ca_a
  have f42 := f31.other W35 (Ne.symm ne_a_x10)
  have Z43 : n0 ≤ h35.size := Nat.le_trans Z32 (Keep.of_wr W35).1
  have N35 := Fr.snoc X35 N24 ga
  have P44 := own_step (C := T35.setTop (mkF m 57 #[.val (.ref a), .val (.ref ca), .val (.int (0 : Int32)), .val (.int (3 : Int32)), .val .null, .val (.ref x10)] [])) P34 (fun t_ k_ => st35 t_ k_)
  obtain ⟨fs, hr, hrun, hended, hW, hsame⟩ := X35.leave (v := none) (fun _ => rfl)
  refine ⟨_, _, P44 _ ?_, hrun, hended, _, _, rfl, ?_, ⟨_, rfl⟩, hW, hsame.mono (by decide) (by decide)⟩
  · exact X35.returnOut hx Bd.returns (hb hby d8_57) hr
  · show Q_initV_3 Z _ _ _ _ _ _ _ h0 n0 _ T35.heap _
    rw [e35]
    exact ⟨x10, kk10, rfl, N35, f40, f37, f38, f39, f42, sz_x10⟩
theorem ef__initC_3 (m : MethodId) (x0 : Addr) (x1 : Addr) : entryFrame m #[(.ref x0), (.ref x1)] 2 = mkF m 0 #[.val (.ref x0), .val (.ref x1)] [] := by first | (simp [entryFrame, mkF, argsToLocals, Value.category]; done) | rfl
def Q_initC_3 (Z : State) (a : Addr) (ca : Addr) (ka : ClassId) (c0 : Int32) (c1 : Int32) (c2 : Int32) (cs : Int32) (h0 : Heap) (n0 : Nat) (v_ : Option Value) (h : Heap) (L_ : List Loc) : Prop := ∃ (x : Addr) (kk : ClassId), v_ = none ∧ Fr n0 L_ ∧ Keep h0 h [a] ∧ Exa Z h a "java/lang/String" ∧ Fld Z h a "java/lang/String" "coder" "B" (.int (0 : Int32)) ∧ Fld Z h a "java/lang/String" "value" "[B" (.ref x) ∧ Arv Z h x kk .byte (3 : Int32) [(.int (c0.toInt8.toInt32).toInt8.toInt32), (.int (c1.toInt8.toInt32).toInt8.toInt32), (.int (c2.toInt8.toInt32).toInt8.toInt32)] (.int 0) ∧ h0.size ≤ x
set_option maxRecDepth 65536 in
set_option maxHeartbeats 40000000 in
theorem rm_initC_3 (l : Launch) (Z : State) (a0 : Array Value) (hw : ∀ d ∈ tables_1, d.before a0 Z = true) (ws : List Jvm.Cond) (a : Addr) (ca : Addr) (ka : ClassId) (c0 : Int32) (c1 : Int32) (c2 : Int32) (cs : Int32) (h0 : Heap) (n0 : Nat) (Z0 : n0 ≤ h0.size) (O : Old Z n0 h0) (Scs : Sta Z Z.heap "java/lang/String" "COMPACT_STRINGS" "Z" (.int cs)) (hcs : ¬ (cs = (0 : Int32))) (Ea : Exa Z h0 a "java/lang/String") (Fv : Fld Z h0 a "java/lang/String" "value" "[B" .null) (Fc : Fld Z h0 a "java/lang/String" "coder" "B" (.int (0 : Int32))) (ga : n0 ≤ a) (Vs : Arv Z h0 ca ka .char (3 : Int32) [(.int c0), (.int c1), (.int c2)] (.int 0)) (hc0 : ¬ ((255 : Int32) < c0)) (hc1 : ¬ ((255 : Int32) < c1)) (hc2 : ¬ ((255 : Int32) < c2)) :
    MetFree l (⟨"java/lang/String", "<init>", "([C)V"⟩ : MethodName) (head1 (Jvm.Cond.code (⟨"java/lang/String", "<init>", "([C)V"⟩ : MethodName) jdk_42_method_3_code 2 none :: ws) ({ frames := 3, cells := 1, slots := 3, locals := 52 } : Room)) (fun a_ U_ => a_ = #[(.ref a), (.ref ca)] ∧ Z.Warmed39 U_.vm ∧ U_.heap = h0) (fun _ _ _ _ _ => True) (fun _ U_ o_ V_ => ∃ v_ L_, o_ = .returned v_ ∧ Q_initC_3 Z a ca ka c0 c1 c2 cs h0 n0 v_ V_.heap L_ ∧ FrameEnd U_ o_ V_ L_ ({ frames := 3, cells := 1, slots := 3, locals := 52 } : Room).cells ({ frames := 3, cells := 1, slots := 3, locals := 52 } : Room).slots) := by
  refine MetFree.of_bodySF (plainFor_of_name pn0) hisR ?_
  intro p e s m args below meth c s₁ Bd hml0 hP hK
  obtain ⟨rfl, hZ, hh⟩ := hP
  have hx := Bd.exec
  have hby := Bd.bytes
  have hml : c.maxLocals = 2 := hml0
  have hown : s.vm.findClass "java/lang/String" = some m.cls := findClass_of_methodNamed Bd.named
  have hnm := (name_of_methodNamed Bd.named Bd.method).1
  have X0 : Stand p l e ({ frames := 3, cells := 1, slots := 3, locals := 52 } : Room) s m #[(.ref a), (.ref ca)] below meth c s₁ [] 0 0 := Stand.of_body Bd
  have e0 : s₁.heap = h0 := by rw [← hh, Bd.state]; rfl
  have N0 := Fr.nil n0
  have pre0 : own_Go p e below (s₁.setTop (entryFrame m #[(.ref a), (.ref ca)] 2)) (s₁.setTop (mkF m 0 #[.val (.ref a), .val (.ref ca)] [])) := fun t_ k_ => castTop (ef__initC_3 m a ca) k_
  obtain ⟨clV, ArV, -⟩ := id Vs
  have ne_ca_a : ca ≠ a := Ne.symm (ne_arr Ea (hw _ (List.mem_of_getElem? (i := 16) rfl)) ArV)
  have P1 := own_step (C := s₁.setTop (mkF m 4 #[.val (.ref a), .val (.ref ca)] [(.ref ca), (.int (0 : Int32)), (.ref ca), (.ref a)])) pre0 (by
    intro tt_ kk_
    refine XS.aloadN X0.here hx rfl (hb hby d7_0) rfl rfl ?_
    refine XS.aloadN X0.here hx rfl (hb hby d7_1) rfl rfl ?_
    refine XS.iconst X0.here hx rfl (hb hby d7_2) ?_
    refine XS.aloadN X0.here hx rfl (hb hby d7_3) rfl rfl ?_
    exact kk_)
  obtain ⟨cl2, Ar2, q2, S2, M2, H2, G2⟩ := id Vs
  have P3 := own_step (C := s₁.setTop (mkF m 5 #[.val (.ref a), .val (.ref ca)] [(.int (3 : Int32)), (.int (0 : Int32)), (.ref ca), (.ref a)])) P1 (by
    intro tt_ kk_
    refine X0.arraylength hx (by rw [e0]; exact Ar2.1) (State.isArrayOf_alike hZ.alike Ar2.2.1) (g := (mkF m 4 #[.val (.ref a), .val (.ref ca)] [(.ref ca), (.int (0 : Int32)), (.ref ca), (.ref a)])) rfl rfl (hb hby d7_4) _ ?_
    rw [len_of S2 M2]
    exact kk_)
  have P4 := own_step (C := s₁.setTop (mkF m 6 #[.val (.ref a), .val (.ref ca)] [.null, (.int (3 : Int32)), (.int (0 : Int32)), (.ref ca), (.ref a)])) P3 (by
    intro tt_ kk_
    refine XS.aconstNull X0.here hx rfl (hb hby d7_5) ?_
    exact kk_)
  obtain ⟨_, _, ⟨T5, L5, k5, n5⟩, -, X5, ⟨Lc5, hQ5, l5, y5, z5⟩, st5⟩ := X0.specialBack hx (y := (⟨"java/lang/String", "<init>", "([CIILjava/lang/Void;)V"⟩ : MethodName)) rfl hown (mvT hZ (hw _ (List.mem_of_getElem? (i := 39) rfl))) (mvT hZ (hw _ (List.mem_of_getElem? (i := 40) rfl))) (mvT hZ (hw _ (List.mem_of_getElem? (i := 41) rfl))) (by decide) (backOf (W := 0) (rm_initV_3 l Z a0 hw [] a ca ka c0 c1 c2 cs h0 n0 Z0 O Scs hcs Ea Fv Fc ga Vs hc0 hc1 hc2) hZ (hw _ (List.mem_of_getElem? (i := 41) rfl)) (hw _ (List.mem_of_getElem? (i := 8) rfl)) (by decide) (by decide)) (g := (mkF m 6 #[.val (.ref a), .val (.ref ca)] [.null, (.int (3 : Int32)), (.int (0 : Int32)), (.ref ca), (.ref a)])) rfl (by rw [hml]; rfl) (Steps.refl _) (a := a) (argsL := [(.ref ca), (.int (0 : Int32)), (.int (3 : Int32)), .null]) (rest := []) (lenOf pd12 rfl) rfl (by show 2 * 0 + _ ≤ _; exact Nat.le_of_eq rfl) (hb hby d7_6) (fun _ _ => ⟨rfl, e0, (by decide : 0 + 1 ≤ _), (by decide : 0 + 3 ≤ _)⟩)
  dsimp only [Pt.U, Pt.locs, Pt.cells, Pt.slots] at X5 l5 y5 z5 st5 hQ5
  subst l5 y5 z5
  obtain ⟨x5, kk5, rfl, N5q, K5, f6, f7, f8, f9, f10⟩ := hQ5
  have N5 := Fr.app N0 N5q
  have ne_a_x5 : a ≠ x5 := Nat.ne_of_lt (Nat.lt_of_lt_of_le Ea.lt f10)
  have ne_ca_x5 : ca ≠ x5 := Nat.ne_of_lt (Nat.lt_of_lt_of_le Vs.lt f10)
  have g_x5 : n0 ≤ x5 := Nat.le_trans Z0 f10
  have sz_x5 : h0.size ≤ x5 := Nat.le_trans (Keep.refl h0 [a]).1 f10
  have f11 := O.keep K5 (allS ga all0)
  have f12 := Ea.keep K5
  have f15 := (Keep.refl h0 [a]).trans K5 (allS (Or.inl (List.mem_of_getElem? (i := 0) rfl)) all0)
  have f16 := Vs.keep K5 (ninS ne_ca_a nin0)
  have Z17 : n0 ≤ T5.heap.size := Nat.le_trans Z0 K5.1
  have P18 := own_step (C := T5.setTop (mkF m 9 #[.val (.ref a), .val (.ref ca)] [])) P4 (fun t_ k_ => st5.trans k_)
  obtain ⟨fs, hr, hrun, hended, hW, hsame⟩ := X5.leave (v := none) (fun _ => rfl)
  refine ⟨_, _, P18 _ ?_, hrun, hended, _, _, rfl, ?_, ⟨_, rfl⟩, hW, hsame.mono (by decide) (by decide)⟩
  · exact X5.returnOut hx Bd.returns (hb hby d7_9) hr
  · show Q_initC_3 Z _ _ _ _ _ _ _ h0 n0 _ T5.heap _
    exact ⟨x5, kk5, rfl, N5, f15, f6, f7, f8, f9, f10⟩
theorem own_vne {Z : State} {h : Heap} {a b : Addr} (F : Fld Z h a "java/lang/String" "value" "[B" (.ref b)) (G : Fld Z h a "java/lang/String" "value" "[B" .null) : False := Fld.ne F G (by simp) rfl
theorem d8_8 : decode jdk_42_method_149_code 8 = .ok (.aload_n 0, 1) := by decide +kernel
theorem d8_9 : decode jdk_42_method_149_code 9 = .ok (.ldc 7, 2) := by decide +kernel
theorem d8_11 : decode jdk_42_method_149_code 11 = .ok (.getfield 9, 3) := by decide +kernel
theorem d8_14 : decode jdk_42_method_149_code 14 = .ok (.putfield 9, 3) := by decide +kernel
theorem d8_17 : decode jdk_42_method_149_code 17 = .ok (.aload_n 0, 1) := by decide +kernel
theorem d8_18 : decode jdk_42_method_149_code 18 = .ok (.ldc 7, 2) := by decide +kernel
theorem d8_20 : decode jdk_42_method_149_code 20 = .ok (.getfield 15, 3) := by decide +kernel
theorem d8_23 : decode jdk_42_method_149_code 23 = .ok (.putfield 15, 3) := by decide +kernel
theorem d8_26 : decode jdk_42_method_149_code 26 = .ok (.return_, 1) := by decide +kernel
theorem ef__initV0 (m : MethodId) (x0 : Addr) (x1 : Addr) (x2 : Int32) (x3 : Int32) : entryFrame m #[(.ref x0), (.ref x1), (.int x2), (.int x3), .null] 6 = mkF m 0 #[.val (.ref x0), .val (.ref x1), .val (.int x2), .val (.int x3), .val .null, .unset] [] := by first | (simp [entryFrame, mkF, argsToLocals, Value.category]; done) | rfl
def Q_initV0 (Z : State) (a : Addr) (ca : Addr) (cs : Int32) (h0 : Heap) (n0 : Nat) (v_ : Option Value) (h : Heap) (L_ : List Loc) : Prop := ∃ (x : Addr) (kk : ClassId), v_ = none ∧ Fr n0 L_ ∧ Keep h0 h [a] ∧ Exa Z h a "java/lang/String" ∧ Fld Z h a "java/lang/String" "coder" "B" (.int (0 : Int32)) ∧ Fld Z h a "java/lang/String" "value" "[B" (.ref x) ∧ Arv Z h x kk .byte (0 : Int32) [] (.int 0)
set_option maxRecDepth 65536 in
set_option maxHeartbeats 40000000 in
theorem rm_initV0 (l : Launch) (Z : State) (a0 : Array Value) (hw : ∀ d ∈ tables_1, d.before a0 Z = true) (ws : List Jvm.Cond) (a : Addr) (ca : Addr) (cs : Int32) (h0 : Heap) (n0 : Nat) (Z0 : n0 ≤ h0.size) (O : Old Z n0 h0) (Scs : Sta Z Z.heap "java/lang/String" "COMPACT_STRINGS" "Z" (.int cs)) (hcs : ¬ (cs = (0 : Int32))) (hheld : Jvm.Lit.constHeld Z "java/lang/String" 7) (hcw : Jvm.Lit.compactW.before a0 Z = true) (Ea : Exa Z h0 a "java/lang/String") (Fv : Fld Z h0 a "java/lang/String" "value" "[B" .null) (Fc : Fld Z h0 a "java/lang/String" "coder" "B" (.int (0 : Int32))) (ga : n0 ≤ a) :
    MetFree l (⟨"java/lang/String", "<init>", "([CIILjava/lang/Void;)V"⟩ : MethodName) (head1 (Jvm.Cond.code (⟨"java/lang/String", "<init>", "([CIILjava/lang/Void;)V"⟩ : MethodName) jdk_42_method_149_code 6 none :: ws) ({ frames := 1, cells := 2, slots := 4, locals := 12 } : Room)) (fun a_ U_ => a_ = #[(.ref a), (.ref ca), (.int (0 : Int32)), (.int (0 : Int32)), .null] ∧ Z.Warmed39 U_.vm ∧ U_.heap = h0 ∧ IB Z U_.vm []) (fun _ _ _ _ _ => True) (fun _ U_ o_ V_ => ∃ v_ L_, o_ = .returned v_ ∧ Q_initV0 Z a ca cs h0 n0 v_ V_.heap L_ ∧ ReturnedEndW U_ o_ V_ L_ ({ frames := 1, cells := 2, slots := 4, locals := 12 } : Room).cells ({ frames := 1, cells := 2, slots := 4, locals := 12 } : Room).slots) := by
  refine MetFree.of_bodySF (plainFor_of_name pn0) hisR ?_
  intro p e s m args below meth c s₁ Bd hml0 hP hK
  obtain ⟨rfl, hZ, hh, hIB⟩ := hP
  have hx := Bd.exec
  have hby := Bd.bytes
  have hml : c.maxLocals = 6 := hml0
  have hown : s.vm.findClass "java/lang/String" = some m.cls := findClass_of_methodNamed Bd.named
  have hnm := (name_of_methodNamed Bd.named Bd.method).1
  have X0 : Stand p l e ({ frames := 1, cells := 2, slots := 4, locals := 12 } : Room) s m #[(.ref a), (.ref ca), (.int (0 : Int32)), (.int (0 : Int32)), .null] below meth c s₁ [] 0 0 := Stand.of_body Bd
  have e0 : s₁.heap = h0 := by rw [← hh, Bd.state]; rfl
  have N0 := Fr.nil n0
  have pre0 : own_Go p e below (s₁.setTop (entryFrame m #[(.ref a), (.ref ca), (.int (0 : Int32)), (.int (0 : Int32)), .null] 6)) (s₁.setTop (mkF m 0 #[.val (.ref a), .val (.ref ca), .val (.int (0 : Int32)), .val (.int (0 : Int32)), .val .null, .unset] [])) := fun t_ k_ => castTop (ef__initV0 m a ca (0 : Int32) (0 : Int32)) k_
  have P1 := own_step (C := s₁.setTop (mkF m 1 #[.val (.ref a), .val (.ref ca), .val (.int (0 : Int32)), .val (.int (0 : Int32)), .val .null, .unset] [(.ref a)])) pre0 (by
    intro tt_ kk_
    refine XS.aloadN X0.here hx rfl (hb hby d8_0) rfl rfl ?_
    exact kk_)
  obtain ⟨T2, X2, e2, st2⟩ := initO X0 hx hZ hown (hw _ (List.mem_of_getElem? (i := 25) rfl)) (hw _ (List.mem_of_getElem? (i := 26) rfl)) (hw _ (List.mem_of_getElem? (i := 27) rfl)) e0 (g := (mkF m 1 #[.val (.ref a), .val (.ref ca), .val (.int (0 : Int32)), .val (.int (0 : Int32)), .val .null, .unset] [(.ref a)])) rfl (by rw [hml]; rfl) rfl (hb hby d8_1) (by decide) (W := 0) (by show 2 * 0 + _ ≤ _; exact Nat.le_of_eq rfl) (by decide)
  have P3 := own_step (C := T2.setTop (mkF m 4 #[.val (.ref a), .val (.ref ca), .val (.int (0 : Int32)), .val (.int (0 : Int32)), .val .null, .unset] [])) P1 (fun t_ k_ => st2 t_ k_)
  have P4 := own_step (C := T2.setTop (mkF m 5 #[.val (.ref a), .val (.ref ca), .val (.int (0 : Int32)), .val (.int (0 : Int32)), .val .null, .unset] [(.int (0 : Int32))])) P3 (by
    intro tt_ kk_
    refine XS.iloadN X2.here hx rfl (hb hby d8_4) rfl ?_
    exact kk_)
  have P5 := own_step (C := T2.setTop (mkF m 8 #[.val (.ref a), .val (.ref ca), .val (.int (0 : Int32)), .val (.int (0 : Int32)), .val .null, .unset] [])) P4 (by
    intro tt_ kk_
    refine XS.ifNo X2.here hx rfl (hb hby d8_5) rfl ((if0 _ _).trans (teq (by decide : (0 : Int32) = (0 : Int32))).2) ?_
    exact kk_)
  have P6 := own_step (C := T2.setTop (mkF m 9 #[.val (.ref a), .val (.ref ca), .val (.int (0 : Int32)), .val (.int (0 : Int32)), .val .null, .unset] [(.ref a)])) P5 (by
    intro tt_ kk_
    refine XS.aloadN X2.here hx rfl (hb hby d8_8) rfl rfl ?_
    exact kk_)
  obtain ⟨b7, T7, h7, k7, bv7, kc7, X7, e7, E7, S7, kz7, hZ7, hown7, A7, Fc7, Fv7, V7, -, -, I7, Lt7, st7⟩ := ldcSVL (s := s) (vm0 := s.vm) X2 hx hZ hown (hw _ (List.mem_of_getElem? (i := 42) rfl)) (fun d hd => hw d (own_wS d hd)) e2 ((State.WarmedH.refl s).since 0) (Nat.zero_le _) (Fr.nil _) (fun b cl q => by rw [hh]; exact O.2.2 b cl q) hIB (by decide) hheld hcw (vs := []) (z := (0 : Int32)) ⟨by decide +kernel, by rfl⟩ (by decide) rfl (g := (mkF m 9 #[.val (.ref a), .val (.ref ca), .val (.int (0 : Int32)), .val (.int (0 : Int32)), .val .null, .unset] [(.ref a)])) rfl (hb hby d8_9) (n := 0) (by decide +kernel) (by decide) (by decide) (by decide)
  have f8 := O.ext E7
  have f9 := Ea.ext E7
  have f10 := Fc.ext E7
  have f11 := Fv.ext E7
  have f12 := (Keep.refl h0 [a]).ext E7
  have Z13 : n0 ≤ h7.size := Nat.le_trans Z0 E7.1
  have P14 := own_step (C := T7.setTop (mkF m 11 #[.val (.ref a), .val (.ref ca), .val (.int (0 : Int32)), .val (.int (0 : Int32)), .val .null, .unset] [(.ref b7), (.ref a)])) P6 (fun t_ k_ => st7 t_ k_)
  obtain ⟨clV, ArV, -⟩ := id V7
  have ne_bv_a : bv7 ≠ a := Ne.symm (ne_arr f9 (hw _ (List.mem_of_getElem? (i := 16) rfl)) ArV)
  have ne_x_a : b7 ≠ a := fun q => by rw [q] at Fv7; exact own_vne Fv7 f11
  obtain ⟨T15, X15, e15, st15⟩ := getF X7 hx hZ7 hown7 (host := "") (Or.inl (hw _ (List.mem_of_getElem? (i := 28) rfl))) Via.refl e7 Fv7 (g := (mkF m 11 #[.val (.ref a), .val (.ref ca), .val (.int (0 : Int32)), .val (.int (0 : Int32)), .val .null, .unset] [(.ref b7), (.ref a)])) rfl rfl (hb hby d8_11)
  have P16 := own_step (C := T15.setTop (mkF m 14 #[.val (.ref a), .val (.ref ca), .val (.int (0 : Int32)), .val (.int (0 : Int32)), .val .null, .unset] [(.ref bv7), (.ref a)])) P14 (fun t_ k_ => st15 t_ k_)
  obtain ⟨T17, h17, X17, e17, W17, st17⟩ := putF X15 hx hZ7 hown7 (host := "") (Or.inl (hw _ (List.mem_of_getElem? (i := 28) rfl))) Via.refl e15 f11 f9 (Or.inr ⟨(hw _ (List.mem_of_getElem? (i := 29) rfl)), rfl, hnm⟩) (hw _ (List.mem_of_getElem? (i := 16) rfl)) (ty := (.array .byte)) (by decide) rfl rfl (g := (mkF m 14 #[.val (.ref a), .val (.ref ca), .val (.int (0 : Int32)), .val (.int (0 : Int32)), .val .null, .unset] [(.ref bv7), (.ref a)])) rfl rfl (hb hby d8_14)
  have f18 := f8.wr W17 ga
  have f19 := f9.wr W17
  have f20 := f10.other W17 (Or.inr (slot_ne (Or.inr (hw _ (List.mem_of_getElem? (i := 31) rfl))) (Or.inr (hw _ (List.mem_of_getElem? (i := 29) rfl))) (by decide) (t := .byte) (t' := (.array .byte)) (by decide) (by decide)))
  have f21 := f11.same W17
  have f22 := f12.wr W17 (Or.inl (List.mem_of_getElem? (i := 0) rfl))
  have f23 := V7.other W17 ne_bv_a
  have f24 := Fv7.other W17 (Or.inl ne_x_a)
  have f25 := Fc7.other W17 (Or.inl ne_x_a)
  have Z26 : n0 ≤ h17.size := Nat.le_trans Z13 (Keep.of_wr W17).1
  have kz27 := Nat.le_trans kz7 (Keep.of_wr W17).1
  have N17 := Fr.snoc X17 N0 ga
  have P28 := own_step (C := T17.setTop (mkF m 17 #[.val (.ref a), .val (.ref ca), .val (.int (0 : Int32)), .val (.int (0 : Int32)), .val .null, .unset] [])) P16 (fun t_ k_ => st17 t_ k_)
  have P29 := own_step (C := T17.setTop (mkF m 18 #[.val (.ref a), .val (.ref ca), .val (.int (0 : Int32)), .val (.int (0 : Int32)), .val .null, .unset] [(.ref a)])) P28 (by
    intro tt_ kk_
    refine XS.aloadN X17.here hx rfl (hb hby d8_17) rfl rfl ?_
    exact kk_)
  have P30 := own_step (C := T17.setTop (mkF m 20 #[.val (.ref a), .val (.ref ca), .val (.int (0 : Int32)), .val (.int (0 : Int32)), .val .null, .unset] [(.ref b7), (.ref a)])) P29 (by
    intro tt_ kk_
    refine ldcAgain (s := s) (vm0 := T7.vm) X17 hx hZ7 hown7 (hw _ (List.mem_of_getElem? (i := 42) rfl)) Lt7 (g := (mkF m 18 #[.val (.ref a), .val (.ref ca), .val (.int (0 : Int32)), .val (.int (0 : Int32)), .val .null, .unset] [(.ref a)])) rfl (hb hby d8_18) _ ?_
    exact kk_)
  obtain ⟨T31, X31, e31, st31⟩ := getF X17 hx hZ7 hown7 (host := "") (Or.inl (hw _ (List.mem_of_getElem? (i := 30) rfl))) Via.refl e17 f25 (g := (mkF m 20 #[.val (.ref a), .val (.ref ca), .val (.int (0 : Int32)), .val (.int (0 : Int32)), .val .null, .unset] [(.ref b7), (.ref a)])) rfl rfl (hb hby d8_20)
  have P32 := own_step (C := T31.setTop (mkF m 23 #[.val (.ref a), .val (.ref ca), .val (.int (0 : Int32)), .val (.int (0 : Int32)), .val .null, .unset] [(.int (0 : Int32)), (.ref a)])) P30 (fun t_ k_ => st31 t_ k_)
  obtain ⟨T33, h33, X33, e33, W33, st33⟩ := putFN X31 hx hZ7 hown7 (hw _ (List.mem_of_getElem? (i := 30) rfl)) Via.refl e31 f20 f19 (Or.inr ⟨(hw _ (List.mem_of_getElem? (i := 31) rfl)), rfl, hnm⟩) (hw _ (List.mem_of_getElem? (i := 16) rfl)) (ty := .byte) (v' := (.int (0 : Int32).toInt8.toInt32)) (by decide) rfl (fits_nar_byte _) (g := (mkF m 23 #[.val (.ref a), .val (.ref ca), .val (.int (0 : Int32)), .val (.int (0 : Int32)), .val .null, .unset] [(.int (0 : Int32)), (.ref a)])) rfl rfl (hb hby d8_23)
  have f34 := f18.wr W33 ga
  have f35 := f19.wr W33
  have f36 := f20.same W33
  have f37 := f21.other W33 (Or.inr (slot_ne (Or.inr (hw _ (List.mem_of_getElem? (i := 29) rfl))) (Or.inr (hw _ (List.mem_of_getElem? (i := 31) rfl))) (by decide) (t := (.array .byte)) (t' := .byte) (by decide) (by decide)))
  have f38 := f22.wr W33 (Or.inl (List.mem_of_getElem? (i := 0) rfl))
  have f39 := f23.other W33 ne_bv_a
  have f40 := f24.other W33 (Or.inl ne_x_a)
  have f41 := f25.other W33 (Or.inl ne_x_a)
  have Z42 : n0 ≤ h33.size := Nat.le_trans Z26 (Keep.of_wr W33).1
  have kz43 := Nat.le_trans kz27 (Keep.of_wr W33).1
  have N33 := Fr.snoc X33 N17 ga
  have P44 := own_step (C := T33.setTop (mkF m 26 #[.val (.ref a), .val (.ref ca), .val (.int (0 : Int32)), .val (.int (0 : Int32)), .val .null, .unset] [])) P32 (fun t_ k_ => st33 t_ k_)
  obtain ⟨fs, hr, hrun, hended, hW⟩ := X33.leaveW S7 (by rw [e33]; exact kz43) (v := none) (fun _ => rfl)
  refine ⟨_, _, P44 _ ?_, hrun, hended, _, _, rfl, ?_, ⟨hW.1, hW.2.1, hW.2.2.1, hW.2.2.2.mono (by decide) (by decide)⟩⟩
  · exact X33.returnOut hx Bd.returns (hb hby d8_26) hr
  · show Q_initV0 Z _ _ _ h0 n0 _ T33.heap _
    rw [e33]
    exact ⟨bv7, kc7, rfl, N33, f38, f35, f36, f37, f39⟩
theorem ef__initC0 (m : MethodId) (x0 : Addr) (x1 : Addr) : entryFrame m #[(.ref x0), (.ref x1)] 2 = mkF m 0 #[.val (.ref x0), .val (.ref x1)] [] := by first | (simp [entryFrame, mkF, argsToLocals, Value.category]; done) | rfl
def Q_initC0 (Z : State) (a : Addr) (ca : Addr) (ka : ClassId) (cs : Int32) (h0 : Heap) (n0 : Nat) (v_ : Option Value) (h : Heap) (L_ : List Loc) : Prop := ∃ (x : Addr) (kk : ClassId), v_ = none ∧ Fr n0 L_ ∧ Keep h0 h [a] ∧ Exa Z h a "java/lang/String" ∧ Fld Z h a "java/lang/String" "coder" "B" (.int (0 : Int32)) ∧ Fld Z h a "java/lang/String" "value" "[B" (.ref x) ∧ Arv Z h x kk .byte (0 : Int32) [] (.int 0)
set_option maxRecDepth 65536 in
set_option maxHeartbeats 40000000 in
theorem rm_initC0 (l : Launch) (Z : State) (a0 : Array Value) (hw : ∀ d ∈ tables_1, d.before a0 Z = true) (ws : List Jvm.Cond) (a : Addr) (ca : Addr) (ka : ClassId) (cs : Int32) (h0 : Heap) (n0 : Nat) (Z0 : n0 ≤ h0.size) (O : Old Z n0 h0) (Scs : Sta Z Z.heap "java/lang/String" "COMPACT_STRINGS" "Z" (.int cs)) (hcs : ¬ (cs = (0 : Int32))) (hheld : Jvm.Lit.constHeld Z "java/lang/String" 7) (hcw : Jvm.Lit.compactW.before a0 Z = true) (Ea : Exa Z h0 a "java/lang/String") (Fv : Fld Z h0 a "java/lang/String" "value" "[B" .null) (Fc : Fld Z h0 a "java/lang/String" "coder" "B" (.int (0 : Int32))) (ga : n0 ≤ a) (Vs : Arv Z h0 ca ka .char (0 : Int32) [] (.int 0)) :
    MetFree l (⟨"java/lang/String", "<init>", "([C)V"⟩ : MethodName) (head1 (Jvm.Cond.code (⟨"java/lang/String", "<init>", "([C)V"⟩ : MethodName) jdk_42_method_3_code 2 none :: ws) ({ frames := 2, cells := 2, slots := 4, locals := 29 } : Room)) (fun a_ U_ => a_ = #[(.ref a), (.ref ca)] ∧ Z.Warmed39 U_.vm ∧ U_.heap = h0 ∧ IB Z U_.vm []) (fun _ _ _ _ _ => True) (fun _ U_ o_ V_ => ∃ v_ L_, o_ = .returned v_ ∧ Q_initC0 Z a ca ka cs h0 n0 v_ V_.heap L_ ∧ ReturnedEndW U_ o_ V_ L_ ({ frames := 2, cells := 2, slots := 4, locals := 29 } : Room).cells ({ frames := 2, cells := 2, slots := 4, locals := 29 } : Room).slots) := by
  refine MetFree.of_bodySF (plainFor_of_name pn0) hisR ?_
  intro p e s m args below meth c s₁ Bd hml0 hP hK
  obtain ⟨rfl, hZ, hh, hIB⟩ := hP
  have hx := Bd.exec
  have hby := Bd.bytes
  have hml : c.maxLocals = 2 := hml0
  have hown : s.vm.findClass "java/lang/String" = some m.cls := findClass_of_methodNamed Bd.named
  have hnm := (name_of_methodNamed Bd.named Bd.method).1
  have X0 : Stand p l e ({ frames := 2, cells := 2, slots := 4, locals := 29 } : Room) s m #[(.ref a), (.ref ca)] below meth c s₁ [] 0 0 := Stand.of_body Bd
  have e0 : s₁.heap = h0 := by rw [← hh, Bd.state]; rfl
  have N0 := Fr.nil n0
  have pre0 : own_Go p e below (s₁.setTop (entryFrame m #[(.ref a), (.ref ca)] 2)) (s₁.setTop (mkF m 0 #[.val (.ref a), .val (.ref ca)] [])) := fun t_ k_ => castTop (ef__initC0 m a ca) k_
  obtain ⟨clV, ArV, -⟩ := id Vs
  have ne_ca_a : ca ≠ a := Ne.symm (ne_arr Ea (hw _ (List.mem_of_getElem? (i := 16) rfl)) ArV)
  have P1 := own_step (C := s₁.setTop (mkF m 4 #[.val (.ref a), .val (.ref ca)] [(.ref ca), (.int (0 : Int32)), (.ref ca), (.ref a)])) pre0 (by
    intro tt_ kk_
    refine XS.aloadN X0.here hx rfl (hb hby d7_0) rfl rfl ?_
    refine XS.aloadN X0.here hx rfl (hb hby d7_1) rfl rfl ?_
    refine XS.iconst X0.here hx rfl (hb hby d7_2) ?_
    refine XS.aloadN X0.here hx rfl (hb hby d7_3) rfl rfl ?_
    exact kk_)
  obtain ⟨cl2, Ar2, q2, S2, M2, H2, G2⟩ := id Vs
  have P3 := own_step (C := s₁.setTop (mkF m 5 #[.val (.ref a), .val (.ref ca)] [(.int (0 : Int32)), (.int (0 : Int32)), (.ref ca), (.ref a)])) P1 (by
    intro tt_ kk_
    refine X0.arraylength hx (by rw [e0]; exact Ar2.1) (State.isArrayOf_alike hZ.alike Ar2.2.1) (g := (mkF m 4 #[.val (.ref a), .val (.ref ca)] [(.ref ca), (.int (0 : Int32)), (.ref ca), (.ref a)])) rfl rfl (hb hby d7_4) _ ?_
    rw [len_of S2 M2]
    exact kk_)
  have P4 := own_step (C := s₁.setTop (mkF m 6 #[.val (.ref a), .val (.ref ca)] [.null, (.int (0 : Int32)), (.int (0 : Int32)), (.ref ca), (.ref a)])) P3 (by
    intro tt_ kk_
    refine XS.aconstNull X0.here hx rfl (hb hby d7_5) ?_
    exact kk_)
  obtain ⟨_, _, ⟨T5, L5, k5, n5⟩, -, X5, hS5, hgr5, ⟨Lc5, hQ5, l5, y5, z5⟩, st5⟩ := X0.specialBackS hx (y := (⟨"java/lang/String", "<init>", "([CIILjava/lang/Void;)V"⟩ : MethodName)) rfl hown (mvT hZ (hw _ (List.mem_of_getElem? (i := 39) rfl))) (mvT hZ (hw _ (List.mem_of_getElem? (i := 40) rfl))) (mvT hZ (hw _ (List.mem_of_getElem? (i := 41) rfl))) (by decide) (own_backI (W := 0) (rm_initV0 l Z a0 hw [] a ca cs h0 n0 Z0 O Scs hcs hheld hcw Ea Fv Fc ga) hZ hIB (hw _ (List.mem_of_getElem? (i := 41) rfl)) (hw _ (List.mem_of_getElem? (i := 8) rfl)) (by decide) (by decide)) (g := (mkF m 6 #[.val (.ref a), .val (.ref ca)] [.null, (.int (0 : Int32)), (.int (0 : Int32)), (.ref ca), (.ref a)])) rfl (by rw [hml]; rfl) (Steps.refl _) (a := a) (argsL := [(.ref ca), (.int (0 : Int32)), (.int (0 : Int32)), .null]) (rest := []) (lenOf pd12 rfl) rfl (by show 2 * 0 + _ ≤ _; exact Nat.le_of_eq rfl) (hb hby d7_6) (fun _ _ => ⟨rfl, e0, (by decide : 0 + 2 ≤ _), (by decide : 0 + 4 ≤ _)⟩)
  dsimp only [Pt.U, Pt.locs, Pt.cells, Pt.slots] at X5 l5 y5 z5 st5 hQ5 hS5 hgr5
  subst l5 y5 z5
  have hZw5 : Z.Warmed39 T5.vm := State.Warmed39.trans (t := s) hZ hS5.1
  have hownw5 : T5.vm.findClass "java/lang/String" = some m.cls := by rw [hS5.1.alike.findClass]; exact hown
  obtain ⟨x5, kk5, rfl, N5q, K5, f6, f7, f8, f9⟩ := hQ5
  have N5 := Fr.app N0 N5q
  have f10 := O.keep K5 (allS ga all0)
  have f11 := Ea.keep K5
  have f14 := (Keep.refl h0 [a]).trans K5 (allS (Or.inl (List.mem_of_getElem? (i := 0) rfl)) all0)
  have f15 := Vs.keep K5 (ninS ne_ca_a nin0)
  have Z16 : n0 ≤ T5.heap.size := Nat.le_trans Z0 K5.1
  have P17 := own_step (C := T5.setTop (mkF m 9 #[.val (.ref a), .val (.ref ca)] [])) P4 (fun t_ k_ => st5.trans k_)
  obtain ⟨fs, hr, hrun, hended, hW⟩ := X5.leaveW hS5 (Nat.le_refl T5.heap.size) (v := none) (fun _ => rfl)
  refine ⟨_, _, P17 _ ?_, hrun, hended, _, _, rfl, ?_, ⟨hW.1, hW.2.1, hW.2.2.1, hW.2.2.2.mono (by decide) (by decide)⟩⟩
  · exact X5.returnOut hx Bd.returns (hb hby d7_9) hr
  · show Q_initC0 Z _ _ _ _ h0 n0 _ T5.heap _
    exact ⟨x5, kk5, rfl, N5, f14, f6, f7, f8, f9⟩
def own_can (p0 : Int32) : Int32 := (if (255 : Int32) < p0 then (0 : Int32) else (1 : Int32))
theorem d3_0 : decode jdk_43_method_3_code 0 = .ok (.iload_n 0, 1) := by decide +kernel
theorem d3_1 : decode jdk_43_method_3_code 1 = .ok (.sipush 255, 3) := by decide +kernel
theorem d3_4 : decode jdk_43_method_3_code 4 = .ok (.if_icmp .gt 7, 3) := by decide +kernel
theorem d3_7 : decode jdk_43_method_3_code 7 = .ok (.iconst 1, 1) := by decide +kernel
theorem d3_8 : decode jdk_43_method_3_code 8 = .ok (.goto 4, 3) := by decide +kernel
theorem d3_11 : decode jdk_43_method_3_code 11 = .ok (.iconst 0, 1) := by decide +kernel
theorem d3_12 : decode jdk_43_method_3_code 12 = .ok (.ireturn, 1) := by decide +kernel
theorem ef__own_can (m : MethodId) (x0 : Int32) : entryFrame m #[(.int x0)] 1 = mkF m 0 #[.val (.int x0)] [] := by first | (simp [entryFrame, mkF, argsToLocals, Value.category]; done) | rfl
def Q_own_can (Z : State) (p0 : Int32) (h0 : Heap) (n0 : Nat) (v_ : Option Value) (h : Heap) (L_ : List Loc) : Prop := v_ = some (.int (own_can p0)) ∧ Fr n0 L_ ∧ h = h0
set_option maxRecDepth 65536 in
set_option maxHeartbeats 40000000 in
theorem rm_own_can (l : Launch) (Z : State) (a0 : Array Value) (hw : ∀ d ∈ tables_1, d.before a0 Z = true) (ws : List Jvm.Cond) (p0 : Int32) (h0 : Heap) (n0 : Nat) (Z0 : n0 ≤ h0.size) :
    MetFree l (⟨"java/lang/StringLatin1", "canEncode", "(C)Z"⟩ : MethodName) (head1 (Jvm.Cond.code (⟨"java/lang/StringLatin1", "canEncode", "(C)Z"⟩ : MethodName) jdk_43_method_3_code 1 (some .boolean) :: ws) ({ frames := 0, cells := 0, slots := 0, locals := 0 } : Room)) (fun a_ U_ => a_ = #[(.int p0)] ∧ Z.Warmed39 U_.vm ∧ U_.heap = h0) (fun _ _ _ _ _ => True) (fun _ U_ o_ V_ => ∃ v_ L_, o_ = .returned v_ ∧ Q_own_can Z p0 h0 n0 v_ V_.heap L_ ∧ FrameEnd U_ o_ V_ L_ ({ frames := 0, cells := 0, slots := 0, locals := 0 } : Room).cells ({ frames := 0, cells := 0, slots := 0, locals := 0 } : Room).slots) := by
  refine MetFree.of_bodySF (plainFor_of_name pn3) hisR ?_
  intro p e s m args below meth c s₁ Bd hml0 hP hK
  obtain ⟨rfl, hZ, hh⟩ := hP
  have hx := Bd.exec
  have hby := Bd.bytes
  have hml : c.maxLocals = 1 := hml0
  have hown : s.vm.findClass "java/lang/StringLatin1" = some m.cls := findClass_of_methodNamed Bd.named
  have hnm := (name_of_methodNamed Bd.named Bd.method).1
  have X0 : Stand p l e ({ frames := 0, cells := 0, slots := 0, locals := 0 } : Room) s m #[(.int p0)] below meth c s₁ [] 0 0 := Stand.of_body Bd
  have e0 : s₁.heap = h0 := by rw [← hh, Bd.state]; rfl
  have N0 := Fr.nil n0
  have pre0 : own_Go p e below (s₁.setTop (entryFrame m #[(.int p0)] 1)) (s₁.setTop (mkF m 0 #[.val (.int p0)] [])) := fun t_ k_ => castTop (ef__own_can m p0) k_
  have P1 := own_step (C := s₁.setTop (mkF m 4 #[.val (.int p0)] [(.int (255 : Int32)), (.int p0)])) pre0 (by
    intro tt_ kk_
    refine XS.iloadN X0.here hx rfl (hb hby d3_0) rfl ?_
    refine XS.sipush X0.here hx rfl (hb hby d3_1) ?_
    exact kk_)
  by_cases c2 : (255 : Int32) < p0
  · have P3 := own_step (C := s₁.setTop (mkF m 11 #[.val (.int p0)] [])) P1 (by
      intro tt_ kk_
      refine XS.icmpYes X0.here hx rfl (pc0 := 4) (pc' := 11) rfl (hb hby d3_4) rfl (tlt c2).2.2.1 (by decide) (by decide) ?_
      exact kk_)
    have P4 := own_step (C := s₁.setTop (mkF m 12 #[.val (.int p0)] [(.int (0 : Int32))])) P3 (by
      intro tt_ kk_
      refine XS.iconst X0.here hx rfl (hb hby d3_11) ?_
      exact kk_)
    obtain ⟨fs, hr, hrun, hended, hW, hsame⟩ := X0.leave (v := some (.int (0 : Int32))) (fun h => by rw [Bd.returns] at h; cases h)
    refine ⟨_, _, P4 _ ?_, hrun, hended, _, _, rfl, ?_, ⟨_, rfl⟩, hW, hsame.mono (by decide) (by decide)⟩
    · exact retN X0 hx (t := .boolean) Bd.returns (by simp) (hb hby d3_12) hr
    · show Q_own_can Z _ h0 n0 _ s₁.heap _
      rw [e0]
      exact ⟨by unfold own_can; rw [if_pos c2], N0, rfl⟩
  · have P5 := own_step (C := s₁.setTop (mkF m 7 #[.val (.int p0)] [])) P1 (by
      intro tt_ kk_
      refine XS.icmpNo X0.here hx rfl (hb hby d3_4) rfl (flt c2).2.2.1 ?_
      exact kk_)
    have P6 := own_step (C := s₁.setTop (mkF m 12 #[.val (.int p0)] [(.int (1 : Int32))])) P5 (by
      intro tt_ kk_
      refine XS.iconst X0.here hx rfl (hb hby d3_7) ?_
      refine XS.goto X0.here hx rfl (pc0 := 8) (pc' := 12) rfl (hb hby d3_8) (by decide) (by decide) ?_
      exact kk_)
    obtain ⟨fs, hr, hrun, hended, hW, hsame⟩ := X0.leave (v := some (.int (1 : Int32))) (fun h => by rw [Bd.returns] at h; cases h)
    refine ⟨_, _, P6 _ ?_, hrun, hended, _, _, rfl, ?_, ⟨_, rfl⟩, hW, hsame.mono (by decide) (by decide)⟩
    · exact retN X0 hx (t := .boolean) Bd.returns (by simp) (hb hby d3_12) hr
    · show Q_own_can Z _ h0 n0 _ s₁.heap _
      rw [e0]
      exact ⟨by unfold own_can; rw [if_neg c2], N0, rfl⟩
theorem d4_0 : decode jdk_43_method_46_code 0 = .ok (.iconst 1, 1) := by decide +kernel
theorem d4_1 : decode jdk_43_method_46_code 1 = .ok (.newarray .byte, 2) := by decide +kernel
theorem d4_3 : decode jdk_43_method_46_code 3 = .ok (.dup, 1) := by decide +kernel
theorem d4_4 : decode jdk_43_method_46_code 4 = .ok (.iconst 0, 1) := by decide +kernel
theorem d4_5 : decode jdk_43_method_46_code 5 = .ok (.iload_n 0, 1) := by decide +kernel
theorem d4_6 : decode jdk_43_method_46_code 6 = .ok (.i2b, 1) := by decide +kernel
theorem d4_7 : decode jdk_43_method_46_code 7 = .ok (.bastore, 1) := by decide +kernel
theorem d4_8 : decode jdk_43_method_46_code 8 = .ok (.areturn, 1) := by decide +kernel
theorem ef__toB (m : MethodId) (x0 : Int32) : entryFrame m #[(.int x0)] 1 = mkF m 0 #[.val (.int x0)] [] := by first | (simp [entryFrame, mkF, argsToLocals, Value.category]; done) | rfl
def Q_toB (Z : State) (p0 : Int32) (h0 : Heap) (n0 : Nat) (v_ : Option Value) (h : Heap) (L_ : List Loc) : Prop := ∃ (x : Addr), v_ = some (.ref x) ∧ Fr n0 L_ ∧ Keep h0 h [] ∧ h0.size ≤ x
set_option maxRecDepth 65536 in
set_option maxHeartbeats 40000000 in
theorem rm_toB (l : Launch) (Z : State) (a0 : Array Value) (hw : ∀ d ∈ tables_1, d.before a0 Z = true) (ws : List Jvm.Cond) (p0 : Int32) (h0 : Heap) (n0 : Nat) (Z0 : n0 ≤ h0.size) (O : Old Z n0 h0) :
    MetFree l (⟨"java/lang/StringLatin1", "toBytes", "(C)[B"⟩ : MethodName) (head1 (Jvm.Cond.code (⟨"java/lang/StringLatin1", "toBytes", "(C)[B"⟩ : MethodName) jdk_43_method_46_code 1 (some (.array .byte)) :: ws) ({ frames := 0, cells := 1, slots := 1, locals := 0 } : Room)) (fun a_ U_ => a_ = #[(.int p0)] ∧ Z.Warmed39 U_.vm ∧ U_.heap = h0) (fun _ _ _ _ _ => True) (fun _ U_ o_ V_ => ∃ v_ L_, o_ = .returned v_ ∧ Q_toB Z p0 h0 n0 v_ V_.heap L_ ∧ FrameEnd U_ o_ V_ L_ ({ frames := 0, cells := 1, slots := 1, locals := 0 } : Room).cells ({ frames := 0, cells := 1, slots := 1, locals := 0 } : Room).slots) := by
  refine MetFree.of_bodySF (plainFor_of_name pn3) hisR ?_
  intro p e s m args below meth c s₁ Bd hml0 hP hK
  obtain ⟨rfl, hZ, hh⟩ := hP
  have hx := Bd.exec
  have hby := Bd.bytes
  have hml : c.maxLocals = 1 := hml0
  have hown : s.vm.findClass "java/lang/StringLatin1" = some m.cls := findClass_of_methodNamed Bd.named
  have hnm := (name_of_methodNamed Bd.named Bd.method).1
  have X0 : Stand p l e ({ frames := 0, cells := 1, slots := 1, locals := 0 } : Room) s m #[(.int p0)] below meth c s₁ [] 0 0 := Stand.of_body Bd
  have e0 : s₁.heap = h0 := by rw [← hh, Bd.state]; rfl
  have N0 := Fr.nil n0
  have pre0 : own_Go p e below (s₁.setTop (entryFrame m #[(.int p0)] 1)) (s₁.setTop (mkF m 0 #[.val (.int p0)] [])) := fun t_ k_ => castTop (ef__toB m p0) k_
  have P1 := own_step (C := s₁.setTop (mkF m 1 #[.val (.int p0)] [(.int (1 : Int32))])) pre0 (by
    intro tt_ kk_
    refine XS.iconst X0.here hx rfl (hb hby d4_0) ?_
    exact kk_)
  obtain ⟨T2, h2, k2, X2, e2, E2, A2, st2⟩ := newP X0 hx hZ (hw _ (List.mem_of_getElem? (i := 20) rfl)) e0 (g := (mkF m 1 #[.val (.int p0)] [(.int (1 : Int32))])) rfl (hb hby d4_1) rfl (by decide) (cap := 1) (by decide) (by decide) (by decide) (by decide)
  obtain ⟨b2, g2⟩ : ∃ z, z = h0.size := ⟨_, rfl⟩
  rw [← g2] at A2 st2
  have g_b2 : n0 ≤ b2 := Nat.le_trans Z0 (Nat.le_of_eq g2.symm)
  have sz_b2 : h0.size ≤ b2 := Nat.le_trans (Keep.refl h0 []).1 (Nat.le_of_eq g2.symm)
  have f3 := O.ext E2
  have f4 := (Keep.refl h0 []).ext E2
  have Z5 : n0 ≤ h2.size := Nat.le_trans Z0 E2.1
  have V2 : Arv Z h2 b2 k2 .byte (1 : Int32) [(.int (0 : Int32))] (.int (0 : Int32)) := (Arv.new A2 (by decide)).pad (pad_rep [] _ 1)
  have P6 := own_step (C := T2.setTop (mkF m 3 #[.val (.int p0)] [(.ref b2)])) P1 (fun t_ k_ => st2 t_ k_)
  have P7 := own_step (C := T2.setTop (mkF m 7 #[.val (.int p0)] [(.int (p0.toInt8.toInt32)), (.int (0 : Int32)), (.ref b2), (.ref b2)])) P6 (by
    intro tt_ kk_
    refine XS.dup X2.here hx rfl (hb hby d4_3) rfl rfl ?_
    refine XS.iconst X2.here hx rfl (hb hby d4_4) ?_
    refine XS.iloadN X2.here hx rfl (hb hby d4_5) rfl ?_
    refine XS.i2b X2.here hx rfl (hb hby d4_6) rfl ?_
    exact kk_)
  obtain ⟨cl8, Ar8, q8, S8, M8, H8, G8⟩ := id V2
  obtain ⟨T9, h9, X9, e9, W9, st9⟩ := stB X2 hx hZ e2 Ar8 (j := (0 : Int32)) (inb_of S8 (by decide : ¬ (0 : Int32) < 0 ∧ (0 : Int32) < (1 : Int32))) (g := (mkF m 7 #[.val (.int p0)] [(.int (p0.toInt8.toInt32)), (.int (0 : Int32)), (.ref b2), (.ref b2)])) rfl rfl (hb hby d4_7)
  have f10 := f3.wr W9 g_b2
  have f11 := f4.wr W9 (Or.inr sz_b2)
  have Z13 : n0 ≤ h9.size := Nat.le_trans Z5 (Keep.of_wr W9).1
  have V9 : Arv Z h9 b2 k2 .byte (1 : Int32) [(.int (p0.toInt8.toInt32).toInt8.toInt32)] (.int (0 : Int32)) := Arv.set Ar8 q8 S8 M8 H8 G8 (fits_nar_byte _) W9 0 rfl (Nat.le_of_ble_eq_true rfl)
  have N9 := Fr.snoc X9 N0 g_b2
  have P14 := own_step (C := T9.setTop (mkF m 8 #[.val (.int p0)] [(.ref b2)])) P7 (fun t_ k_ => st9 t_ k_)
  obtain ⟨fs, hr, hrun, hended, hW, hsame⟩ := X9.leave (v := some (.ref b2)) (fun h => by rw [Bd.returns] at h; cases h)
  refine ⟨_, _, P14 _ ?_, hrun, hended, _, _, rfl, ?_, ⟨_, rfl⟩, hW, hsame.mono (by decide) (by decide)⟩
  · jvm_step X9.here [X9.here.top, hx, (hb hby d4_8), X9.method', Bd.returns, Value.isRef, FieldType.isReference]
    first | (intro acts; rw [hr _ acts rfl rfl rfl]) | rw [hr _ _ rfl rfl rfl]
    exact Steps.refl _
  · show Q_toB Z _ h0 n0 _ T9.heap _
    rw [e9]
    exact ⟨b2, rfl, N9, f11, sz_b2⟩
theorem d5_0 : decode jdk_42_method_151_code 0 = .ok (.aload_n 0, 1) := by decide +kernel
theorem d5_1 : decode jdk_42_method_151_code 1 = .ok (.invokespecial 1, 3) := by decide +kernel
theorem d5_4 : decode jdk_42_method_151_code 4 = .ok (.aload_n 0, 1) := by decide +kernel
theorem d5_5 : decode jdk_42_method_151_code 5 = .ok (.aload_n 1, 1) := by decide +kernel
theorem d5_6 : decode jdk_42_method_151_code 6 = .ok (.putfield 9, 3) := by decide +kernel
theorem d5_9 : decode jdk_42_method_151_code 9 = .ok (.aload_n 0, 1) := by decide +kernel
theorem d5_10 : decode jdk_42_method_151_code 10 = .ok (.iload_n 2, 1) := by decide +kernel
theorem d5_11 : decode jdk_42_method_151_code 11 = .ok (.putfield 15, 3) := by decide +kernel
theorem d5_14 : decode jdk_42_method_151_code 14 = .ok (.return_, 1) := by decide +kernel
theorem ef__initBB (m : MethodId) (x0 : Addr) (x1 : Addr) (x2 : Int32) : entryFrame m #[(.ref x0), (.ref x1), (.int x2)] 3 = mkF m 0 #[.val (.ref x0), .val (.ref x1), .val (.int x2)] [] := by first | (simp [entryFrame, mkF, argsToLocals, Value.category]; done) | rfl
def Q_initBB (Z : State) (a : Addr) (bv : Addr) (pb : Int32) (h0 : Heap) (n0 : Nat) (v_ : Option Value) (h : Heap) (L_ : List Loc) : Prop := v_ = none ∧ Fr n0 L_ ∧ Keep h0 h [a] ∧ Exa Z h a "java/lang/String"
set_option maxRecDepth 65536 in
set_option maxHeartbeats 40000000 in
theorem rm_initBB (l : Launch) (Z : State) (a0 : Array Value) (hw : ∀ d ∈ tables_1, d.before a0 Z = true) (ws : List Jvm.Cond) (a : Addr) (bv : Addr) (pb : Int32) (h0 : Heap) (n0 : Nat) (Z0 : n0 ≤ h0.size) (O : Old Z n0 h0) (Ea : Exa Z h0 a "java/lang/String") (Fv : Fld Z h0 a "java/lang/String" "value" "[B" .null) (Fc : Fld Z h0 a "java/lang/String" "coder" "B" (.int (0 : Int32))) (ga : n0 ≤ a) :
    MetFree l (⟨"java/lang/String", "<init>", "([BB)V"⟩ : MethodName) (head1 (Jvm.Cond.code (⟨"java/lang/String", "<init>", "([BB)V"⟩ : MethodName) jdk_42_method_151_code 3 none :: ws) ({ frames := 1, cells := 0, slots := 0, locals := 12 } : Room)) (fun a_ U_ => a_ = #[(.ref a), (.ref bv), (.int pb)] ∧ Z.Warmed39 U_.vm ∧ U_.heap = h0) (fun _ _ _ _ _ => True) (fun _ U_ o_ V_ => ∃ v_ L_, o_ = .returned v_ ∧ Q_initBB Z a bv pb h0 n0 v_ V_.heap L_ ∧ FrameEnd U_ o_ V_ L_ ({ frames := 1, cells := 0, slots := 0, locals := 12 } : Room).cells ({ frames := 1, cells := 0, slots := 0, locals := 12 } : Room).slots) := by
  refine MetFree.of_bodySF (plainFor_of_name pn0) hisR ?_
  intro p e s m args below meth c s₁ Bd hml0 hP hK
  obtain ⟨rfl, hZ, hh⟩ := hP
  have hx := Bd.exec
  have hby := Bd.bytes
  have hml : c.maxLocals = 3 := hml0
  have hown : s.vm.findClass "java/lang/String" = some m.cls := findClass_of_methodNamed Bd.named
  have hnm := (name_of_methodNamed Bd.named Bd.method).1
  have X0 : Stand p l e ({ frames := 1, cells := 0, slots := 0, locals := 12 } : Room) s m #[(.ref a), (.ref bv), (.int pb)] below meth c s₁ [] 0 0 := Stand.of_body Bd
  have e0 : s₁.heap = h0 := by rw [← hh, Bd.state]; rfl
  have N0 := Fr.nil n0
  have pre0 : own_Go p e below (s₁.setTop (entryFrame m #[(.ref a), (.ref bv), (.int pb)] 3)) (s₁.setTop (mkF m 0 #[.val (.ref a), .val (.ref bv), .val (.int pb)] [])) := fun t_ k_ => castTop (ef__initBB m a bv pb) k_
  have P1 := own_step (C := s₁.setTop (mkF m 1 #[.val (.ref a), .val (.ref bv), .val (.int pb)] [(.ref a)])) pre0 (by
    intro tt_ kk_
    refine XS.aloadN X0.here hx rfl (hb hby d5_0) rfl rfl ?_
    exact kk_)
  obtain ⟨T2, X2, e2, st2⟩ := initO X0 hx hZ hown (hw _ (List.mem_of_getElem? (i := 25) rfl)) (hw _ (List.mem_of_getElem? (i := 26) rfl)) (hw _ (List.mem_of_getElem? (i := 27) rfl)) e0 (g := (mkF m 1 #[.val (.ref a), .val (.ref bv), .val (.int pb)] [(.ref a)])) rfl (by rw [hml]; rfl) rfl (hb hby d5_1) (by decide) (W := 0) (by show 2 * 0 + _ ≤ _; exact Nat.le_of_eq rfl) (by decide)
  have P3 := own_step (C := T2.setTop (mkF m 4 #[.val (.ref a), .val (.ref bv), .val (.int pb)] [])) P1 (fun t_ k_ => st2 t_ k_)
  have P4 := own_step (C := T2.setTop (mkF m 6 #[.val (.ref a), .val (.ref bv), .val (.int pb)] [(.ref bv), (.ref a)])) P3 (by
    intro tt_ kk_
    refine XS.aloadN X2.here hx rfl (hb hby d5_4) rfl rfl ?_
    refine XS.aloadN X2.here hx rfl (hb hby d5_5) rfl rfl ?_
    exact kk_)
  obtain ⟨T5, h5, X5, e5, W5, st5⟩ := putF X2 hx hZ hown (host := "") (Or.inl (hw _ (List.mem_of_getElem? (i := 28) rfl))) Via.refl e2 Fv Ea (Or.inr ⟨(hw _ (List.mem_of_getElem? (i := 29) rfl)), rfl, hnm⟩) (hw _ (List.mem_of_getElem? (i := 16) rfl)) (ty := (.array .byte)) (by decide) rfl rfl (g := (mkF m 6 #[.val (.ref a), .val (.ref bv), .val (.int pb)] [(.ref bv), (.ref a)])) rfl rfl (hb hby d5_6)
  have f6 := O.wr W5 ga
  have f7 := Ea.wr W5
  have f8 := Fc.other W5 (Or.inr (slot_ne (Or.inr (hw _ (List.mem_of_getElem? (i := 31) rfl))) (Or.inr (hw _ (List.mem_of_getElem? (i := 29) rfl))) (by decide) (t := .byte) (t' := (.array .byte)) (by decide) (by decide)))
  have f9 := Fv.same W5
  have f10 := (Keep.refl h0 [a]).wr W5 (Or.inl (List.mem_of_getElem? (i := 0) rfl))
  have Z11 : n0 ≤ h5.size := Nat.le_trans Z0 (Keep.of_wr W5).1
  have N5 := Fr.snoc X5 N0 ga
  have P12 := own_step (C := T5.setTop (mkF m 9 #[.val (.ref a), .val (.ref bv), .val (.int pb)] [])) P4 (fun t_ k_ => st5 t_ k_)
  have P13 := own_step (C := T5.setTop (mkF m 11 #[.val (.ref a), .val (.ref bv), .val (.int pb)] [(.int pb), (.ref a)])) P12 (by
    intro tt_ kk_
    refine XS.aloadN X5.here hx rfl (hb hby d5_9) rfl rfl ?_
    refine XS.iloadN X5.here hx rfl (hb hby d5_10) rfl ?_
    exact kk_)
  obtain ⟨T14, h14, X14, e14, W14, st14⟩ := putFN X5 hx hZ hown (hw _ (List.mem_of_getElem? (i := 30) rfl)) Via.refl e5 f8 f7 (Or.inr ⟨(hw _ (List.mem_of_getElem? (i := 31) rfl)), rfl, hnm⟩) (hw _ (List.mem_of_getElem? (i := 16) rfl)) (ty := .byte) (v' := (.int pb.toInt8.toInt32)) (by decide) rfl (fits_nar_byte _) (g := (mkF m 11 #[.val (.ref a), .val (.ref bv), .val (.int pb)] [(.int pb), (.ref a)])) rfl rfl (hb hby d5_11)
  have f15 := f6.wr W14 ga
  have f16 := f7.wr W14
  have f17 := f8.same W14
  have f18 := f9.other W14 (Or.inr (slot_ne (Or.inr (hw _ (List.mem_of_getElem? (i := 29) rfl))) (Or.inr (hw _ (List.mem_of_getElem? (i := 31) rfl))) (by decide) (t := (.array .byte)) (t' := .byte) (by decide) (by decide)))
  have f19 := f10.wr W14 (Or.inl (List.mem_of_getElem? (i := 0) rfl))
  have Z20 : n0 ≤ h14.size := Nat.le_trans Z11 (Keep.of_wr W14).1
  have N14 := Fr.snoc X14 N5 ga
  have P21 := own_step (C := T14.setTop (mkF m 14 #[.val (.ref a), .val (.ref bv), .val (.int pb)] [])) P13 (fun t_ k_ => st14 t_ k_)
  obtain ⟨fs, hr, hrun, hended, hW, hsame⟩ := X14.leave (v := none) (fun _ => rfl)
  refine ⟨_, _, P21 _ ?_, hrun, hended, _, _, rfl, ?_, ⟨_, rfl⟩, hW, hsame.mono (by decide) (by decide)⟩
  · exact X14.returnOut hx Bd.returns (hb hby d5_14) hr
  · show Q_initBB Z _ _ _ h0 n0 _ T14.heap _
    rw [e14]
    exact ⟨rfl, N14, f19, f16⟩
theorem own_can1 {c : Int32} (h : ¬ ((255 : Int32) < c)) : ¬ (own_can c = (0 : Int32)) := by unfold own_can; rw [if_neg h]; decide
theorem pd13 : parseMethodDescriptor "(C)Z" = some ⟨[.char], some .boolean⟩ := by decide +kernel
theorem pd14 : parseMethodDescriptor "(C)[B" = some ⟨[.char], some (.array .byte)⟩ := by decide +kernel
theorem pd15 : parseMethodDescriptor "([BB)V" = some ⟨[(.array .byte), .byte], none⟩ := by decide +kernel
theorem d2_0 : decode jdk_42_method_139_code 0 = .ok (.getstatic 38, 3) := by decide +kernel
theorem d2_3 : decode jdk_42_method_139_code 3 = .ok (.ifCond .eq 23, 3) := by decide +kernel
theorem d2_6 : decode jdk_42_method_139_code 6 = .ok (.iload_n 0, 1) := by decide +kernel
theorem d2_7 : decode jdk_42_method_139_code 7 = .ok (.invokestatic 1015, 3) := by decide +kernel
theorem d2_10 : decode jdk_42_method_139_code 10 = .ok (.ifCond .eq 16, 3) := by decide +kernel
theorem d2_13 : decode jdk_42_method_139_code 13 = .ok (.new 10, 3) := by decide +kernel
theorem d2_16 : decode jdk_42_method_139_code 16 = .ok (.dup, 1) := by decide +kernel
theorem d2_17 : decode jdk_42_method_139_code 17 = .ok (.iload_n 0, 1) := by decide +kernel
theorem d2_18 : decode jdk_42_method_139_code 18 = .ok (.invokestatic 1018, 3) := by decide +kernel
theorem d2_21 : decode jdk_42_method_139_code 21 = .ok (.iconst 0, 1) := by decide +kernel
theorem d2_22 : decode jdk_42_method_139_code 22 = .ok (.invokespecial 209, 3) := by decide +kernel
theorem d2_25 : decode jdk_42_method_139_code 25 = .ok (.areturn, 1) := by decide +kernel
theorem ef__valueOf (m : MethodId) (x0 : Int32) : entryFrame m #[(.int x0)] 1 = mkF m 0 #[.val (.int x0)] [] := by first | (simp [entryFrame, mkF, argsToLocals, Value.category]; done) | rfl
def Q_valueOf (Z : State) (p0 : Int32) (cs : Int32) (h0 : Heap) (n0 : Nat) (v_ : Option Value) (h : Heap) (L_ : List Loc) : Prop := ∃ (x : Addr), v_ = some (.ref x) ∧ Fr n0 L_ ∧ Keep h0 h [] ∧ h0.size ≤ x ∧ Exa Z h x "java/lang/String"
set_option maxRecDepth 65536 in
set_option maxHeartbeats 40000000 in
theorem rm_valueOf (l : Launch) (Z : State) (a0 : Array Value) (hw : ∀ d ∈ tables_1, d.before a0 Z = true) (ws : List Jvm.Cond) (p0 : Int32) (cs : Int32) (h0 : Heap) (n0 : Nat) (Z0 : n0 ≤ h0.size) (O : Old Z n0 h0) (Scs : Sta Z Z.heap "java/lang/String" "COMPACT_STRINGS" "Z" (.int cs)) (hcs : ¬ (cs = (0 : Int32))) (hc : ¬ ((255 : Int32) < p0)) :
    MetFree l (⟨"java/lang/String", "valueOf", "(C)Ljava/lang/String;"⟩ : MethodName) (head1 (Jvm.Cond.code (⟨"java/lang/String", "valueOf", "(C)Ljava/lang/String;"⟩ : MethodName) jdk_42_method_139_code 1 (some (.object "java/lang/String")) :: ws) ({ frames := 2, cells := 2, slots := 5, locals := 27 } : Room)) (fun a_ U_ => a_ = #[(.int p0)] ∧ Z.Warmed39 U_.vm ∧ U_.heap = h0) (fun _ _ _ _ _ => True) (fun _ U_ o_ V_ => ∃ v_ L_, o_ = .returned v_ ∧ Q_valueOf Z p0 cs h0 n0 v_ V_.heap L_ ∧ FrameEnd U_ o_ V_ L_ ({ frames := 2, cells := 2, slots := 5, locals := 27 } : Room).cells ({ frames := 2, cells := 2, slots := 5, locals := 27 } : Room).slots) := by
  refine MetFree.of_bodySF (plainFor_of_name pn0) hisR ?_
  intro p e s m args below meth c s₁ Bd hml0 hP hK
  obtain ⟨rfl, hZ, hh⟩ := hP
  have hx := Bd.exec
  have hby := Bd.bytes
  have hml : c.maxLocals = 1 := hml0
  have hown : s.vm.findClass "java/lang/String" = some m.cls := findClass_of_methodNamed Bd.named
  have hnm := (name_of_methodNamed Bd.named Bd.method).1
  have X0 : Stand p l e ({ frames := 2, cells := 2, slots := 5, locals := 27 } : Room) s m #[(.int p0)] below meth c s₁ [] 0 0 := Stand.of_body Bd
  have e0 : s₁.heap = h0 := by rw [← hh, Bd.state]; rfl
  have N0 := Fr.nil n0
  have pre0 : own_Go p e below (s₁.setTop (entryFrame m #[(.int p0)] 1)) (s₁.setTop (mkF m 0 #[.val (.int p0)] [])) := fun t_ k_ => castTop (ef__valueOf m p0) k_
  obtain ⟨T1, X1, e1, st1⟩ := getS2 X0 hx hZ hown (host := "") (Or.inl (hw _ (List.mem_of_getElem? (i := 10) rfl))) Via.refl e0 (Scs.ext O.2) (g := (mkF m 0 #[.val (.int p0)] [])) rfl (hb hby d2_0)
  have P2 := own_step (C := T1.setTop (mkF m 3 #[.val (.int p0)] [(.int cs)])) pre0 (fun t_ k_ => st1 t_ k_)
  have P3 := own_step (C := T1.setTop (mkF m 6 #[.val (.int p0)] [])) P2 (by
    intro tt_ kk_
    refine XS.ifNo X1.here hx rfl (hb hby d2_3) rfl ((if0 _ _).trans (feq hcs).1) ?_
    exact kk_)
  have P4 := own_step (C := T1.setTop (mkF m 7 #[.val (.int p0)] [(.int p0)])) P3 (by
    intro tt_ kk_
    refine XS.iloadN X1.here hx rfl (hb hby d2_6) rfl ?_
    exact kk_)
  obtain ⟨_, _, ⟨T5, L5, k5, n5⟩, -, X5, ⟨Lc5, hQ5, l5, y5, z5⟩, st5⟩ := Jvm.LawKit.callS X1 hx (y := (⟨"java/lang/StringLatin1", "canEncode", "(C)Z"⟩ : MethodName)) hown (mvT hZ (hw _ (List.mem_of_getElem? (i := 11) rfl))) (mvT hZ (hw _ (List.mem_of_getElem? (i := 12) rfl))) (mvT hZ (hw _ (List.mem_of_getElem? (i := 13) rfl))) (mvT hZ (hw _ (List.mem_of_getElem? (i := 14) rfl))) (by decide) (backOf (W := 0) (rm_own_can l Z a0 hw [] p0 h0 n0 Z0 ) hZ (hw _ (List.mem_of_getElem? (i := 14) rfl)) (hw _ (List.mem_of_getElem? (i := 13) rfl)) (by decide) (by decide)) (g := (mkF m 7 #[.val (.int p0)] [(.int p0)])) rfl (by rw [hml]; rfl) (argsL := [(.int p0)]) (rest := []) (lenOf pd13 rfl) rfl (by show 2 * 0 + _ ≤ _; exact Nat.le_of_eq rfl) (hb hby d2_7) (fun _ _ => ⟨rfl, e1, (by decide : 0 + 0 ≤ _), (by decide : 0 + 0 ≤ _)⟩)
  dsimp only [Pt.U, Pt.locs, Pt.cells, Pt.slots] at X5 l5 y5 z5 st5 hQ5
  subst l5 y5 z5
  obtain ⟨rfl, N5q, e5⟩ := hQ5
  have N5 := Fr.app N0 N5q
  have P6 := own_step (C := T5.setTop (mkF m 10 #[.val (.int p0)] [(.int (own_can p0))])) P4 (fun t_ k_ => st5 t_ k_)
  have P7 := own_step (C := T5.setTop (mkF m 13 #[.val (.int p0)] [])) P6 (by
    intro tt_ kk_
    refine XS.ifNo X5.here hx rfl (hb hby d2_10) rfl ((if0 _ _).trans (feq (own_can1 hc)).1) ?_
    exact kk_)
  obtain ⟨T8, h8, X8, e8, E8, A8, D8, -, st8⟩ := newO X5 hx hZ hown (hw _ (List.mem_of_getElem? (i := 15) rfl)) (hw _ (List.mem_of_getElem? (i := 16) rfl)) (hw _ (List.mem_of_getElem? (i := 8) rfl)) e5 (g := (mkF m 13 #[.val (.int p0)] [])) rfl (hb hby d2_13) (by decide) (by decide)
  obtain ⟨b8, g8⟩ : ∃ z, z = h0.size := ⟨_, rfl⟩
  rw [← g8] at A8 D8 st8
  have g_b8 : n0 ≤ b8 := Nat.le_trans Z0 (Nat.le_of_eq g8.symm)
  have sz_b8 : h0.size ≤ b8 := Nat.le_trans (Keep.refl h0 []).1 (Nat.le_of_eq g8.symm)
  have f9 := O.ext E8
  have f10 := (Keep.refl h0 []).ext E8
  have Z11 : n0 ≤ h8.size := Nat.le_trans Z0 E8.1
  have f12 : Fld Z h8 b8 "java/lang/String" "value" "[B" .null := D8 (Or.inr (hw _ (List.mem_of_getElem? (i := 29) rfl))) (ty := (.array .byte)) (by decide)
  have f13 : Fld Z h8 b8 "java/lang/String" "coder" "B" (.int (0 : Int32)) := D8 (Or.inr (hw _ (List.mem_of_getElem? (i := 31) rfl))) (ty := .byte) (by decide)
  have P14 := own_step (C := T8.setTop (mkF m 16 #[.val (.int p0)] [(.ref b8)])) P7 (fun t_ k_ => st8 t_ k_)
  have P15 := own_step (C := T8.setTop (mkF m 18 #[.val (.int p0)] [(.int p0), (.ref b8), (.ref b8)])) P14 (by
    intro tt_ kk_
    refine XS.dup X8.here hx rfl (hb hby d2_16) rfl rfl ?_
    refine XS.iloadN X8.here hx rfl (hb hby d2_17) rfl ?_
    exact kk_)
  obtain ⟨_, _, ⟨T16, L16, k16, n16⟩, -, X16, ⟨Lc16, hQ16, l16, y16, z16⟩, st16⟩ := Jvm.LawKit.callS X8 hx (y := (⟨"java/lang/StringLatin1", "toBytes", "(C)[B"⟩ : MethodName)) hown (mvT hZ (hw _ (List.mem_of_getElem? (i := 17) rfl))) (mvT hZ (hw _ (List.mem_of_getElem? (i := 18) rfl))) (mvT hZ (hw _ (List.mem_of_getElem? (i := 13) rfl))) (mvT hZ (hw _ (List.mem_of_getElem? (i := 19) rfl))) (by decide) (backOf (W := 2) (rm_toB l Z a0 hw [] p0 h8 n0 Z11 f9) hZ (hw _ (List.mem_of_getElem? (i := 19) rfl)) (hw _ (List.mem_of_getElem? (i := 13) rfl)) (by decide) (by decide)) (g := (mkF m 18 #[.val (.int p0)] [(.int p0), (.ref b8), (.ref b8)])) rfl (by rw [hml]; rfl) (argsL := [(.int p0)]) (rest := [(.ref b8), (.ref b8)]) (lenOf pd14 rfl) rfl (by show 2 * 0 + _ ≤ _; exact Nat.le_of_eq rfl) (hb hby d2_18) (fun _ _ => ⟨rfl, e8, (by decide : 1 + 1 ≤ _), (by decide : 4 + 1 ≤ _)⟩)
  dsimp only [Pt.U, Pt.locs, Pt.cells, Pt.slots] at X16 l16 y16 z16 st16 hQ16
  subst l16 y16 z16
  obtain ⟨x16, rfl, N16q, K16, f17⟩ := hQ16
  have N16 := Fr.app N5 N16q
  have ne_b8_x16 : b8 ≠ x16 := Nat.ne_of_lt (Nat.lt_of_lt_of_le A8.lt f17)
  have g_x16 : n0 ≤ x16 := Nat.le_trans Z11 f17
  have sz_x16 : h0.size ≤ x16 := Nat.le_trans f10.1 f17
  have f18 := f9.keep K16 all0
  have f19 := f10.trans K16 all0
  have f20 := A8.keep K16
  have f21 := f12.keep K16 nin0
  have f22 := f13.keep K16 nin0
  have Z23 : n0 ≤ T16.heap.size := Nat.le_trans Z11 K16.1
  have P24 := own_step (C := T16.setTop (mkF m 21 #[.val (.int p0)] [(.ref x16), (.ref b8), (.ref b8)])) P15 (fun t_ k_ => st16 t_ k_)
  have P25 := own_step (C := T16.setTop (mkF m 22 #[.val (.int p0)] [(.int (0 : Int32)), (.ref x16), (.ref b8), (.ref b8)])) P24 (by
    intro tt_ kk_
    refine XS.iconst X16.here hx rfl (hb hby d2_21) ?_
    exact kk_)
  obtain ⟨_, _, ⟨T26, L26, k26, n26⟩, -, X26, ⟨Lc26, hQ26, l26, y26, z26⟩, st26⟩ := X16.specialBack hx (y := (⟨"java/lang/String", "<init>", "([BB)V"⟩ : MethodName)) rfl hown (mvT hZ (hw _ (List.mem_of_getElem? (i := 21) rfl))) (mvT hZ (hw _ (List.mem_of_getElem? (i := 22) rfl))) (mvT hZ (hw _ (List.mem_of_getElem? (i := 24) rfl))) (by decide) (backOf (W := 1) (rm_initBB l Z a0 hw [] b8 x16 (0 : Int32) T16.heap n0 Z23 f18 f20 f21 f22 g_b8) hZ (hw _ (List.mem_of_getElem? (i := 24) rfl)) (hw _ (List.mem_of_getElem? (i := 8) rfl)) (by decide) (by decide)) (g := (mkF m 22 #[.val (.int p0)] [(.int (0 : Int32)), (.ref x16), (.ref b8), (.ref b8)])) rfl (by rw [hml]; rfl) (Steps.refl _) (a := b8) (argsL := [(.ref x16), (.int (0 : Int32))]) (rest := [(.ref b8)]) (lenOf pd15 rfl) rfl (by show 2 * 0 + _ ≤ _; exact Nat.le_of_eq rfl) (hb hby d2_22) (fun _ _ => ⟨rfl, rfl, (by decide : 2 + 0 ≤ _), (by decide : 5 + 0 ≤ _)⟩)
  dsimp only [Pt.U, Pt.locs, Pt.cells, Pt.slots] at X26 l26 y26 z26 st26 hQ26
  subst l26 y26 z26
  obtain ⟨rfl, N26q, K26, f27⟩ := hQ26
  have N26 := Fr.app N16 N26q
  have f28 := f18.keep K26 (allS g_b8 all0)
  have f29 := f19.trans K26 (allS (Or.inr sz_b8) all0)
  have f30 := f20.keep K26
  have Z33 : n0 ≤ T26.heap.size := Nat.le_trans Z23 K26.1
  have P34 := own_step (C := T26.setTop (mkF m 25 #[.val (.int p0)] [(.ref b8)])) P25 (fun t_ k_ => st26.trans k_)
  obtain ⟨fs, hr, hrun, hended, hW, hsame⟩ := X26.leave (v := some (.ref b8)) (fun h => by rw [Bd.returns] at h; cases h)
  refine ⟨_, _, P34 _ ?_, hrun, hended, _, _, rfl, ?_, ⟨_, rfl⟩, hW, hsame.mono (by decide) (by decide)⟩
  · jvm_step X26.here [X26.here.top, hx, (hb hby d2_25), X26.method', Bd.returns, Value.isRef, FieldType.isReference]
    first | (intro acts; rw [hr _ acts rfl rfl rfl]) | rw [hr _ _ rfl rfl rfl]
    exact Steps.refl _
  · show Q_valueOf Z _ _ h0 n0 _ T26.heap _
    exact ⟨b8, rfl, N26, f29, sz_b8, f27⟩
def own_max (p0 : Int32) (p1 : Int32) : Int32 := (if p0 < p1 then p1 else p0)
theorem d1_0 : decode jdk_29_method_65_code 0 = .ok (.iload_n 0, 1) := by decide +kernel
theorem d1_1 : decode jdk_29_method_65_code 1 = .ok (.iload_n 1, 1) := by decide +kernel
theorem d1_2 : decode jdk_29_method_65_code 2 = .ok (.if_icmp .lt 7, 3) := by decide +kernel
theorem d1_5 : decode jdk_29_method_65_code 5 = .ok (.iload_n 0, 1) := by decide +kernel
theorem d1_6 : decode jdk_29_method_65_code 6 = .ok (.goto 4, 3) := by decide +kernel
theorem d1_9 : decode jdk_29_method_65_code 9 = .ok (.iload_n 1, 1) := by decide +kernel
theorem d1_10 : decode jdk_29_method_65_code 10 = .ok (.ireturn, 1) := by decide +kernel
theorem ef__own_max (m : MethodId) (x0 : Int32) (x1 : Int32) : entryFrame m #[(.int x0), (.int x1)] 2 = mkF m 0 #[.val (.int x0), .val (.int x1)] [] := by first | (simp [entryFrame, mkF, argsToLocals, Value.category]; done) | rfl
def Q_own_max (Z : State) (p0 : Int32) (p1 : Int32) (h0 : Heap) (n0 : Nat) (v_ : Option Value) (h : Heap) (L_ : List Loc) : Prop := v_ = some (.int (own_max p0 p1)) ∧ Fr n0 L_ ∧ h = h0
set_option maxRecDepth 65536 in
set_option maxHeartbeats 40000000 in
theorem rm_own_max (l : Launch) (Z : State) (a0 : Array Value) (hw : ∀ d ∈ tables_1, d.before a0 Z = true) (ws : List Jvm.Cond) (p0 : Int32) (p1 : Int32) (h0 : Heap) (n0 : Nat) (Z0 : n0 ≤ h0.size) :
    MetFree l (⟨"java/lang/Math", "max", "(II)I"⟩ : MethodName) (head1 (Jvm.Cond.code (⟨"java/lang/Math", "max", "(II)I"⟩ : MethodName) jdk_29_method_65_code 2 (some .int) :: ws) ({ frames := 0, cells := 0, slots := 0, locals := 0 } : Room)) (fun a_ U_ => a_ = #[(.int p0), (.int p1)] ∧ Z.Warmed39 U_.vm ∧ U_.heap = h0) (fun _ _ _ _ _ => True) (fun _ U_ o_ V_ => ∃ v_ L_, o_ = .returned v_ ∧ Q_own_max Z p0 p1 h0 n0 v_ V_.heap L_ ∧ FrameEnd U_ o_ V_ L_ ({ frames := 0, cells := 0, slots := 0, locals := 0 } : Room).cells ({ frames := 0, cells := 0, slots := 0, locals := 0 } : Room).slots) := by
  refine MetFree.of_bodySF (Jvm.Free.JP.mathPlain rfl (by decide +kernel)) hisR ?_
  intro p e s m args below meth c s₁ Bd hml0 hP hK
  obtain ⟨rfl, hZ, hh⟩ := hP
  have hx := Bd.exec
  have hby := Bd.bytes
  have hml : c.maxLocals = 2 := hml0
  have hown : s.vm.findClass "java/lang/Math" = some m.cls := findClass_of_methodNamed Bd.named
  have hnm := (name_of_methodNamed Bd.named Bd.method).1
  have X0 : Stand p l e ({ frames := 0, cells := 0, slots := 0, locals := 0 } : Room) s m #[(.int p0), (.int p1)] below meth c s₁ [] 0 0 := Stand.of_body Bd
  have e0 : s₁.heap = h0 := by rw [← hh, Bd.state]; rfl
  have N0 := Fr.nil n0
  have pre0 : own_Go p e below (s₁.setTop (entryFrame m #[(.int p0), (.int p1)] 2)) (s₁.setTop (mkF m 0 #[.val (.int p0), .val (.int p1)] [])) := fun t_ k_ => castTop (ef__own_max m p0 p1) k_
  have P1 := own_step (C := s₁.setTop (mkF m 2 #[.val (.int p0), .val (.int p1)] [(.int p1), (.int p0)])) pre0 (by
    intro tt_ kk_
    refine XS.iloadN X0.here hx rfl (hb hby d1_0) rfl ?_
    refine XS.iloadN X0.here hx rfl (hb hby d1_1) rfl ?_
    exact kk_)
  by_cases c2 : p0 < p1
  · have P3 := own_step (C := s₁.setTop (mkF m 9 #[.val (.int p0), .val (.int p1)] [])) P1 (by
      intro tt_ kk_
      refine XS.icmpYes X0.here hx rfl (pc0 := 2) (pc' := 9) rfl (hb hby d1_2) rfl (tlt c2).1 (by decide) (by decide) ?_
      exact kk_)
    have P4 := own_step (C := s₁.setTop (mkF m 10 #[.val (.int p0), .val (.int p1)] [(.int p1)])) P3 (by
      intro tt_ kk_
      refine XS.iloadN X0.here hx rfl (hb hby d1_9) rfl ?_
      exact kk_)
    obtain ⟨fs, hr, hrun, hended, hW, hsame⟩ := X0.leave (v := some (.int p1)) (fun h => by rw [Bd.returns] at h; cases h)
    refine ⟨_, _, P4 _ ?_, hrun, hended, _, _, rfl, ?_, ⟨_, rfl⟩, hW, hsame.mono (by decide) (by decide)⟩
    · exact retI X0 hx Bd.returns (hb hby d1_10) hr
    · show Q_own_max Z _ _ h0 n0 _ s₁.heap _
      rw [e0]
      exact ⟨by unfold own_max; rw [if_pos c2], N0, rfl⟩
  · have P5 := own_step (C := s₁.setTop (mkF m 5 #[.val (.int p0), .val (.int p1)] [])) P1 (by
      intro tt_ kk_
      refine XS.icmpNo X0.here hx rfl (hb hby d1_2) rfl (flt c2).1 ?_
      exact kk_)
    have P6 := own_step (C := s₁.setTop (mkF m 10 #[.val (.int p0), .val (.int p1)] [(.int p0)])) P5 (by
      intro tt_ kk_
      refine XS.iloadN X0.here hx rfl (hb hby d1_5) rfl ?_
      refine XS.goto X0.here hx rfl (pc0 := 6) (pc' := 10) rfl (hb hby d1_6) (by decide) (by decide) ?_
      exact kk_)
    obtain ⟨fs, hr, hrun, hended, hW, hsame⟩ := X0.leave (v := some (.int p0)) (fun h => by rw [Bd.returns] at h; cases h)
    refine ⟨_, _, P6 _ ?_, hrun, hended, _, _, rfl, ?_, ⟨_, rfl⟩, hW, hsame.mono (by decide) (by decide)⟩
    · exact retI X0 hx Bd.returns (hb hby d1_10) hr
    · show Q_own_max Z _ _ h0 n0 _ s₁.heap _
      rw [e0]
      exact ⟨by unfold own_max; rw [if_neg c2], N0, rfl⟩
def own_b (p0 : Int32) (p1 : Int32) (p2 : Int32) (p3 : Int32) : Int64 := (if p1 < p2 then (if (p0 / (64 : Int32)) = p3 then ((1 : Int64) <<< ((p0 % (64 : Int32)) &&& 0x3f).toInt64) else (0 : Int64)) else (0 : Int64))
theorem d14_0 : decode method_3_code 0 = .ok (.iload_n 1, 1) := by decide +kernel
theorem d14_1 : decode method_3_code 1 = .ok (.iload_n 2, 1) := by decide +kernel
theorem d14_2 : decode method_3_code 2 = .ok (.if_icmp .lt 5, 3) := by decide +kernel
theorem d14_5 : decode method_3_code 5 = .ok (.lconst 0, 1) := by decide +kernel
theorem d14_6 : decode method_3_code 6 = .ok (.lreturn, 1) := by decide +kernel
theorem d14_7 : decode method_3_code 7 = .ok (.iload_n 0, 1) := by decide +kernel
theorem d14_8 : decode method_3_code 8 = .ok (.bipush 64, 2) := by decide +kernel
theorem d14_10 : decode method_3_code 10 = .ok (.idiv, 1) := by decide +kernel
theorem d14_11 : decode method_3_code 11 = .ok (.iload_n 3, 1) := by decide +kernel
theorem d14_12 : decode method_3_code 12 = .ok (.if_icmp .eq 5, 3) := by decide +kernel
theorem d14_15 : decode method_3_code 15 = .ok (.lconst 0, 1) := by decide +kernel
theorem d14_16 : decode method_3_code 16 = .ok (.lreturn, 1) := by decide +kernel
theorem d14_17 : decode method_3_code 17 = .ok (.lconst 1, 1) := by decide +kernel
theorem d14_18 : decode method_3_code 18 = .ok (.iload_n 0, 1) := by decide +kernel
theorem d14_19 : decode method_3_code 19 = .ok (.bipush 64, 2) := by decide +kernel
theorem d14_21 : decode method_3_code 21 = .ok (.irem, 1) := by decide +kernel
theorem d14_22 : decode method_3_code 22 = .ok (.lshl, 1) := by decide +kernel
theorem d14_23 : decode method_3_code 23 = .ok (.lreturn, 1) := by decide +kernel
theorem ef__own_b (m : MethodId) (x0 : Int32) (x1 : Int32) (x2 : Int32) (x3 : Int32) : entryFrame m #[(.int x0), (.int x1), (.int x2), (.int x3)] 4 = mkF m 0 #[.val (.int x0), .val (.int x1), .val (.int x2), .val (.int x3)] [] := by first | (simp [entryFrame, mkF, argsToLocals, Value.category]; done) | rfl
def Q_own_b (Z : State) (p0 : Int32) (p1 : Int32) (p2 : Int32) (p3 : Int32) (h0 : Heap) (n0 : Nat) (v_ : Option Value) (h : Heap) (L_ : List Loc) : Prop := v_ = some (.long (own_b p0 p1 p2 p3)) ∧ Fr n0 L_ ∧ h = h0
theorem pn5 : plainName "com/example/gatehouse/gatehouse/pattern/NameShapeCharactersPinLaw" = true := by first | (simp [plainName, overriddenIn]; done) | decide +kernel
set_option maxRecDepth 65536 in
set_option maxHeartbeats 40000000 in
theorem rm_own_b (l : Launch) (Z : State) (a0 : Array Value) (hw : ∀ d ∈ tables_1, d.before a0 Z = true) (ws : List Jvm.Cond) (p0 : Int32) (p1 : Int32) (p2 : Int32) (p3 : Int32) (h0 : Heap) (n0 : Nat) (Z0 : n0 ≤ h0.size) :
    MetFree l (⟨"com/example/gatehouse/gatehouse/pattern/NameShapeCharactersPinLaw", "bit", "(IIII)J"⟩ : MethodName) (head1 (Jvm.Cond.code (⟨"com/example/gatehouse/gatehouse/pattern/NameShapeCharactersPinLaw", "bit", "(IIII)J"⟩ : MethodName) method_3_code 4 (some .long) :: ws) ({ frames := 0, cells := 0, slots := 0, locals := 0 } : Room)) (fun a_ U_ => a_ = #[(.int p0), (.int p1), (.int p2), (.int p3)] ∧ Z.Warmed39 U_.vm ∧ U_.heap = h0) (fun _ _ _ _ _ => True) (fun _ U_ o_ V_ => ∃ v_ L_, o_ = .returned v_ ∧ Q_own_b Z p0 p1 p2 p3 h0 n0 v_ V_.heap L_ ∧ FrameEnd U_ o_ V_ L_ ({ frames := 0, cells := 0, slots := 0, locals := 0 } : Room).cells ({ frames := 0, cells := 0, slots := 0, locals := 0 } : Room).slots) := by
  refine MetFree.of_bodySF (plainFor_of_name pn5) hisR ?_
  intro p e s m args below meth c s₁ Bd hml0 hP hK
  obtain ⟨rfl, hZ, hh⟩ := hP
  have hx := Bd.exec
  have hby := Bd.bytes
  have hml : c.maxLocals = 4 := hml0
  have hown : s.vm.findClass "com/example/gatehouse/gatehouse/pattern/NameShapeCharactersPinLaw" = some m.cls := findClass_of_methodNamed Bd.named
  have hnm := (name_of_methodNamed Bd.named Bd.method).1
  have X0 : Stand p l e ({ frames := 0, cells := 0, slots := 0, locals := 0 } : Room) s m #[(.int p0), (.int p1), (.int p2), (.int p3)] below meth c s₁ [] 0 0 := Stand.of_body Bd
  have e0 : s₁.heap = h0 := by rw [← hh, Bd.state]; rfl
  have N0 := Fr.nil n0
  have pre0 : own_Go p e below (s₁.setTop (entryFrame m #[(.int p0), (.int p1), (.int p2), (.int p3)] 4)) (s₁.setTop (mkF m 0 #[.val (.int p0), .val (.int p1), .val (.int p2), .val (.int p3)] [])) := fun t_ k_ => castTop (ef__own_b m p0 p1 p2 p3) k_
  have P1 := own_step (C := s₁.setTop (mkF m 2 #[.val (.int p0), .val (.int p1), .val (.int p2), .val (.int p3)] [(.int p2), (.int p1)])) pre0 (by
    intro tt_ kk_
    refine XS.iloadN X0.here hx rfl (hb hby d14_0) rfl ?_
    refine XS.iloadN X0.here hx rfl (hb hby d14_1) rfl ?_
    exact kk_)
  by_cases c2 : p1 < p2
  · have P3 := own_step (C := s₁.setTop (mkF m 7 #[.val (.int p0), .val (.int p1), .val (.int p2), .val (.int p3)] [])) P1 (by
      intro tt_ kk_
      refine XS.icmpYes X0.here hx rfl (pc0 := 2) (pc' := 7) rfl (hb hby d14_2) rfl (tlt c2).1 (by decide) (by decide) ?_
      exact kk_)
    have P4 := own_step (C := s₁.setTop (mkF m 12 #[.val (.int p0), .val (.int p1), .val (.int p2), .val (.int p3)] [(.int p3), (.int (p0 / (64 : Int32)))])) P3 (by
      intro tt_ kk_
      refine XS.iloadN X0.here hx rfl (hb hby d14_7) rfl ?_
      refine XS.bipush X0.here hx rfl (hb hby d14_8) ?_
      refine XS.idiv X0.here hx rfl (hb hby d14_10) rfl (by decide) ?_
      refine XS.iloadN X0.here hx rfl (hb hby d14_11) rfl ?_
      exact kk_)
    by_cases c5 : (p0 / (64 : Int32)) = p3
    · have P6 := own_step (C := s₁.setTop (mkF m 17 #[.val (.int p0), .val (.int p1), .val (.int p2), .val (.int p3)] [])) P4 (by
        intro tt_ kk_
        refine XS.icmpYes X0.here hx rfl (pc0 := 12) (pc' := 17) rfl (hb hby d14_12) rfl (teq c5).1 (by decide) (by decide) ?_
        exact kk_)
      have P7 := own_step (C := s₁.setTop (mkF m 23 #[.val (.int p0), .val (.int p1), .val (.int p2), .val (.int p3)] [(.long ((1 : Int64) <<< ((p0 % (64 : Int32)) &&& 0x3f).toInt64))])) P6 (by
        intro tt_ kk_
        refine XS.lconst X0.here hx rfl (hb hby d14_17) ?_
        refine XS.iloadN X0.here hx rfl (hb hby d14_18) rfl ?_
        refine XS.bipush X0.here hx rfl (hb hby d14_19) ?_
        refine iremM X0 hx rfl (hb hby d14_21) rfl (by decide) ?_
        refine XS.lshl X0.here hx rfl (hb hby d14_22) rfl ?_
        exact kk_)
      obtain ⟨fs, hr, hrun, hended, hW, hsame⟩ := X0.leave (v := some (.long ((1 : Int64) <<< ((p0 % (64 : Int32)) &&& 0x3f).toInt64))) (fun h => by rw [Bd.returns] at h; cases h)
      refine ⟨_, _, P7 _ ?_, hrun, hended, _, _, rfl, ?_, ⟨_, rfl⟩, hW, hsame.mono (by decide) (by decide)⟩
      · exact retOut X0 hx Bd.returns rfl (Or.inr (Or.inl ⟨rfl, rfl, _, rfl⟩)) (hb hby d14_23) hr
      · show Q_own_b Z _ _ _ _ h0 n0 _ s₁.heap _
        rw [e0]
        exact ⟨by unfold own_b; rw [if_pos c2, if_pos c5], N0, rfl⟩
    · have P8 := own_step (C := s₁.setTop (mkF m 15 #[.val (.int p0), .val (.int p1), .val (.int p2), .val (.int p3)] [])) P4 (by
        intro tt_ kk_
        refine XS.icmpNo X0.here hx rfl (hb hby d14_12) rfl (feq c5).1 ?_
        exact kk_)
      have P9 := own_step (C := s₁.setTop (mkF m 16 #[.val (.int p0), .val (.int p1), .val (.int p2), .val (.int p3)] [(.long (0 : Int64))])) P8 (by
        intro tt_ kk_
        refine XS.lconst X0.here hx rfl (hb hby d14_15) ?_
        exact kk_)
      obtain ⟨fs, hr, hrun, hended, hW, hsame⟩ := X0.leave (v := some (.long (0 : Int64))) (fun h => by rw [Bd.returns] at h; cases h)
      refine ⟨_, _, P9 _ ?_, hrun, hended, _, _, rfl, ?_, ⟨_, rfl⟩, hW, hsame.mono (by decide) (by decide)⟩
      · exact retOut X0 hx Bd.returns rfl (Or.inr (Or.inl ⟨rfl, rfl, _, rfl⟩)) (hb hby d14_16) hr
      · show Q_own_b Z _ _ _ _ h0 n0 _ s₁.heap _
        rw [e0]
        exact ⟨by unfold own_b; rw [if_pos c2, if_neg c5], N0, rfl⟩
  · have P10 := own_step (C := s₁.setTop (mkF m 5 #[.val (.int p0), .val (.int p1), .val (.int p2), .val (.int p3)] [])) P1 (by
      intro tt_ kk_
      refine XS.icmpNo X0.here hx rfl (hb hby d14_2) rfl (flt c2).1 ?_
      exact kk_)
    have P11 := own_step (C := s₁.setTop (mkF m 6 #[.val (.int p0), .val (.int p1), .val (.int p2), .val (.int p3)] [(.long (0 : Int64))])) P10 (by
      intro tt_ kk_
      refine XS.lconst X0.here hx rfl (hb hby d14_5) ?_
      exact kk_)
    obtain ⟨fs, hr, hrun, hended, hW, hsame⟩ := X0.leave (v := some (.long (0 : Int64))) (fun h => by rw [Bd.returns] at h; cases h)
    refine ⟨_, _, P11 _ ?_, hrun, hended, _, _, rfl, ?_, ⟨_, rfl⟩, hW, hsame.mono (by decide) (by decide)⟩
    · exact retOut X0 hx Bd.returns rfl (Or.inr (Or.inl ⟨rfl, rfl, _, rfl⟩)) (hb hby d14_6) hr
    · show Q_own_b Z _ _ _ _ h0 n0 _ s₁.heap _
      rw [e0]
      exact ⟨by unfold own_b; rw [if_neg c2], N0, rfl⟩
def own_chr (cx : Int32) (lo : Int64) (hi : Int64) : Int64 := (if cx = (0 : Int32) then lo else hi)
theorem d15_0 : decode prog_36_method_8_code 0 = .ok (.iload_n 1, 1) := by decide +kernel
theorem d15_1 : decode prog_36_method_8_code 1 = .ok (.ifCond .ne 10, 3) := by decide +kernel
theorem d15_4 : decode prog_36_method_8_code 4 = .ok (.aload_n 0, 1) := by decide +kernel
theorem d15_5 : decode prog_36_method_8_code 5 = .ok (.getfield 29, 3) := by decide +kernel
theorem d15_8 : decode prog_36_method_8_code 8 = .ok (.goto 7, 3) := by decide +kernel
theorem d15_11 : decode prog_36_method_8_code 11 = .ok (.aload_n 0, 1) := by decide +kernel
theorem d15_12 : decode prog_36_method_8_code 12 = .ok (.getfield 33, 3) := by decide +kernel
theorem d15_15 : decode prog_36_method_8_code 15 = .ok (.lreturn, 1) := by decide +kernel
theorem ef__own_chr (m : MethodId) (x0 : Addr) (x1 : Int32) : entryFrame m #[(.ref x0), (.int x1)] 2 = mkF m 0 #[.val (.ref x0), .val (.int x1)] [] := by first | (simp [entryFrame, mkF, argsToLocals, Value.category]; done) | rfl
def Q_own_chr (Z : State) (a : Addr) (cx : Int32) (lo : Int64) (hi : Int64) (h0 : Heap) (n0 : Nat) (v_ : Option Value) (h : Heap) (L_ : List Loc) : Prop := v_ = some (.long (own_chr cx lo hi)) ∧ Fr n0 L_ ∧ h = h0
set_option maxRecDepth 65536 in
set_option maxHeartbeats 40000000 in
theorem rm_own_chr (l : Launch) (Z : State) (a0 : Array Value) (hw : ∀ d ∈ tables_1, d.before a0 Z = true) (ws : List Jvm.Cond) (a : Addr) (cx : Int32) (lo : Int64) (hi : Int64) (h0 : Heap) (n0 : Nat) (Z0 : n0 ≤ h0.size) (Fl : Fld Z h0 a "com/example/gatehouse/gatehouse/pattern/NameShape" "low" "J" (.long lo)) (Fh : Fld Z h0 a "com/example/gatehouse/gatehouse/pattern/NameShape" "high" "J" (.long hi)) :
    MetFree l (⟨"com/example/gatehouse/gatehouse/pattern/NameShape", "characters", "(I)J"⟩ : MethodName) (head1 (Jvm.Cond.code (⟨"com/example/gatehouse/gatehouse/pattern/NameShape", "characters", "(I)J"⟩ : MethodName) prog_36_method_8_code 2 (some .long) :: ws) ({ frames := 0, cells := 0, slots := 0, locals := 0 } : Room)) (fun a_ U_ => a_ = #[(.ref a), (.int cx)] ∧ Z.Warmed39 U_.vm ∧ U_.heap = h0) (fun _ _ _ _ _ => True) (fun _ U_ o_ V_ => ∃ v_ L_, o_ = .returned v_ ∧ Q_own_chr Z a cx lo hi h0 n0 v_ V_.heap L_ ∧ FrameEnd U_ o_ V_ L_ ({ frames := 0, cells := 0, slots := 0, locals := 0 } : Room).cells ({ frames := 0, cells := 0, slots := 0, locals := 0 } : Room).slots) := by
  refine MetFree.of_bodySF (plainFor_of_name pn1) hisR ?_
  intro p e s m args below meth c s₁ Bd hml0 hP hK
  obtain ⟨rfl, hZ, hh⟩ := hP
  have hx := Bd.exec
  have hby := Bd.bytes
  have hml : c.maxLocals = 2 := hml0
  have hown : s.vm.findClass "com/example/gatehouse/gatehouse/pattern/NameShape" = some m.cls := findClass_of_methodNamed Bd.named
  have hnm := (name_of_methodNamed Bd.named Bd.method).1
  have X0 : Stand p l e ({ frames := 0, cells := 0, slots := 0, locals := 0 } : Room) s m #[(.ref a), (.int cx)] below meth c s₁ [] 0 0 := Stand.of_body Bd
  have e0 : s₁.heap = h0 := by rw [← hh, Bd.state]; rfl
  have N0 := Fr.nil n0
  have pre0 : own_Go p e below (s₁.setTop (entryFrame m #[(.ref a), (.int cx)] 2)) (s₁.setTop (mkF m 0 #[.val (.ref a), .val (.int cx)] [])) := fun t_ k_ => castTop (ef__own_chr m a cx) k_
  have P1 := own_step (C := s₁.setTop (mkF m 1 #[.val (.ref a), .val (.int cx)] [(.int cx)])) pre0 (by
    intro tt_ kk_
    refine XS.iloadN X0.here hx rfl (hb hby d15_0) rfl ?_
    exact kk_)
  by_cases c2 : cx = (0 : Int32)
  · have P3 := own_step (C := s₁.setTop (mkF m 4 #[.val (.ref a), .val (.int cx)] [])) P1 (by
      intro tt_ kk_
      refine XS.ifNo X0.here hx rfl (hb hby d15_1) rfl ((if0 _ _).trans (teq c2).2) ?_
      exact kk_)
    have P4 := own_step (C := s₁.setTop (mkF m 5 #[.val (.ref a), .val (.int cx)] [(.ref a)])) P3 (by
      intro tt_ kk_
      refine XS.aloadN X0.here hx rfl (hb hby d15_4) rfl rfl ?_
      exact kk_)
    obtain ⟨T5, X5, e5, st5⟩ := getF X0 hx hZ hown (host := "") (Or.inl (hw _ (List.mem_of_getElem? (i := 67) rfl))) Via.refl e0 Fl (g := (mkF m 5 #[.val (.ref a), .val (.int cx)] [(.ref a)])) rfl rfl (hb hby d15_5)
    have P6 := own_step (C := T5.setTop (mkF m 8 #[.val (.ref a), .val (.int cx)] [(.long lo)])) P4 (fun t_ k_ => st5 t_ k_)
    have P7 := own_step (C := T5.setTop (mkF m 15 #[.val (.ref a), .val (.int cx)] [(.long lo)])) P6 (by
      intro tt_ kk_
      refine XS.goto X5.here hx rfl (pc0 := 8) (pc' := 15) rfl (hb hby d15_8) (by decide) (by decide) ?_
      exact kk_)
    obtain ⟨fs, hr, hrun, hended, hW, hsame⟩ := X5.leave (v := some (.long lo)) (fun h => by rw [Bd.returns] at h; cases h)
    refine ⟨_, _, P7 _ ?_, hrun, hended, _, _, rfl, ?_, ⟨_, rfl⟩, hW, hsame.mono (by decide) (by decide)⟩
    · exact retOut X5 hx Bd.returns rfl (Or.inr (Or.inl ⟨rfl, rfl, _, rfl⟩)) (hb hby d15_15) hr
    · show Q_own_chr Z _ _ _ _ h0 n0 _ T5.heap _
      rw [e5]
      exact ⟨by unfold own_chr; rw [if_pos c2], N0, rfl⟩
  · have P8 := own_step (C := s₁.setTop (mkF m 11 #[.val (.ref a), .val (.int cx)] [])) P1 (by
      intro tt_ kk_
      refine XS.ifYes X0.here hx rfl (pc0 := 1) (pc' := 11) rfl (hb hby d15_1) rfl ((if0 _ _).trans (feq c2).2) (by decide) (by decide) ?_
      exact kk_)
    have P9 := own_step (C := s₁.setTop (mkF m 12 #[.val (.ref a), .val (.int cx)] [(.ref a)])) P8 (by
      intro tt_ kk_
      refine XS.aloadN X0.here hx rfl (hb hby d15_11) rfl rfl ?_
      exact kk_)
    obtain ⟨T10, X10, e10, st10⟩ := getF X0 hx hZ hown (host := "") (Or.inl (hw _ (List.mem_of_getElem? (i := 69) rfl))) Via.refl e0 Fh (g := (mkF m 12 #[.val (.ref a), .val (.int cx)] [(.ref a)])) rfl rfl (hb hby d15_12)
    have P11 := own_step (C := T10.setTop (mkF m 15 #[.val (.ref a), .val (.int cx)] [(.long hi)])) P9 (fun t_ k_ => st10 t_ k_)
    obtain ⟨fs, hr, hrun, hended, hW, hsame⟩ := X10.leave (v := some (.long hi)) (fun h => by rw [Bd.returns] at h; cases h)
    refine ⟨_, _, P11 _ ?_, hrun, hended, _, _, rfl, ?_, ⟨_, rfl⟩, hW, hsame.mono (by decide) (by decide)⟩
    · exact retOut X10 hx Bd.returns rfl (Or.inr (Or.inl ⟨rfl, rfl, _, rfl⟩)) (hb hby d15_15) hr
    · show Q_own_chr Z _ _ _ _ h0 n0 _ T10.heap _
      rw [e10]
      exact ⟨by unfold own_chr; rw [if_neg c2], N0, rfl⟩
def own_R (c : Int32) : Prop := 0 ≤ c.toInt ∧ c.toInt < 128
theorem own_ch (x : Int32) : own_R ((x &&& (127 : Int32)).toUInt32.toUInt16.toUInt32.toInt32) := by
  have a := c_i2c (x &&& 127); have b := c_mask x 127 7 (by decide) (by decide +kernel)
  unfold own_R; omega
theorem own_v255 (x : Int32) : ¬ ((255 : Int32) < ((x &&& (255 : Int32)).toUInt32.toUInt16.toUInt32.toInt32)) := by
  rw [i2c_mask, Int32.lt_iff_toInt_lt, c_mask x 255 8 (by decide) (by decide +kernel), show (255 : Int32).toInt = 255 from rfl]; omega
theorem own_nar {c : Int32} (g : own_R c) : nar .char c = c := by
  have a := c_i2c c; unfold own_R at g
  rw [← Int32.toInt_inj]; show (c.toUInt32.toUInt16.toUInt32.toInt32).toInt = _; omega
theorem own_n255 {c : Int32} (g : own_R c) : ¬ ((255 : Int32) < nar .char c) := by
  rw [own_nar g, Int32.lt_iff_toInt_lt, show (255 : Int32).toInt = 255 from rfl]; unfold own_R at g; omega
theorem own_byte {c : Int32} (g : own_R c) : ((((nar .char c).toInt8.toInt32).toInt8.toInt32) &&& (255 : Int32)) = c := by
  rw [own_nar g]; unfold own_R at g
  have a := c_i2b c; have b := c_i2b (c.toInt8.toInt32)
  rw [← Int32.toInt_inj, c_mask _ 255 8 (by decide) (by decide +kernel)]; omega
theorem own_b128 {c : Int32} (g : own_R c) : ((((nar .char c).toInt8.toInt32).toInt8.toInt32) &&& (255 : Int32)) < (128 : Int32) := by
  rw [own_byte g, Int32.lt_iff_toInt_lt, show (128 : Int32).toInt = 128 from rfl]; exact g.2
theorem own_cs {args : Array Value} {s : State} {cs : Int32} (e : (Term.static "java/lang/String" "COMPACT_STRINGS" "Z").eval args s none [] s = some (.int cs)) (h : Jvm.Lit.compactW.before args s = true) : ¬ (cs = (0 : Int32)) := by
  have a1 := not_v (Cond.before_iff.mp (show (Cond.not (.eq (.static "java/lang/String" "COMPACT_STRINGS" "Z") (.int 0))).before args s = true from h))
  intro q; subst q
  have b1 := eq_i e (Term.int_eval (0)) rfl
  rw [b1] at a1; cases a1
theorem own_of {c : Int32} (g : own_R c) : c = Int32.ofNat c.toInt.toNat := by
  unfold own_R at g
  rw [← Int32.toInt_inj, Int32.toInt_ofNat_of_lt (by omega)]; omega
theorem own_powF : ∀ m : Fin 128, ((1 : Int64) <<< ((Int32.ofNat m.val) &&& 0x3f).toInt64).toBitVec = BitVec.twoPow 64 (m.val % 64) := by decide +kernel
theorem own_pow {c : Int32} (g : own_R c) : ((1 : Int64) <<< (c &&& 0x3f).toInt64).toBitVec = BitVec.twoPow 64 (c.toInt.toNat % 64) := by
  have q := own_powF ⟨c.toInt.toNat, by unfold own_R at g; omega⟩
  rw [← own_of g] at q; exact q
theorem own_two (k : Nat) (h : k < 64) : BitVec.twoPow 64 k ≠ 0#64 := by
  have : ∀ k : Fin 64, BitVec.twoPow 64 k.val ≠ 0#64 := by decide +kernel
  exact this ⟨k, h⟩
theorem own_tst (x : Int64) {c : Int32} (g : own_R c) : (x &&& ((1 : Int64) <<< (c &&& 0x3f).toInt64)) = (0 : Int64) ↔ x.toBitVec.getLsbD (c.toInt.toNat % 64) = false := by
  rw [← Int64.toBitVec_inj, Int64.toBitVec_and, own_pow g, BitVec.and_twoPow]
  have h := own_two (c.toInt.toNat % 64) (Nat.mod_lt _ (by decide))
  cases q : x.toBitVec.getLsbD (c.toInt.toNat % 64)
  · simp
  · simp only [if_true, Bool.true_eq_false, iff_false]; exact h
theorem own_orb (x : Int64) {c : Int32} (g : own_R c) (k : Nat) : (x ||| ((1 : Int64) <<< (c &&& 0x3f).toInt64)).toBitVec.getLsbD k = (x.toBitVec.getLsbD k || decide (c.toInt.toNat % 64 = k)) := by
  rw [Int64.toBitVec_or, BitVec.getLsbD_or, own_pow g, BitVec.getLsbD_twoPow]
  have h : c.toInt.toNat % 64 < 64 := Nat.mod_lt _ (by decide)
  rw [decide_eq_true h, Bool.true_and]
theorem own_lo {c : Int32} (g : own_R c) (x : Int64) (k : Nat) : (own_bit (0 : Int32) (64 : Int32) c x).toBitVec.getLsbD k = (x.toBitVec.getLsbD k || decide (c.toInt < 64 ∧ c.toInt.toNat % 64 = k)) := by
  unfold own_bit
  have g' := g; unfold own_R at g'
  rw [if_neg (by rw [Int32.lt_iff_toInt_lt, show (0 : Int32).toInt = 0 from rfl]; omega)]
  by_cases h : c < 64
  · rw [if_pos h, own_orb x g]; rw [Int32.lt_iff_toInt_lt, show (64 : Int32).toInt = 64 from rfl] at h; simp [h]
  · rw [if_neg h]; rw [Int32.lt_iff_toInt_lt, show (64 : Int32).toInt = 64 from rfl] at h; simp [h]
theorem own_hi {c : Int32} (g : own_R c) (x : Int64) (k : Nat) : (own_bit (64 : Int32) (128 : Int32) c x).toBitVec.getLsbD k = (x.toBitVec.getLsbD k || decide (¬ c.toInt < 64 ∧ c.toInt.toNat % 64 = k)) := by
  unfold own_bit
  have g' := g; unfold own_R at g'
  by_cases h : c < 64
  · rw [if_pos h]; rw [Int32.lt_iff_toInt_lt, show (64 : Int32).toInt = 64 from rfl] at h; simp [h]
  · rw [if_neg h, if_pos (by rw [Int32.lt_iff_toInt_lt, show (128 : Int32).toInt = 128 from rfl]; omega), own_orb x g]; rw [Int32.lt_iff_toInt_lt, show (64 : Int32).toInt = 64 from rfl] at h; simp [h]

theorem own_n3 (x : Int32) : 0 ≤ (x &&& (3 : Int32)).toInt ∧ (x &&& (3 : Int32)).toInt < 4 := by rw [c_mask x 3 2 (by decide) (by decide +kernel)]; omega
theorem own_le (x : Int32) : ¬ ((x &&& (2147483647 : Int32)) < (0 : Int32)) := by
  rw [Int32.lt_iff_toInt_lt, c_mask x 2147483647 31 (by decide) (by decide +kernel), show (0 : Int32).toInt = 0 from rfl]; omega
theorem own_mo (x y : Int32) : ¬ (own_max x y < x) := by
  unfold own_max; simp only [Int32.lt_iff_toInt_lt]; split <;> omega
theorem own_three {nn : Int32} (g : 0 ≤ nn.toInt ∧ nn.toInt < 4) (a : ¬ (nn = (0 : Int32))) (b : ¬ (nn = (1 : Int32))) (c : ¬ (nn = (2 : Int32))) : nn = (3 : Int32) := by
  simp only [← Int32.toInt_inj, show (0 : Int32).toInt = 0 from rfl, show (1 : Int32).toInt = 1 from rfl, show (2 : Int32).toInt = 2 from rfl, show (3 : Int32).toInt = 3 from rfl] at *; omega
theorem own_0or (x : Int64) : (0 : Int64) ||| x = x := by rw [← Int64.toBitVec_inj, Int64.toBitVec_or]; simp
theorem own_or0 (x : Int64) : x ||| (0 : Int64) = x := by rw [← Int64.toBitVec_inj, Int64.toBitVec_or]; simp
theorem own_sp (B B' c : Int32) (x : Int64) : own_bit B B' c x = x ||| own_bit B B' c 0 := by
  unfold own_bit; repeat' split
  all_goals simp only [own_or0, own_0or]
theorem own_e100F : ∀ m : Fin 128, own_bit (0 : Int32) (64 : Int32) (Int32.ofNat m.val) 0 = own_b (Int32.ofNat m.val) (0 : Int32) (1 : Int32) (0 : Int32) := by decide +kernel
theorem own_e100 {c : Int32} (g : own_R c) : own_bit (0 : Int32) (64 : Int32) c 0 = own_b c (0 : Int32) (1 : Int32) (0 : Int32) := by
  have q := own_e100F ⟨c.toInt.toNat, by unfold own_R at g; omega⟩
  rw [← own_of g] at q; exact q
theorem own_e101F : ∀ m : Fin 128, own_bit (64 : Int32) (128 : Int32) (Int32.ofNat m.val) 0 = own_b (Int32.ofNat m.val) (0 : Int32) (1 : Int32) (1 : Int32) := by decide +kernel
theorem own_e101 {c : Int32} (g : own_R c) : own_bit (64 : Int32) (128 : Int32) c 0 = own_b c (0 : Int32) (1 : Int32) (1 : Int32) := by
  have q := own_e101F ⟨c.toInt.toNat, by unfold own_R at g; omega⟩
  rw [← own_of g] at q; exact q
theorem own_e200F : ∀ m : Fin 128, own_bit (0 : Int32) (64 : Int32) (Int32.ofNat m.val) 0 = own_b (Int32.ofNat m.val) (0 : Int32) (2 : Int32) (0 : Int32) := by decide +kernel
theorem own_e200 {c : Int32} (g : own_R c) : own_bit (0 : Int32) (64 : Int32) c 0 = own_b c (0 : Int32) (2 : Int32) (0 : Int32) := by
  have q := own_e200F ⟨c.toInt.toNat, by unfold own_R at g; omega⟩
  rw [← own_of g] at q; exact q
theorem own_e201F : ∀ m : Fin 128, own_bit (64 : Int32) (128 : Int32) (Int32.ofNat m.val) 0 = own_b (Int32.ofNat m.val) (0 : Int32) (2 : Int32) (1 : Int32) := by decide +kernel
theorem own_e201 {c : Int32} (g : own_R c) : own_bit (64 : Int32) (128 : Int32) c 0 = own_b c (0 : Int32) (2 : Int32) (1 : Int32) := by
  have q := own_e201F ⟨c.toInt.toNat, by unfold own_R at g; omega⟩
  rw [← own_of g] at q; exact q
theorem own_e210F : ∀ m : Fin 128, own_bit (0 : Int32) (64 : Int32) (Int32.ofNat m.val) 0 = own_b (Int32.ofNat m.val) (1 : Int32) (2 : Int32) (0 : Int32) := by decide +kernel
theorem own_e210 {c : Int32} (g : own_R c) : own_bit (0 : Int32) (64 : Int32) c 0 = own_b c (1 : Int32) (2 : Int32) (0 : Int32) := by
  have q := own_e210F ⟨c.toInt.toNat, by unfold own_R at g; omega⟩
  rw [← own_of g] at q; exact q
theorem own_e211F : ∀ m : Fin 128, own_bit (64 : Int32) (128 : Int32) (Int32.ofNat m.val) 0 = own_b (Int32.ofNat m.val) (1 : Int32) (2 : Int32) (1 : Int32) := by decide +kernel
theorem own_e211 {c : Int32} (g : own_R c) : own_bit (64 : Int32) (128 : Int32) c 0 = own_b c (1 : Int32) (2 : Int32) (1 : Int32) := by
  have q := own_e211F ⟨c.toInt.toNat, by unfold own_R at g; omega⟩
  rw [← own_of g] at q; exact q
theorem own_e300F : ∀ m : Fin 128, own_bit (0 : Int32) (64 : Int32) (Int32.ofNat m.val) 0 = own_b (Int32.ofNat m.val) (0 : Int32) (3 : Int32) (0 : Int32) := by decide +kernel
theorem own_e300 {c : Int32} (g : own_R c) : own_bit (0 : Int32) (64 : Int32) c 0 = own_b c (0 : Int32) (3 : Int32) (0 : Int32) := by
  have q := own_e300F ⟨c.toInt.toNat, by unfold own_R at g; omega⟩
  rw [← own_of g] at q; exact q
theorem own_e301F : ∀ m : Fin 128, own_bit (64 : Int32) (128 : Int32) (Int32.ofNat m.val) 0 = own_b (Int32.ofNat m.val) (0 : Int32) (3 : Int32) (1 : Int32) := by decide +kernel
theorem own_e301 {c : Int32} (g : own_R c) : own_bit (64 : Int32) (128 : Int32) c 0 = own_b c (0 : Int32) (3 : Int32) (1 : Int32) := by
  have q := own_e301F ⟨c.toInt.toNat, by unfold own_R at g; omega⟩
  rw [← own_of g] at q; exact q
theorem own_e310F : ∀ m : Fin 128, own_bit (0 : Int32) (64 : Int32) (Int32.ofNat m.val) 0 = own_b (Int32.ofNat m.val) (1 : Int32) (3 : Int32) (0 : Int32) := by decide +kernel
theorem own_e310 {c : Int32} (g : own_R c) : own_bit (0 : Int32) (64 : Int32) c 0 = own_b c (1 : Int32) (3 : Int32) (0 : Int32) := by
  have q := own_e310F ⟨c.toInt.toNat, by unfold own_R at g; omega⟩
  rw [← own_of g] at q; exact q
theorem own_e311F : ∀ m : Fin 128, own_bit (64 : Int32) (128 : Int32) (Int32.ofNat m.val) 0 = own_b (Int32.ofNat m.val) (1 : Int32) (3 : Int32) (1 : Int32) := by decide +kernel
theorem own_e311 {c : Int32} (g : own_R c) : own_bit (64 : Int32) (128 : Int32) c 0 = own_b c (1 : Int32) (3 : Int32) (1 : Int32) := by
  have q := own_e311F ⟨c.toInt.toNat, by unfold own_R at g; omega⟩
  rw [← own_of g] at q; exact q
theorem own_e320F : ∀ m : Fin 128, own_bit (0 : Int32) (64 : Int32) (Int32.ofNat m.val) 0 = own_b (Int32.ofNat m.val) (2 : Int32) (3 : Int32) (0 : Int32) := by decide +kernel
theorem own_e320 {c : Int32} (g : own_R c) : own_bit (0 : Int32) (64 : Int32) c 0 = own_b c (2 : Int32) (3 : Int32) (0 : Int32) := by
  have q := own_e320F ⟨c.toInt.toNat, by unfold own_R at g; omega⟩
  rw [← own_of g] at q; exact q
theorem own_e321F : ∀ m : Fin 128, own_bit (64 : Int32) (128 : Int32) (Int32.ofNat m.val) 0 = own_b (Int32.ofNat m.val) (2 : Int32) (3 : Int32) (1 : Int32) := by decide +kernel
theorem own_e321 {c : Int32} (g : own_R c) : own_bit (64 : Int32) (128 : Int32) c 0 = own_b c (2 : Int32) (3 : Int32) (1 : Int32) := by
  have q := own_e321F ⟨c.toInt.toNat, by unfold own_R at g; omega⟩
  rw [← own_of g] at q; exact q
theorem own_f00 {nn d0 d1 d2 : Int32} (hn : nn = (0 : Int32))  : own_chr (0 : Int32) (0 : Int64) (0 : Int64) = ((own_b d0 (0 : Int32) nn (0 : Int32) ||| own_b d1 (1 : Int32) nn (0 : Int32)) ||| own_b d2 (2 : Int32) nn (0 : Int32)) := by
  subst hn
  have hc : own_chr (0 : Int32) (0 : Int64) (0 : Int64) = (0 : Int64) := by unfold own_chr; rw [if_pos rfl]
  rw [hc]
  have z0 : ∀ c : Int32, own_b c (0 : Int32) (0 : Int32) (0 : Int32) = 0 := fun c => by unfold own_b; first | rw [if_neg (by decide)] | rw [if_pos (by decide)]
  have z1 : ∀ c : Int32, own_b c (1 : Int32) (0 : Int32) (0 : Int32) = 0 := fun c => by unfold own_b; first | rw [if_neg (by decide)] | rw [if_pos (by decide)]
  have z2 : ∀ c : Int32, own_b c (2 : Int32) (0 : Int32) (0 : Int32) = 0 := fun c => by unfold own_b; first | rw [if_neg (by decide)] | rw [if_pos (by decide)]
  simp only [z0, z1, z2, own_or0]
theorem own_f01 {nn d0 d1 d2 : Int32} (hn : nn = (0 : Int32))  : own_chr (1 : Int32) (0 : Int64) (0 : Int64) = ((own_b d0 (0 : Int32) nn (1 : Int32) ||| own_b d1 (1 : Int32) nn (1 : Int32)) ||| own_b d2 (2 : Int32) nn (1 : Int32)) := by
  subst hn
  have hc : own_chr (1 : Int32) (0 : Int64) (0 : Int64) = (0 : Int64) := by unfold own_chr; rw [if_neg (by decide)]
  rw [hc]
  have z0 : ∀ c : Int32, own_b c (0 : Int32) (0 : Int32) (1 : Int32) = 0 := fun c => by unfold own_b; first | rw [if_neg (by decide)] | rw [if_pos (by decide)]
  have z1 : ∀ c : Int32, own_b c (1 : Int32) (0 : Int32) (1 : Int32) = 0 := fun c => by unfold own_b; first | rw [if_neg (by decide)] | rw [if_pos (by decide)]
  have z2 : ∀ c : Int32, own_b c (2 : Int32) (0 : Int32) (1 : Int32) = 0 := fun c => by unfold own_b; first | rw [if_neg (by decide)] | rw [if_pos (by decide)]
  simp only [z0, z1, z2, own_or0]
theorem own_f10 {nn d0 d1 d2 : Int32} (hn : nn = (1 : Int32)) (g0 : own_R d0) : own_chr (0 : Int32) (own_bit (0 : Int32) (64 : Int32) ((((nar .char d0).toInt8.toInt32).toInt8.toInt32) &&& (255 : Int32)) (0 : Int64)) (own_bit (64 : Int32) (128 : Int32) ((((nar .char d0).toInt8.toInt32).toInt8.toInt32) &&& (255 : Int32)) (0 : Int64)) = ((own_b d0 (0 : Int32) nn (0 : Int32) ||| own_b d1 (1 : Int32) nn (0 : Int32)) ||| own_b d2 (2 : Int32) nn (0 : Int32)) := by
  subst hn
  have hc : own_chr (0 : Int32) (own_bit (0 : Int32) (64 : Int32) ((((nar .char d0).toInt8.toInt32).toInt8.toInt32) &&& (255 : Int32)) (0 : Int64)) (own_bit (64 : Int32) (128 : Int32) ((((nar .char d0).toInt8.toInt32).toInt8.toInt32) &&& (255 : Int32)) (0 : Int64)) = (own_bit (0 : Int32) (64 : Int32) ((((nar .char d0).toInt8.toInt32).toInt8.toInt32) &&& (255 : Int32)) (0 : Int64)) := by unfold own_chr; rw [if_pos rfl]
  rw [hc]
  rw [own_byte g0]
  have z1 : ∀ c : Int32, own_b c (1 : Int32) (1 : Int32) (0 : Int32) = 0 := fun c => by unfold own_b; first | rw [if_neg (by decide)] | rw [if_pos (by decide)]
  have z2 : ∀ c : Int32, own_b c (2 : Int32) (1 : Int32) (0 : Int32) = 0 := fun c => by unfold own_b; first | rw [if_neg (by decide)] | rw [if_pos (by decide)]
  simp only [z1, z2, own_or0, own_0or]
  rw [own_e100 g0]
theorem own_f11 {nn d0 d1 d2 : Int32} (hn : nn = (1 : Int32)) (g0 : own_R d0) : own_chr (1 : Int32) (own_bit (0 : Int32) (64 : Int32) ((((nar .char d0).toInt8.toInt32).toInt8.toInt32) &&& (255 : Int32)) (0 : Int64)) (own_bit (64 : Int32) (128 : Int32) ((((nar .char d0).toInt8.toInt32).toInt8.toInt32) &&& (255 : Int32)) (0 : Int64)) = ((own_b d0 (0 : Int32) nn (1 : Int32) ||| own_b d1 (1 : Int32) nn (1 : Int32)) ||| own_b d2 (2 : Int32) nn (1 : Int32)) := by
  subst hn
  have hc : own_chr (1 : Int32) (own_bit (0 : Int32) (64 : Int32) ((((nar .char d0).toInt8.toInt32).toInt8.toInt32) &&& (255 : Int32)) (0 : Int64)) (own_bit (64 : Int32) (128 : Int32) ((((nar .char d0).toInt8.toInt32).toInt8.toInt32) &&& (255 : Int32)) (0 : Int64)) = (own_bit (64 : Int32) (128 : Int32) ((((nar .char d0).toInt8.toInt32).toInt8.toInt32) &&& (255 : Int32)) (0 : Int64)) := by unfold own_chr; rw [if_neg (by decide)]
  rw [hc]
  rw [own_byte g0]
  have z1 : ∀ c : Int32, own_b c (1 : Int32) (1 : Int32) (1 : Int32) = 0 := fun c => by unfold own_b; first | rw [if_neg (by decide)] | rw [if_pos (by decide)]
  have z2 : ∀ c : Int32, own_b c (2 : Int32) (1 : Int32) (1 : Int32) = 0 := fun c => by unfold own_b; first | rw [if_neg (by decide)] | rw [if_pos (by decide)]
  simp only [z1, z2, own_or0, own_0or]
  rw [own_e101 g0]
theorem own_f20 {nn d0 d1 d2 : Int32} (hn : nn = (2 : Int32)) (g0 : own_R d0) (g1 : own_R d1) : own_chr (0 : Int32) (own_bit (0 : Int32) (64 : Int32) ((((nar .char d1).toInt8.toInt32).toInt8.toInt32) &&& (255 : Int32)) (own_bit (0 : Int32) (64 : Int32) ((((nar .char d0).toInt8.toInt32).toInt8.toInt32) &&& (255 : Int32)) (0 : Int64))) (own_bit (64 : Int32) (128 : Int32) ((((nar .char d1).toInt8.toInt32).toInt8.toInt32) &&& (255 : Int32)) (own_bit (64 : Int32) (128 : Int32) ((((nar .char d0).toInt8.toInt32).toInt8.toInt32) &&& (255 : Int32)) (0 : Int64))) = ((own_b d0 (0 : Int32) nn (0 : Int32) ||| own_b d1 (1 : Int32) nn (0 : Int32)) ||| own_b d2 (2 : Int32) nn (0 : Int32)) := by
  subst hn
  have hc : own_chr (0 : Int32) (own_bit (0 : Int32) (64 : Int32) ((((nar .char d1).toInt8.toInt32).toInt8.toInt32) &&& (255 : Int32)) (own_bit (0 : Int32) (64 : Int32) ((((nar .char d0).toInt8.toInt32).toInt8.toInt32) &&& (255 : Int32)) (0 : Int64))) (own_bit (64 : Int32) (128 : Int32) ((((nar .char d1).toInt8.toInt32).toInt8.toInt32) &&& (255 : Int32)) (own_bit (64 : Int32) (128 : Int32) ((((nar .char d0).toInt8.toInt32).toInt8.toInt32) &&& (255 : Int32)) (0 : Int64))) = (own_bit (0 : Int32) (64 : Int32) ((((nar .char d1).toInt8.toInt32).toInt8.toInt32) &&& (255 : Int32)) (own_bit (0 : Int32) (64 : Int32) ((((nar .char d0).toInt8.toInt32).toInt8.toInt32) &&& (255 : Int32)) (0 : Int64))) := by unfold own_chr; rw [if_pos rfl]
  rw [hc]
  rw [own_byte g0]
  rw [own_byte g1]
  have z2 : ∀ c : Int32, own_b c (2 : Int32) (2 : Int32) (0 : Int32) = 0 := fun c => by unfold own_b; first | rw [if_neg (by decide)] | rw [if_pos (by decide)]
  simp only [z2, own_or0, own_0or]
  rw [own_sp _ _ d1]
  rw [own_e200 g0, own_e210 g1]
theorem own_f21 {nn d0 d1 d2 : Int32} (hn : nn = (2 : Int32)) (g0 : own_R d0) (g1 : own_R d1) : own_chr (1 : Int32) (own_bit (0 : Int32) (64 : Int32) ((((nar .char d1).toInt8.toInt32).toInt8.toInt32) &&& (255 : Int32)) (own_bit (0 : Int32) (64 : Int32) ((((nar .char d0).toInt8.toInt32).toInt8.toInt32) &&& (255 : Int32)) (0 : Int64))) (own_bit (64 : Int32) (128 : Int32) ((((nar .char d1).toInt8.toInt32).toInt8.toInt32) &&& (255 : Int32)) (own_bit (64 : Int32) (128 : Int32) ((((nar .char d0).toInt8.toInt32).toInt8.toInt32) &&& (255 : Int32)) (0 : Int64))) = ((own_b d0 (0 : Int32) nn (1 : Int32) ||| own_b d1 (1 : Int32) nn (1 : Int32)) ||| own_b d2 (2 : Int32) nn (1 : Int32)) := by
  subst hn
  have hc : own_chr (1 : Int32) (own_bit (0 : Int32) (64 : Int32) ((((nar .char d1).toInt8.toInt32).toInt8.toInt32) &&& (255 : Int32)) (own_bit (0 : Int32) (64 : Int32) ((((nar .char d0).toInt8.toInt32).toInt8.toInt32) &&& (255 : Int32)) (0 : Int64))) (own_bit (64 : Int32) (128 : Int32) ((((nar .char d1).toInt8.toInt32).toInt8.toInt32) &&& (255 : Int32)) (own_bit (64 : Int32) (128 : Int32) ((((nar .char d0).toInt8.toInt32).toInt8.toInt32) &&& (255 : Int32)) (0 : Int64))) = (own_bit (64 : Int32) (128 : Int32) ((((nar .char d1).toInt8.toInt32).toInt8.toInt32) &&& (255 : Int32)) (own_bit (64 : Int32) (128 : Int32) ((((nar .char d0).toInt8.toInt32).toInt8.toInt32) &&& (255 : Int32)) (0 : Int64))) := by unfold own_chr; rw [if_neg (by decide)]
  rw [hc]
  rw [own_byte g0]
  rw [own_byte g1]
  have z2 : ∀ c : Int32, own_b c (2 : Int32) (2 : Int32) (1 : Int32) = 0 := fun c => by unfold own_b; first | rw [if_neg (by decide)] | rw [if_pos (by decide)]
  simp only [z2, own_or0, own_0or]
  rw [own_sp _ _ d1]
  rw [own_e201 g0, own_e211 g1]
theorem own_f30 {nn d0 d1 d2 : Int32} (hn : nn = (3 : Int32)) (g0 : own_R d0) (g1 : own_R d1) (g2 : own_R d2) : own_chr (0 : Int32) (own_bit (0 : Int32) (64 : Int32) ((((nar .char d2).toInt8.toInt32).toInt8.toInt32) &&& (255 : Int32)) (own_bit (0 : Int32) (64 : Int32) ((((nar .char d1).toInt8.toInt32).toInt8.toInt32) &&& (255 : Int32)) (own_bit (0 : Int32) (64 : Int32) ((((nar .char d0).toInt8.toInt32).toInt8.toInt32) &&& (255 : Int32)) (0 : Int64)))) (own_bit (64 : Int32) (128 : Int32) ((((nar .char d2).toInt8.toInt32).toInt8.toInt32) &&& (255 : Int32)) (own_bit (64 : Int32) (128 : Int32) ((((nar .char d1).toInt8.toInt32).toInt8.toInt32) &&& (255 : Int32)) (own_bit (64 : Int32) (128 : Int32) ((((nar .char d0).toInt8.toInt32).toInt8.toInt32) &&& (255 : Int32)) (0 : Int64)))) = ((own_b d0 (0 : Int32) nn (0 : Int32) ||| own_b d1 (1 : Int32) nn (0 : Int32)) ||| own_b d2 (2 : Int32) nn (0 : Int32)) := by
  subst hn
  have hc : own_chr (0 : Int32) (own_bit (0 : Int32) (64 : Int32) ((((nar .char d2).toInt8.toInt32).toInt8.toInt32) &&& (255 : Int32)) (own_bit (0 : Int32) (64 : Int32) ((((nar .char d1).toInt8.toInt32).toInt8.toInt32) &&& (255 : Int32)) (own_bit (0 : Int32) (64 : Int32) ((((nar .char d0).toInt8.toInt32).toInt8.toInt32) &&& (255 : Int32)) (0 : Int64)))) (own_bit (64 : Int32) (128 : Int32) ((((nar .char d2).toInt8.toInt32).toInt8.toInt32) &&& (255 : Int32)) (own_bit (64 : Int32) (128 : Int32) ((((nar .char d1).toInt8.toInt32).toInt8.toInt32) &&& (255 : Int32)) (own_bit (64 : Int32) (128 : Int32) ((((nar .char d0).toInt8.toInt32).toInt8.toInt32) &&& (255 : Int32)) (0 : Int64)))) = (own_bit (0 : Int32) (64 : Int32) ((((nar .char d2).toInt8.toInt32).toInt8.toInt32) &&& (255 : Int32)) (own_bit (0 : Int32) (64 : Int32) ((((nar .char d1).toInt8.toInt32).toInt8.toInt32) &&& (255 : Int32)) (own_bit (0 : Int32) (64 : Int32) ((((nar .char d0).toInt8.toInt32).toInt8.toInt32) &&& (255 : Int32)) (0 : Int64)))) := by unfold own_chr; rw [if_pos rfl]
  rw [hc]
  rw [own_byte g0]
  rw [own_byte g1]
  rw [own_byte g2]
  rw [own_sp _ _ d2]
  rw [own_sp _ _ d1]
  rw [own_e300 g0, own_e310 g1, own_e320 g2]
theorem own_f31 {nn d0 d1 d2 : Int32} (hn : nn = (3 : Int32)) (g0 : own_R d0) (g1 : own_R d1) (g2 : own_R d2) : own_chr (1 : Int32) (own_bit (0 : Int32) (64 : Int32) ((((nar .char d2).toInt8.toInt32).toInt8.toInt32) &&& (255 : Int32)) (own_bit (0 : Int32) (64 : Int32) ((((nar .char d1).toInt8.toInt32).toInt8.toInt32) &&& (255 : Int32)) (own_bit (0 : Int32) (64 : Int32) ((((nar .char d0).toInt8.toInt32).toInt8.toInt32) &&& (255 : Int32)) (0 : Int64)))) (own_bit (64 : Int32) (128 : Int32) ((((nar .char d2).toInt8.toInt32).toInt8.toInt32) &&& (255 : Int32)) (own_bit (64 : Int32) (128 : Int32) ((((nar .char d1).toInt8.toInt32).toInt8.toInt32) &&& (255 : Int32)) (own_bit (64 : Int32) (128 : Int32) ((((nar .char d0).toInt8.toInt32).toInt8.toInt32) &&& (255 : Int32)) (0 : Int64)))) = ((own_b d0 (0 : Int32) nn (1 : Int32) ||| own_b d1 (1 : Int32) nn (1 : Int32)) ||| own_b d2 (2 : Int32) nn (1 : Int32)) := by
  subst hn
  have hc : own_chr (1 : Int32) (own_bit (0 : Int32) (64 : Int32) ((((nar .char d2).toInt8.toInt32).toInt8.toInt32) &&& (255 : Int32)) (own_bit (0 : Int32) (64 : Int32) ((((nar .char d1).toInt8.toInt32).toInt8.toInt32) &&& (255 : Int32)) (own_bit (0 : Int32) (64 : Int32) ((((nar .char d0).toInt8.toInt32).toInt8.toInt32) &&& (255 : Int32)) (0 : Int64)))) (own_bit (64 : Int32) (128 : Int32) ((((nar .char d2).toInt8.toInt32).toInt8.toInt32) &&& (255 : Int32)) (own_bit (64 : Int32) (128 : Int32) ((((nar .char d1).toInt8.toInt32).toInt8.toInt32) &&& (255 : Int32)) (own_bit (64 : Int32) (128 : Int32) ((((nar .char d0).toInt8.toInt32).toInt8.toInt32) &&& (255 : Int32)) (0 : Int64)))) = (own_bit (64 : Int32) (128 : Int32) ((((nar .char d2).toInt8.toInt32).toInt8.toInt32) &&& (255 : Int32)) (own_bit (64 : Int32) (128 : Int32) ((((nar .char d1).toInt8.toInt32).toInt8.toInt32) &&& (255 : Int32)) (own_bit (64 : Int32) (128 : Int32) ((((nar .char d0).toInt8.toInt32).toInt8.toInt32) &&& (255 : Int32)) (0 : Int64)))) := by unfold own_chr; rw [if_neg (by decide)]
  rw [hc]
  rw [own_byte g0]
  rw [own_byte g1]
  rw [own_byte g2]
  rw [own_sp _ _ d2]
  rw [own_sp _ _ d1]
  rw [own_e301 g0, own_e311 g1, own_e321 g2]

theorem pd16 : parseMethodDescriptor "(II)I" = some ⟨[.int, .int], some .int⟩ := by decide +kernel
theorem pd17 : parseMethodDescriptor "(C)Ljava/lang/String;" = some ⟨[.char], some (.object "java/lang/String")⟩ := by decide +kernel
theorem pd18 : parseMethodDescriptor "([C)V" = some ⟨[(.array .char)], none⟩ := by decide +kernel
theorem pd19 : parseMethodDescriptor "(Ljava/lang/String;Ljava/lang/String;II)V" = some ⟨[(.object "java/lang/String"), (.object "java/lang/String"), .int, .int], none⟩ := by decide +kernel
theorem pd20 : parseMethodDescriptor "(IIII)J" = some ⟨[.int, .int, .int, .int], some .long⟩ := by decide +kernel
theorem pd21 : parseMethodDescriptor "(I)J" = some ⟨[.int], some .long⟩ := by decide +kernel
theorem ef_0 (m : MethodId) (x0 : Int32) (x1 : Int32) (x2 : Int32) (x3 : Int32) : entryFrame m #[(.int x0), (.int x1), (.int x2), (.int x3)] maxLocals = mkF m 0 #[.val (.int x0), .val (.int x1), .val (.int x2), .val (.int x3), .unset, .unset, .unset, .unset, .unset, .unset, .unset, .unset, .unset, .unset, .unset, .unset, .unset] [] := by first | (simp [entryFrame, mkF, argsToLocals, Value.category, maxLocals]; done) | rfl
def Q0 (Z : State) (pk : Int32) (qq : Int32) (aa : Int32) (bb : Int32) (fm : Value) (cs : Int32) (h0 : Heap) (n0 : Nat) (v_ : Option Value) (h : Heap) (L_ : List Loc) : Prop := v_ = some (.int 1) ∧ Fr n0 L_
set_option maxRecDepth 65536 in
set_option maxHeartbeats 40000000 in
theorem rm0 (l : Launch) (Z : State) (a0 : Array Value) (hw : ∀ d ∈ tables_1, d.before a0 Z = true) (ws : List Jvm.Cond) (pk : Int32) (qq : Int32) (aa : Int32) (bb : Int32) (fm : Value) (cs : Int32) (h0 : Heap) (n0 : Nat) (Z0 : n0 ≤ h0.size) (O : Old Z n0 h0) (Scs : Sta Z Z.heap "java/lang/String" "COMPACT_STRINGS" "Z" (.int cs)) (hcs : ¬ (cs = (0 : Int32))) (Sfm : Sta Z Z.heap "jdk/internal/util/Preconditions" "SIOOBE_FORMATTER" "Ljava/util/function/BiFunction;" fm) (hfm : fm.category = 1) (hheld : Jvm.Lit.constHeld Z "java/lang/String" 7) (hcw : Jvm.Lit.compactW.before a0 Z = true) :
    MetFree l x (head1 (Jvm.Cond.code x code maxLocals ret :: ws) room_1) (fun a_ U_ => a_ = #[(.int pk), (.int qq), (.int aa), (.int bb)] ∧ Z.Warmed39 U_.vm ∧ U_.heap = h0 ∧ IB Z U_.vm []) (fun _ _ _ _ _ => True) (fun _ U_ o_ V_ => ∃ v_ L_, o_ = .returned v_ ∧ Q0 Z pk qq aa bb fm cs h0 n0 v_ V_.heap L_ ∧ ReturnedEndW U_ o_ V_ L_ room_1.cells room_1.slots) := by
  refine MetFree.of_bodySF (plainFor_of_name pn5) hisR ?_
  intro p e s m args below meth c s₁ Bd hml0 hP hK
  obtain ⟨rfl, hZ, hh, hIB⟩ := hP
  have hx := Bd.exec
  have hby := Bd.bytes
  have hml : c.maxLocals = 17 := hml0
  have hown : s.vm.findClass "com/example/gatehouse/gatehouse/pattern/NameShapeCharactersPinLaw" = some m.cls := findClass_of_methodNamed Bd.named
  have hnm := (name_of_methodNamed Bd.named Bd.method).1
  have X0 : Stand p l e room_1 s m #[(.int pk), (.int qq), (.int aa), (.int bb)] below meth c s₁ [] 0 0 := Stand.of_body Bd
  have e0 : s₁.heap = h0 := by rw [← hh, Bd.state]; rfl
  have N0 := Fr.nil n0
  have pre0 : own_Go p e below (s₁.setTop (entryFrame m #[(.int pk), (.int qq), (.int aa), (.int bb)] maxLocals)) (s₁.setTop (mkF m 0 #[.val (.int pk), .val (.int qq), .val (.int aa), .val (.int bb), .unset, .unset, .unset, .unset, .unset, .unset, .unset, .unset, .unset, .unset, .unset, .unset, .unset] [])) := fun t_ k_ => castTop (ef_0 m pk qq aa bb) k_
  have P1 := own_step (C := s₁.setTop (mkF m 35 #[.val (.int pk), .val (.int qq), .val (.int aa), .val (.int bb), .val (.int ((pk &&& (127 : Int32)).toUInt32.toUInt16.toUInt32.toInt32)), .val (.int ((((pk.toUInt32 >>> ((7 : Int32) &&& 31).toUInt32).toInt32) &&& (127 : Int32)).toUInt32.toUInt16.toUInt32.toInt32)), .val (.int ((((pk.toUInt32 >>> ((14 : Int32) &&& 31).toUInt32).toInt32) &&& (127 : Int32)).toUInt32.toUInt16.toUInt32.toInt32)), .val (.int (((pk.toUInt32 >>> ((21 : Int32) &&& 31).toUInt32).toInt32) &&& (3 : Int32))), .unset, .unset, .unset, .unset, .unset, .unset, .unset, .unset, .unset] [])) pre0 (by
    intro tt_ kk_
    refine XS.iloadN X0.here hx rfl (hb hby at_0) rfl ?_
    refine XS.bipush X0.here hx rfl (hb hby at_1) ?_
    refine XS.iand X0.here hx rfl (hb hby at_3) rfl ?_
    refine XS.i2c X0.here hx rfl (hb hby at_4) rfl ?_
    refine XS.istore X0.here hx rfl (hb hby at_5) rfl (l' := #[.val (.int pk), .val (.int qq), .val (.int aa), .val (.int bb), .val (.int ((pk &&& (127 : Int32)).toUInt32.toUInt16.toUInt32.toInt32)), .unset, .unset, .unset, .unset, .unset, .unset, .unset, .unset, .unset, .unset, .unset, .unset]) rfl ?_
    refine XS.iloadN X0.here hx rfl (hb hby at_7) rfl ?_
    show Steps p.tables e below (s₁.setTop (mkF m 8 #[.val (.int pk), .val (.int qq), .val (.int aa), .val (.int bb), .val (.int ((pk &&& (127 : Int32)).toUInt32.toUInt16.toUInt32.toInt32)), .unset, .unset, .unset, .unset, .unset, .unset, .unset, .unset, .unset, .unset, .unset, .unset] [(.int pk)])) _
    refine XS.bipush X0.here hx rfl (hb hby at_8) ?_
    refine XS.iushr X0.here hx rfl (hb hby at_10) rfl ?_
    refine XS.bipush X0.here hx rfl (hb hby at_11) ?_
    refine XS.iand X0.here hx rfl (hb hby at_13) rfl ?_
    refine XS.i2c X0.here hx rfl (hb hby at_14) rfl ?_
    refine XS.istore X0.here hx rfl (hb hby at_15) rfl (l' := #[.val (.int pk), .val (.int qq), .val (.int aa), .val (.int bb), .val (.int ((pk &&& (127 : Int32)).toUInt32.toUInt16.toUInt32.toInt32)), .val (.int ((((pk.toUInt32 >>> ((7 : Int32) &&& 31).toUInt32).toInt32) &&& (127 : Int32)).toUInt32.toUInt16.toUInt32.toInt32)), .unset, .unset, .unset, .unset, .unset, .unset, .unset, .unset, .unset, .unset, .unset]) rfl ?_
    show Steps p.tables e below (s₁.setTop (mkF m 17 #[.val (.int pk), .val (.int qq), .val (.int aa), .val (.int bb), .val (.int ((pk &&& (127 : Int32)).toUInt32.toUInt16.toUInt32.toInt32)), .val (.int ((((pk.toUInt32 >>> ((7 : Int32) &&& 31).toUInt32).toInt32) &&& (127 : Int32)).toUInt32.toUInt16.toUInt32.toInt32)), .unset, .unset, .unset, .unset, .unset, .unset, .unset, .unset, .unset, .unset, .unset] [])) _
    refine XS.iloadN X0.here hx rfl (hb hby at_17) rfl ?_
    refine XS.bipush X0.here hx rfl (hb hby at_18) ?_
    refine XS.iushr X0.here hx rfl (hb hby at_20) rfl ?_
    refine XS.bipush X0.here hx rfl (hb hby at_21) ?_
    refine XS.iand X0.here hx rfl (hb hby at_23) rfl ?_
    refine XS.i2c X0.here hx rfl (hb hby at_24) rfl ?_
    show Steps p.tables e below (s₁.setTop (mkF m 25 #[.val (.int pk), .val (.int qq), .val (.int aa), .val (.int bb), .val (.int ((pk &&& (127 : Int32)).toUInt32.toUInt16.toUInt32.toInt32)), .val (.int ((((pk.toUInt32 >>> ((7 : Int32) &&& 31).toUInt32).toInt32) &&& (127 : Int32)).toUInt32.toUInt16.toUInt32.toInt32)), .unset, .unset, .unset, .unset, .unset, .unset, .unset, .unset, .unset, .unset, .unset] [(.int ((((pk.toUInt32 >>> ((14 : Int32) &&& 31).toUInt32).toInt32) &&& (127 : Int32)).toUInt32.toUInt16.toUInt32.toInt32))])) _
    refine XS.istore X0.here hx rfl (hb hby at_25) rfl (l' := #[.val (.int pk), .val (.int qq), .val (.int aa), .val (.int bb), .val (.int ((pk &&& (127 : Int32)).toUInt32.toUInt16.toUInt32.toInt32)), .val (.int ((((pk.toUInt32 >>> ((7 : Int32) &&& 31).toUInt32).toInt32) &&& (127 : Int32)).toUInt32.toUInt16.toUInt32.toInt32)), .val (.int ((((pk.toUInt32 >>> ((14 : Int32) &&& 31).toUInt32).toInt32) &&& (127 : Int32)).toUInt32.toUInt16.toUInt32.toInt32)), .unset, .unset, .unset, .unset, .unset, .unset, .unset, .unset, .unset, .unset]) rfl ?_
    refine XS.iloadN X0.here hx rfl (hb hby at_27) rfl ?_
    refine XS.bipush X0.here hx rfl (hb hby at_28) ?_
    refine XS.iushr X0.here hx rfl (hb hby at_30) rfl ?_
    refine XS.iconst X0.here hx rfl (hb hby at_31) ?_
    refine XS.iand X0.here hx rfl (hb hby at_32) rfl ?_
    show Steps p.tables e below (s₁.setTop (mkF m 33 #[.val (.int pk), .val (.int qq), .val (.int aa), .val (.int bb), .val (.int ((pk &&& (127 : Int32)).toUInt32.toUInt16.toUInt32.toInt32)), .val (.int ((((pk.toUInt32 >>> ((7 : Int32) &&& 31).toUInt32).toInt32) &&& (127 : Int32)).toUInt32.toUInt16.toUInt32.toInt32)), .val (.int ((((pk.toUInt32 >>> ((14 : Int32) &&& 31).toUInt32).toInt32) &&& (127 : Int32)).toUInt32.toUInt16.toUInt32.toInt32)), .unset, .unset, .unset, .unset, .unset, .unset, .unset, .unset, .unset, .unset] [(.int (((pk.toUInt32 >>> ((21 : Int32) &&& 31).toUInt32).toInt32) &&& (3 : Int32)))])) _
    refine XS.istore X0.here hx rfl (hb hby at_33) rfl (l' := #[.val (.int pk), .val (.int qq), .val (.int aa), .val (.int bb), .val (.int ((pk &&& (127 : Int32)).toUInt32.toUInt16.toUInt32.toInt32)), .val (.int ((((pk.toUInt32 >>> ((7 : Int32) &&& 31).toUInt32).toInt32) &&& (127 : Int32)).toUInt32.toUInt16.toUInt32.toInt32)), .val (.int ((((pk.toUInt32 >>> ((14 : Int32) &&& 31).toUInt32).toInt32) &&& (127 : Int32)).toUInt32.toUInt16.toUInt32.toInt32)), .val (.int (((pk.toUInt32 >>> ((21 : Int32) &&& 31).toUInt32).toInt32) &&& (3 : Int32))), .unset, .unset, .unset, .unset, .unset, .unset, .unset, .unset, .unset]) rfl ?_
    exact kk_)
  obtain ⟨d0, hd0, P2⟩ := own_name (F := fun z => s₁.setTop (mkF m 35 #[.val (.int pk), .val (.int qq), .val (.int aa), .val (.int bb), .val (.int z), .val (.int ((((pk.toUInt32 >>> ((7 : Int32) &&& 31).toUInt32).toInt32) &&& (127 : Int32)).toUInt32.toUInt16.toUInt32.toInt32)), .val (.int ((((pk.toUInt32 >>> ((14 : Int32) &&& 31).toUInt32).toInt32) &&& (127 : Int32)).toUInt32.toUInt16.toUInt32.toInt32)), .val (.int (((pk.toUInt32 >>> ((21 : Int32) &&& 31).toUInt32).toInt32) &&& (3 : Int32))), .unset, .unset, .unset, .unset, .unset, .unset, .unset, .unset, .unset] [])) ((pk &&& (127 : Int32)).toUInt32.toUInt16.toUInt32.toInt32) P1
  obtain ⟨d1, hd1, P3⟩ := own_name (F := fun z => s₁.setTop (mkF m 35 #[.val (.int pk), .val (.int qq), .val (.int aa), .val (.int bb), .val (.int d0), .val (.int z), .val (.int ((((pk.toUInt32 >>> ((14 : Int32) &&& 31).toUInt32).toInt32) &&& (127 : Int32)).toUInt32.toUInt16.toUInt32.toInt32)), .val (.int (((pk.toUInt32 >>> ((21 : Int32) &&& 31).toUInt32).toInt32) &&& (3 : Int32))), .unset, .unset, .unset, .unset, .unset, .unset, .unset, .unset, .unset] [])) ((((pk.toUInt32 >>> ((7 : Int32) &&& 31).toUInt32).toInt32) &&& (127 : Int32)).toUInt32.toUInt16.toUInt32.toInt32) P2
  obtain ⟨d2, hd2, P4⟩ := own_name (F := fun z => s₁.setTop (mkF m 35 #[.val (.int pk), .val (.int qq), .val (.int aa), .val (.int bb), .val (.int d0), .val (.int d1), .val (.int z), .val (.int (((pk.toUInt32 >>> ((21 : Int32) &&& 31).toUInt32).toInt32) &&& (3 : Int32))), .unset, .unset, .unset, .unset, .unset, .unset, .unset, .unset, .unset] [])) ((((pk.toUInt32 >>> ((14 : Int32) &&& 31).toUInt32).toInt32) &&& (127 : Int32)).toUInt32.toUInt16.toUInt32.toInt32) P3
  obtain ⟨nn, hnn, P5⟩ := own_name (F := fun z => s₁.setTop (mkF m 35 #[.val (.int pk), .val (.int qq), .val (.int aa), .val (.int bb), .val (.int d0), .val (.int d1), .val (.int d2), .val (.int z), .unset, .unset, .unset, .unset, .unset, .unset, .unset, .unset, .unset] [])) (((pk.toUInt32 >>> ((21 : Int32) &&& 31).toUInt32).toInt32) &&& (3 : Int32)) P4
  have gd0 : own_R d0 := by rw [hd0]; exact own_ch _
  have gd1 : own_R d1 := by rw [hd1]; exact own_ch _
  have gd2 : own_R d2 := by rw [hd2]; exact own_ch _
  have gn : 0 ≤ nn.toInt ∧ nn.toInt < 4 := by rw [hnn]; exact own_n3 _
  have P6 := own_step (C := s₁.setTop (mkF m 37 #[.val (.int pk), .val (.int qq), .val (.int aa), .val (.int bb), .val (.int d0), .val (.int d1), .val (.int d2), .val (.int nn), .unset, .unset, .unset, .unset, .unset, .unset, .unset, .unset, .unset] [(.int nn)])) P5 (by
    intro tt_ kk_
    refine XS.iload X0.here hx rfl (hb hby at_35) rfl ?_
    exact kk_)
  by_cases c7 : nn = (0 : Int32)
  · have P8 := own_step (C := s₁.setTop (mkF m 40 #[.val (.int pk), .val (.int qq), .val (.int aa), .val (.int bb), .val (.int d0), .val (.int d1), .val (.int d2), .val (.int nn), .unset, .unset, .unset, .unset, .unset, .unset, .unset, .unset, .unset] [])) P6 (by
      intro tt_ kk_
      refine XS.ifNo X0.here hx rfl (hb hby at_37) rfl ((if0 _ _).trans (teq c7).2) ?_
      exact kk_)
    have P9 := own_step (C := s₁.setTop (mkF m 41 #[.val (.int pk), .val (.int qq), .val (.int aa), .val (.int bb), .val (.int d0), .val (.int d1), .val (.int d2), .val (.int nn), .unset, .unset, .unset, .unset, .unset, .unset, .unset, .unset, .unset] [(.int (0 : Int32))])) P8 (by
      intro tt_ kk_
      refine XS.iconst X0.here hx rfl (hb hby at_40) ?_
      exact kk_)
    obtain ⟨T10, h10, k10, X10, e10, E10, A10, st10⟩ := newP X0 hx hZ (hw _ (List.mem_of_getElem? (i := 0) rfl)) e0 (g := (mkF m 41 #[.val (.int pk), .val (.int qq), .val (.int aa), .val (.int bb), .val (.int d0), .val (.int d1), .val (.int d2), .val (.int nn), .unset, .unset, .unset, .unset, .unset, .unset, .unset, .unset, .unset] [(.int (0 : Int32))])) rfl (hb hby at_41) rfl (by decide) (cap := 0) (by decide) (by decide) (by decide) (by decide)
    obtain ⟨b10, g10⟩ : ∃ z, z = h0.size := ⟨_, rfl⟩
    rw [← g10] at A10 st10
    have g_b10 : n0 ≤ b10 := Nat.le_trans Z0 (Nat.le_of_eq g10.symm)
    have f11 := O.ext E10
    have Z12 : n0 ≤ h10.size := Nat.le_trans Z0 E10.1
    have V10 : Arv Z h10 b10 k10 .char (0 : Int32) [] (.int (0 : Int32)) := (Arv.new A10 (by decide)).pad (pad_rep [] _ 0)
    have P13 := own_step (C := T10.setTop (mkF m 43 #[.val (.int pk), .val (.int qq), .val (.int aa), .val (.int bb), .val (.int d0), .val (.int d1), .val (.int d2), .val (.int nn), .unset, .unset, .unset, .unset, .unset, .unset, .unset, .unset, .unset] [(.ref b10)])) P9 (fun t_ k_ => st10 t_ k_)
    have P14 := own_step (C := T10.setTop (mkF m 120 #[.val (.int pk), .val (.int qq), .val (.int aa), .val (.int bb), .val (.int d0), .val (.int d1), .val (.int d2), .val (.int nn), .val (.ref b10), .val (.int (aa &&& (2147483647 : Int32))), .unset, .unset, .unset, .unset, .unset, .unset, .unset] [(.int bb), (.int (aa &&& (2147483647 : Int32)))])) P13 (by
      intro tt_ kk_
      refine XS.astore X10.here hx rfl (hb hby at_43) rfl rfl (l' := #[.val (.int pk), .val (.int qq), .val (.int aa), .val (.int bb), .val (.int d0), .val (.int d1), .val (.int d2), .val (.int nn), .val (.ref b10), .unset, .unset, .unset, .unset, .unset, .unset, .unset, .unset]) rfl ?_
      refine XS.goto X10.here hx rfl (pc0 := 45) (pc' := 111) rfl (hb hby at_45) (by decide) (by decide) ?_
      refine XS.iloadN X10.here hx rfl (hb hby at_111) rfl ?_
      refine X10.ldcInt hx hown (mvT hZ (hw _ (List.mem_of_getElem? (i := 1) rfl))) (g := (mkF m 112 #[.val (.int pk), .val (.int qq), .val (.int aa), .val (.int bb), .val (.int d0), .val (.int d1), .val (.int d2), .val (.int nn), .val (.ref b10), .unset, .unset, .unset, .unset, .unset, .unset, .unset, .unset] [(.int aa)])) rfl (hb hby at_112) _ ?_
      refine XS.iand X10.here hx rfl (hb hby at_114) rfl ?_
      refine XS.istore X10.here hx rfl (hb hby at_115) rfl (l' := #[.val (.int pk), .val (.int qq), .val (.int aa), .val (.int bb), .val (.int d0), .val (.int d1), .val (.int d2), .val (.int nn), .val (.ref b10), .val (.int (aa &&& (2147483647 : Int32))), .unset, .unset, .unset, .unset, .unset, .unset, .unset]) rfl ?_
      show Steps p.tables e below (T10.setTop (mkF m 117 #[.val (.int pk), .val (.int qq), .val (.int aa), .val (.int bb), .val (.int d0), .val (.int d1), .val (.int d2), .val (.int nn), .val (.ref b10), .val (.int (aa &&& (2147483647 : Int32))), .unset, .unset, .unset, .unset, .unset, .unset, .unset] [])) _
      refine XS.iload X10.here hx rfl (hb hby at_117) rfl ?_
      refine XS.iloadN X10.here hx rfl (hb hby at_119) rfl ?_
      exact kk_)
    obtain ⟨_, _, ⟨T15, L15, k15, n15⟩, -, X15, ⟨Lc15, hQ15, l15, y15, z15⟩, st15⟩ := Jvm.LawKit.callS X10 hx (y := (⟨"java/lang/Math", "max", "(II)I"⟩ : MethodName)) hown (mvT hZ (hw _ (List.mem_of_getElem? (i := 2) rfl))) (mvT hZ (hw _ (List.mem_of_getElem? (i := 3) rfl))) (mvT hZ (hw _ (List.mem_of_getElem? (i := 4) rfl))) (mvT hZ (hw _ (List.mem_of_getElem? (i := 5) rfl))) (by decide) (backOf (W := 0) (rm_own_max l Z a0 hw [] (aa &&& (2147483647 : Int32)) bb h10 n0 Z12 ) hZ (hw _ (List.mem_of_getElem? (i := 5) rfl)) (hw _ (List.mem_of_getElem? (i := 4) rfl)) (by decide) (by decide)) (g := (mkF m 120 #[.val (.int pk), .val (.int qq), .val (.int aa), .val (.int bb), .val (.int d0), .val (.int d1), .val (.int d2), .val (.int nn), .val (.ref b10), .val (.int (aa &&& (2147483647 : Int32))), .unset, .unset, .unset, .unset, .unset, .unset, .unset] [(.int bb), (.int (aa &&& (2147483647 : Int32)))])) rfl (by rw [hml]; rfl) (argsL := [(.int (aa &&& (2147483647 : Int32))), (.int bb)]) (rest := []) (lenOf pd16 rfl) rfl (by show 2 * 0 + _ ≤ _; exact Nat.le_of_eq rfl) (hb hby at_120) (fun _ _ => ⟨rfl, e10, (by decide : 1 + 0 ≤ _), (by decide : 0 + 0 ≤ _)⟩)
    dsimp only [Pt.U, Pt.locs, Pt.cells, Pt.slots] at X15 l15 y15 z15 st15 hQ15
    subst l15 y15 z15
    obtain ⟨rfl, N15q, e15⟩ := hQ15
    have N15 := Fr.app N0 N15q
    have P16 := own_step (C := T15.setTop (mkF m 123 #[.val (.int pk), .val (.int qq), .val (.int aa), .val (.int bb), .val (.int d0), .val (.int d1), .val (.int d2), .val (.int nn), .val (.ref b10), .val (.int (aa &&& (2147483647 : Int32))), .unset, .unset, .unset, .unset, .unset, .unset, .unset] [(.int (own_max (aa &&& (2147483647 : Int32)) bb))])) P14 (fun t_ k_ => st15 t_ k_)
    have P17 := own_step (C := T15.setTop (mkF m 131 #[.val (.int pk), .val (.int qq), .val (.int aa), .val (.int bb), .val (.int d0), .val (.int d1), .val (.int d2), .val (.int nn), .val (.ref b10), .val (.int (aa &&& (2147483647 : Int32))), .val (.int (own_max (aa &&& (2147483647 : Int32)) bb)), .unset, .unset, .unset, .unset, .unset, .unset] [(.int ((qq &&& (255 : Int32)).toUInt32.toUInt16.toUInt32.toInt32))])) P16 (by
      intro tt_ kk_
      refine XS.istore X15.here hx rfl (hb hby at_123) rfl (l' := #[.val (.int pk), .val (.int qq), .val (.int aa), .val (.int bb), .val (.int d0), .val (.int d1), .val (.int d2), .val (.int nn), .val (.ref b10), .val (.int (aa &&& (2147483647 : Int32))), .val (.int (own_max (aa &&& (2147483647 : Int32)) bb)), .unset, .unset, .unset, .unset, .unset, .unset]) rfl ?_
      refine XS.iloadN X15.here hx rfl (hb hby at_125) rfl ?_
      refine XS.sipush X15.here hx rfl (hb hby at_126) ?_
      refine XS.iand X15.here hx rfl (hb hby at_129) rfl ?_
      refine XS.i2c X15.here hx rfl (hb hby at_130) rfl ?_
      exact kk_)
    obtain ⟨_, _, ⟨T18, L18, k18, n18⟩, -, X18, ⟨Lc18, hQ18, l18, y18, z18⟩, st18⟩ := Jvm.LawKit.callS X15 hx (y := (⟨"java/lang/String", "valueOf", "(C)Ljava/lang/String;"⟩ : MethodName)) hown (mvT hZ (hw _ (List.mem_of_getElem? (i := 6) rfl))) (mvT hZ (hw _ (List.mem_of_getElem? (i := 7) rfl))) (mvT hZ (hw _ (List.mem_of_getElem? (i := 8) rfl))) (mvT hZ (hw _ (List.mem_of_getElem? (i := 9) rfl))) (by decide) (backOf (W := 0) (rm_valueOf l Z a0 hw [] ((qq &&& (255 : Int32)).toUInt32.toUInt16.toUInt32.toInt32) cs h10 n0 Z12 f11 Scs hcs (own_v255 _)) hZ (hw _ (List.mem_of_getElem? (i := 9) rfl)) (hw _ (List.mem_of_getElem? (i := 8) rfl)) (by decide) (by decide)) (g := (mkF m 131 #[.val (.int pk), .val (.int qq), .val (.int aa), .val (.int bb), .val (.int d0), .val (.int d1), .val (.int d2), .val (.int nn), .val (.ref b10), .val (.int (aa &&& (2147483647 : Int32))), .val (.int (own_max (aa &&& (2147483647 : Int32)) bb)), .unset, .unset, .unset, .unset, .unset, .unset] [(.int ((qq &&& (255 : Int32)).toUInt32.toUInt16.toUInt32.toInt32))])) rfl (by rw [hml]; rfl) (argsL := [(.int ((qq &&& (255 : Int32)).toUInt32.toUInt16.toUInt32.toInt32))]) (rest := []) (lenOf pd17 rfl) rfl (by show 2 * 0 + _ ≤ _; exact Nat.le_of_eq rfl) (hb hby at_131) (fun _ _ => ⟨rfl, e15, (by decide : 1 + 2 ≤ _), (by decide : 0 + 5 ≤ _)⟩)
    dsimp only [Pt.U, Pt.locs, Pt.cells, Pt.slots] at X18 l18 y18 z18 st18 hQ18
    subst l18 y18 z18
    obtain ⟨x18, rfl, N18q, K18, f19, f20⟩ := hQ18
    have N18 := Fr.app N15 N18q
    have ne_b10_x18 : b10 ≠ x18 := Nat.ne_of_lt (Nat.lt_of_lt_of_le V10.lt f19)
    have g_x18 : n0 ≤ x18 := Nat.le_trans Z12 f19
    have f21 := f11.keep K18 all0
    have f22 := V10.keep K18 nin0
    have Z23 : n0 ≤ T18.heap.size := Nat.le_trans Z12 K18.1
    have P24 := own_step (C := T18.setTop (mkF m 134 #[.val (.int pk), .val (.int qq), .val (.int aa), .val (.int bb), .val (.int d0), .val (.int d1), .val (.int d2), .val (.int nn), .val (.ref b10), .val (.int (aa &&& (2147483647 : Int32))), .val (.int (own_max (aa &&& (2147483647 : Int32)) bb)), .unset, .unset, .unset, .unset, .unset, .unset] [(.ref x18)])) P17 (fun t_ k_ => st18 t_ k_)
    have P25 := own_step (C := T18.setTop (mkF m 136 #[.val (.int pk), .val (.int qq), .val (.int aa), .val (.int bb), .val (.int d0), .val (.int d1), .val (.int d2), .val (.int nn), .val (.ref b10), .val (.int (aa &&& (2147483647 : Int32))), .val (.int (own_max (aa &&& (2147483647 : Int32)) bb)), .val (.ref x18), .unset, .unset, .unset, .unset, .unset] [])) P24 (by
      intro tt_ kk_
      refine XS.astore X18.here hx rfl (hb hby at_134) rfl rfl (l' := #[.val (.int pk), .val (.int qq), .val (.int aa), .val (.int bb), .val (.int d0), .val (.int d1), .val (.int d2), .val (.int nn), .val (.ref b10), .val (.int (aa &&& (2147483647 : Int32))), .val (.int (own_max (aa &&& (2147483647 : Int32)) bb)), .val (.ref x18), .unset, .unset, .unset, .unset, .unset]) rfl ?_
      exact kk_)
    obtain ⟨T26, h26, X26, e26, E26, A26, D26, -, st26⟩ := newO X18 hx hZ hown (hw _ (List.mem_of_getElem? (i := 32) rfl)) (hw _ (List.mem_of_getElem? (i := 33) rfl)) (hw _ (List.mem_of_getElem? (i := 34) rfl)) rfl (g := (mkF m 136 #[.val (.int pk), .val (.int qq), .val (.int aa), .val (.int bb), .val (.int d0), .val (.int d1), .val (.int d2), .val (.int nn), .val (.ref b10), .val (.int (aa &&& (2147483647 : Int32))), .val (.int (own_max (aa &&& (2147483647 : Int32)) bb)), .val (.ref x18), .unset, .unset, .unset, .unset, .unset] [])) rfl (hb hby at_136) (by decide) (by decide)
    obtain ⟨b26, g26⟩ : ∃ z, z = T18.heap.size := ⟨_, rfl⟩
    rw [← g26] at A26 D26 st26
    have ne_b10_b26 : b10 ≠ b26 := Nat.ne_of_lt (Nat.lt_of_lt_of_le f22.lt (Nat.le_of_eq g26.symm))
    have g_b26 : n0 ≤ b26 := Nat.le_trans Z23 (Nat.le_of_eq g26.symm)
    have f27 := f21.ext E26
    have f28 := f22.ext E26
    have Z29 : n0 ≤ h26.size := Nat.le_trans Z23 E26.1
    have f30 : Fld Z h26 b26 "com/example/gatehouse/gatehouse/pattern/NameShape" "begin" "Ljava/lang/String;" .null := D26 (Or.inr (hw _ (List.mem_of_getElem? (i := 66) rfl))) (ty := (.object "java/lang/String")) (by decide)
    have f31 : Fld Z h26 b26 "com/example/gatehouse/gatehouse/pattern/NameShape" "low" "J" (.long (0 : Int64)) := D26 (Or.inr (hw _ (List.mem_of_getElem? (i := 68) rfl))) (ty := .long) (by decide)
    have f32 : Fld Z h26 b26 "com/example/gatehouse/gatehouse/pattern/NameShape" "high" "J" (.long (0 : Int64)) := D26 (Or.inr (hw _ (List.mem_of_getElem? (i := 70) rfl))) (ty := .long) (by decide)
    have f33 : Fld Z h26 b26 "com/example/gatehouse/gatehouse/pattern/NameShape" "least" "I" (.int (0 : Int32)) := D26 (Or.inr (hw _ (List.mem_of_getElem? (i := 72) rfl))) (ty := .int) (by decide)
    have f34 : Fld Z h26 b26 "com/example/gatehouse/gatehouse/pattern/NameShape" "most" "I" (.int (0 : Int32)) := D26 (Or.inr (hw _ (List.mem_of_getElem? (i := 74) rfl))) (ty := .int) (by decide)
    have P35 := own_step (C := T26.setTop (mkF m 139 #[.val (.int pk), .val (.int qq), .val (.int aa), .val (.int bb), .val (.int d0), .val (.int d1), .val (.int d2), .val (.int nn), .val (.ref b10), .val (.int (aa &&& (2147483647 : Int32))), .val (.int (own_max (aa &&& (2147483647 : Int32)) bb)), .val (.ref x18), .unset, .unset, .unset, .unset, .unset] [(.ref b26)])) P25 (fun t_ k_ => st26 t_ k_)
    have P36 := own_step (C := T26.setTop (mkF m 142 #[.val (.int pk), .val (.int qq), .val (.int aa), .val (.int bb), .val (.int d0), .val (.int d1), .val (.int d2), .val (.int nn), .val (.ref b10), .val (.int (aa &&& (2147483647 : Int32))), .val (.int (own_max (aa &&& (2147483647 : Int32)) bb)), .val (.ref x18), .unset, .unset, .unset, .unset, .unset] [(.ref x18), (.ref b26), (.ref b26)])) P35 (by
      intro tt_ kk_
      refine XS.dup X26.here hx rfl (hb hby at_139) rfl rfl ?_
      refine XS.aload X26.here hx rfl (hb hby at_140) rfl rfl ?_
      exact kk_)
    obtain ⟨T37, h37, X37, e37, E37, A37, D37, -, st37⟩ := newO X26 hx hZ hown (hw _ (List.mem_of_getElem? (i := 35) rfl)) (hw _ (List.mem_of_getElem? (i := 16) rfl)) (hw _ (List.mem_of_getElem? (i := 8) rfl)) e26 (g := (mkF m 142 #[.val (.int pk), .val (.int qq), .val (.int aa), .val (.int bb), .val (.int d0), .val (.int d1), .val (.int d2), .val (.int nn), .val (.ref b10), .val (.int (aa &&& (2147483647 : Int32))), .val (.int (own_max (aa &&& (2147483647 : Int32)) bb)), .val (.ref x18), .unset, .unset, .unset, .unset, .unset] [(.ref x18), (.ref b26), (.ref b26)])) rfl (hb hby at_142) (by decide) (by decide)
    obtain ⟨b37, g37⟩ : ∃ z, z = h26.size := ⟨_, rfl⟩
    rw [← g37] at A37 D37 st37
    have ne_b10_b37 : b10 ≠ b37 := Nat.ne_of_lt (Nat.lt_of_lt_of_le f28.lt (Nat.le_of_eq g37.symm))
    have ne_b26_b37 : b26 ≠ b37 := Nat.ne_of_lt (Nat.lt_of_lt_of_le A26.lt (Nat.le_of_eq g37.symm))
    have g_b37 : n0 ≤ b37 := Nat.le_trans Z29 (Nat.le_of_eq g37.symm)
    have f38 := f27.ext E37
    have f39 := f28.ext E37
    have f40 := A26.ext E37
    have f41 := f30.ext E37
    have f42 := f31.ext E37
    have f43 := f32.ext E37
    have f44 := f33.ext E37
    have f45 := f34.ext E37
    have Z46 : n0 ≤ h37.size := Nat.le_trans Z29 E37.1
    have f47 : Fld Z h37 b37 "java/lang/String" "value" "[B" .null := D37 (Or.inr (hw _ (List.mem_of_getElem? (i := 29) rfl))) (ty := (.array .byte)) (by decide)
    have f48 : Fld Z h37 b37 "java/lang/String" "coder" "B" (.int (0 : Int32)) := D37 (Or.inr (hw _ (List.mem_of_getElem? (i := 31) rfl))) (ty := .byte) (by decide)
    have P49 := own_step (C := T37.setTop (mkF m 145 #[.val (.int pk), .val (.int qq), .val (.int aa), .val (.int bb), .val (.int d0), .val (.int d1), .val (.int d2), .val (.int nn), .val (.ref b10), .val (.int (aa &&& (2147483647 : Int32))), .val (.int (own_max (aa &&& (2147483647 : Int32)) bb)), .val (.ref x18), .unset, .unset, .unset, .unset, .unset] [(.ref b37), (.ref x18), (.ref b26), (.ref b26)])) P36 (fun t_ k_ => st37 t_ k_)
    have P50 := own_step (C := T37.setTop (mkF m 148 #[.val (.int pk), .val (.int qq), .val (.int aa), .val (.int bb), .val (.int d0), .val (.int d1), .val (.int d2), .val (.int nn), .val (.ref b10), .val (.int (aa &&& (2147483647 : Int32))), .val (.int (own_max (aa &&& (2147483647 : Int32)) bb)), .val (.ref x18), .unset, .unset, .unset, .unset, .unset] [(.ref b10), (.ref b37), (.ref b37), (.ref x18), (.ref b26), (.ref b26)])) P49 (by
      intro tt_ kk_
      refine XS.dup X37.here hx rfl (hb hby at_145) rfl rfl ?_
      refine XS.aload X37.here hx rfl (hb hby at_146) rfl rfl ?_
      exact kk_)
    obtain ⟨_, _, ⟨T51, L51, k51, n51⟩, -, X51, hS51, hgr51, ⟨Lc51, hQ51, l51, y51, z51⟩, st51⟩ := X37.specialBackS hx (y := (⟨"java/lang/String", "<init>", "([C)V"⟩ : MethodName)) rfl hown (mvT hZ (hw _ (List.mem_of_getElem? (i := 36) rfl))) (mvT hZ (hw _ (List.mem_of_getElem? (i := 37) rfl))) (mvT hZ (hw _ (List.mem_of_getElem? (i := 38) rfl))) (by decide) (own_backI (W := 4) (rm_initC0 l Z a0 hw [] b37 b10 k10 cs h37 n0 Z46 f38 Scs hcs hheld hcw A37 f47 f48 g_b37 f39) hZ hIB (hw _ (List.mem_of_getElem? (i := 38) rfl)) (hw _ (List.mem_of_getElem? (i := 8) rfl)) (by decide) (by decide)) (g := (mkF m 148 #[.val (.int pk), .val (.int qq), .val (.int aa), .val (.int bb), .val (.int d0), .val (.int d1), .val (.int d2), .val (.int nn), .val (.ref b10), .val (.int (aa &&& (2147483647 : Int32))), .val (.int (own_max (aa &&& (2147483647 : Int32)) bb)), .val (.ref x18), .unset, .unset, .unset, .unset, .unset] [(.ref b10), (.ref b37), (.ref b37), (.ref x18), (.ref b26), (.ref b26)])) rfl (by rw [hml]; rfl) (Steps.refl _) (a := b37) (argsL := [(.ref b10)]) (rest := [(.ref b37), (.ref x18), (.ref b26), (.ref b26)]) (lenOf pd18 rfl) rfl (by show 2 * 0 + _ ≤ _; exact Nat.le_of_eq rfl) (hb hby at_148) (fun _ _ => ⟨rfl, e37, (by decide : 5 + 2 ≤ _), (by decide : 14 + 4 ≤ _)⟩)
    dsimp only [Pt.U, Pt.locs, Pt.cells, Pt.slots] at X51 l51 y51 z51 st51 hQ51 hS51 hgr51
    subst l51 y51 z51
    have hZw51 : Z.Warmed39 T51.vm := State.Warmed39.trans (t := s) hZ hS51.1
    have hownw51 : T51.vm.findClass "com/example/gatehouse/gatehouse/pattern/NameShapeCharactersPinLaw" = some m.cls := by rw [hS51.1.alike.findClass]; exact hown
    obtain ⟨x51, kk51, rfl, N51q, K51, f52, f53, f54, f55⟩ := hQ51
    have N51 := Fr.app N18 N51q
    have f56 := f38.keep K51 (allS g_b37 all0)
    have f57 := f39.keep K51 (ninS ne_b10_b37 nin0)
    have f58 := f40.keep K51
    have f59 := f41.keep K51 (ninS ne_b26_b37 nin0)
    have f60 := f42.keep K51 (ninS ne_b26_b37 nin0)
    have f61 := f43.keep K51 (ninS ne_b26_b37 nin0)
    have f62 := f44.keep K51 (ninS ne_b26_b37 nin0)
    have f63 := f45.keep K51 (ninS ne_b26_b37 nin0)
    have f64 := A37.keep K51
    have Z67 : n0 ≤ T51.heap.size := Nat.le_trans Z46 K51.1
    have P68 := own_step (C := T51.setTop (mkF m 151 #[.val (.int pk), .val (.int qq), .val (.int aa), .val (.int bb), .val (.int d0), .val (.int d1), .val (.int d2), .val (.int nn), .val (.ref b10), .val (.int (aa &&& (2147483647 : Int32))), .val (.int (own_max (aa &&& (2147483647 : Int32)) bb)), .val (.ref x18), .unset, .unset, .unset, .unset, .unset] [(.ref b37), (.ref x18), (.ref b26), (.ref b26)])) P50 (fun t_ k_ => st51.trans k_)
    obtain ⟨clV, ArV, -⟩ := id f55
    have ne_x51_b26 : x51 ≠ b26 := Ne.symm (ne_arr f58 (hw _ (List.mem_of_getElem? (i := 33) rfl)) ArV)
    have P69 := own_step (C := T51.setTop (mkF m 155 #[.val (.int pk), .val (.int qq), .val (.int aa), .val (.int bb), .val (.int d0), .val (.int d1), .val (.int d2), .val (.int nn), .val (.ref b10), .val (.int (aa &&& (2147483647 : Int32))), .val (.int (own_max (aa &&& (2147483647 : Int32)) bb)), .val (.ref x18), .unset, .unset, .unset, .unset, .unset] [(.int (own_max (aa &&& (2147483647 : Int32)) bb)), (.int (aa &&& (2147483647 : Int32))), (.ref b37), (.ref x18), (.ref b26), (.ref b26)])) P68 (by
      intro tt_ kk_
      refine XS.iload X51.here hx rfl (hb hby at_151) rfl ?_
      refine XS.iload X51.here hx rfl (hb hby at_153) rfl ?_
      exact kk_)
    obtain ⟨_, _, ⟨T70, L70, k70, n70⟩, -, X70, ⟨Lc70, hQ70, l70, y70, z70⟩, st70⟩ := X51.specialBack hx (y := (⟨"com/example/gatehouse/gatehouse/pattern/NameShape", "<init>", "(Ljava/lang/String;Ljava/lang/String;II)V"⟩ : MethodName)) rfl hownw51 (mvT hZw51 (hw _ (List.mem_of_getElem? (i := 45) rfl))) (mvT hZw51 (hw _ (List.mem_of_getElem? (i := 46) rfl))) (mvT hZw51 (hw _ (List.mem_of_getElem? (i := 47) rfl))) (by decide) (backOf (W := 1) (rm_nsE l Z a0 hw [] b26 x18 (aa &&& (2147483647 : Int32)) (own_max (aa &&& (2147483647 : Int32)) bb) b37 x51 kk51  fm cs T51.heap n0 Z67 f56 Scs hcs Sfm hfm f52 f53 f54 f55  f58 f59 f60 f61 f62 f63 g_b26 (own_le _) (own_mo _ _)) hZw51 (hw _ (List.mem_of_getElem? (i := 47) rfl)) (hw _ (List.mem_of_getElem? (i := 34) rfl)) (by decide) (by decide)) (g := (mkF m 155 #[.val (.int pk), .val (.int qq), .val (.int aa), .val (.int bb), .val (.int d0), .val (.int d1), .val (.int d2), .val (.int nn), .val (.ref b10), .val (.int (aa &&& (2147483647 : Int32))), .val (.int (own_max (aa &&& (2147483647 : Int32)) bb)), .val (.ref x18), .unset, .unset, .unset, .unset, .unset] [(.int (own_max (aa &&& (2147483647 : Int32)) bb)), (.int (aa &&& (2147483647 : Int32))), (.ref b37), (.ref x18), (.ref b26), (.ref b26)])) rfl (by rw [hml]; rfl) (Steps.refl _) (a := b26) (argsL := [(.ref x18), (.ref b37), (.int (aa &&& (2147483647 : Int32))), (.int (own_max (aa &&& (2147483647 : Int32)) bb))]) (rest := [(.ref b26)]) (lenOf pd19 rfl) rfl (by show 2 * 0 + _ ≤ _; exact Nat.le_of_eq rfl) (hb hby at_155) (fun _ _ => ⟨rfl, rfl, (by decide : 7 + 0 ≤ _), (by decide : 18 + 0 ≤ _)⟩)
    dsimp only [Pt.U, Pt.locs, Pt.cells, Pt.slots] at X70 l70 y70 z70 st70 hQ70
    subst l70 y70 z70
    obtain ⟨rfl, N70q, K70, f71, f72, f73⟩ := hQ70
    have N70 := Fr.app N51 N70q
    have f74 := f56.keep K70 (allS g_b26 all0)
    have f75 := f57.keep K70 (ninS ne_b10_b26 nin0)
    have f76 := f58.keep K70
    have f82 := f52.keep K70
    have f83 := f53.keep K70 (ninS (Ne.symm ne_b26_b37) nin0)
    have f84 := f54.keep K70 (ninS (Ne.symm ne_b26_b37) nin0)
    have f85 := f55.keep K70 (ninS ne_x51_b26 nin0)
    have Z86 : n0 ≤ T70.heap.size := Nat.le_trans Z67 K70.1
    have kz87 := Nat.le_trans (Nat.le_refl T51.heap.size) K70.1
    have P88 := own_step (C := T70.setTop (mkF m 158 #[.val (.int pk), .val (.int qq), .val (.int aa), .val (.int bb), .val (.int d0), .val (.int d1), .val (.int d2), .val (.int nn), .val (.ref b10), .val (.int (aa &&& (2147483647 : Int32))), .val (.int (own_max (aa &&& (2147483647 : Int32)) bb)), .val (.ref x18), .unset, .unset, .unset, .unset, .unset] [(.ref b26)])) P69 (fun t_ k_ => st70.trans k_)
    have P89 := own_step (C := T70.setTop (mkF m 166 #[.val (.int pk), .val (.int qq), .val (.int aa), .val (.int bb), .val (.int d0), .val (.int d1), .val (.int d2), .val (.int nn), .val (.ref b10), .val (.int (aa &&& (2147483647 : Int32))), .val (.int (own_max (aa &&& (2147483647 : Int32)) bb)), .val (.ref x18), .val (.ref b26), .unset, .unset, .unset, .unset] [(.int (0 : Int32)), (.int nn), (.int (0 : Int32)), (.int d0)])) P88 (by
      intro tt_ kk_
      refine XS.astore X70.here hx rfl (hb hby at_158) rfl rfl (l' := #[.val (.int pk), .val (.int qq), .val (.int aa), .val (.int bb), .val (.int d0), .val (.int d1), .val (.int d2), .val (.int nn), .val (.ref b10), .val (.int (aa &&& (2147483647 : Int32))), .val (.int (own_max (aa &&& (2147483647 : Int32)) bb)), .val (.ref x18), .val (.ref b26), .unset, .unset, .unset, .unset]) rfl ?_
      refine XS.iload X70.here hx rfl (hb hby at_160) rfl ?_
      refine XS.iconst X70.here hx rfl (hb hby at_162) ?_
      refine XS.iload X70.here hx rfl (hb hby at_163) rfl ?_
      refine XS.iconst X70.here hx rfl (hb hby at_165) ?_
      exact kk_)
    obtain ⟨_, _, ⟨T90, L90, k90, n90⟩, -, X90, ⟨Lc90, hQ90, l90, y90, z90⟩, st90⟩ := Jvm.LawKit.callS X70 hx (y := (⟨"com/example/gatehouse/gatehouse/pattern/NameShapeCharactersPinLaw", "bit", "(IIII)J"⟩ : MethodName)) hownw51 (mvT hZw51 (hw _ (List.mem_of_getElem? (i := 75) rfl))) (mvT hZw51 (hw _ (List.mem_of_getElem? (i := 76) rfl))) (mvT hZw51 (hw _ (List.mem_of_getElem? (i := 77) rfl))) (mvT hZw51 (hw _ (List.mem_of_getElem? (i := 78) rfl))) (by decide) (backOf (W := 0) (rm_own_b l Z a0 hw [] d0 (0 : Int32) nn (0 : Int32) T70.heap n0 Z86 ) hZw51 (hw _ (List.mem_of_getElem? (i := 78) rfl)) (hw _ (List.mem_of_getElem? (i := 77) rfl)) (by decide) (by decide)) (g := (mkF m 166 #[.val (.int pk), .val (.int qq), .val (.int aa), .val (.int bb), .val (.int d0), .val (.int d1), .val (.int d2), .val (.int nn), .val (.ref b10), .val (.int (aa &&& (2147483647 : Int32))), .val (.int (own_max (aa &&& (2147483647 : Int32)) bb)), .val (.ref x18), .val (.ref b26), .unset, .unset, .unset, .unset] [(.int (0 : Int32)), (.int nn), (.int (0 : Int32)), (.int d0)])) rfl (by rw [hml]; rfl) (argsL := [(.int d0), (.int (0 : Int32)), (.int nn), (.int (0 : Int32))]) (rest := []) (lenOf pd20 rfl) rfl (by show 2 * 0 + _ ≤ _; exact Nat.le_of_eq rfl) (hb hby at_166) (fun _ _ => ⟨rfl, rfl, (by decide : 7 + 0 ≤ _), (by decide : 18 + 0 ≤ _)⟩)
    dsimp only [Pt.U, Pt.locs, Pt.cells, Pt.slots] at X90 l90 y90 z90 st90 hQ90
    subst l90 y90 z90
    obtain ⟨rfl, N90q, e90⟩ := hQ90
    have N90 := Fr.app N70 N90q
    have P91 := own_step (C := T90.setTop (mkF m 169 #[.val (.int pk), .val (.int qq), .val (.int aa), .val (.int bb), .val (.int d0), .val (.int d1), .val (.int d2), .val (.int nn), .val (.ref b10), .val (.int (aa &&& (2147483647 : Int32))), .val (.int (own_max (aa &&& (2147483647 : Int32)) bb)), .val (.ref x18), .val (.ref b26), .unset, .unset, .unset, .unset] [(.long (own_b d0 (0 : Int32) nn (0 : Int32)))])) P89 (fun t_ k_ => st90 t_ k_)
    have P92 := own_step (C := T90.setTop (mkF m 175 #[.val (.int pk), .val (.int qq), .val (.int aa), .val (.int bb), .val (.int d0), .val (.int d1), .val (.int d2), .val (.int nn), .val (.ref b10), .val (.int (aa &&& (2147483647 : Int32))), .val (.int (own_max (aa &&& (2147483647 : Int32)) bb)), .val (.ref x18), .val (.ref b26), .unset, .unset, .unset, .unset] [(.int (0 : Int32)), (.int nn), (.int (1 : Int32)), (.int d1), (.long (own_b d0 (0 : Int32) nn (0 : Int32)))])) P91 (by
      intro tt_ kk_
      refine XS.iload X90.here hx rfl (hb hby at_169) rfl ?_
      refine XS.iconst X90.here hx rfl (hb hby at_171) ?_
      refine XS.iload X90.here hx rfl (hb hby at_172) rfl ?_
      refine XS.iconst X90.here hx rfl (hb hby at_174) ?_
      exact kk_)
    obtain ⟨_, _, ⟨T93, L93, k93, n93⟩, -, X93, ⟨Lc93, hQ93, l93, y93, z93⟩, st93⟩ := Jvm.LawKit.callS X90 hx (y := (⟨"com/example/gatehouse/gatehouse/pattern/NameShapeCharactersPinLaw", "bit", "(IIII)J"⟩ : MethodName)) hownw51 (mvT hZw51 (hw _ (List.mem_of_getElem? (i := 75) rfl))) (mvT hZw51 (hw _ (List.mem_of_getElem? (i := 76) rfl))) (mvT hZw51 (hw _ (List.mem_of_getElem? (i := 77) rfl))) (mvT hZw51 (hw _ (List.mem_of_getElem? (i := 78) rfl))) (by decide) (backOf (W := 2) (rm_own_b l Z a0 hw [] d1 (1 : Int32) nn (0 : Int32) T70.heap n0 Z86 ) hZw51 (hw _ (List.mem_of_getElem? (i := 78) rfl)) (hw _ (List.mem_of_getElem? (i := 77) rfl)) (by decide) (by decide)) (g := (mkF m 175 #[.val (.int pk), .val (.int qq), .val (.int aa), .val (.int bb), .val (.int d0), .val (.int d1), .val (.int d2), .val (.int nn), .val (.ref b10), .val (.int (aa &&& (2147483647 : Int32))), .val (.int (own_max (aa &&& (2147483647 : Int32)) bb)), .val (.ref x18), .val (.ref b26), .unset, .unset, .unset, .unset] [(.int (0 : Int32)), (.int nn), (.int (1 : Int32)), (.int d1), (.long (own_b d0 (0 : Int32) nn (0 : Int32)))])) rfl (by rw [hml]; rfl) (argsL := [(.int d1), (.int (1 : Int32)), (.int nn), (.int (0 : Int32))]) (rest := [(.long (own_b d0 (0 : Int32) nn (0 : Int32)))]) (lenOf pd20 rfl) rfl (by show 2 * 0 + _ ≤ _; exact Nat.le_of_eq rfl) (hb hby at_175) (fun _ _ => ⟨rfl, e90, (by decide : 7 + 0 ≤ _), (by decide : 18 + 0 ≤ _)⟩)
    dsimp only [Pt.U, Pt.locs, Pt.cells, Pt.slots] at X93 l93 y93 z93 st93 hQ93
    subst l93 y93 z93
    obtain ⟨rfl, N93q, e93⟩ := hQ93
    have N93 := Fr.app N90 N93q
    have P94 := own_step (C := T93.setTop (mkF m 178 #[.val (.int pk), .val (.int qq), .val (.int aa), .val (.int bb), .val (.int d0), .val (.int d1), .val (.int d2), .val (.int nn), .val (.ref b10), .val (.int (aa &&& (2147483647 : Int32))), .val (.int (own_max (aa &&& (2147483647 : Int32)) bb)), .val (.ref x18), .val (.ref b26), .unset, .unset, .unset, .unset] [(.long (own_b d1 (1 : Int32) nn (0 : Int32))), (.long (own_b d0 (0 : Int32) nn (0 : Int32)))])) P92 (fun t_ k_ => st93 t_ k_)
    have P95 := own_step (C := T93.setTop (mkF m 185 #[.val (.int pk), .val (.int qq), .val (.int aa), .val (.int bb), .val (.int d0), .val (.int d1), .val (.int d2), .val (.int nn), .val (.ref b10), .val (.int (aa &&& (2147483647 : Int32))), .val (.int (own_max (aa &&& (2147483647 : Int32)) bb)), .val (.ref x18), .val (.ref b26), .unset, .unset, .unset, .unset] [(.int (0 : Int32)), (.int nn), (.int (2 : Int32)), (.int d2), (.long ((own_b d0 (0 : Int32) nn (0 : Int32)) ||| (own_b d1 (1 : Int32) nn (0 : Int32))))])) P94 (by
      intro tt_ kk_
      refine XS.lor X93.here hx rfl (hb hby at_178) rfl ?_
      refine XS.iload X93.here hx rfl (hb hby at_179) rfl ?_
      refine XS.iconst X93.here hx rfl (hb hby at_181) ?_
      refine XS.iload X93.here hx rfl (hb hby at_182) rfl ?_
      refine XS.iconst X93.here hx rfl (hb hby at_184) ?_
      exact kk_)
    obtain ⟨_, _, ⟨T96, L96, k96, n96⟩, -, X96, ⟨Lc96, hQ96, l96, y96, z96⟩, st96⟩ := Jvm.LawKit.callS X93 hx (y := (⟨"com/example/gatehouse/gatehouse/pattern/NameShapeCharactersPinLaw", "bit", "(IIII)J"⟩ : MethodName)) hownw51 (mvT hZw51 (hw _ (List.mem_of_getElem? (i := 75) rfl))) (mvT hZw51 (hw _ (List.mem_of_getElem? (i := 76) rfl))) (mvT hZw51 (hw _ (List.mem_of_getElem? (i := 77) rfl))) (mvT hZw51 (hw _ (List.mem_of_getElem? (i := 78) rfl))) (by decide) (backOf (W := 2) (rm_own_b l Z a0 hw [] d2 (2 : Int32) nn (0 : Int32) T70.heap n0 Z86 ) hZw51 (hw _ (List.mem_of_getElem? (i := 78) rfl)) (hw _ (List.mem_of_getElem? (i := 77) rfl)) (by decide) (by decide)) (g := (mkF m 185 #[.val (.int pk), .val (.int qq), .val (.int aa), .val (.int bb), .val (.int d0), .val (.int d1), .val (.int d2), .val (.int nn), .val (.ref b10), .val (.int (aa &&& (2147483647 : Int32))), .val (.int (own_max (aa &&& (2147483647 : Int32)) bb)), .val (.ref x18), .val (.ref b26), .unset, .unset, .unset, .unset] [(.int (0 : Int32)), (.int nn), (.int (2 : Int32)), (.int d2), (.long ((own_b d0 (0 : Int32) nn (0 : Int32)) ||| (own_b d1 (1 : Int32) nn (0 : Int32))))])) rfl (by rw [hml]; rfl) (argsL := [(.int d2), (.int (2 : Int32)), (.int nn), (.int (0 : Int32))]) (rest := [(.long ((own_b d0 (0 : Int32) nn (0 : Int32)) ||| (own_b d1 (1 : Int32) nn (0 : Int32))))]) (lenOf pd20 rfl) rfl (by show 2 * 0 + _ ≤ _; exact Nat.le_of_eq rfl) (hb hby at_185) (fun _ _ => ⟨rfl, e93, (by decide : 7 + 0 ≤ _), (by decide : 18 + 0 ≤ _)⟩)
    dsimp only [Pt.U, Pt.locs, Pt.cells, Pt.slots] at X96 l96 y96 z96 st96 hQ96
    subst l96 y96 z96
    obtain ⟨rfl, N96q, e96⟩ := hQ96
    have N96 := Fr.app N93 N96q
    have P97 := own_step (C := T96.setTop (mkF m 188 #[.val (.int pk), .val (.int qq), .val (.int aa), .val (.int bb), .val (.int d0), .val (.int d1), .val (.int d2), .val (.int nn), .val (.ref b10), .val (.int (aa &&& (2147483647 : Int32))), .val (.int (own_max (aa &&& (2147483647 : Int32)) bb)), .val (.ref x18), .val (.ref b26), .unset, .unset, .unset, .unset] [(.long (own_b d2 (2 : Int32) nn (0 : Int32))), (.long ((own_b d0 (0 : Int32) nn (0 : Int32)) ||| (own_b d1 (1 : Int32) nn (0 : Int32))))])) P95 (fun t_ k_ => st96 t_ k_)
    have P98 := own_step (C := T96.setTop (mkF m 197 #[.val (.int pk), .val (.int qq), .val (.int aa), .val (.int bb), .val (.int d0), .val (.int d1), .val (.int d2), .val (.int nn), .val (.ref b10), .val (.int (aa &&& (2147483647 : Int32))), .val (.int (own_max (aa &&& (2147483647 : Int32)) bb)), .val (.ref x18), .val (.ref b26), .val (.long (((own_b d0 (0 : Int32) nn (0 : Int32)) ||| (own_b d1 (1 : Int32) nn (0 : Int32))) ||| (own_b d2 (2 : Int32) nn (0 : Int32)))), .second, .unset, .unset] [(.int (1 : Int32)), (.int nn), (.int (0 : Int32)), (.int d0)])) P97 (by
      intro tt_ kk_
      refine XS.lor X96.here hx rfl (hb hby at_188) rfl ?_
      refine XS.lstore X96.here hx rfl (hb hby at_189) rfl (l' := #[.val (.int pk), .val (.int qq), .val (.int aa), .val (.int bb), .val (.int d0), .val (.int d1), .val (.int d2), .val (.int nn), .val (.ref b10), .val (.int (aa &&& (2147483647 : Int32))), .val (.int (own_max (aa &&& (2147483647 : Int32)) bb)), .val (.ref x18), .val (.ref b26), .val (.long (((own_b d0 (0 : Int32) nn (0 : Int32)) ||| (own_b d1 (1 : Int32) nn (0 : Int32))) ||| (own_b d2 (2 : Int32) nn (0 : Int32)))), .second, .unset, .unset]) rfl ?_
      refine XS.iload X96.here hx rfl (hb hby at_191) rfl ?_
      refine XS.iconst X96.here hx rfl (hb hby at_193) ?_
      refine XS.iload X96.here hx rfl (hb hby at_194) rfl ?_
      refine XS.iconst X96.here hx rfl (hb hby at_196) ?_
      exact kk_)
    obtain ⟨_, _, ⟨T99, L99, k99, n99⟩, -, X99, ⟨Lc99, hQ99, l99, y99, z99⟩, st99⟩ := Jvm.LawKit.callS X96 hx (y := (⟨"com/example/gatehouse/gatehouse/pattern/NameShapeCharactersPinLaw", "bit", "(IIII)J"⟩ : MethodName)) hownw51 (mvT hZw51 (hw _ (List.mem_of_getElem? (i := 75) rfl))) (mvT hZw51 (hw _ (List.mem_of_getElem? (i := 76) rfl))) (mvT hZw51 (hw _ (List.mem_of_getElem? (i := 77) rfl))) (mvT hZw51 (hw _ (List.mem_of_getElem? (i := 78) rfl))) (by decide) (backOf (W := 0) (rm_own_b l Z a0 hw [] d0 (0 : Int32) nn (1 : Int32) T70.heap n0 Z86 ) hZw51 (hw _ (List.mem_of_getElem? (i := 78) rfl)) (hw _ (List.mem_of_getElem? (i := 77) rfl)) (by decide) (by decide)) (g := (mkF m 197 #[.val (.int pk), .val (.int qq), .val (.int aa), .val (.int bb), .val (.int d0), .val (.int d1), .val (.int d2), .val (.int nn), .val (.ref b10), .val (.int (aa &&& (2147483647 : Int32))), .val (.int (own_max (aa &&& (2147483647 : Int32)) bb)), .val (.ref x18), .val (.ref b26), .val (.long (((own_b d0 (0 : Int32) nn (0 : Int32)) ||| (own_b d1 (1 : Int32) nn (0 : Int32))) ||| (own_b d2 (2 : Int32) nn (0 : Int32)))), .second, .unset, .unset] [(.int (1 : Int32)), (.int nn), (.int (0 : Int32)), (.int d0)])) rfl (by rw [hml]; rfl) (argsL := [(.int d0), (.int (0 : Int32)), (.int nn), (.int (1 : Int32))]) (rest := []) (lenOf pd20 rfl) rfl (by show 2 * 0 + _ ≤ _; exact Nat.le_of_eq rfl) (hb hby at_197) (fun _ _ => ⟨rfl, e96, (by decide : 7 + 0 ≤ _), (by decide : 18 + 0 ≤ _)⟩)
    dsimp only [Pt.U, Pt.locs, Pt.cells, Pt.slots] at X99 l99 y99 z99 st99 hQ99
    subst l99 y99 z99
    obtain ⟨rfl, N99q, e99⟩ := hQ99
    have N99 := Fr.app N96 N99q
    have P100 := own_step (C := T99.setTop (mkF m 200 #[.val (.int pk), .val (.int qq), .val (.int aa), .val (.int bb), .val (.int d0), .val (.int d1), .val (.int d2), .val (.int nn), .val (.ref b10), .val (.int (aa &&& (2147483647 : Int32))), .val (.int (own_max (aa &&& (2147483647 : Int32)) bb)), .val (.ref x18), .val (.ref b26), .val (.long (((own_b d0 (0 : Int32) nn (0 : Int32)) ||| (own_b d1 (1 : Int32) nn (0 : Int32))) ||| (own_b d2 (2 : Int32) nn (0 : Int32)))), .second, .unset, .unset] [(.long (own_b d0 (0 : Int32) nn (1 : Int32)))])) P98 (fun t_ k_ => st99 t_ k_)
    have P101 := own_step (C := T99.setTop (mkF m 206 #[.val (.int pk), .val (.int qq), .val (.int aa), .val (.int bb), .val (.int d0), .val (.int d1), .val (.int d2), .val (.int nn), .val (.ref b10), .val (.int (aa &&& (2147483647 : Int32))), .val (.int (own_max (aa &&& (2147483647 : Int32)) bb)), .val (.ref x18), .val (.ref b26), .val (.long (((own_b d0 (0 : Int32) nn (0 : Int32)) ||| (own_b d1 (1 : Int32) nn (0 : Int32))) ||| (own_b d2 (2 : Int32) nn (0 : Int32)))), .second, .unset, .unset] [(.int (1 : Int32)), (.int nn), (.int (1 : Int32)), (.int d1), (.long (own_b d0 (0 : Int32) nn (1 : Int32)))])) P100 (by
      intro tt_ kk_
      refine XS.iload X99.here hx rfl (hb hby at_200) rfl ?_
      refine XS.iconst X99.here hx rfl (hb hby at_202) ?_
      refine XS.iload X99.here hx rfl (hb hby at_203) rfl ?_
      refine XS.iconst X99.here hx rfl (hb hby at_205) ?_
      exact kk_)
    obtain ⟨_, _, ⟨T102, L102, k102, n102⟩, -, X102, ⟨Lc102, hQ102, l102, y102, z102⟩, st102⟩ := Jvm.LawKit.callS X99 hx (y := (⟨"com/example/gatehouse/gatehouse/pattern/NameShapeCharactersPinLaw", "bit", "(IIII)J"⟩ : MethodName)) hownw51 (mvT hZw51 (hw _ (List.mem_of_getElem? (i := 75) rfl))) (mvT hZw51 (hw _ (List.mem_of_getElem? (i := 76) rfl))) (mvT hZw51 (hw _ (List.mem_of_getElem? (i := 77) rfl))) (mvT hZw51 (hw _ (List.mem_of_getElem? (i := 78) rfl))) (by decide) (backOf (W := 2) (rm_own_b l Z a0 hw [] d1 (1 : Int32) nn (1 : Int32) T70.heap n0 Z86 ) hZw51 (hw _ (List.mem_of_getElem? (i := 78) rfl)) (hw _ (List.mem_of_getElem? (i := 77) rfl)) (by decide) (by decide)) (g := (mkF m 206 #[.val (.int pk), .val (.int qq), .val (.int aa), .val (.int bb), .val (.int d0), .val (.int d1), .val (.int d2), .val (.int nn), .val (.ref b10), .val (.int (aa &&& (2147483647 : Int32))), .val (.int (own_max (aa &&& (2147483647 : Int32)) bb)), .val (.ref x18), .val (.ref b26), .val (.long (((own_b d0 (0 : Int32) nn (0 : Int32)) ||| (own_b d1 (1 : Int32) nn (0 : Int32))) ||| (own_b d2 (2 : Int32) nn (0 : Int32)))), .second, .unset, .unset] [(.int (1 : Int32)), (.int nn), (.int (1 : Int32)), (.int d1), (.long (own_b d0 (0 : Int32) nn (1 : Int32)))])) rfl (by rw [hml]; rfl) (argsL := [(.int d1), (.int (1 : Int32)), (.int nn), (.int (1 : Int32))]) (rest := [(.long (own_b d0 (0 : Int32) nn (1 : Int32)))]) (lenOf pd20 rfl) rfl (by show 2 * 0 + _ ≤ _; exact Nat.le_of_eq rfl) (hb hby at_206) (fun _ _ => ⟨rfl, e99, (by decide : 7 + 0 ≤ _), (by decide : 18 + 0 ≤ _)⟩)
    dsimp only [Pt.U, Pt.locs, Pt.cells, Pt.slots] at X102 l102 y102 z102 st102 hQ102
    subst l102 y102 z102
    obtain ⟨rfl, N102q, e102⟩ := hQ102
    have N102 := Fr.app N99 N102q
    have P103 := own_step (C := T102.setTop (mkF m 209 #[.val (.int pk), .val (.int qq), .val (.int aa), .val (.int bb), .val (.int d0), .val (.int d1), .val (.int d2), .val (.int nn), .val (.ref b10), .val (.int (aa &&& (2147483647 : Int32))), .val (.int (own_max (aa &&& (2147483647 : Int32)) bb)), .val (.ref x18), .val (.ref b26), .val (.long (((own_b d0 (0 : Int32) nn (0 : Int32)) ||| (own_b d1 (1 : Int32) nn (0 : Int32))) ||| (own_b d2 (2 : Int32) nn (0 : Int32)))), .second, .unset, .unset] [(.long (own_b d1 (1 : Int32) nn (1 : Int32))), (.long (own_b d0 (0 : Int32) nn (1 : Int32)))])) P101 (fun t_ k_ => st102 t_ k_)
    have P104 := own_step (C := T102.setTop (mkF m 216 #[.val (.int pk), .val (.int qq), .val (.int aa), .val (.int bb), .val (.int d0), .val (.int d1), .val (.int d2), .val (.int nn), .val (.ref b10), .val (.int (aa &&& (2147483647 : Int32))), .val (.int (own_max (aa &&& (2147483647 : Int32)) bb)), .val (.ref x18), .val (.ref b26), .val (.long (((own_b d0 (0 : Int32) nn (0 : Int32)) ||| (own_b d1 (1 : Int32) nn (0 : Int32))) ||| (own_b d2 (2 : Int32) nn (0 : Int32)))), .second, .unset, .unset] [(.int (1 : Int32)), (.int nn), (.int (2 : Int32)), (.int d2), (.long ((own_b d0 (0 : Int32) nn (1 : Int32)) ||| (own_b d1 (1 : Int32) nn (1 : Int32))))])) P103 (by
      intro tt_ kk_
      refine XS.lor X102.here hx rfl (hb hby at_209) rfl ?_
      refine XS.iload X102.here hx rfl (hb hby at_210) rfl ?_
      refine XS.iconst X102.here hx rfl (hb hby at_212) ?_
      refine XS.iload X102.here hx rfl (hb hby at_213) rfl ?_
      refine XS.iconst X102.here hx rfl (hb hby at_215) ?_
      exact kk_)
    obtain ⟨_, _, ⟨T105, L105, k105, n105⟩, -, X105, ⟨Lc105, hQ105, l105, y105, z105⟩, st105⟩ := Jvm.LawKit.callS X102 hx (y := (⟨"com/example/gatehouse/gatehouse/pattern/NameShapeCharactersPinLaw", "bit", "(IIII)J"⟩ : MethodName)) hownw51 (mvT hZw51 (hw _ (List.mem_of_getElem? (i := 75) rfl))) (mvT hZw51 (hw _ (List.mem_of_getElem? (i := 76) rfl))) (mvT hZw51 (hw _ (List.mem_of_getElem? (i := 77) rfl))) (mvT hZw51 (hw _ (List.mem_of_getElem? (i := 78) rfl))) (by decide) (backOf (W := 2) (rm_own_b l Z a0 hw [] d2 (2 : Int32) nn (1 : Int32) T70.heap n0 Z86 ) hZw51 (hw _ (List.mem_of_getElem? (i := 78) rfl)) (hw _ (List.mem_of_getElem? (i := 77) rfl)) (by decide) (by decide)) (g := (mkF m 216 #[.val (.int pk), .val (.int qq), .val (.int aa), .val (.int bb), .val (.int d0), .val (.int d1), .val (.int d2), .val (.int nn), .val (.ref b10), .val (.int (aa &&& (2147483647 : Int32))), .val (.int (own_max (aa &&& (2147483647 : Int32)) bb)), .val (.ref x18), .val (.ref b26), .val (.long (((own_b d0 (0 : Int32) nn (0 : Int32)) ||| (own_b d1 (1 : Int32) nn (0 : Int32))) ||| (own_b d2 (2 : Int32) nn (0 : Int32)))), .second, .unset, .unset] [(.int (1 : Int32)), (.int nn), (.int (2 : Int32)), (.int d2), (.long ((own_b d0 (0 : Int32) nn (1 : Int32)) ||| (own_b d1 (1 : Int32) nn (1 : Int32))))])) rfl (by rw [hml]; rfl) (argsL := [(.int d2), (.int (2 : Int32)), (.int nn), (.int (1 : Int32))]) (rest := [(.long ((own_b d0 (0 : Int32) nn (1 : Int32)) ||| (own_b d1 (1 : Int32) nn (1 : Int32))))]) (lenOf pd20 rfl) rfl (by show 2 * 0 + _ ≤ _; exact Nat.le_of_eq rfl) (hb hby at_216) (fun _ _ => ⟨rfl, e102, (by decide : 7 + 0 ≤ _), (by decide : 18 + 0 ≤ _)⟩)
    dsimp only [Pt.U, Pt.locs, Pt.cells, Pt.slots] at X105 l105 y105 z105 st105 hQ105
    subst l105 y105 z105
    obtain ⟨rfl, N105q, e105⟩ := hQ105
    have N105 := Fr.app N102 N105q
    have P106 := own_step (C := T105.setTop (mkF m 219 #[.val (.int pk), .val (.int qq), .val (.int aa), .val (.int bb), .val (.int d0), .val (.int d1), .val (.int d2), .val (.int nn), .val (.ref b10), .val (.int (aa &&& (2147483647 : Int32))), .val (.int (own_max (aa &&& (2147483647 : Int32)) bb)), .val (.ref x18), .val (.ref b26), .val (.long (((own_b d0 (0 : Int32) nn (0 : Int32)) ||| (own_b d1 (1 : Int32) nn (0 : Int32))) ||| (own_b d2 (2 : Int32) nn (0 : Int32)))), .second, .unset, .unset] [(.long (own_b d2 (2 : Int32) nn (1 : Int32))), (.long ((own_b d0 (0 : Int32) nn (1 : Int32)) ||| (own_b d1 (1 : Int32) nn (1 : Int32))))])) P104 (fun t_ k_ => st105 t_ k_)
    have P107 := own_step (C := T105.setTop (mkF m 225 #[.val (.int pk), .val (.int qq), .val (.int aa), .val (.int bb), .val (.int d0), .val (.int d1), .val (.int d2), .val (.int nn), .val (.ref b10), .val (.int (aa &&& (2147483647 : Int32))), .val (.int (own_max (aa &&& (2147483647 : Int32)) bb)), .val (.ref x18), .val (.ref b26), .val (.long (((own_b d0 (0 : Int32) nn (0 : Int32)) ||| (own_b d1 (1 : Int32) nn (0 : Int32))) ||| (own_b d2 (2 : Int32) nn (0 : Int32)))), .second, .val (.long (((own_b d0 (0 : Int32) nn (1 : Int32)) ||| (own_b d1 (1 : Int32) nn (1 : Int32))) ||| (own_b d2 (2 : Int32) nn (1 : Int32)))), .second] [(.int (0 : Int32)), (.ref b26)])) P106 (by
      intro tt_ kk_
      refine XS.lor X105.here hx rfl (hb hby at_219) rfl ?_
      refine XS.lstore X105.here hx rfl (hb hby at_220) rfl (l' := #[.val (.int pk), .val (.int qq), .val (.int aa), .val (.int bb), .val (.int d0), .val (.int d1), .val (.int d2), .val (.int nn), .val (.ref b10), .val (.int (aa &&& (2147483647 : Int32))), .val (.int (own_max (aa &&& (2147483647 : Int32)) bb)), .val (.ref x18), .val (.ref b26), .val (.long (((own_b d0 (0 : Int32) nn (0 : Int32)) ||| (own_b d1 (1 : Int32) nn (0 : Int32))) ||| (own_b d2 (2 : Int32) nn (0 : Int32)))), .second, .val (.long (((own_b d0 (0 : Int32) nn (1 : Int32)) ||| (own_b d1 (1 : Int32) nn (1 : Int32))) ||| (own_b d2 (2 : Int32) nn (1 : Int32)))), .second]) rfl ?_
      refine XS.aload X105.here hx rfl (hb hby at_222) rfl rfl ?_
      refine XS.iconst X105.here hx rfl (hb hby at_224) ?_
      exact kk_)
    obtain ⟨cq108, kq108, q108a, q108b, q108c⟩ := isOf hZw51 e105 f71
    obtain ⟨_, _, ⟨T108, L108, k108, n108⟩, -, X108, ⟨Lc108, hQ108, l108, y108, z108⟩, st108⟩ := X105.virtualBack hx (y := (⟨"com/example/gatehouse/gatehouse/pattern/NameShape", "characters", "(I)J"⟩ : MethodName)) (z := (⟨"com/example/gatehouse/gatehouse/pattern/NameShape", "characters", "(I)J"⟩ : MethodName)) hownw51 (mvT hZw51 (hw _ (List.mem_of_getElem? (i := 79) rfl))) (mvT hZw51 (hw _ (List.mem_of_getElem? (i := 80) rfl))) (notFace_of_selects (args := #[]) (mvT hZw51 (hw _ (List.mem_of_getElem? (i := 82) rfl)))) (mvT hZw51 (hw _ (List.mem_of_getElem? (i := 82) rfl))) (mvT hZw51 (hw _ (List.mem_of_getElem? (i := 81) rfl))) (by decide) (backOf (W := 0) (rm_own_chr l Z a0 hw [] b26 (0 : Int32) (0 : Int64) (0 : Int64) T70.heap n0 Z86 f72 f73) hZw51 (hw _ (List.mem_of_getElem? (i := 83) rfl)) (hw _ (List.mem_of_getElem? (i := 34) rfl)) (by decide) (by decide)) q108a q108c (g := (mkF m 225 #[.val (.int pk), .val (.int qq), .val (.int aa), .val (.int bb), .val (.int d0), .val (.int d1), .val (.int d2), .val (.int nn), .val (.ref b10), .val (.int (aa &&& (2147483647 : Int32))), .val (.int (own_max (aa &&& (2147483647 : Int32)) bb)), .val (.ref x18), .val (.ref b26), .val (.long (((own_b d0 (0 : Int32) nn (0 : Int32)) ||| (own_b d1 (1 : Int32) nn (0 : Int32))) ||| (own_b d2 (2 : Int32) nn (0 : Int32)))), .second, .val (.long (((own_b d0 (0 : Int32) nn (1 : Int32)) ||| (own_b d1 (1 : Int32) nn (1 : Int32))) ||| (own_b d2 (2 : Int32) nn (1 : Int32)))), .second] [(.int (0 : Int32)), (.ref b26)])) rfl (by rw [hml]; rfl) (Steps.refl _) (argsL := [(.int (0 : Int32))]) (rest := []) (lenOf pd21 rfl) rfl (by show 2 * 0 + _ ≤ _; exact Nat.le_of_eq rfl) (hb hby at_225) (fun _ _ => ⟨rfl, e105, (by decide : 7 + 0 ≤ _), (by decide : 18 + 0 ≤ _)⟩)
    dsimp only [Pt.U, Pt.locs, Pt.cells, Pt.slots] at X108 l108 y108 z108 st108 hQ108
    subst l108 y108 z108
    obtain ⟨rfl, N108q, e108⟩ := hQ108
    have N108 := Fr.app N105 N108q
    have P109 := own_step (C := T108.setTop (mkF m 228 #[.val (.int pk), .val (.int qq), .val (.int aa), .val (.int bb), .val (.int d0), .val (.int d1), .val (.int d2), .val (.int nn), .val (.ref b10), .val (.int (aa &&& (2147483647 : Int32))), .val (.int (own_max (aa &&& (2147483647 : Int32)) bb)), .val (.ref x18), .val (.ref b26), .val (.long (((own_b d0 (0 : Int32) nn (0 : Int32)) ||| (own_b d1 (1 : Int32) nn (0 : Int32))) ||| (own_b d2 (2 : Int32) nn (0 : Int32)))), .second, .val (.long (((own_b d0 (0 : Int32) nn (1 : Int32)) ||| (own_b d1 (1 : Int32) nn (1 : Int32))) ||| (own_b d2 (2 : Int32) nn (1 : Int32)))), .second] [(.long (own_chr (0 : Int32) (0 : Int64) (0 : Int64)))])) P107 (fun t_ k_ => st108.trans k_)
    have P110 := own_step (C := T108.setTop (mkF m 231 #[.val (.int pk), .val (.int qq), .val (.int aa), .val (.int bb), .val (.int d0), .val (.int d1), .val (.int d2), .val (.int nn), .val (.ref b10), .val (.int (aa &&& (2147483647 : Int32))), .val (.int (own_max (aa &&& (2147483647 : Int32)) bb)), .val (.ref x18), .val (.ref b26), .val (.long (((own_b d0 (0 : Int32) nn (0 : Int32)) ||| (own_b d1 (1 : Int32) nn (0 : Int32))) ||| (own_b d2 (2 : Int32) nn (0 : Int32)))), .second, .val (.long (((own_b d0 (0 : Int32) nn (1 : Int32)) ||| (own_b d1 (1 : Int32) nn (1 : Int32))) ||| (own_b d2 (2 : Int32) nn (1 : Int32)))), .second] [(.int (lcmpW (own_chr (0 : Int32) (0 : Int64) (0 : Int64)) (((own_b d0 (0 : Int32) nn (0 : Int32)) ||| (own_b d1 (1 : Int32) nn (0 : Int32))) ||| (own_b d2 (2 : Int32) nn (0 : Int32)))))])) P109 (by
      intro tt_ kk_
      refine XS.lload X108.here hx rfl (hb hby at_228) rfl ?_
      refine XS.lcmp X108.here hx rfl (hb hby at_230) rfl ?_
      exact kk_)
    have P111 := own_step (C := T108.setTop (mkF m 234 #[.val (.int pk), .val (.int qq), .val (.int aa), .val (.int bb), .val (.int d0), .val (.int d1), .val (.int d2), .val (.int nn), .val (.ref b10), .val (.int (aa &&& (2147483647 : Int32))), .val (.int (own_max (aa &&& (2147483647 : Int32)) bb)), .val (.ref x18), .val (.ref b26), .val (.long (((own_b d0 (0 : Int32) nn (0 : Int32)) ||| (own_b d1 (1 : Int32) nn (0 : Int32))) ||| (own_b d2 (2 : Int32) nn (0 : Int32)))), .second, .val (.long (((own_b d0 (0 : Int32) nn (1 : Int32)) ||| (own_b d1 (1 : Int32) nn (1 : Int32))) ||| (own_b d2 (2 : Int32) nn (1 : Int32)))), .second] [])) P110 (by
      intro tt_ kk_
      refine XS.ifNo X108.here hx rfl (hb hby at_231) rfl ((if0 _ _).trans (teq ((lw_eq _ _).mpr (own_f00 c7))).2) ?_
      exact kk_)
    have P112 := own_step (C := T108.setTop (mkF m 237 #[.val (.int pk), .val (.int qq), .val (.int aa), .val (.int bb), .val (.int d0), .val (.int d1), .val (.int d2), .val (.int nn), .val (.ref b10), .val (.int (aa &&& (2147483647 : Int32))), .val (.int (own_max (aa &&& (2147483647 : Int32)) bb)), .val (.ref x18), .val (.ref b26), .val (.long (((own_b d0 (0 : Int32) nn (0 : Int32)) ||| (own_b d1 (1 : Int32) nn (0 : Int32))) ||| (own_b d2 (2 : Int32) nn (0 : Int32)))), .second, .val (.long (((own_b d0 (0 : Int32) nn (1 : Int32)) ||| (own_b d1 (1 : Int32) nn (1 : Int32))) ||| (own_b d2 (2 : Int32) nn (1 : Int32)))), .second] [(.int (1 : Int32)), (.ref b26)])) P111 (by
      intro tt_ kk_
      refine XS.aload X108.here hx rfl (hb hby at_234) rfl rfl ?_
      refine XS.iconst X108.here hx rfl (hb hby at_236) ?_
      exact kk_)
    obtain ⟨cq113, kq113, q113a, q113b, q113c⟩ := isOf hZw51 e108 f71
    obtain ⟨_, _, ⟨T113, L113, k113, n113⟩, -, X113, ⟨Lc113, hQ113, l113, y113, z113⟩, st113⟩ := X108.virtualBack hx (y := (⟨"com/example/gatehouse/gatehouse/pattern/NameShape", "characters", "(I)J"⟩ : MethodName)) (z := (⟨"com/example/gatehouse/gatehouse/pattern/NameShape", "characters", "(I)J"⟩ : MethodName)) hownw51 (mvT hZw51 (hw _ (List.mem_of_getElem? (i := 79) rfl))) (mvT hZw51 (hw _ (List.mem_of_getElem? (i := 80) rfl))) (notFace_of_selects (args := #[]) (mvT hZw51 (hw _ (List.mem_of_getElem? (i := 82) rfl)))) (mvT hZw51 (hw _ (List.mem_of_getElem? (i := 82) rfl))) (mvT hZw51 (hw _ (List.mem_of_getElem? (i := 81) rfl))) (by decide) (backOf (W := 0) (rm_own_chr l Z a0 hw [] b26 (1 : Int32) (0 : Int64) (0 : Int64) T70.heap n0 Z86 f72 f73) hZw51 (hw _ (List.mem_of_getElem? (i := 83) rfl)) (hw _ (List.mem_of_getElem? (i := 34) rfl)) (by decide) (by decide)) q113a q113c (g := (mkF m 237 #[.val (.int pk), .val (.int qq), .val (.int aa), .val (.int bb), .val (.int d0), .val (.int d1), .val (.int d2), .val (.int nn), .val (.ref b10), .val (.int (aa &&& (2147483647 : Int32))), .val (.int (own_max (aa &&& (2147483647 : Int32)) bb)), .val (.ref x18), .val (.ref b26), .val (.long (((own_b d0 (0 : Int32) nn (0 : Int32)) ||| (own_b d1 (1 : Int32) nn (0 : Int32))) ||| (own_b d2 (2 : Int32) nn (0 : Int32)))), .second, .val (.long (((own_b d0 (0 : Int32) nn (1 : Int32)) ||| (own_b d1 (1 : Int32) nn (1 : Int32))) ||| (own_b d2 (2 : Int32) nn (1 : Int32)))), .second] [(.int (1 : Int32)), (.ref b26)])) rfl (by rw [hml]; rfl) (Steps.refl _) (argsL := [(.int (1 : Int32))]) (rest := []) (lenOf pd21 rfl) rfl (by show 2 * 0 + _ ≤ _; exact Nat.le_of_eq rfl) (hb hby at_237) (fun _ _ => ⟨rfl, e108, (by decide : 7 + 0 ≤ _), (by decide : 18 + 0 ≤ _)⟩)
    dsimp only [Pt.U, Pt.locs, Pt.cells, Pt.slots] at X113 l113 y113 z113 st113 hQ113
    subst l113 y113 z113
    obtain ⟨rfl, N113q, e113⟩ := hQ113
    have N113 := Fr.app N108 N113q
    have P114 := own_step (C := T113.setTop (mkF m 240 #[.val (.int pk), .val (.int qq), .val (.int aa), .val (.int bb), .val (.int d0), .val (.int d1), .val (.int d2), .val (.int nn), .val (.ref b10), .val (.int (aa &&& (2147483647 : Int32))), .val (.int (own_max (aa &&& (2147483647 : Int32)) bb)), .val (.ref x18), .val (.ref b26), .val (.long (((own_b d0 (0 : Int32) nn (0 : Int32)) ||| (own_b d1 (1 : Int32) nn (0 : Int32))) ||| (own_b d2 (2 : Int32) nn (0 : Int32)))), .second, .val (.long (((own_b d0 (0 : Int32) nn (1 : Int32)) ||| (own_b d1 (1 : Int32) nn (1 : Int32))) ||| (own_b d2 (2 : Int32) nn (1 : Int32)))), .second] [(.long (own_chr (1 : Int32) (0 : Int64) (0 : Int64)))])) P112 (fun t_ k_ => st113.trans k_)
    have P115 := own_step (C := T113.setTop (mkF m 243 #[.val (.int pk), .val (.int qq), .val (.int aa), .val (.int bb), .val (.int d0), .val (.int d1), .val (.int d2), .val (.int nn), .val (.ref b10), .val (.int (aa &&& (2147483647 : Int32))), .val (.int (own_max (aa &&& (2147483647 : Int32)) bb)), .val (.ref x18), .val (.ref b26), .val (.long (((own_b d0 (0 : Int32) nn (0 : Int32)) ||| (own_b d1 (1 : Int32) nn (0 : Int32))) ||| (own_b d2 (2 : Int32) nn (0 : Int32)))), .second, .val (.long (((own_b d0 (0 : Int32) nn (1 : Int32)) ||| (own_b d1 (1 : Int32) nn (1 : Int32))) ||| (own_b d2 (2 : Int32) nn (1 : Int32)))), .second] [(.int (lcmpW (own_chr (1 : Int32) (0 : Int64) (0 : Int64)) (((own_b d0 (0 : Int32) nn (1 : Int32)) ||| (own_b d1 (1 : Int32) nn (1 : Int32))) ||| (own_b d2 (2 : Int32) nn (1 : Int32)))))])) P114 (by
      intro tt_ kk_
      refine XS.lload X113.here hx rfl (hb hby at_240) rfl ?_
      refine XS.lcmp X113.here hx rfl (hb hby at_242) rfl ?_
      exact kk_)
    have P116 := own_step (C := T113.setTop (mkF m 246 #[.val (.int pk), .val (.int qq), .val (.int aa), .val (.int bb), .val (.int d0), .val (.int d1), .val (.int d2), .val (.int nn), .val (.ref b10), .val (.int (aa &&& (2147483647 : Int32))), .val (.int (own_max (aa &&& (2147483647 : Int32)) bb)), .val (.ref x18), .val (.ref b26), .val (.long (((own_b d0 (0 : Int32) nn (0 : Int32)) ||| (own_b d1 (1 : Int32) nn (0 : Int32))) ||| (own_b d2 (2 : Int32) nn (0 : Int32)))), .second, .val (.long (((own_b d0 (0 : Int32) nn (1 : Int32)) ||| (own_b d1 (1 : Int32) nn (1 : Int32))) ||| (own_b d2 (2 : Int32) nn (1 : Int32)))), .second] [])) P115 (by
      intro tt_ kk_
      refine XS.ifNo X113.here hx rfl (hb hby at_243) rfl ((if0 _ _).trans (teq ((lw_eq _ _).mpr (own_f01 c7))).2) ?_
      exact kk_)
    have P117 := own_step (C := T113.setTop (mkF m 251 #[.val (.int pk), .val (.int qq), .val (.int aa), .val (.int bb), .val (.int d0), .val (.int d1), .val (.int d2), .val (.int nn), .val (.ref b10), .val (.int (aa &&& (2147483647 : Int32))), .val (.int (own_max (aa &&& (2147483647 : Int32)) bb)), .val (.ref x18), .val (.ref b26), .val (.long (((own_b d0 (0 : Int32) nn (0 : Int32)) ||| (own_b d1 (1 : Int32) nn (0 : Int32))) ||| (own_b d2 (2 : Int32) nn (0 : Int32)))), .second, .val (.long (((own_b d0 (0 : Int32) nn (1 : Int32)) ||| (own_b d1 (1 : Int32) nn (1 : Int32))) ||| (own_b d2 (2 : Int32) nn (1 : Int32)))), .second] [(.int (1 : Int32))])) P116 (by
      intro tt_ kk_
      refine XS.iconst X113.here hx rfl (hb hby at_246) ?_
      refine XS.goto X113.here hx rfl (pc0 := 247) (pc' := 251) rfl (hb hby at_247) (by decide) (by decide) ?_
      exact kk_)
    obtain ⟨fs, hr, hrun, hended, hW⟩ := X113.leaveW hS51 (by rw [e113]; exact kz87) (v := some (.int (1 : Int32))) (fun h => by rw [Bd.returns] at h; cases h)
    refine ⟨_, _, P117 _ ?_, hrun, hended, _, _, rfl, ?_, ⟨hW.1, hW.2.1, hW.2.2.1, hW.2.2.2.mono (by decide) (by decide)⟩⟩
    · exact retN X113 hx (t := .boolean) Bd.returns (by simp) (hb hby at_251) hr
    · show Q0 Z _ _ _ _ _ _ h0 n0 _ T113.heap _
      rw [e113]
      exact ⟨rfl, N113⟩
  · have P118 := own_step (C := s₁.setTop (mkF m 48 #[.val (.int pk), .val (.int qq), .val (.int aa), .val (.int bb), .val (.int d0), .val (.int d1), .val (.int d2), .val (.int nn), .unset, .unset, .unset, .unset, .unset, .unset, .unset, .unset, .unset] [])) P6 (by
      intro tt_ kk_
      refine XS.ifYes X0.here hx rfl (pc0 := 37) (pc' := 48) rfl (hb hby at_37) rfl ((if0 _ _).trans (feq c7).2) (by decide) (by decide) ?_
      exact kk_)
    have P119 := own_step (C := s₁.setTop (mkF m 51 #[.val (.int pk), .val (.int qq), .val (.int aa), .val (.int bb), .val (.int d0), .val (.int d1), .val (.int d2), .val (.int nn), .unset, .unset, .unset, .unset, .unset, .unset, .unset, .unset, .unset] [(.int (1 : Int32)), (.int nn)])) P118 (by
      intro tt_ kk_
      refine XS.iload X0.here hx rfl (hb hby at_48) rfl ?_
      refine XS.iconst X0.here hx rfl (hb hby at_50) ?_
      exact kk_)
    by_cases c120 : nn = (1 : Int32)
    · have P121 := own_step (C := s₁.setTop (mkF m 54 #[.val (.int pk), .val (.int qq), .val (.int aa), .val (.int bb), .val (.int d0), .val (.int d1), .val (.int d2), .val (.int nn), .unset, .unset, .unset, .unset, .unset, .unset, .unset, .unset, .unset] [])) P119 (by
        intro tt_ kk_
        refine XS.icmpNo X0.here hx rfl (hb hby at_51) rfl (teq c120).2 ?_
        exact kk_)
      have P122 := own_step (C := s₁.setTop (mkF m 55 #[.val (.int pk), .val (.int qq), .val (.int aa), .val (.int bb), .val (.int d0), .val (.int d1), .val (.int d2), .val (.int nn), .unset, .unset, .unset, .unset, .unset, .unset, .unset, .unset, .unset] [(.int (1 : Int32))])) P121 (by
        intro tt_ kk_
        refine XS.iconst X0.here hx rfl (hb hby at_54) ?_
        exact kk_)
      obtain ⟨T123, h123, k123, X123, e123, E123, A123, st123⟩ := newP X0 hx hZ (hw _ (List.mem_of_getElem? (i := 0) rfl)) e0 (g := (mkF m 55 #[.val (.int pk), .val (.int qq), .val (.int aa), .val (.int bb), .val (.int d0), .val (.int d1), .val (.int d2), .val (.int nn), .unset, .unset, .unset, .unset, .unset, .unset, .unset, .unset, .unset] [(.int (1 : Int32))])) rfl (hb hby at_55) rfl (by decide) (cap := 1) (by decide) (by decide) (by decide) (by decide)
      obtain ⟨b123, g123⟩ : ∃ z, z = h0.size := ⟨_, rfl⟩
      rw [← g123] at A123 st123
      have g_b123 : n0 ≤ b123 := Nat.le_trans Z0 (Nat.le_of_eq g123.symm)
      have f124 := O.ext E123
      have Z125 : n0 ≤ h123.size := Nat.le_trans Z0 E123.1
      have V123 : Arv Z h123 b123 k123 .char (1 : Int32) [(.int (0 : Int32))] (.int (0 : Int32)) := (Arv.new A123 (by decide)).pad (pad_rep [] _ 1)
      have P126 := own_step (C := T123.setTop (mkF m 57 #[.val (.int pk), .val (.int qq), .val (.int aa), .val (.int bb), .val (.int d0), .val (.int d1), .val (.int d2), .val (.int nn), .unset, .unset, .unset, .unset, .unset, .unset, .unset, .unset, .unset] [(.ref b123)])) P122 (fun t_ k_ => st123 t_ k_)
      have P127 := own_step (C := T123.setTop (mkF m 61 #[.val (.int pk), .val (.int qq), .val (.int aa), .val (.int bb), .val (.int d0), .val (.int d1), .val (.int d2), .val (.int nn), .unset, .unset, .unset, .unset, .unset, .unset, .unset, .unset, .unset] [(.int d0), (.int (0 : Int32)), (.ref b123), (.ref b123)])) P126 (by
        intro tt_ kk_
        refine XS.dup X123.here hx rfl (hb hby at_57) rfl rfl ?_
        refine XS.iconst X123.here hx rfl (hb hby at_58) ?_
        refine XS.iload X123.here hx rfl (hb hby at_59) rfl ?_
        exact kk_)
      obtain ⟨cl128, Ar128, q128, S128, M128, H128, G128⟩ := id V123
      obtain ⟨T129, h129, X129, e129, W129, st129⟩ := stC X123 hx hZ e123 Ar128 (j := (0 : Int32)) (inb_of S128 (by decide : ¬ (0 : Int32) < 0 ∧ (0 : Int32) < (1 : Int32))) (g := (mkF m 61 #[.val (.int pk), .val (.int qq), .val (.int aa), .val (.int bb), .val (.int d0), .val (.int d1), .val (.int d2), .val (.int nn), .unset, .unset, .unset, .unset, .unset, .unset, .unset, .unset, .unset] [(.int d0), (.int (0 : Int32)), (.ref b123), (.ref b123)])) rfl rfl (hb hby at_61)
      have f130 := f124.wr W129 g_b123
      have Z132 : n0 ≤ h129.size := Nat.le_trans Z125 (Keep.of_wr W129).1
      have V129 : Arv Z h129 b123 k123 .char (1 : Int32) [(.int (nar .char d0))] (.int (0 : Int32)) := Arv.set Ar128 q128 S128 M128 H128 G128 (fits_nar_char _) W129 0 rfl (Nat.le_of_ble_eq_true rfl)
      have N129 := Fr.snoc X129 N0 g_b123
      have P133 := own_step (C := T129.setTop (mkF m 62 #[.val (.int pk), .val (.int qq), .val (.int aa), .val (.int bb), .val (.int d0), .val (.int d1), .val (.int d2), .val (.int nn), .unset, .unset, .unset, .unset, .unset, .unset, .unset, .unset, .unset] [(.ref b123)])) P127 (fun t_ k_ => st129 t_ k_)
      have P134 := own_step (C := T129.setTop (mkF m 120 #[.val (.int pk), .val (.int qq), .val (.int aa), .val (.int bb), .val (.int d0), .val (.int d1), .val (.int d2), .val (.int nn), .val (.ref b123), .val (.int (aa &&& (2147483647 : Int32))), .unset, .unset, .unset, .unset, .unset, .unset, .unset] [(.int bb), (.int (aa &&& (2147483647 : Int32)))])) P133 (by
        intro tt_ kk_
        refine XS.astore X129.here hx rfl (hb hby at_62) rfl rfl (l' := #[.val (.int pk), .val (.int qq), .val (.int aa), .val (.int bb), .val (.int d0), .val (.int d1), .val (.int d2), .val (.int nn), .val (.ref b123), .unset, .unset, .unset, .unset, .unset, .unset, .unset, .unset]) rfl ?_
        refine XS.goto X129.here hx rfl (pc0 := 64) (pc' := 111) rfl (hb hby at_64) (by decide) (by decide) ?_
        refine XS.iloadN X129.here hx rfl (hb hby at_111) rfl ?_
        refine X129.ldcInt hx hown (mvT hZ (hw _ (List.mem_of_getElem? (i := 1) rfl))) (g := (mkF m 112 #[.val (.int pk), .val (.int qq), .val (.int aa), .val (.int bb), .val (.int d0), .val (.int d1), .val (.int d2), .val (.int nn), .val (.ref b123), .unset, .unset, .unset, .unset, .unset, .unset, .unset, .unset] [(.int aa)])) rfl (hb hby at_112) _ ?_
        refine XS.iand X129.here hx rfl (hb hby at_114) rfl ?_
        refine XS.istore X129.here hx rfl (hb hby at_115) rfl (l' := #[.val (.int pk), .val (.int qq), .val (.int aa), .val (.int bb), .val (.int d0), .val (.int d1), .val (.int d2), .val (.int nn), .val (.ref b123), .val (.int (aa &&& (2147483647 : Int32))), .unset, .unset, .unset, .unset, .unset, .unset, .unset]) rfl ?_
        show Steps p.tables e below (T129.setTop (mkF m 117 #[.val (.int pk), .val (.int qq), .val (.int aa), .val (.int bb), .val (.int d0), .val (.int d1), .val (.int d2), .val (.int nn), .val (.ref b123), .val (.int (aa &&& (2147483647 : Int32))), .unset, .unset, .unset, .unset, .unset, .unset, .unset] [])) _
        refine XS.iload X129.here hx rfl (hb hby at_117) rfl ?_
        refine XS.iloadN X129.here hx rfl (hb hby at_119) rfl ?_
        exact kk_)
      obtain ⟨_, _, ⟨T135, L135, k135, n135⟩, -, X135, ⟨Lc135, hQ135, l135, y135, z135⟩, st135⟩ := Jvm.LawKit.callS X129 hx (y := (⟨"java/lang/Math", "max", "(II)I"⟩ : MethodName)) hown (mvT hZ (hw _ (List.mem_of_getElem? (i := 2) rfl))) (mvT hZ (hw _ (List.mem_of_getElem? (i := 3) rfl))) (mvT hZ (hw _ (List.mem_of_getElem? (i := 4) rfl))) (mvT hZ (hw _ (List.mem_of_getElem? (i := 5) rfl))) (by decide) (backOf (W := 0) (rm_own_max l Z a0 hw [] (aa &&& (2147483647 : Int32)) bb h129 n0 Z132 ) hZ (hw _ (List.mem_of_getElem? (i := 5) rfl)) (hw _ (List.mem_of_getElem? (i := 4) rfl)) (by decide) (by decide)) (g := (mkF m 120 #[.val (.int pk), .val (.int qq), .val (.int aa), .val (.int bb), .val (.int d0), .val (.int d1), .val (.int d2), .val (.int nn), .val (.ref b123), .val (.int (aa &&& (2147483647 : Int32))), .unset, .unset, .unset, .unset, .unset, .unset, .unset] [(.int bb), (.int (aa &&& (2147483647 : Int32)))])) rfl (by rw [hml]; rfl) (argsL := [(.int (aa &&& (2147483647 : Int32))), (.int bb)]) (rest := []) (lenOf pd16 rfl) rfl (by show 2 * 0 + _ ≤ _; exact Nat.le_of_eq rfl) (hb hby at_120) (fun _ _ => ⟨rfl, e129, (by decide : 1 + 0 ≤ _), (by decide : 1 + 0 ≤ _)⟩)
      dsimp only [Pt.U, Pt.locs, Pt.cells, Pt.slots] at X135 l135 y135 z135 st135 hQ135
      subst l135 y135 z135
      obtain ⟨rfl, N135q, e135⟩ := hQ135
      have N135 := Fr.app N129 N135q
      have P136 := own_step (C := T135.setTop (mkF m 123 #[.val (.int pk), .val (.int qq), .val (.int aa), .val (.int bb), .val (.int d0), .val (.int d1), .val (.int d2), .val (.int nn), .val (.ref b123), .val (.int (aa &&& (2147483647 : Int32))), .unset, .unset, .unset, .unset, .unset, .unset, .unset] [(.int (own_max (aa &&& (2147483647 : Int32)) bb))])) P134 (fun t_ k_ => st135 t_ k_)
      have P137 := own_step (C := T135.setTop (mkF m 131 #[.val (.int pk), .val (.int qq), .val (.int aa), .val (.int bb), .val (.int d0), .val (.int d1), .val (.int d2), .val (.int nn), .val (.ref b123), .val (.int (aa &&& (2147483647 : Int32))), .val (.int (own_max (aa &&& (2147483647 : Int32)) bb)), .unset, .unset, .unset, .unset, .unset, .unset] [(.int ((qq &&& (255 : Int32)).toUInt32.toUInt16.toUInt32.toInt32))])) P136 (by
        intro tt_ kk_
        refine XS.istore X135.here hx rfl (hb hby at_123) rfl (l' := #[.val (.int pk), .val (.int qq), .val (.int aa), .val (.int bb), .val (.int d0), .val (.int d1), .val (.int d2), .val (.int nn), .val (.ref b123), .val (.int (aa &&& (2147483647 : Int32))), .val (.int (own_max (aa &&& (2147483647 : Int32)) bb)), .unset, .unset, .unset, .unset, .unset, .unset]) rfl ?_
        refine XS.iloadN X135.here hx rfl (hb hby at_125) rfl ?_
        refine XS.sipush X135.here hx rfl (hb hby at_126) ?_
        refine XS.iand X135.here hx rfl (hb hby at_129) rfl ?_
        refine XS.i2c X135.here hx rfl (hb hby at_130) rfl ?_
        exact kk_)
      obtain ⟨_, _, ⟨T138, L138, k138, n138⟩, -, X138, ⟨Lc138, hQ138, l138, y138, z138⟩, st138⟩ := Jvm.LawKit.callS X135 hx (y := (⟨"java/lang/String", "valueOf", "(C)Ljava/lang/String;"⟩ : MethodName)) hown (mvT hZ (hw _ (List.mem_of_getElem? (i := 6) rfl))) (mvT hZ (hw _ (List.mem_of_getElem? (i := 7) rfl))) (mvT hZ (hw _ (List.mem_of_getElem? (i := 8) rfl))) (mvT hZ (hw _ (List.mem_of_getElem? (i := 9) rfl))) (by decide) (backOf (W := 0) (rm_valueOf l Z a0 hw [] ((qq &&& (255 : Int32)).toUInt32.toUInt16.toUInt32.toInt32) cs h129 n0 Z132 f130 Scs hcs (own_v255 _)) hZ (hw _ (List.mem_of_getElem? (i := 9) rfl)) (hw _ (List.mem_of_getElem? (i := 8) rfl)) (by decide) (by decide)) (g := (mkF m 131 #[.val (.int pk), .val (.int qq), .val (.int aa), .val (.int bb), .val (.int d0), .val (.int d1), .val (.int d2), .val (.int nn), .val (.ref b123), .val (.int (aa &&& (2147483647 : Int32))), .val (.int (own_max (aa &&& (2147483647 : Int32)) bb)), .unset, .unset, .unset, .unset, .unset, .unset] [(.int ((qq &&& (255 : Int32)).toUInt32.toUInt16.toUInt32.toInt32))])) rfl (by rw [hml]; rfl) (argsL := [(.int ((qq &&& (255 : Int32)).toUInt32.toUInt16.toUInt32.toInt32))]) (rest := []) (lenOf pd17 rfl) rfl (by show 2 * 0 + _ ≤ _; exact Nat.le_of_eq rfl) (hb hby at_131) (fun _ _ => ⟨rfl, e135, (by decide : 1 + 2 ≤ _), (by decide : 1 + 5 ≤ _)⟩)
      dsimp only [Pt.U, Pt.locs, Pt.cells, Pt.slots] at X138 l138 y138 z138 st138 hQ138
      subst l138 y138 z138
      obtain ⟨x138, rfl, N138q, K138, f139, f140⟩ := hQ138
      have N138 := Fr.app N135 N138q
      have ne_b123_x138 : b123 ≠ x138 := Nat.ne_of_lt (Nat.lt_of_lt_of_le V129.lt f139)
      have g_x138 : n0 ≤ x138 := Nat.le_trans Z132 f139
      have f141 := f130.keep K138 all0
      have f142 := V129.keep K138 nin0
      have Z143 : n0 ≤ T138.heap.size := Nat.le_trans Z132 K138.1
      have P144 := own_step (C := T138.setTop (mkF m 134 #[.val (.int pk), .val (.int qq), .val (.int aa), .val (.int bb), .val (.int d0), .val (.int d1), .val (.int d2), .val (.int nn), .val (.ref b123), .val (.int (aa &&& (2147483647 : Int32))), .val (.int (own_max (aa &&& (2147483647 : Int32)) bb)), .unset, .unset, .unset, .unset, .unset, .unset] [(.ref x138)])) P137 (fun t_ k_ => st138 t_ k_)
      have P145 := own_step (C := T138.setTop (mkF m 136 #[.val (.int pk), .val (.int qq), .val (.int aa), .val (.int bb), .val (.int d0), .val (.int d1), .val (.int d2), .val (.int nn), .val (.ref b123), .val (.int (aa &&& (2147483647 : Int32))), .val (.int (own_max (aa &&& (2147483647 : Int32)) bb)), .val (.ref x138), .unset, .unset, .unset, .unset, .unset] [])) P144 (by
        intro tt_ kk_
        refine XS.astore X138.here hx rfl (hb hby at_134) rfl rfl (l' := #[.val (.int pk), .val (.int qq), .val (.int aa), .val (.int bb), .val (.int d0), .val (.int d1), .val (.int d2), .val (.int nn), .val (.ref b123), .val (.int (aa &&& (2147483647 : Int32))), .val (.int (own_max (aa &&& (2147483647 : Int32)) bb)), .val (.ref x138), .unset, .unset, .unset, .unset, .unset]) rfl ?_
        exact kk_)
      obtain ⟨T146, h146, X146, e146, E146, A146, D146, -, st146⟩ := newO X138 hx hZ hown (hw _ (List.mem_of_getElem? (i := 32) rfl)) (hw _ (List.mem_of_getElem? (i := 33) rfl)) (hw _ (List.mem_of_getElem? (i := 34) rfl)) rfl (g := (mkF m 136 #[.val (.int pk), .val (.int qq), .val (.int aa), .val (.int bb), .val (.int d0), .val (.int d1), .val (.int d2), .val (.int nn), .val (.ref b123), .val (.int (aa &&& (2147483647 : Int32))), .val (.int (own_max (aa &&& (2147483647 : Int32)) bb)), .val (.ref x138), .unset, .unset, .unset, .unset, .unset] [])) rfl (hb hby at_136) (by decide) (by decide)
      obtain ⟨b146, g146⟩ : ∃ z, z = T138.heap.size := ⟨_, rfl⟩
      rw [← g146] at A146 D146 st146
      have ne_b123_b146 : b123 ≠ b146 := Nat.ne_of_lt (Nat.lt_of_lt_of_le f142.lt (Nat.le_of_eq g146.symm))
      have g_b146 : n0 ≤ b146 := Nat.le_trans Z143 (Nat.le_of_eq g146.symm)
      have f147 := f141.ext E146
      have f148 := f142.ext E146
      have Z149 : n0 ≤ h146.size := Nat.le_trans Z143 E146.1
      have f150 : Fld Z h146 b146 "com/example/gatehouse/gatehouse/pattern/NameShape" "begin" "Ljava/lang/String;" .null := D146 (Or.inr (hw _ (List.mem_of_getElem? (i := 66) rfl))) (ty := (.object "java/lang/String")) (by decide)
      have f151 : Fld Z h146 b146 "com/example/gatehouse/gatehouse/pattern/NameShape" "low" "J" (.long (0 : Int64)) := D146 (Or.inr (hw _ (List.mem_of_getElem? (i := 68) rfl))) (ty := .long) (by decide)
      have f152 : Fld Z h146 b146 "com/example/gatehouse/gatehouse/pattern/NameShape" "high" "J" (.long (0 : Int64)) := D146 (Or.inr (hw _ (List.mem_of_getElem? (i := 70) rfl))) (ty := .long) (by decide)
      have f153 : Fld Z h146 b146 "com/example/gatehouse/gatehouse/pattern/NameShape" "least" "I" (.int (0 : Int32)) := D146 (Or.inr (hw _ (List.mem_of_getElem? (i := 72) rfl))) (ty := .int) (by decide)
      have f154 : Fld Z h146 b146 "com/example/gatehouse/gatehouse/pattern/NameShape" "most" "I" (.int (0 : Int32)) := D146 (Or.inr (hw _ (List.mem_of_getElem? (i := 74) rfl))) (ty := .int) (by decide)
      have P155 := own_step (C := T146.setTop (mkF m 139 #[.val (.int pk), .val (.int qq), .val (.int aa), .val (.int bb), .val (.int d0), .val (.int d1), .val (.int d2), .val (.int nn), .val (.ref b123), .val (.int (aa &&& (2147483647 : Int32))), .val (.int (own_max (aa &&& (2147483647 : Int32)) bb)), .val (.ref x138), .unset, .unset, .unset, .unset, .unset] [(.ref b146)])) P145 (fun t_ k_ => st146 t_ k_)
      have P156 := own_step (C := T146.setTop (mkF m 142 #[.val (.int pk), .val (.int qq), .val (.int aa), .val (.int bb), .val (.int d0), .val (.int d1), .val (.int d2), .val (.int nn), .val (.ref b123), .val (.int (aa &&& (2147483647 : Int32))), .val (.int (own_max (aa &&& (2147483647 : Int32)) bb)), .val (.ref x138), .unset, .unset, .unset, .unset, .unset] [(.ref x138), (.ref b146), (.ref b146)])) P155 (by
        intro tt_ kk_
        refine XS.dup X146.here hx rfl (hb hby at_139) rfl rfl ?_
        refine XS.aload X146.here hx rfl (hb hby at_140) rfl rfl ?_
        exact kk_)
      obtain ⟨T157, h157, X157, e157, E157, A157, D157, -, st157⟩ := newO X146 hx hZ hown (hw _ (List.mem_of_getElem? (i := 35) rfl)) (hw _ (List.mem_of_getElem? (i := 16) rfl)) (hw _ (List.mem_of_getElem? (i := 8) rfl)) e146 (g := (mkF m 142 #[.val (.int pk), .val (.int qq), .val (.int aa), .val (.int bb), .val (.int d0), .val (.int d1), .val (.int d2), .val (.int nn), .val (.ref b123), .val (.int (aa &&& (2147483647 : Int32))), .val (.int (own_max (aa &&& (2147483647 : Int32)) bb)), .val (.ref x138), .unset, .unset, .unset, .unset, .unset] [(.ref x138), (.ref b146), (.ref b146)])) rfl (hb hby at_142) (by decide) (by decide)
      obtain ⟨b157, g157⟩ : ∃ z, z = h146.size := ⟨_, rfl⟩
      rw [← g157] at A157 D157 st157
      have ne_b123_b157 : b123 ≠ b157 := Nat.ne_of_lt (Nat.lt_of_lt_of_le f148.lt (Nat.le_of_eq g157.symm))
      have ne_b146_b157 : b146 ≠ b157 := Nat.ne_of_lt (Nat.lt_of_lt_of_le A146.lt (Nat.le_of_eq g157.symm))
      have g_b157 : n0 ≤ b157 := Nat.le_trans Z149 (Nat.le_of_eq g157.symm)
      have f158 := f147.ext E157
      have f159 := f148.ext E157
      have f160 := A146.ext E157
      have f161 := f150.ext E157
      have f162 := f151.ext E157
      have f163 := f152.ext E157
      have f164 := f153.ext E157
      have f165 := f154.ext E157
      have Z166 : n0 ≤ h157.size := Nat.le_trans Z149 E157.1
      have f167 : Fld Z h157 b157 "java/lang/String" "value" "[B" .null := D157 (Or.inr (hw _ (List.mem_of_getElem? (i := 29) rfl))) (ty := (.array .byte)) (by decide)
      have f168 : Fld Z h157 b157 "java/lang/String" "coder" "B" (.int (0 : Int32)) := D157 (Or.inr (hw _ (List.mem_of_getElem? (i := 31) rfl))) (ty := .byte) (by decide)
      have P169 := own_step (C := T157.setTop (mkF m 145 #[.val (.int pk), .val (.int qq), .val (.int aa), .val (.int bb), .val (.int d0), .val (.int d1), .val (.int d2), .val (.int nn), .val (.ref b123), .val (.int (aa &&& (2147483647 : Int32))), .val (.int (own_max (aa &&& (2147483647 : Int32)) bb)), .val (.ref x138), .unset, .unset, .unset, .unset, .unset] [(.ref b157), (.ref x138), (.ref b146), (.ref b146)])) P156 (fun t_ k_ => st157 t_ k_)
      have P170 := own_step (C := T157.setTop (mkF m 148 #[.val (.int pk), .val (.int qq), .val (.int aa), .val (.int bb), .val (.int d0), .val (.int d1), .val (.int d2), .val (.int nn), .val (.ref b123), .val (.int (aa &&& (2147483647 : Int32))), .val (.int (own_max (aa &&& (2147483647 : Int32)) bb)), .val (.ref x138), .unset, .unset, .unset, .unset, .unset] [(.ref b123), (.ref b157), (.ref b157), (.ref x138), (.ref b146), (.ref b146)])) P169 (by
        intro tt_ kk_
        refine XS.dup X157.here hx rfl (hb hby at_145) rfl rfl ?_
        refine XS.aload X157.here hx rfl (hb hby at_146) rfl rfl ?_
        exact kk_)
      obtain ⟨_, _, ⟨T171, L171, k171, n171⟩, -, X171, ⟨Lc171, hQ171, l171, y171, z171⟩, st171⟩ := X157.specialBack hx (y := (⟨"java/lang/String", "<init>", "([C)V"⟩ : MethodName)) rfl hown (mvT hZ (hw _ (List.mem_of_getElem? (i := 36) rfl))) (mvT hZ (hw _ (List.mem_of_getElem? (i := 37) rfl))) (mvT hZ (hw _ (List.mem_of_getElem? (i := 38) rfl))) (by decide) (backOf (W := 4) (rm_initC_1 l Z a0 hw [] b157 b123 k123 (nar .char d0) cs h157 n0 Z166 f158 Scs hcs A157 f167 f168 g_b157 f159 (own_n255 gd0)) hZ (hw _ (List.mem_of_getElem? (i := 38) rfl)) (hw _ (List.mem_of_getElem? (i := 8) rfl)) (by decide) (by decide)) (g := (mkF m 148 #[.val (.int pk), .val (.int qq), .val (.int aa), .val (.int bb), .val (.int d0), .val (.int d1), .val (.int d2), .val (.int nn), .val (.ref b123), .val (.int (aa &&& (2147483647 : Int32))), .val (.int (own_max (aa &&& (2147483647 : Int32)) bb)), .val (.ref x138), .unset, .unset, .unset, .unset, .unset] [(.ref b123), (.ref b157), (.ref b157), (.ref x138), (.ref b146), (.ref b146)])) rfl (by rw [hml]; rfl) (Steps.refl _) (a := b157) (argsL := [(.ref b123)]) (rest := [(.ref b157), (.ref x138), (.ref b146), (.ref b146)]) (lenOf pd18 rfl) rfl (by show 2 * 0 + _ ≤ _; exact Nat.le_of_eq rfl) (hb hby at_148) (fun _ _ => ⟨rfl, e157, (by decide : 5 + 1 ≤ _), (by decide : 15 + 1 ≤ _)⟩)
      dsimp only [Pt.U, Pt.locs, Pt.cells, Pt.slots] at X171 l171 y171 z171 st171 hQ171
      subst l171 y171 z171
      obtain ⟨x171, kk171, rfl, N171q, K171, f172, f173, f174, f175, f176⟩ := hQ171
      have N171 := Fr.app N138 N171q
      have ne_b123_x171 : b123 ≠ x171 := Nat.ne_of_lt (Nat.lt_of_lt_of_le f159.lt f176)
      have ne_b146_x171 : b146 ≠ x171 := Nat.ne_of_lt (Nat.lt_of_lt_of_le f160.lt f176)
      have ne_b157_x171 : b157 ≠ x171 := Nat.ne_of_lt (Nat.lt_of_lt_of_le A157.lt f176)
      have g_x171 : n0 ≤ x171 := Nat.le_trans Z166 f176
      have f177 := f158.keep K171 (allS g_b157 all0)
      have f178 := f159.keep K171 (ninS ne_b123_b157 nin0)
      have f179 := f160.keep K171
      have f180 := f161.keep K171 (ninS ne_b146_b157 nin0)
      have f181 := f162.keep K171 (ninS ne_b146_b157 nin0)
      have f182 := f163.keep K171 (ninS ne_b146_b157 nin0)
      have f183 := f164.keep K171 (ninS ne_b146_b157 nin0)
      have f184 := f165.keep K171 (ninS ne_b146_b157 nin0)
      have f185 := A157.keep K171
      have Z188 : n0 ≤ T171.heap.size := Nat.le_trans Z166 K171.1
      have P189 := own_step (C := T171.setTop (mkF m 151 #[.val (.int pk), .val (.int qq), .val (.int aa), .val (.int bb), .val (.int d0), .val (.int d1), .val (.int d2), .val (.int nn), .val (.ref b123), .val (.int (aa &&& (2147483647 : Int32))), .val (.int (own_max (aa &&& (2147483647 : Int32)) bb)), .val (.ref x138), .unset, .unset, .unset, .unset, .unset] [(.ref b157), (.ref x138), (.ref b146), (.ref b146)])) P170 (fun t_ k_ => st171.trans k_)
      have P190 := own_step (C := T171.setTop (mkF m 155 #[.val (.int pk), .val (.int qq), .val (.int aa), .val (.int bb), .val (.int d0), .val (.int d1), .val (.int d2), .val (.int nn), .val (.ref b123), .val (.int (aa &&& (2147483647 : Int32))), .val (.int (own_max (aa &&& (2147483647 : Int32)) bb)), .val (.ref x138), .unset, .unset, .unset, .unset, .unset] [(.int (own_max (aa &&& (2147483647 : Int32)) bb)), (.int (aa &&& (2147483647 : Int32))), (.ref b157), (.ref x138), (.ref b146), (.ref b146)])) P189 (by
        intro tt_ kk_
        refine XS.iload X171.here hx rfl (hb hby at_151) rfl ?_
        refine XS.iload X171.here hx rfl (hb hby at_153) rfl ?_
        exact kk_)
      obtain ⟨_, _, ⟨T191, L191, k191, n191⟩, -, X191, ⟨Lc191, hQ191, l191, y191, z191⟩, st191⟩ := X171.specialBack hx (y := (⟨"com/example/gatehouse/gatehouse/pattern/NameShape", "<init>", "(Ljava/lang/String;Ljava/lang/String;II)V"⟩ : MethodName)) rfl hown (mvT hZ (hw _ (List.mem_of_getElem? (i := 45) rfl))) (mvT hZ (hw _ (List.mem_of_getElem? (i := 46) rfl))) (mvT hZ (hw _ (List.mem_of_getElem? (i := 47) rfl))) (by decide) (backOf (W := 1) (rm_ns1 l Z a0 hw [] b146 x138 (aa &&& (2147483647 : Int32)) (own_max (aa &&& (2147483647 : Int32)) bb) b157 x171 kk171 (((nar .char d0).toInt8.toInt32).toInt8.toInt32) fm cs T171.heap n0 Z188 f177 Scs hcs Sfm hfm f172 f173 f174 f175 (own_b128 gd0) f179 f180 f181 f182 f183 f184 g_b146 (own_le _) (own_mo _ _)) hZ (hw _ (List.mem_of_getElem? (i := 47) rfl)) (hw _ (List.mem_of_getElem? (i := 34) rfl)) (by decide) (by decide)) (g := (mkF m 155 #[.val (.int pk), .val (.int qq), .val (.int aa), .val (.int bb), .val (.int d0), .val (.int d1), .val (.int d2), .val (.int nn), .val (.ref b123), .val (.int (aa &&& (2147483647 : Int32))), .val (.int (own_max (aa &&& (2147483647 : Int32)) bb)), .val (.ref x138), .unset, .unset, .unset, .unset, .unset] [(.int (own_max (aa &&& (2147483647 : Int32)) bb)), (.int (aa &&& (2147483647 : Int32))), (.ref b157), (.ref x138), (.ref b146), (.ref b146)])) rfl (by rw [hml]; rfl) (Steps.refl _) (a := b146) (argsL := [(.ref x138), (.ref b157), (.int (aa &&& (2147483647 : Int32))), (.int (own_max (aa &&& (2147483647 : Int32)) bb))]) (rest := [(.ref b146)]) (lenOf pd19 rfl) rfl (by show 2 * 0 + _ ≤ _; exact Nat.le_of_eq rfl) (hb hby at_155) (fun _ _ => ⟨rfl, rfl, (by decide : 6 + 0 ≤ _), (by decide : 16 + 0 ≤ _)⟩)
      dsimp only [Pt.U, Pt.locs, Pt.cells, Pt.slots] at X191 l191 y191 z191 st191 hQ191
      subst l191 y191 z191
      obtain ⟨rfl, N191q, K191, f192, f193, f194⟩ := hQ191
      have N191 := Fr.app N171 N191q
      have f195 := f177.keep K191 (allS g_b146 all0)
      have f196 := f178.keep K191 (ninS ne_b123_b146 nin0)
      have f197 := f179.keep K191
      have f203 := f172.keep K191
      have f204 := f173.keep K191 (ninS (Ne.symm ne_b146_b157) nin0)
      have f205 := f174.keep K191 (ninS (Ne.symm ne_b146_b157) nin0)
      have f206 := f175.keep K191 (ninS (Ne.symm ne_b146_x171) nin0)
      have Z207 : n0 ≤ T191.heap.size := Nat.le_trans Z188 K191.1
      have P208 := own_step (C := T191.setTop (mkF m 158 #[.val (.int pk), .val (.int qq), .val (.int aa), .val (.int bb), .val (.int d0), .val (.int d1), .val (.int d2), .val (.int nn), .val (.ref b123), .val (.int (aa &&& (2147483647 : Int32))), .val (.int (own_max (aa &&& (2147483647 : Int32)) bb)), .val (.ref x138), .unset, .unset, .unset, .unset, .unset] [(.ref b146)])) P190 (fun t_ k_ => st191.trans k_)
      have P209 := own_step (C := T191.setTop (mkF m 166 #[.val (.int pk), .val (.int qq), .val (.int aa), .val (.int bb), .val (.int d0), .val (.int d1), .val (.int d2), .val (.int nn), .val (.ref b123), .val (.int (aa &&& (2147483647 : Int32))), .val (.int (own_max (aa &&& (2147483647 : Int32)) bb)), .val (.ref x138), .val (.ref b146), .unset, .unset, .unset, .unset] [(.int (0 : Int32)), (.int nn), (.int (0 : Int32)), (.int d0)])) P208 (by
        intro tt_ kk_
        refine XS.astore X191.here hx rfl (hb hby at_158) rfl rfl (l' := #[.val (.int pk), .val (.int qq), .val (.int aa), .val (.int bb), .val (.int d0), .val (.int d1), .val (.int d2), .val (.int nn), .val (.ref b123), .val (.int (aa &&& (2147483647 : Int32))), .val (.int (own_max (aa &&& (2147483647 : Int32)) bb)), .val (.ref x138), .val (.ref b146), .unset, .unset, .unset, .unset]) rfl ?_
        refine XS.iload X191.here hx rfl (hb hby at_160) rfl ?_
        refine XS.iconst X191.here hx rfl (hb hby at_162) ?_
        refine XS.iload X191.here hx rfl (hb hby at_163) rfl ?_
        refine XS.iconst X191.here hx rfl (hb hby at_165) ?_
        exact kk_)
      obtain ⟨_, _, ⟨T210, L210, k210, n210⟩, -, X210, ⟨Lc210, hQ210, l210, y210, z210⟩, st210⟩ := Jvm.LawKit.callS X191 hx (y := (⟨"com/example/gatehouse/gatehouse/pattern/NameShapeCharactersPinLaw", "bit", "(IIII)J"⟩ : MethodName)) hown (mvT hZ (hw _ (List.mem_of_getElem? (i := 75) rfl))) (mvT hZ (hw _ (List.mem_of_getElem? (i := 76) rfl))) (mvT hZ (hw _ (List.mem_of_getElem? (i := 77) rfl))) (mvT hZ (hw _ (List.mem_of_getElem? (i := 78) rfl))) (by decide) (backOf (W := 0) (rm_own_b l Z a0 hw [] d0 (0 : Int32) nn (0 : Int32) T191.heap n0 Z207 ) hZ (hw _ (List.mem_of_getElem? (i := 78) rfl)) (hw _ (List.mem_of_getElem? (i := 77) rfl)) (by decide) (by decide)) (g := (mkF m 166 #[.val (.int pk), .val (.int qq), .val (.int aa), .val (.int bb), .val (.int d0), .val (.int d1), .val (.int d2), .val (.int nn), .val (.ref b123), .val (.int (aa &&& (2147483647 : Int32))), .val (.int (own_max (aa &&& (2147483647 : Int32)) bb)), .val (.ref x138), .val (.ref b146), .unset, .unset, .unset, .unset] [(.int (0 : Int32)), (.int nn), (.int (0 : Int32)), (.int d0)])) rfl (by rw [hml]; rfl) (argsL := [(.int d0), (.int (0 : Int32)), (.int nn), (.int (0 : Int32))]) (rest := []) (lenOf pd20 rfl) rfl (by show 2 * 0 + _ ≤ _; exact Nat.le_of_eq rfl) (hb hby at_166) (fun _ _ => ⟨rfl, rfl, (by decide : 6 + 0 ≤ _), (by decide : 16 + 0 ≤ _)⟩)
      dsimp only [Pt.U, Pt.locs, Pt.cells, Pt.slots] at X210 l210 y210 z210 st210 hQ210
      subst l210 y210 z210
      obtain ⟨rfl, N210q, e210⟩ := hQ210
      have N210 := Fr.app N191 N210q
      have P211 := own_step (C := T210.setTop (mkF m 169 #[.val (.int pk), .val (.int qq), .val (.int aa), .val (.int bb), .val (.int d0), .val (.int d1), .val (.int d2), .val (.int nn), .val (.ref b123), .val (.int (aa &&& (2147483647 : Int32))), .val (.int (own_max (aa &&& (2147483647 : Int32)) bb)), .val (.ref x138), .val (.ref b146), .unset, .unset, .unset, .unset] [(.long (own_b d0 (0 : Int32) nn (0 : Int32)))])) P209 (fun t_ k_ => st210 t_ k_)
      have P212 := own_step (C := T210.setTop (mkF m 175 #[.val (.int pk), .val (.int qq), .val (.int aa), .val (.int bb), .val (.int d0), .val (.int d1), .val (.int d2), .val (.int nn), .val (.ref b123), .val (.int (aa &&& (2147483647 : Int32))), .val (.int (own_max (aa &&& (2147483647 : Int32)) bb)), .val (.ref x138), .val (.ref b146), .unset, .unset, .unset, .unset] [(.int (0 : Int32)), (.int nn), (.int (1 : Int32)), (.int d1), (.long (own_b d0 (0 : Int32) nn (0 : Int32)))])) P211 (by
        intro tt_ kk_
        refine XS.iload X210.here hx rfl (hb hby at_169) rfl ?_
        refine XS.iconst X210.here hx rfl (hb hby at_171) ?_
        refine XS.iload X210.here hx rfl (hb hby at_172) rfl ?_
        refine XS.iconst X210.here hx rfl (hb hby at_174) ?_
        exact kk_)
      obtain ⟨_, _, ⟨T213, L213, k213, n213⟩, -, X213, ⟨Lc213, hQ213, l213, y213, z213⟩, st213⟩ := Jvm.LawKit.callS X210 hx (y := (⟨"com/example/gatehouse/gatehouse/pattern/NameShapeCharactersPinLaw", "bit", "(IIII)J"⟩ : MethodName)) hown (mvT hZ (hw _ (List.mem_of_getElem? (i := 75) rfl))) (mvT hZ (hw _ (List.mem_of_getElem? (i := 76) rfl))) (mvT hZ (hw _ (List.mem_of_getElem? (i := 77) rfl))) (mvT hZ (hw _ (List.mem_of_getElem? (i := 78) rfl))) (by decide) (backOf (W := 2) (rm_own_b l Z a0 hw [] d1 (1 : Int32) nn (0 : Int32) T191.heap n0 Z207 ) hZ (hw _ (List.mem_of_getElem? (i := 78) rfl)) (hw _ (List.mem_of_getElem? (i := 77) rfl)) (by decide) (by decide)) (g := (mkF m 175 #[.val (.int pk), .val (.int qq), .val (.int aa), .val (.int bb), .val (.int d0), .val (.int d1), .val (.int d2), .val (.int nn), .val (.ref b123), .val (.int (aa &&& (2147483647 : Int32))), .val (.int (own_max (aa &&& (2147483647 : Int32)) bb)), .val (.ref x138), .val (.ref b146), .unset, .unset, .unset, .unset] [(.int (0 : Int32)), (.int nn), (.int (1 : Int32)), (.int d1), (.long (own_b d0 (0 : Int32) nn (0 : Int32)))])) rfl (by rw [hml]; rfl) (argsL := [(.int d1), (.int (1 : Int32)), (.int nn), (.int (0 : Int32))]) (rest := [(.long (own_b d0 (0 : Int32) nn (0 : Int32)))]) (lenOf pd20 rfl) rfl (by show 2 * 0 + _ ≤ _; exact Nat.le_of_eq rfl) (hb hby at_175) (fun _ _ => ⟨rfl, e210, (by decide : 6 + 0 ≤ _), (by decide : 16 + 0 ≤ _)⟩)
      dsimp only [Pt.U, Pt.locs, Pt.cells, Pt.slots] at X213 l213 y213 z213 st213 hQ213
      subst l213 y213 z213
      obtain ⟨rfl, N213q, e213⟩ := hQ213
      have N213 := Fr.app N210 N213q
      have P214 := own_step (C := T213.setTop (mkF m 178 #[.val (.int pk), .val (.int qq), .val (.int aa), .val (.int bb), .val (.int d0), .val (.int d1), .val (.int d2), .val (.int nn), .val (.ref b123), .val (.int (aa &&& (2147483647 : Int32))), .val (.int (own_max (aa &&& (2147483647 : Int32)) bb)), .val (.ref x138), .val (.ref b146), .unset, .unset, .unset, .unset] [(.long (own_b d1 (1 : Int32) nn (0 : Int32))), (.long (own_b d0 (0 : Int32) nn (0 : Int32)))])) P212 (fun t_ k_ => st213 t_ k_)
      have P215 := own_step (C := T213.setTop (mkF m 185 #[.val (.int pk), .val (.int qq), .val (.int aa), .val (.int bb), .val (.int d0), .val (.int d1), .val (.int d2), .val (.int nn), .val (.ref b123), .val (.int (aa &&& (2147483647 : Int32))), .val (.int (own_max (aa &&& (2147483647 : Int32)) bb)), .val (.ref x138), .val (.ref b146), .unset, .unset, .unset, .unset] [(.int (0 : Int32)), (.int nn), (.int (2 : Int32)), (.int d2), (.long ((own_b d0 (0 : Int32) nn (0 : Int32)) ||| (own_b d1 (1 : Int32) nn (0 : Int32))))])) P214 (by
        intro tt_ kk_
        refine XS.lor X213.here hx rfl (hb hby at_178) rfl ?_
        refine XS.iload X213.here hx rfl (hb hby at_179) rfl ?_
        refine XS.iconst X213.here hx rfl (hb hby at_181) ?_
        refine XS.iload X213.here hx rfl (hb hby at_182) rfl ?_
        refine XS.iconst X213.here hx rfl (hb hby at_184) ?_
        exact kk_)
      obtain ⟨_, _, ⟨T216, L216, k216, n216⟩, -, X216, ⟨Lc216, hQ216, l216, y216, z216⟩, st216⟩ := Jvm.LawKit.callS X213 hx (y := (⟨"com/example/gatehouse/gatehouse/pattern/NameShapeCharactersPinLaw", "bit", "(IIII)J"⟩ : MethodName)) hown (mvT hZ (hw _ (List.mem_of_getElem? (i := 75) rfl))) (mvT hZ (hw _ (List.mem_of_getElem? (i := 76) rfl))) (mvT hZ (hw _ (List.mem_of_getElem? (i := 77) rfl))) (mvT hZ (hw _ (List.mem_of_getElem? (i := 78) rfl))) (by decide) (backOf (W := 2) (rm_own_b l Z a0 hw [] d2 (2 : Int32) nn (0 : Int32) T191.heap n0 Z207 ) hZ (hw _ (List.mem_of_getElem? (i := 78) rfl)) (hw _ (List.mem_of_getElem? (i := 77) rfl)) (by decide) (by decide)) (g := (mkF m 185 #[.val (.int pk), .val (.int qq), .val (.int aa), .val (.int bb), .val (.int d0), .val (.int d1), .val (.int d2), .val (.int nn), .val (.ref b123), .val (.int (aa &&& (2147483647 : Int32))), .val (.int (own_max (aa &&& (2147483647 : Int32)) bb)), .val (.ref x138), .val (.ref b146), .unset, .unset, .unset, .unset] [(.int (0 : Int32)), (.int nn), (.int (2 : Int32)), (.int d2), (.long ((own_b d0 (0 : Int32) nn (0 : Int32)) ||| (own_b d1 (1 : Int32) nn (0 : Int32))))])) rfl (by rw [hml]; rfl) (argsL := [(.int d2), (.int (2 : Int32)), (.int nn), (.int (0 : Int32))]) (rest := [(.long ((own_b d0 (0 : Int32) nn (0 : Int32)) ||| (own_b d1 (1 : Int32) nn (0 : Int32))))]) (lenOf pd20 rfl) rfl (by show 2 * 0 + _ ≤ _; exact Nat.le_of_eq rfl) (hb hby at_185) (fun _ _ => ⟨rfl, e213, (by decide : 6 + 0 ≤ _), (by decide : 16 + 0 ≤ _)⟩)
      dsimp only [Pt.U, Pt.locs, Pt.cells, Pt.slots] at X216 l216 y216 z216 st216 hQ216
      subst l216 y216 z216
      obtain ⟨rfl, N216q, e216⟩ := hQ216
      have N216 := Fr.app N213 N216q
      have P217 := own_step (C := T216.setTop (mkF m 188 #[.val (.int pk), .val (.int qq), .val (.int aa), .val (.int bb), .val (.int d0), .val (.int d1), .val (.int d2), .val (.int nn), .val (.ref b123), .val (.int (aa &&& (2147483647 : Int32))), .val (.int (own_max (aa &&& (2147483647 : Int32)) bb)), .val (.ref x138), .val (.ref b146), .unset, .unset, .unset, .unset] [(.long (own_b d2 (2 : Int32) nn (0 : Int32))), (.long ((own_b d0 (0 : Int32) nn (0 : Int32)) ||| (own_b d1 (1 : Int32) nn (0 : Int32))))])) P215 (fun t_ k_ => st216 t_ k_)
      have P218 := own_step (C := T216.setTop (mkF m 197 #[.val (.int pk), .val (.int qq), .val (.int aa), .val (.int bb), .val (.int d0), .val (.int d1), .val (.int d2), .val (.int nn), .val (.ref b123), .val (.int (aa &&& (2147483647 : Int32))), .val (.int (own_max (aa &&& (2147483647 : Int32)) bb)), .val (.ref x138), .val (.ref b146), .val (.long (((own_b d0 (0 : Int32) nn (0 : Int32)) ||| (own_b d1 (1 : Int32) nn (0 : Int32))) ||| (own_b d2 (2 : Int32) nn (0 : Int32)))), .second, .unset, .unset] [(.int (1 : Int32)), (.int nn), (.int (0 : Int32)), (.int d0)])) P217 (by
        intro tt_ kk_
        refine XS.lor X216.here hx rfl (hb hby at_188) rfl ?_
        refine XS.lstore X216.here hx rfl (hb hby at_189) rfl (l' := #[.val (.int pk), .val (.int qq), .val (.int aa), .val (.int bb), .val (.int d0), .val (.int d1), .val (.int d2), .val (.int nn), .val (.ref b123), .val (.int (aa &&& (2147483647 : Int32))), .val (.int (own_max (aa &&& (2147483647 : Int32)) bb)), .val (.ref x138), .val (.ref b146), .val (.long (((own_b d0 (0 : Int32) nn (0 : Int32)) ||| (own_b d1 (1 : Int32) nn (0 : Int32))) ||| (own_b d2 (2 : Int32) nn (0 : Int32)))), .second, .unset, .unset]) rfl ?_
        refine XS.iload X216.here hx rfl (hb hby at_191) rfl ?_
        refine XS.iconst X216.here hx rfl (hb hby at_193) ?_
        refine XS.iload X216.here hx rfl (hb hby at_194) rfl ?_
        refine XS.iconst X216.here hx rfl (hb hby at_196) ?_
        exact kk_)
      obtain ⟨_, _, ⟨T219, L219, k219, n219⟩, -, X219, ⟨Lc219, hQ219, l219, y219, z219⟩, st219⟩ := Jvm.LawKit.callS X216 hx (y := (⟨"com/example/gatehouse/gatehouse/pattern/NameShapeCharactersPinLaw", "bit", "(IIII)J"⟩ : MethodName)) hown (mvT hZ (hw _ (List.mem_of_getElem? (i := 75) rfl))) (mvT hZ (hw _ (List.mem_of_getElem? (i := 76) rfl))) (mvT hZ (hw _ (List.mem_of_getElem? (i := 77) rfl))) (mvT hZ (hw _ (List.mem_of_getElem? (i := 78) rfl))) (by decide) (backOf (W := 0) (rm_own_b l Z a0 hw [] d0 (0 : Int32) nn (1 : Int32) T191.heap n0 Z207 ) hZ (hw _ (List.mem_of_getElem? (i := 78) rfl)) (hw _ (List.mem_of_getElem? (i := 77) rfl)) (by decide) (by decide)) (g := (mkF m 197 #[.val (.int pk), .val (.int qq), .val (.int aa), .val (.int bb), .val (.int d0), .val (.int d1), .val (.int d2), .val (.int nn), .val (.ref b123), .val (.int (aa &&& (2147483647 : Int32))), .val (.int (own_max (aa &&& (2147483647 : Int32)) bb)), .val (.ref x138), .val (.ref b146), .val (.long (((own_b d0 (0 : Int32) nn (0 : Int32)) ||| (own_b d1 (1 : Int32) nn (0 : Int32))) ||| (own_b d2 (2 : Int32) nn (0 : Int32)))), .second, .unset, .unset] [(.int (1 : Int32)), (.int nn), (.int (0 : Int32)), (.int d0)])) rfl (by rw [hml]; rfl) (argsL := [(.int d0), (.int (0 : Int32)), (.int nn), (.int (1 : Int32))]) (rest := []) (lenOf pd20 rfl) rfl (by show 2 * 0 + _ ≤ _; exact Nat.le_of_eq rfl) (hb hby at_197) (fun _ _ => ⟨rfl, e216, (by decide : 6 + 0 ≤ _), (by decide : 16 + 0 ≤ _)⟩)
      dsimp only [Pt.U, Pt.locs, Pt.cells, Pt.slots] at X219 l219 y219 z219 st219 hQ219
      subst l219 y219 z219
      obtain ⟨rfl, N219q, e219⟩ := hQ219
      have N219 := Fr.app N216 N219q
      have P220 := own_step (C := T219.setTop (mkF m 200 #[.val (.int pk), .val (.int qq), .val (.int aa), .val (.int bb), .val (.int d0), .val (.int d1), .val (.int d2), .val (.int nn), .val (.ref b123), .val (.int (aa &&& (2147483647 : Int32))), .val (.int (own_max (aa &&& (2147483647 : Int32)) bb)), .val (.ref x138), .val (.ref b146), .val (.long (((own_b d0 (0 : Int32) nn (0 : Int32)) ||| (own_b d1 (1 : Int32) nn (0 : Int32))) ||| (own_b d2 (2 : Int32) nn (0 : Int32)))), .second, .unset, .unset] [(.long (own_b d0 (0 : Int32) nn (1 : Int32)))])) P218 (fun t_ k_ => st219 t_ k_)
      have P221 := own_step (C := T219.setTop (mkF m 206 #[.val (.int pk), .val (.int qq), .val (.int aa), .val (.int bb), .val (.int d0), .val (.int d1), .val (.int d2), .val (.int nn), .val (.ref b123), .val (.int (aa &&& (2147483647 : Int32))), .val (.int (own_max (aa &&& (2147483647 : Int32)) bb)), .val (.ref x138), .val (.ref b146), .val (.long (((own_b d0 (0 : Int32) nn (0 : Int32)) ||| (own_b d1 (1 : Int32) nn (0 : Int32))) ||| (own_b d2 (2 : Int32) nn (0 : Int32)))), .second, .unset, .unset] [(.int (1 : Int32)), (.int nn), (.int (1 : Int32)), (.int d1), (.long (own_b d0 (0 : Int32) nn (1 : Int32)))])) P220 (by
        intro tt_ kk_
        refine XS.iload X219.here hx rfl (hb hby at_200) rfl ?_
        refine XS.iconst X219.here hx rfl (hb hby at_202) ?_
        refine XS.iload X219.here hx rfl (hb hby at_203) rfl ?_
        refine XS.iconst X219.here hx rfl (hb hby at_205) ?_
        exact kk_)
      obtain ⟨_, _, ⟨T222, L222, k222, n222⟩, -, X222, ⟨Lc222, hQ222, l222, y222, z222⟩, st222⟩ := Jvm.LawKit.callS X219 hx (y := (⟨"com/example/gatehouse/gatehouse/pattern/NameShapeCharactersPinLaw", "bit", "(IIII)J"⟩ : MethodName)) hown (mvT hZ (hw _ (List.mem_of_getElem? (i := 75) rfl))) (mvT hZ (hw _ (List.mem_of_getElem? (i := 76) rfl))) (mvT hZ (hw _ (List.mem_of_getElem? (i := 77) rfl))) (mvT hZ (hw _ (List.mem_of_getElem? (i := 78) rfl))) (by decide) (backOf (W := 2) (rm_own_b l Z a0 hw [] d1 (1 : Int32) nn (1 : Int32) T191.heap n0 Z207 ) hZ (hw _ (List.mem_of_getElem? (i := 78) rfl)) (hw _ (List.mem_of_getElem? (i := 77) rfl)) (by decide) (by decide)) (g := (mkF m 206 #[.val (.int pk), .val (.int qq), .val (.int aa), .val (.int bb), .val (.int d0), .val (.int d1), .val (.int d2), .val (.int nn), .val (.ref b123), .val (.int (aa &&& (2147483647 : Int32))), .val (.int (own_max (aa &&& (2147483647 : Int32)) bb)), .val (.ref x138), .val (.ref b146), .val (.long (((own_b d0 (0 : Int32) nn (0 : Int32)) ||| (own_b d1 (1 : Int32) nn (0 : Int32))) ||| (own_b d2 (2 : Int32) nn (0 : Int32)))), .second, .unset, .unset] [(.int (1 : Int32)), (.int nn), (.int (1 : Int32)), (.int d1), (.long (own_b d0 (0 : Int32) nn (1 : Int32)))])) rfl (by rw [hml]; rfl) (argsL := [(.int d1), (.int (1 : Int32)), (.int nn), (.int (1 : Int32))]) (rest := [(.long (own_b d0 (0 : Int32) nn (1 : Int32)))]) (lenOf pd20 rfl) rfl (by show 2 * 0 + _ ≤ _; exact Nat.le_of_eq rfl) (hb hby at_206) (fun _ _ => ⟨rfl, e219, (by decide : 6 + 0 ≤ _), (by decide : 16 + 0 ≤ _)⟩)
      dsimp only [Pt.U, Pt.locs, Pt.cells, Pt.slots] at X222 l222 y222 z222 st222 hQ222
      subst l222 y222 z222
      obtain ⟨rfl, N222q, e222⟩ := hQ222
      have N222 := Fr.app N219 N222q
      have P223 := own_step (C := T222.setTop (mkF m 209 #[.val (.int pk), .val (.int qq), .val (.int aa), .val (.int bb), .val (.int d0), .val (.int d1), .val (.int d2), .val (.int nn), .val (.ref b123), .val (.int (aa &&& (2147483647 : Int32))), .val (.int (own_max (aa &&& (2147483647 : Int32)) bb)), .val (.ref x138), .val (.ref b146), .val (.long (((own_b d0 (0 : Int32) nn (0 : Int32)) ||| (own_b d1 (1 : Int32) nn (0 : Int32))) ||| (own_b d2 (2 : Int32) nn (0 : Int32)))), .second, .unset, .unset] [(.long (own_b d1 (1 : Int32) nn (1 : Int32))), (.long (own_b d0 (0 : Int32) nn (1 : Int32)))])) P221 (fun t_ k_ => st222 t_ k_)
      have P224 := own_step (C := T222.setTop (mkF m 216 #[.val (.int pk), .val (.int qq), .val (.int aa), .val (.int bb), .val (.int d0), .val (.int d1), .val (.int d2), .val (.int nn), .val (.ref b123), .val (.int (aa &&& (2147483647 : Int32))), .val (.int (own_max (aa &&& (2147483647 : Int32)) bb)), .val (.ref x138), .val (.ref b146), .val (.long (((own_b d0 (0 : Int32) nn (0 : Int32)) ||| (own_b d1 (1 : Int32) nn (0 : Int32))) ||| (own_b d2 (2 : Int32) nn (0 : Int32)))), .second, .unset, .unset] [(.int (1 : Int32)), (.int nn), (.int (2 : Int32)), (.int d2), (.long ((own_b d0 (0 : Int32) nn (1 : Int32)) ||| (own_b d1 (1 : Int32) nn (1 : Int32))))])) P223 (by
        intro tt_ kk_
        refine XS.lor X222.here hx rfl (hb hby at_209) rfl ?_
        refine XS.iload X222.here hx rfl (hb hby at_210) rfl ?_
        refine XS.iconst X222.here hx rfl (hb hby at_212) ?_
        refine XS.iload X222.here hx rfl (hb hby at_213) rfl ?_
        refine XS.iconst X222.here hx rfl (hb hby at_215) ?_
        exact kk_)
      obtain ⟨_, _, ⟨T225, L225, k225, n225⟩, -, X225, ⟨Lc225, hQ225, l225, y225, z225⟩, st225⟩ := Jvm.LawKit.callS X222 hx (y := (⟨"com/example/gatehouse/gatehouse/pattern/NameShapeCharactersPinLaw", "bit", "(IIII)J"⟩ : MethodName)) hown (mvT hZ (hw _ (List.mem_of_getElem? (i := 75) rfl))) (mvT hZ (hw _ (List.mem_of_getElem? (i := 76) rfl))) (mvT hZ (hw _ (List.mem_of_getElem? (i := 77) rfl))) (mvT hZ (hw _ (List.mem_of_getElem? (i := 78) rfl))) (by decide) (backOf (W := 2) (rm_own_b l Z a0 hw [] d2 (2 : Int32) nn (1 : Int32) T191.heap n0 Z207 ) hZ (hw _ (List.mem_of_getElem? (i := 78) rfl)) (hw _ (List.mem_of_getElem? (i := 77) rfl)) (by decide) (by decide)) (g := (mkF m 216 #[.val (.int pk), .val (.int qq), .val (.int aa), .val (.int bb), .val (.int d0), .val (.int d1), .val (.int d2), .val (.int nn), .val (.ref b123), .val (.int (aa &&& (2147483647 : Int32))), .val (.int (own_max (aa &&& (2147483647 : Int32)) bb)), .val (.ref x138), .val (.ref b146), .val (.long (((own_b d0 (0 : Int32) nn (0 : Int32)) ||| (own_b d1 (1 : Int32) nn (0 : Int32))) ||| (own_b d2 (2 : Int32) nn (0 : Int32)))), .second, .unset, .unset] [(.int (1 : Int32)), (.int nn), (.int (2 : Int32)), (.int d2), (.long ((own_b d0 (0 : Int32) nn (1 : Int32)) ||| (own_b d1 (1 : Int32) nn (1 : Int32))))])) rfl (by rw [hml]; rfl) (argsL := [(.int d2), (.int (2 : Int32)), (.int nn), (.int (1 : Int32))]) (rest := [(.long ((own_b d0 (0 : Int32) nn (1 : Int32)) ||| (own_b d1 (1 : Int32) nn (1 : Int32))))]) (lenOf pd20 rfl) rfl (by show 2 * 0 + _ ≤ _; exact Nat.le_of_eq rfl) (hb hby at_216) (fun _ _ => ⟨rfl, e222, (by decide : 6 + 0 ≤ _), (by decide : 16 + 0 ≤ _)⟩)
      dsimp only [Pt.U, Pt.locs, Pt.cells, Pt.slots] at X225 l225 y225 z225 st225 hQ225
      subst l225 y225 z225
      obtain ⟨rfl, N225q, e225⟩ := hQ225
      have N225 := Fr.app N222 N225q
      have P226 := own_step (C := T225.setTop (mkF m 219 #[.val (.int pk), .val (.int qq), .val (.int aa), .val (.int bb), .val (.int d0), .val (.int d1), .val (.int d2), .val (.int nn), .val (.ref b123), .val (.int (aa &&& (2147483647 : Int32))), .val (.int (own_max (aa &&& (2147483647 : Int32)) bb)), .val (.ref x138), .val (.ref b146), .val (.long (((own_b d0 (0 : Int32) nn (0 : Int32)) ||| (own_b d1 (1 : Int32) nn (0 : Int32))) ||| (own_b d2 (2 : Int32) nn (0 : Int32)))), .second, .unset, .unset] [(.long (own_b d2 (2 : Int32) nn (1 : Int32))), (.long ((own_b d0 (0 : Int32) nn (1 : Int32)) ||| (own_b d1 (1 : Int32) nn (1 : Int32))))])) P224 (fun t_ k_ => st225 t_ k_)
      have P227 := own_step (C := T225.setTop (mkF m 225 #[.val (.int pk), .val (.int qq), .val (.int aa), .val (.int bb), .val (.int d0), .val (.int d1), .val (.int d2), .val (.int nn), .val (.ref b123), .val (.int (aa &&& (2147483647 : Int32))), .val (.int (own_max (aa &&& (2147483647 : Int32)) bb)), .val (.ref x138), .val (.ref b146), .val (.long (((own_b d0 (0 : Int32) nn (0 : Int32)) ||| (own_b d1 (1 : Int32) nn (0 : Int32))) ||| (own_b d2 (2 : Int32) nn (0 : Int32)))), .second, .val (.long (((own_b d0 (0 : Int32) nn (1 : Int32)) ||| (own_b d1 (1 : Int32) nn (1 : Int32))) ||| (own_b d2 (2 : Int32) nn (1 : Int32)))), .second] [(.int (0 : Int32)), (.ref b146)])) P226 (by
        intro tt_ kk_
        refine XS.lor X225.here hx rfl (hb hby at_219) rfl ?_
        refine XS.lstore X225.here hx rfl (hb hby at_220) rfl (l' := #[.val (.int pk), .val (.int qq), .val (.int aa), .val (.int bb), .val (.int d0), .val (.int d1), .val (.int d2), .val (.int nn), .val (.ref b123), .val (.int (aa &&& (2147483647 : Int32))), .val (.int (own_max (aa &&& (2147483647 : Int32)) bb)), .val (.ref x138), .val (.ref b146), .val (.long (((own_b d0 (0 : Int32) nn (0 : Int32)) ||| (own_b d1 (1 : Int32) nn (0 : Int32))) ||| (own_b d2 (2 : Int32) nn (0 : Int32)))), .second, .val (.long (((own_b d0 (0 : Int32) nn (1 : Int32)) ||| (own_b d1 (1 : Int32) nn (1 : Int32))) ||| (own_b d2 (2 : Int32) nn (1 : Int32)))), .second]) rfl ?_
        refine XS.aload X225.here hx rfl (hb hby at_222) rfl rfl ?_
        refine XS.iconst X225.here hx rfl (hb hby at_224) ?_
        exact kk_)
      obtain ⟨cq228, kq228, q228a, q228b, q228c⟩ := isOf hZ e225 f192
      obtain ⟨_, _, ⟨T228, L228, k228, n228⟩, -, X228, ⟨Lc228, hQ228, l228, y228, z228⟩, st228⟩ := X225.virtualBack hx (y := (⟨"com/example/gatehouse/gatehouse/pattern/NameShape", "characters", "(I)J"⟩ : MethodName)) (z := (⟨"com/example/gatehouse/gatehouse/pattern/NameShape", "characters", "(I)J"⟩ : MethodName)) hown (mvT hZ (hw _ (List.mem_of_getElem? (i := 79) rfl))) (mvT hZ (hw _ (List.mem_of_getElem? (i := 80) rfl))) (notFace_of_selects (args := #[]) (mvT hZ (hw _ (List.mem_of_getElem? (i := 82) rfl)))) (mvT hZ (hw _ (List.mem_of_getElem? (i := 82) rfl))) (mvT hZ (hw _ (List.mem_of_getElem? (i := 81) rfl))) (by decide) (backOf (W := 0) (rm_own_chr l Z a0 hw [] b146 (0 : Int32) (own_bit (0 : Int32) (64 : Int32) ((((nar .char d0).toInt8.toInt32).toInt8.toInt32) &&& (255 : Int32)) (0 : Int64)) (own_bit (64 : Int32) (128 : Int32) ((((nar .char d0).toInt8.toInt32).toInt8.toInt32) &&& (255 : Int32)) (0 : Int64)) T191.heap n0 Z207 f193 f194) hZ (hw _ (List.mem_of_getElem? (i := 83) rfl)) (hw _ (List.mem_of_getElem? (i := 34) rfl)) (by decide) (by decide)) q228a q228c (g := (mkF m 225 #[.val (.int pk), .val (.int qq), .val (.int aa), .val (.int bb), .val (.int d0), .val (.int d1), .val (.int d2), .val (.int nn), .val (.ref b123), .val (.int (aa &&& (2147483647 : Int32))), .val (.int (own_max (aa &&& (2147483647 : Int32)) bb)), .val (.ref x138), .val (.ref b146), .val (.long (((own_b d0 (0 : Int32) nn (0 : Int32)) ||| (own_b d1 (1 : Int32) nn (0 : Int32))) ||| (own_b d2 (2 : Int32) nn (0 : Int32)))), .second, .val (.long (((own_b d0 (0 : Int32) nn (1 : Int32)) ||| (own_b d1 (1 : Int32) nn (1 : Int32))) ||| (own_b d2 (2 : Int32) nn (1 : Int32)))), .second] [(.int (0 : Int32)), (.ref b146)])) rfl (by rw [hml]; rfl) (Steps.refl _) (argsL := [(.int (0 : Int32))]) (rest := []) (lenOf pd21 rfl) rfl (by show 2 * 0 + _ ≤ _; exact Nat.le_of_eq rfl) (hb hby at_225) (fun _ _ => ⟨rfl, e225, (by decide : 6 + 0 ≤ _), (by decide : 16 + 0 ≤ _)⟩)
      dsimp only [Pt.U, Pt.locs, Pt.cells, Pt.slots] at X228 l228 y228 z228 st228 hQ228
      subst l228 y228 z228
      obtain ⟨rfl, N228q, e228⟩ := hQ228
      have N228 := Fr.app N225 N228q
      have P229 := own_step (C := T228.setTop (mkF m 228 #[.val (.int pk), .val (.int qq), .val (.int aa), .val (.int bb), .val (.int d0), .val (.int d1), .val (.int d2), .val (.int nn), .val (.ref b123), .val (.int (aa &&& (2147483647 : Int32))), .val (.int (own_max (aa &&& (2147483647 : Int32)) bb)), .val (.ref x138), .val (.ref b146), .val (.long (((own_b d0 (0 : Int32) nn (0 : Int32)) ||| (own_b d1 (1 : Int32) nn (0 : Int32))) ||| (own_b d2 (2 : Int32) nn (0 : Int32)))), .second, .val (.long (((own_b d0 (0 : Int32) nn (1 : Int32)) ||| (own_b d1 (1 : Int32) nn (1 : Int32))) ||| (own_b d2 (2 : Int32) nn (1 : Int32)))), .second] [(.long (own_chr (0 : Int32) (own_bit (0 : Int32) (64 : Int32) ((((nar .char d0).toInt8.toInt32).toInt8.toInt32) &&& (255 : Int32)) (0 : Int64)) (own_bit (64 : Int32) (128 : Int32) ((((nar .char d0).toInt8.toInt32).toInt8.toInt32) &&& (255 : Int32)) (0 : Int64))))])) P227 (fun t_ k_ => st228.trans k_)
      have P230 := own_step (C := T228.setTop (mkF m 231 #[.val (.int pk), .val (.int qq), .val (.int aa), .val (.int bb), .val (.int d0), .val (.int d1), .val (.int d2), .val (.int nn), .val (.ref b123), .val (.int (aa &&& (2147483647 : Int32))), .val (.int (own_max (aa &&& (2147483647 : Int32)) bb)), .val (.ref x138), .val (.ref b146), .val (.long (((own_b d0 (0 : Int32) nn (0 : Int32)) ||| (own_b d1 (1 : Int32) nn (0 : Int32))) ||| (own_b d2 (2 : Int32) nn (0 : Int32)))), .second, .val (.long (((own_b d0 (0 : Int32) nn (1 : Int32)) ||| (own_b d1 (1 : Int32) nn (1 : Int32))) ||| (own_b d2 (2 : Int32) nn (1 : Int32)))), .second] [(.int (lcmpW (own_chr (0 : Int32) (own_bit (0 : Int32) (64 : Int32) ((((nar .char d0).toInt8.toInt32).toInt8.toInt32) &&& (255 : Int32)) (0 : Int64)) (own_bit (64 : Int32) (128 : Int32) ((((nar .char d0).toInt8.toInt32).toInt8.toInt32) &&& (255 : Int32)) (0 : Int64))) (((own_b d0 (0 : Int32) nn (0 : Int32)) ||| (own_b d1 (1 : Int32) nn (0 : Int32))) ||| (own_b d2 (2 : Int32) nn (0 : Int32)))))])) P229 (by
        intro tt_ kk_
        refine XS.lload X228.here hx rfl (hb hby at_228) rfl ?_
        refine XS.lcmp X228.here hx rfl (hb hby at_230) rfl ?_
        exact kk_)
      have P231 := own_step (C := T228.setTop (mkF m 234 #[.val (.int pk), .val (.int qq), .val (.int aa), .val (.int bb), .val (.int d0), .val (.int d1), .val (.int d2), .val (.int nn), .val (.ref b123), .val (.int (aa &&& (2147483647 : Int32))), .val (.int (own_max (aa &&& (2147483647 : Int32)) bb)), .val (.ref x138), .val (.ref b146), .val (.long (((own_b d0 (0 : Int32) nn (0 : Int32)) ||| (own_b d1 (1 : Int32) nn (0 : Int32))) ||| (own_b d2 (2 : Int32) nn (0 : Int32)))), .second, .val (.long (((own_b d0 (0 : Int32) nn (1 : Int32)) ||| (own_b d1 (1 : Int32) nn (1 : Int32))) ||| (own_b d2 (2 : Int32) nn (1 : Int32)))), .second] [])) P230 (by
        intro tt_ kk_
        refine XS.ifNo X228.here hx rfl (hb hby at_231) rfl ((if0 _ _).trans (teq ((lw_eq _ _).mpr (own_f10 c120 gd0))).2) ?_
        exact kk_)
      have P232 := own_step (C := T228.setTop (mkF m 237 #[.val (.int pk), .val (.int qq), .val (.int aa), .val (.int bb), .val (.int d0), .val (.int d1), .val (.int d2), .val (.int nn), .val (.ref b123), .val (.int (aa &&& (2147483647 : Int32))), .val (.int (own_max (aa &&& (2147483647 : Int32)) bb)), .val (.ref x138), .val (.ref b146), .val (.long (((own_b d0 (0 : Int32) nn (0 : Int32)) ||| (own_b d1 (1 : Int32) nn (0 : Int32))) ||| (own_b d2 (2 : Int32) nn (0 : Int32)))), .second, .val (.long (((own_b d0 (0 : Int32) nn (1 : Int32)) ||| (own_b d1 (1 : Int32) nn (1 : Int32))) ||| (own_b d2 (2 : Int32) nn (1 : Int32)))), .second] [(.int (1 : Int32)), (.ref b146)])) P231 (by
        intro tt_ kk_
        refine XS.aload X228.here hx rfl (hb hby at_234) rfl rfl ?_
        refine XS.iconst X228.here hx rfl (hb hby at_236) ?_
        exact kk_)
      obtain ⟨cq233, kq233, q233a, q233b, q233c⟩ := isOf hZ e228 f192
      obtain ⟨_, _, ⟨T233, L233, k233, n233⟩, -, X233, ⟨Lc233, hQ233, l233, y233, z233⟩, st233⟩ := X228.virtualBack hx (y := (⟨"com/example/gatehouse/gatehouse/pattern/NameShape", "characters", "(I)J"⟩ : MethodName)) (z := (⟨"com/example/gatehouse/gatehouse/pattern/NameShape", "characters", "(I)J"⟩ : MethodName)) hown (mvT hZ (hw _ (List.mem_of_getElem? (i := 79) rfl))) (mvT hZ (hw _ (List.mem_of_getElem? (i := 80) rfl))) (notFace_of_selects (args := #[]) (mvT hZ (hw _ (List.mem_of_getElem? (i := 82) rfl)))) (mvT hZ (hw _ (List.mem_of_getElem? (i := 82) rfl))) (mvT hZ (hw _ (List.mem_of_getElem? (i := 81) rfl))) (by decide) (backOf (W := 0) (rm_own_chr l Z a0 hw [] b146 (1 : Int32) (own_bit (0 : Int32) (64 : Int32) ((((nar .char d0).toInt8.toInt32).toInt8.toInt32) &&& (255 : Int32)) (0 : Int64)) (own_bit (64 : Int32) (128 : Int32) ((((nar .char d0).toInt8.toInt32).toInt8.toInt32) &&& (255 : Int32)) (0 : Int64)) T191.heap n0 Z207 f193 f194) hZ (hw _ (List.mem_of_getElem? (i := 83) rfl)) (hw _ (List.mem_of_getElem? (i := 34) rfl)) (by decide) (by decide)) q233a q233c (g := (mkF m 237 #[.val (.int pk), .val (.int qq), .val (.int aa), .val (.int bb), .val (.int d0), .val (.int d1), .val (.int d2), .val (.int nn), .val (.ref b123), .val (.int (aa &&& (2147483647 : Int32))), .val (.int (own_max (aa &&& (2147483647 : Int32)) bb)), .val (.ref x138), .val (.ref b146), .val (.long (((own_b d0 (0 : Int32) nn (0 : Int32)) ||| (own_b d1 (1 : Int32) nn (0 : Int32))) ||| (own_b d2 (2 : Int32) nn (0 : Int32)))), .second, .val (.long (((own_b d0 (0 : Int32) nn (1 : Int32)) ||| (own_b d1 (1 : Int32) nn (1 : Int32))) ||| (own_b d2 (2 : Int32) nn (1 : Int32)))), .second] [(.int (1 : Int32)), (.ref b146)])) rfl (by rw [hml]; rfl) (Steps.refl _) (argsL := [(.int (1 : Int32))]) (rest := []) (lenOf pd21 rfl) rfl (by show 2 * 0 + _ ≤ _; exact Nat.le_of_eq rfl) (hb hby at_237) (fun _ _ => ⟨rfl, e228, (by decide : 6 + 0 ≤ _), (by decide : 16 + 0 ≤ _)⟩)
      dsimp only [Pt.U, Pt.locs, Pt.cells, Pt.slots] at X233 l233 y233 z233 st233 hQ233
      subst l233 y233 z233
      obtain ⟨rfl, N233q, e233⟩ := hQ233
      have N233 := Fr.app N228 N233q
      have P234 := own_step (C := T233.setTop (mkF m 240 #[.val (.int pk), .val (.int qq), .val (.int aa), .val (.int bb), .val (.int d0), .val (.int d1), .val (.int d2), .val (.int nn), .val (.ref b123), .val (.int (aa &&& (2147483647 : Int32))), .val (.int (own_max (aa &&& (2147483647 : Int32)) bb)), .val (.ref x138), .val (.ref b146), .val (.long (((own_b d0 (0 : Int32) nn (0 : Int32)) ||| (own_b d1 (1 : Int32) nn (0 : Int32))) ||| (own_b d2 (2 : Int32) nn (0 : Int32)))), .second, .val (.long (((own_b d0 (0 : Int32) nn (1 : Int32)) ||| (own_b d1 (1 : Int32) nn (1 : Int32))) ||| (own_b d2 (2 : Int32) nn (1 : Int32)))), .second] [(.long (own_chr (1 : Int32) (own_bit (0 : Int32) (64 : Int32) ((((nar .char d0).toInt8.toInt32).toInt8.toInt32) &&& (255 : Int32)) (0 : Int64)) (own_bit (64 : Int32) (128 : Int32) ((((nar .char d0).toInt8.toInt32).toInt8.toInt32) &&& (255 : Int32)) (0 : Int64))))])) P232 (fun t_ k_ => st233.trans k_)
      have P235 := own_step (C := T233.setTop (mkF m 243 #[.val (.int pk), .val (.int qq), .val (.int aa), .val (.int bb), .val (.int d0), .val (.int d1), .val (.int d2), .val (.int nn), .val (.ref b123), .val (.int (aa &&& (2147483647 : Int32))), .val (.int (own_max (aa &&& (2147483647 : Int32)) bb)), .val (.ref x138), .val (.ref b146), .val (.long (((own_b d0 (0 : Int32) nn (0 : Int32)) ||| (own_b d1 (1 : Int32) nn (0 : Int32))) ||| (own_b d2 (2 : Int32) nn (0 : Int32)))), .second, .val (.long (((own_b d0 (0 : Int32) nn (1 : Int32)) ||| (own_b d1 (1 : Int32) nn (1 : Int32))) ||| (own_b d2 (2 : Int32) nn (1 : Int32)))), .second] [(.int (lcmpW (own_chr (1 : Int32) (own_bit (0 : Int32) (64 : Int32) ((((nar .char d0).toInt8.toInt32).toInt8.toInt32) &&& (255 : Int32)) (0 : Int64)) (own_bit (64 : Int32) (128 : Int32) ((((nar .char d0).toInt8.toInt32).toInt8.toInt32) &&& (255 : Int32)) (0 : Int64))) (((own_b d0 (0 : Int32) nn (1 : Int32)) ||| (own_b d1 (1 : Int32) nn (1 : Int32))) ||| (own_b d2 (2 : Int32) nn (1 : Int32)))))])) P234 (by
        intro tt_ kk_
        refine XS.lload X233.here hx rfl (hb hby at_240) rfl ?_
        refine XS.lcmp X233.here hx rfl (hb hby at_242) rfl ?_
        exact kk_)
      have P236 := own_step (C := T233.setTop (mkF m 246 #[.val (.int pk), .val (.int qq), .val (.int aa), .val (.int bb), .val (.int d0), .val (.int d1), .val (.int d2), .val (.int nn), .val (.ref b123), .val (.int (aa &&& (2147483647 : Int32))), .val (.int (own_max (aa &&& (2147483647 : Int32)) bb)), .val (.ref x138), .val (.ref b146), .val (.long (((own_b d0 (0 : Int32) nn (0 : Int32)) ||| (own_b d1 (1 : Int32) nn (0 : Int32))) ||| (own_b d2 (2 : Int32) nn (0 : Int32)))), .second, .val (.long (((own_b d0 (0 : Int32) nn (1 : Int32)) ||| (own_b d1 (1 : Int32) nn (1 : Int32))) ||| (own_b d2 (2 : Int32) nn (1 : Int32)))), .second] [])) P235 (by
        intro tt_ kk_
        refine XS.ifNo X233.here hx rfl (hb hby at_243) rfl ((if0 _ _).trans (teq ((lw_eq _ _).mpr (own_f11 c120 gd0))).2) ?_
        exact kk_)
      have P237 := own_step (C := T233.setTop (mkF m 251 #[.val (.int pk), .val (.int qq), .val (.int aa), .val (.int bb), .val (.int d0), .val (.int d1), .val (.int d2), .val (.int nn), .val (.ref b123), .val (.int (aa &&& (2147483647 : Int32))), .val (.int (own_max (aa &&& (2147483647 : Int32)) bb)), .val (.ref x138), .val (.ref b146), .val (.long (((own_b d0 (0 : Int32) nn (0 : Int32)) ||| (own_b d1 (1 : Int32) nn (0 : Int32))) ||| (own_b d2 (2 : Int32) nn (0 : Int32)))), .second, .val (.long (((own_b d0 (0 : Int32) nn (1 : Int32)) ||| (own_b d1 (1 : Int32) nn (1 : Int32))) ||| (own_b d2 (2 : Int32) nn (1 : Int32)))), .second] [(.int (1 : Int32))])) P236 (by
        intro tt_ kk_
        refine XS.iconst X233.here hx rfl (hb hby at_246) ?_
        refine XS.goto X233.here hx rfl (pc0 := 247) (pc' := 251) rfl (hb hby at_247) (by decide) (by decide) ?_
        exact kk_)
      obtain ⟨fs, hr, hrun, hended, hW, hsame⟩ := X233.leave (v := some (.int (1 : Int32))) (fun h => by rw [Bd.returns] at h; cases h)
      refine ⟨_, _, P237 _ ?_, hrun, hended, _, _, rfl, ?_, wide ⟨⟨_, rfl⟩, hW, hsame.mono (by decide) (by decide)⟩⟩
      · exact retN X233 hx (t := .boolean) Bd.returns (by simp) (hb hby at_251) hr
      · show Q0 Z _ _ _ _ _ _ h0 n0 _ T233.heap _
        rw [e233]
        exact ⟨rfl, N233⟩
    · have P238 := own_step (C := s₁.setTop (mkF m 67 #[.val (.int pk), .val (.int qq), .val (.int aa), .val (.int bb), .val (.int d0), .val (.int d1), .val (.int d2), .val (.int nn), .unset, .unset, .unset, .unset, .unset, .unset, .unset, .unset, .unset] [])) P119 (by
        intro tt_ kk_
        refine XS.icmpYes X0.here hx rfl (pc0 := 51) (pc' := 67) rfl (hb hby at_51) rfl (feq c120).2 (by decide) (by decide) ?_
        exact kk_)
      have P239 := own_step (C := s₁.setTop (mkF m 70 #[.val (.int pk), .val (.int qq), .val (.int aa), .val (.int bb), .val (.int d0), .val (.int d1), .val (.int d2), .val (.int nn), .unset, .unset, .unset, .unset, .unset, .unset, .unset, .unset, .unset] [(.int (2 : Int32)), (.int nn)])) P238 (by
        intro tt_ kk_
        refine XS.iload X0.here hx rfl (hb hby at_67) rfl ?_
        refine XS.iconst X0.here hx rfl (hb hby at_69) ?_
        exact kk_)
      by_cases c240 : nn = (2 : Int32)
      · have P241 := own_step (C := s₁.setTop (mkF m 73 #[.val (.int pk), .val (.int qq), .val (.int aa), .val (.int bb), .val (.int d0), .val (.int d1), .val (.int d2), .val (.int nn), .unset, .unset, .unset, .unset, .unset, .unset, .unset, .unset, .unset] [])) P239 (by
          intro tt_ kk_
          refine XS.icmpNo X0.here hx rfl (hb hby at_70) rfl (teq c240).2 ?_
          exact kk_)
        have P242 := own_step (C := s₁.setTop (mkF m 74 #[.val (.int pk), .val (.int qq), .val (.int aa), .val (.int bb), .val (.int d0), .val (.int d1), .val (.int d2), .val (.int nn), .unset, .unset, .unset, .unset, .unset, .unset, .unset, .unset, .unset] [(.int (2 : Int32))])) P241 (by
          intro tt_ kk_
          refine XS.iconst X0.here hx rfl (hb hby at_73) ?_
          exact kk_)
        obtain ⟨T243, h243, k243, X243, e243, E243, A243, st243⟩ := newP X0 hx hZ (hw _ (List.mem_of_getElem? (i := 0) rfl)) e0 (g := (mkF m 74 #[.val (.int pk), .val (.int qq), .val (.int aa), .val (.int bb), .val (.int d0), .val (.int d1), .val (.int d2), .val (.int nn), .unset, .unset, .unset, .unset, .unset, .unset, .unset, .unset, .unset] [(.int (2 : Int32))])) rfl (hb hby at_74) rfl (by decide) (cap := 2) (by decide) (by decide) (by decide) (by decide)
        obtain ⟨b243, g243⟩ : ∃ z, z = h0.size := ⟨_, rfl⟩
        rw [← g243] at A243 st243
        have g_b243 : n0 ≤ b243 := Nat.le_trans Z0 (Nat.le_of_eq g243.symm)
        have f244 := O.ext E243
        have Z245 : n0 ≤ h243.size := Nat.le_trans Z0 E243.1
        have V243 : Arv Z h243 b243 k243 .char (2 : Int32) [(.int (0 : Int32)), (.int (0 : Int32))] (.int (0 : Int32)) := (Arv.new A243 (by decide)).pad (pad_rep [] _ 2)
        have P246 := own_step (C := T243.setTop (mkF m 76 #[.val (.int pk), .val (.int qq), .val (.int aa), .val (.int bb), .val (.int d0), .val (.int d1), .val (.int d2), .val (.int nn), .unset, .unset, .unset, .unset, .unset, .unset, .unset, .unset, .unset] [(.ref b243)])) P242 (fun t_ k_ => st243 t_ k_)
        have P247 := own_step (C := T243.setTop (mkF m 80 #[.val (.int pk), .val (.int qq), .val (.int aa), .val (.int bb), .val (.int d0), .val (.int d1), .val (.int d2), .val (.int nn), .unset, .unset, .unset, .unset, .unset, .unset, .unset, .unset, .unset] [(.int d0), (.int (0 : Int32)), (.ref b243), (.ref b243)])) P246 (by
          intro tt_ kk_
          refine XS.dup X243.here hx rfl (hb hby at_76) rfl rfl ?_
          refine XS.iconst X243.here hx rfl (hb hby at_77) ?_
          refine XS.iload X243.here hx rfl (hb hby at_78) rfl ?_
          exact kk_)
        obtain ⟨cl248, Ar248, q248, S248, M248, H248, G248⟩ := id V243
        obtain ⟨T249, h249, X249, e249, W249, st249⟩ := stC X243 hx hZ e243 Ar248 (j := (0 : Int32)) (inb_of S248 (by decide : ¬ (0 : Int32) < 0 ∧ (0 : Int32) < (2 : Int32))) (g := (mkF m 80 #[.val (.int pk), .val (.int qq), .val (.int aa), .val (.int bb), .val (.int d0), .val (.int d1), .val (.int d2), .val (.int nn), .unset, .unset, .unset, .unset, .unset, .unset, .unset, .unset, .unset] [(.int d0), (.int (0 : Int32)), (.ref b243), (.ref b243)])) rfl rfl (hb hby at_80)
        have f250 := f244.wr W249 g_b243
        have Z252 : n0 ≤ h249.size := Nat.le_trans Z245 (Keep.of_wr W249).1
        have V249 : Arv Z h249 b243 k243 .char (2 : Int32) [(.int (nar .char d0)), (.int (0 : Int32))] (.int (0 : Int32)) := Arv.set Ar248 q248 S248 M248 H248 G248 (fits_nar_char _) W249 0 rfl (Nat.le_of_ble_eq_true rfl)
        have N249 := Fr.snoc X249 N0 g_b243
        have P253 := own_step (C := T249.setTop (mkF m 81 #[.val (.int pk), .val (.int qq), .val (.int aa), .val (.int bb), .val (.int d0), .val (.int d1), .val (.int d2), .val (.int nn), .unset, .unset, .unset, .unset, .unset, .unset, .unset, .unset, .unset] [(.ref b243)])) P247 (fun t_ k_ => st249 t_ k_)
        have P254 := own_step (C := T249.setTop (mkF m 85 #[.val (.int pk), .val (.int qq), .val (.int aa), .val (.int bb), .val (.int d0), .val (.int d1), .val (.int d2), .val (.int nn), .unset, .unset, .unset, .unset, .unset, .unset, .unset, .unset, .unset] [(.int d1), (.int (1 : Int32)), (.ref b243), (.ref b243)])) P253 (by
          intro tt_ kk_
          refine XS.dup X249.here hx rfl (hb hby at_81) rfl rfl ?_
          refine XS.iconst X249.here hx rfl (hb hby at_82) ?_
          refine XS.iload X249.here hx rfl (hb hby at_83) rfl ?_
          exact kk_)
        obtain ⟨cl255, Ar255, q255, S255, M255, H255, G255⟩ := id V249
        obtain ⟨T256, h256, X256, e256, W256, st256⟩ := stC X249 hx hZ e249 Ar255 (j := (1 : Int32)) (inb_of S255 (by decide : ¬ (1 : Int32) < 0 ∧ (1 : Int32) < (2 : Int32))) (g := (mkF m 85 #[.val (.int pk), .val (.int qq), .val (.int aa), .val (.int bb), .val (.int d0), .val (.int d1), .val (.int d2), .val (.int nn), .unset, .unset, .unset, .unset, .unset, .unset, .unset, .unset, .unset] [(.int d1), (.int (1 : Int32)), (.ref b243), (.ref b243)])) rfl rfl (hb hby at_85)
        have f257 := f250.wr W256 g_b243
        have Z259 : n0 ≤ h256.size := Nat.le_trans Z252 (Keep.of_wr W256).1
        have V256 : Arv Z h256 b243 k243 .char (2 : Int32) [(.int (nar .char d0)), (.int (nar .char d1))] (.int (0 : Int32)) := Arv.set Ar255 q255 S255 M255 H255 G255 (fits_nar_char _) W256 1 rfl (Nat.le_of_ble_eq_true rfl)
        have N256 := Fr.snoc X256 N249 g_b243
        have P260 := own_step (C := T256.setTop (mkF m 86 #[.val (.int pk), .val (.int qq), .val (.int aa), .val (.int bb), .val (.int d0), .val (.int d1), .val (.int d2), .val (.int nn), .unset, .unset, .unset, .unset, .unset, .unset, .unset, .unset, .unset] [(.ref b243)])) P254 (fun t_ k_ => st256 t_ k_)
        have P261 := own_step (C := T256.setTop (mkF m 120 #[.val (.int pk), .val (.int qq), .val (.int aa), .val (.int bb), .val (.int d0), .val (.int d1), .val (.int d2), .val (.int nn), .val (.ref b243), .val (.int (aa &&& (2147483647 : Int32))), .unset, .unset, .unset, .unset, .unset, .unset, .unset] [(.int bb), (.int (aa &&& (2147483647 : Int32)))])) P260 (by
          intro tt_ kk_
          refine XS.astore X256.here hx rfl (hb hby at_86) rfl rfl (l' := #[.val (.int pk), .val (.int qq), .val (.int aa), .val (.int bb), .val (.int d0), .val (.int d1), .val (.int d2), .val (.int nn), .val (.ref b243), .unset, .unset, .unset, .unset, .unset, .unset, .unset, .unset]) rfl ?_
          refine XS.goto X256.here hx rfl (pc0 := 88) (pc' := 111) rfl (hb hby at_88) (by decide) (by decide) ?_
          refine XS.iloadN X256.here hx rfl (hb hby at_111) rfl ?_
          refine X256.ldcInt hx hown (mvT hZ (hw _ (List.mem_of_getElem? (i := 1) rfl))) (g := (mkF m 112 #[.val (.int pk), .val (.int qq), .val (.int aa), .val (.int bb), .val (.int d0), .val (.int d1), .val (.int d2), .val (.int nn), .val (.ref b243), .unset, .unset, .unset, .unset, .unset, .unset, .unset, .unset] [(.int aa)])) rfl (hb hby at_112) _ ?_
          refine XS.iand X256.here hx rfl (hb hby at_114) rfl ?_
          refine XS.istore X256.here hx rfl (hb hby at_115) rfl (l' := #[.val (.int pk), .val (.int qq), .val (.int aa), .val (.int bb), .val (.int d0), .val (.int d1), .val (.int d2), .val (.int nn), .val (.ref b243), .val (.int (aa &&& (2147483647 : Int32))), .unset, .unset, .unset, .unset, .unset, .unset, .unset]) rfl ?_
          show Steps p.tables e below (T256.setTop (mkF m 117 #[.val (.int pk), .val (.int qq), .val (.int aa), .val (.int bb), .val (.int d0), .val (.int d1), .val (.int d2), .val (.int nn), .val (.ref b243), .val (.int (aa &&& (2147483647 : Int32))), .unset, .unset, .unset, .unset, .unset, .unset, .unset] [])) _
          refine XS.iload X256.here hx rfl (hb hby at_117) rfl ?_
          refine XS.iloadN X256.here hx rfl (hb hby at_119) rfl ?_
          exact kk_)
        obtain ⟨_, _, ⟨T262, L262, k262, n262⟩, -, X262, ⟨Lc262, hQ262, l262, y262, z262⟩, st262⟩ := Jvm.LawKit.callS X256 hx (y := (⟨"java/lang/Math", "max", "(II)I"⟩ : MethodName)) hown (mvT hZ (hw _ (List.mem_of_getElem? (i := 2) rfl))) (mvT hZ (hw _ (List.mem_of_getElem? (i := 3) rfl))) (mvT hZ (hw _ (List.mem_of_getElem? (i := 4) rfl))) (mvT hZ (hw _ (List.mem_of_getElem? (i := 5) rfl))) (by decide) (backOf (W := 0) (rm_own_max l Z a0 hw [] (aa &&& (2147483647 : Int32)) bb h256 n0 Z259 ) hZ (hw _ (List.mem_of_getElem? (i := 5) rfl)) (hw _ (List.mem_of_getElem? (i := 4) rfl)) (by decide) (by decide)) (g := (mkF m 120 #[.val (.int pk), .val (.int qq), .val (.int aa), .val (.int bb), .val (.int d0), .val (.int d1), .val (.int d2), .val (.int nn), .val (.ref b243), .val (.int (aa &&& (2147483647 : Int32))), .unset, .unset, .unset, .unset, .unset, .unset, .unset] [(.int bb), (.int (aa &&& (2147483647 : Int32)))])) rfl (by rw [hml]; rfl) (argsL := [(.int (aa &&& (2147483647 : Int32))), (.int bb)]) (rest := []) (lenOf pd16 rfl) rfl (by show 2 * 0 + _ ≤ _; exact Nat.le_of_eq rfl) (hb hby at_120) (fun _ _ => ⟨rfl, e256, (by decide : 1 + 0 ≤ _), (by decide : 2 + 0 ≤ _)⟩)
        dsimp only [Pt.U, Pt.locs, Pt.cells, Pt.slots] at X262 l262 y262 z262 st262 hQ262
        subst l262 y262 z262
        obtain ⟨rfl, N262q, e262⟩ := hQ262
        have N262 := Fr.app N256 N262q
        have P263 := own_step (C := T262.setTop (mkF m 123 #[.val (.int pk), .val (.int qq), .val (.int aa), .val (.int bb), .val (.int d0), .val (.int d1), .val (.int d2), .val (.int nn), .val (.ref b243), .val (.int (aa &&& (2147483647 : Int32))), .unset, .unset, .unset, .unset, .unset, .unset, .unset] [(.int (own_max (aa &&& (2147483647 : Int32)) bb))])) P261 (fun t_ k_ => st262 t_ k_)
        have P264 := own_step (C := T262.setTop (mkF m 131 #[.val (.int pk), .val (.int qq), .val (.int aa), .val (.int bb), .val (.int d0), .val (.int d1), .val (.int d2), .val (.int nn), .val (.ref b243), .val (.int (aa &&& (2147483647 : Int32))), .val (.int (own_max (aa &&& (2147483647 : Int32)) bb)), .unset, .unset, .unset, .unset, .unset, .unset] [(.int ((qq &&& (255 : Int32)).toUInt32.toUInt16.toUInt32.toInt32))])) P263 (by
          intro tt_ kk_
          refine XS.istore X262.here hx rfl (hb hby at_123) rfl (l' := #[.val (.int pk), .val (.int qq), .val (.int aa), .val (.int bb), .val (.int d0), .val (.int d1), .val (.int d2), .val (.int nn), .val (.ref b243), .val (.int (aa &&& (2147483647 : Int32))), .val (.int (own_max (aa &&& (2147483647 : Int32)) bb)), .unset, .unset, .unset, .unset, .unset, .unset]) rfl ?_
          refine XS.iloadN X262.here hx rfl (hb hby at_125) rfl ?_
          refine XS.sipush X262.here hx rfl (hb hby at_126) ?_
          refine XS.iand X262.here hx rfl (hb hby at_129) rfl ?_
          refine XS.i2c X262.here hx rfl (hb hby at_130) rfl ?_
          exact kk_)
        obtain ⟨_, _, ⟨T265, L265, k265, n265⟩, -, X265, ⟨Lc265, hQ265, l265, y265, z265⟩, st265⟩ := Jvm.LawKit.callS X262 hx (y := (⟨"java/lang/String", "valueOf", "(C)Ljava/lang/String;"⟩ : MethodName)) hown (mvT hZ (hw _ (List.mem_of_getElem? (i := 6) rfl))) (mvT hZ (hw _ (List.mem_of_getElem? (i := 7) rfl))) (mvT hZ (hw _ (List.mem_of_getElem? (i := 8) rfl))) (mvT hZ (hw _ (List.mem_of_getElem? (i := 9) rfl))) (by decide) (backOf (W := 0) (rm_valueOf l Z a0 hw [] ((qq &&& (255 : Int32)).toUInt32.toUInt16.toUInt32.toInt32) cs h256 n0 Z259 f257 Scs hcs (own_v255 _)) hZ (hw _ (List.mem_of_getElem? (i := 9) rfl)) (hw _ (List.mem_of_getElem? (i := 8) rfl)) (by decide) (by decide)) (g := (mkF m 131 #[.val (.int pk), .val (.int qq), .val (.int aa), .val (.int bb), .val (.int d0), .val (.int d1), .val (.int d2), .val (.int nn), .val (.ref b243), .val (.int (aa &&& (2147483647 : Int32))), .val (.int (own_max (aa &&& (2147483647 : Int32)) bb)), .unset, .unset, .unset, .unset, .unset, .unset] [(.int ((qq &&& (255 : Int32)).toUInt32.toUInt16.toUInt32.toInt32))])) rfl (by rw [hml]; rfl) (argsL := [(.int ((qq &&& (255 : Int32)).toUInt32.toUInt16.toUInt32.toInt32))]) (rest := []) (lenOf pd17 rfl) rfl (by show 2 * 0 + _ ≤ _; exact Nat.le_of_eq rfl) (hb hby at_131) (fun _ _ => ⟨rfl, e262, (by decide : 1 + 2 ≤ _), (by decide : 2 + 5 ≤ _)⟩)
        dsimp only [Pt.U, Pt.locs, Pt.cells, Pt.slots] at X265 l265 y265 z265 st265 hQ265
        subst l265 y265 z265
        obtain ⟨x265, rfl, N265q, K265, f266, f267⟩ := hQ265
        have N265 := Fr.app N262 N265q
        have ne_b243_x265 : b243 ≠ x265 := Nat.ne_of_lt (Nat.lt_of_lt_of_le V256.lt f266)
        have g_x265 : n0 ≤ x265 := Nat.le_trans Z259 f266
        have f268 := f257.keep K265 all0
        have f269 := V256.keep K265 nin0
        have Z270 : n0 ≤ T265.heap.size := Nat.le_trans Z259 K265.1
        have P271 := own_step (C := T265.setTop (mkF m 134 #[.val (.int pk), .val (.int qq), .val (.int aa), .val (.int bb), .val (.int d0), .val (.int d1), .val (.int d2), .val (.int nn), .val (.ref b243), .val (.int (aa &&& (2147483647 : Int32))), .val (.int (own_max (aa &&& (2147483647 : Int32)) bb)), .unset, .unset, .unset, .unset, .unset, .unset] [(.ref x265)])) P264 (fun t_ k_ => st265 t_ k_)
        have P272 := own_step (C := T265.setTop (mkF m 136 #[.val (.int pk), .val (.int qq), .val (.int aa), .val (.int bb), .val (.int d0), .val (.int d1), .val (.int d2), .val (.int nn), .val (.ref b243), .val (.int (aa &&& (2147483647 : Int32))), .val (.int (own_max (aa &&& (2147483647 : Int32)) bb)), .val (.ref x265), .unset, .unset, .unset, .unset, .unset] [])) P271 (by
          intro tt_ kk_
          refine XS.astore X265.here hx rfl (hb hby at_134) rfl rfl (l' := #[.val (.int pk), .val (.int qq), .val (.int aa), .val (.int bb), .val (.int d0), .val (.int d1), .val (.int d2), .val (.int nn), .val (.ref b243), .val (.int (aa &&& (2147483647 : Int32))), .val (.int (own_max (aa &&& (2147483647 : Int32)) bb)), .val (.ref x265), .unset, .unset, .unset, .unset, .unset]) rfl ?_
          exact kk_)
        obtain ⟨T273, h273, X273, e273, E273, A273, D273, -, st273⟩ := newO X265 hx hZ hown (hw _ (List.mem_of_getElem? (i := 32) rfl)) (hw _ (List.mem_of_getElem? (i := 33) rfl)) (hw _ (List.mem_of_getElem? (i := 34) rfl)) rfl (g := (mkF m 136 #[.val (.int pk), .val (.int qq), .val (.int aa), .val (.int bb), .val (.int d0), .val (.int d1), .val (.int d2), .val (.int nn), .val (.ref b243), .val (.int (aa &&& (2147483647 : Int32))), .val (.int (own_max (aa &&& (2147483647 : Int32)) bb)), .val (.ref x265), .unset, .unset, .unset, .unset, .unset] [])) rfl (hb hby at_136) (by decide) (by decide)
        obtain ⟨b273, g273⟩ : ∃ z, z = T265.heap.size := ⟨_, rfl⟩
        rw [← g273] at A273 D273 st273
        have ne_b243_b273 : b243 ≠ b273 := Nat.ne_of_lt (Nat.lt_of_lt_of_le f269.lt (Nat.le_of_eq g273.symm))
        have g_b273 : n0 ≤ b273 := Nat.le_trans Z270 (Nat.le_of_eq g273.symm)
        have f274 := f268.ext E273
        have f275 := f269.ext E273
        have Z276 : n0 ≤ h273.size := Nat.le_trans Z270 E273.1
        have f277 : Fld Z h273 b273 "com/example/gatehouse/gatehouse/pattern/NameShape" "begin" "Ljava/lang/String;" .null := D273 (Or.inr (hw _ (List.mem_of_getElem? (i := 66) rfl))) (ty := (.object "java/lang/String")) (by decide)
        have f278 : Fld Z h273 b273 "com/example/gatehouse/gatehouse/pattern/NameShape" "low" "J" (.long (0 : Int64)) := D273 (Or.inr (hw _ (List.mem_of_getElem? (i := 68) rfl))) (ty := .long) (by decide)
        have f279 : Fld Z h273 b273 "com/example/gatehouse/gatehouse/pattern/NameShape" "high" "J" (.long (0 : Int64)) := D273 (Or.inr (hw _ (List.mem_of_getElem? (i := 70) rfl))) (ty := .long) (by decide)
        have f280 : Fld Z h273 b273 "com/example/gatehouse/gatehouse/pattern/NameShape" "least" "I" (.int (0 : Int32)) := D273 (Or.inr (hw _ (List.mem_of_getElem? (i := 72) rfl))) (ty := .int) (by decide)
        have f281 : Fld Z h273 b273 "com/example/gatehouse/gatehouse/pattern/NameShape" "most" "I" (.int (0 : Int32)) := D273 (Or.inr (hw _ (List.mem_of_getElem? (i := 74) rfl))) (ty := .int) (by decide)
        have P282 := own_step (C := T273.setTop (mkF m 139 #[.val (.int pk), .val (.int qq), .val (.int aa), .val (.int bb), .val (.int d0), .val (.int d1), .val (.int d2), .val (.int nn), .val (.ref b243), .val (.int (aa &&& (2147483647 : Int32))), .val (.int (own_max (aa &&& (2147483647 : Int32)) bb)), .val (.ref x265), .unset, .unset, .unset, .unset, .unset] [(.ref b273)])) P272 (fun t_ k_ => st273 t_ k_)
        have P283 := own_step (C := T273.setTop (mkF m 142 #[.val (.int pk), .val (.int qq), .val (.int aa), .val (.int bb), .val (.int d0), .val (.int d1), .val (.int d2), .val (.int nn), .val (.ref b243), .val (.int (aa &&& (2147483647 : Int32))), .val (.int (own_max (aa &&& (2147483647 : Int32)) bb)), .val (.ref x265), .unset, .unset, .unset, .unset, .unset] [(.ref x265), (.ref b273), (.ref b273)])) P282 (by
          intro tt_ kk_
          refine XS.dup X273.here hx rfl (hb hby at_139) rfl rfl ?_
          refine XS.aload X273.here hx rfl (hb hby at_140) rfl rfl ?_
          exact kk_)
        obtain ⟨T284, h284, X284, e284, E284, A284, D284, -, st284⟩ := newO X273 hx hZ hown (hw _ (List.mem_of_getElem? (i := 35) rfl)) (hw _ (List.mem_of_getElem? (i := 16) rfl)) (hw _ (List.mem_of_getElem? (i := 8) rfl)) e273 (g := (mkF m 142 #[.val (.int pk), .val (.int qq), .val (.int aa), .val (.int bb), .val (.int d0), .val (.int d1), .val (.int d2), .val (.int nn), .val (.ref b243), .val (.int (aa &&& (2147483647 : Int32))), .val (.int (own_max (aa &&& (2147483647 : Int32)) bb)), .val (.ref x265), .unset, .unset, .unset, .unset, .unset] [(.ref x265), (.ref b273), (.ref b273)])) rfl (hb hby at_142) (by decide) (by decide)
        obtain ⟨b284, g284⟩ : ∃ z, z = h273.size := ⟨_, rfl⟩
        rw [← g284] at A284 D284 st284
        have ne_b243_b284 : b243 ≠ b284 := Nat.ne_of_lt (Nat.lt_of_lt_of_le f275.lt (Nat.le_of_eq g284.symm))
        have ne_b273_b284 : b273 ≠ b284 := Nat.ne_of_lt (Nat.lt_of_lt_of_le A273.lt (Nat.le_of_eq g284.symm))
        have g_b284 : n0 ≤ b284 := Nat.le_trans Z276 (Nat.le_of_eq g284.symm)
        have f285 := f274.ext E284
        have f286 := f275.ext E284
        have f287 := A273.ext E284
        have f288 := f277.ext E284
        have f289 := f278.ext E284
        have f290 := f279.ext E284
        have f291 := f280.ext E284
        have f292 := f281.ext E284
        have Z293 : n0 ≤ h284.size := Nat.le_trans Z276 E284.1
        have f294 : Fld Z h284 b284 "java/lang/String" "value" "[B" .null := D284 (Or.inr (hw _ (List.mem_of_getElem? (i := 29) rfl))) (ty := (.array .byte)) (by decide)
        have f295 : Fld Z h284 b284 "java/lang/String" "coder" "B" (.int (0 : Int32)) := D284 (Or.inr (hw _ (List.mem_of_getElem? (i := 31) rfl))) (ty := .byte) (by decide)
        have P296 := own_step (C := T284.setTop (mkF m 145 #[.val (.int pk), .val (.int qq), .val (.int aa), .val (.int bb), .val (.int d0), .val (.int d1), .val (.int d2), .val (.int nn), .val (.ref b243), .val (.int (aa &&& (2147483647 : Int32))), .val (.int (own_max (aa &&& (2147483647 : Int32)) bb)), .val (.ref x265), .unset, .unset, .unset, .unset, .unset] [(.ref b284), (.ref x265), (.ref b273), (.ref b273)])) P283 (fun t_ k_ => st284 t_ k_)
        have P297 := own_step (C := T284.setTop (mkF m 148 #[.val (.int pk), .val (.int qq), .val (.int aa), .val (.int bb), .val (.int d0), .val (.int d1), .val (.int d2), .val (.int nn), .val (.ref b243), .val (.int (aa &&& (2147483647 : Int32))), .val (.int (own_max (aa &&& (2147483647 : Int32)) bb)), .val (.ref x265), .unset, .unset, .unset, .unset, .unset] [(.ref b243), (.ref b284), (.ref b284), (.ref x265), (.ref b273), (.ref b273)])) P296 (by
          intro tt_ kk_
          refine XS.dup X284.here hx rfl (hb hby at_145) rfl rfl ?_
          refine XS.aload X284.here hx rfl (hb hby at_146) rfl rfl ?_
          exact kk_)
        obtain ⟨_, _, ⟨T298, L298, k298, n298⟩, -, X298, ⟨Lc298, hQ298, l298, y298, z298⟩, st298⟩ := X284.specialBack hx (y := (⟨"java/lang/String", "<init>", "([C)V"⟩ : MethodName)) rfl hown (mvT hZ (hw _ (List.mem_of_getElem? (i := 36) rfl))) (mvT hZ (hw _ (List.mem_of_getElem? (i := 37) rfl))) (mvT hZ (hw _ (List.mem_of_getElem? (i := 38) rfl))) (by decide) (backOf (W := 4) (rm_initC_2 l Z a0 hw [] b284 b243 k243 (nar .char d0) (nar .char d1) cs h284 n0 Z293 f285 Scs hcs A284 f294 f295 g_b284 f286 (own_n255 gd0) (own_n255 gd1)) hZ (hw _ (List.mem_of_getElem? (i := 38) rfl)) (hw _ (List.mem_of_getElem? (i := 8) rfl)) (by decide) (by decide)) (g := (mkF m 148 #[.val (.int pk), .val (.int qq), .val (.int aa), .val (.int bb), .val (.int d0), .val (.int d1), .val (.int d2), .val (.int nn), .val (.ref b243), .val (.int (aa &&& (2147483647 : Int32))), .val (.int (own_max (aa &&& (2147483647 : Int32)) bb)), .val (.ref x265), .unset, .unset, .unset, .unset, .unset] [(.ref b243), (.ref b284), (.ref b284), (.ref x265), (.ref b273), (.ref b273)])) rfl (by rw [hml]; rfl) (Steps.refl _) (a := b284) (argsL := [(.ref b243)]) (rest := [(.ref b284), (.ref x265), (.ref b273), (.ref b273)]) (lenOf pd18 rfl) rfl (by show 2 * 0 + _ ≤ _; exact Nat.le_of_eq rfl) (hb hby at_148) (fun _ _ => ⟨rfl, e284, (by decide : 5 + 1 ≤ _), (by decide : 16 + 2 ≤ _)⟩)
        dsimp only [Pt.U, Pt.locs, Pt.cells, Pt.slots] at X298 l298 y298 z298 st298 hQ298
        subst l298 y298 z298
        obtain ⟨x298, kk298, rfl, N298q, K298, f299, f300, f301, f302, f303⟩ := hQ298
        have N298 := Fr.app N265 N298q
        have ne_b243_x298 : b243 ≠ x298 := Nat.ne_of_lt (Nat.lt_of_lt_of_le f286.lt f303)
        have ne_b273_x298 : b273 ≠ x298 := Nat.ne_of_lt (Nat.lt_of_lt_of_le f287.lt f303)
        have ne_b284_x298 : b284 ≠ x298 := Nat.ne_of_lt (Nat.lt_of_lt_of_le A284.lt f303)
        have g_x298 : n0 ≤ x298 := Nat.le_trans Z293 f303
        have f304 := f285.keep K298 (allS g_b284 all0)
        have f305 := f286.keep K298 (ninS ne_b243_b284 nin0)
        have f306 := f287.keep K298
        have f307 := f288.keep K298 (ninS ne_b273_b284 nin0)
        have f308 := f289.keep K298 (ninS ne_b273_b284 nin0)
        have f309 := f290.keep K298 (ninS ne_b273_b284 nin0)
        have f310 := f291.keep K298 (ninS ne_b273_b284 nin0)
        have f311 := f292.keep K298 (ninS ne_b273_b284 nin0)
        have f312 := A284.keep K298
        have Z315 : n0 ≤ T298.heap.size := Nat.le_trans Z293 K298.1
        have P316 := own_step (C := T298.setTop (mkF m 151 #[.val (.int pk), .val (.int qq), .val (.int aa), .val (.int bb), .val (.int d0), .val (.int d1), .val (.int d2), .val (.int nn), .val (.ref b243), .val (.int (aa &&& (2147483647 : Int32))), .val (.int (own_max (aa &&& (2147483647 : Int32)) bb)), .val (.ref x265), .unset, .unset, .unset, .unset, .unset] [(.ref b284), (.ref x265), (.ref b273), (.ref b273)])) P297 (fun t_ k_ => st298.trans k_)
        have P317 := own_step (C := T298.setTop (mkF m 155 #[.val (.int pk), .val (.int qq), .val (.int aa), .val (.int bb), .val (.int d0), .val (.int d1), .val (.int d2), .val (.int nn), .val (.ref b243), .val (.int (aa &&& (2147483647 : Int32))), .val (.int (own_max (aa &&& (2147483647 : Int32)) bb)), .val (.ref x265), .unset, .unset, .unset, .unset, .unset] [(.int (own_max (aa &&& (2147483647 : Int32)) bb)), (.int (aa &&& (2147483647 : Int32))), (.ref b284), (.ref x265), (.ref b273), (.ref b273)])) P316 (by
          intro tt_ kk_
          refine XS.iload X298.here hx rfl (hb hby at_151) rfl ?_
          refine XS.iload X298.here hx rfl (hb hby at_153) rfl ?_
          exact kk_)
        obtain ⟨_, _, ⟨T318, L318, k318, n318⟩, -, X318, ⟨Lc318, hQ318, l318, y318, z318⟩, st318⟩ := X298.specialBack hx (y := (⟨"com/example/gatehouse/gatehouse/pattern/NameShape", "<init>", "(Ljava/lang/String;Ljava/lang/String;II)V"⟩ : MethodName)) rfl hown (mvT hZ (hw _ (List.mem_of_getElem? (i := 45) rfl))) (mvT hZ (hw _ (List.mem_of_getElem? (i := 46) rfl))) (mvT hZ (hw _ (List.mem_of_getElem? (i := 47) rfl))) (by decide) (backOf (W := 1) (rm_ns2 l Z a0 hw [] b273 x265 (aa &&& (2147483647 : Int32)) (own_max (aa &&& (2147483647 : Int32)) bb) b284 x298 kk298 (((nar .char d0).toInt8.toInt32).toInt8.toInt32) (((nar .char d1).toInt8.toInt32).toInt8.toInt32) fm cs T298.heap n0 Z315 f304 Scs hcs Sfm hfm f299 f300 f301 f302 (own_b128 gd0) (own_b128 gd1) f306 f307 f308 f309 f310 f311 g_b273 (own_le _) (own_mo _ _)) hZ (hw _ (List.mem_of_getElem? (i := 47) rfl)) (hw _ (List.mem_of_getElem? (i := 34) rfl)) (by decide) (by decide)) (g := (mkF m 155 #[.val (.int pk), .val (.int qq), .val (.int aa), .val (.int bb), .val (.int d0), .val (.int d1), .val (.int d2), .val (.int nn), .val (.ref b243), .val (.int (aa &&& (2147483647 : Int32))), .val (.int (own_max (aa &&& (2147483647 : Int32)) bb)), .val (.ref x265), .unset, .unset, .unset, .unset, .unset] [(.int (own_max (aa &&& (2147483647 : Int32)) bb)), (.int (aa &&& (2147483647 : Int32))), (.ref b284), (.ref x265), (.ref b273), (.ref b273)])) rfl (by rw [hml]; rfl) (Steps.refl _) (a := b273) (argsL := [(.ref x265), (.ref b284), (.int (aa &&& (2147483647 : Int32))), (.int (own_max (aa &&& (2147483647 : Int32)) bb))]) (rest := [(.ref b273)]) (lenOf pd19 rfl) rfl (by show 2 * 0 + _ ≤ _; exact Nat.le_of_eq rfl) (hb hby at_155) (fun _ _ => ⟨rfl, rfl, (by decide : 6 + 0 ≤ _), (by decide : 18 + 0 ≤ _)⟩)
        dsimp only [Pt.U, Pt.locs, Pt.cells, Pt.slots] at X318 l318 y318 z318 st318 hQ318
        subst l318 y318 z318
        obtain ⟨rfl, N318q, K318, f319, f320, f321⟩ := hQ318
        have N318 := Fr.app N298 N318q
        have f322 := f304.keep K318 (allS g_b273 all0)
        have f323 := f305.keep K318 (ninS ne_b243_b273 nin0)
        have f324 := f306.keep K318
        have f330 := f299.keep K318
        have f331 := f300.keep K318 (ninS (Ne.symm ne_b273_b284) nin0)
        have f332 := f301.keep K318 (ninS (Ne.symm ne_b273_b284) nin0)
        have f333 := f302.keep K318 (ninS (Ne.symm ne_b273_x298) nin0)
        have Z334 : n0 ≤ T318.heap.size := Nat.le_trans Z315 K318.1
        have P335 := own_step (C := T318.setTop (mkF m 158 #[.val (.int pk), .val (.int qq), .val (.int aa), .val (.int bb), .val (.int d0), .val (.int d1), .val (.int d2), .val (.int nn), .val (.ref b243), .val (.int (aa &&& (2147483647 : Int32))), .val (.int (own_max (aa &&& (2147483647 : Int32)) bb)), .val (.ref x265), .unset, .unset, .unset, .unset, .unset] [(.ref b273)])) P317 (fun t_ k_ => st318.trans k_)
        have P336 := own_step (C := T318.setTop (mkF m 166 #[.val (.int pk), .val (.int qq), .val (.int aa), .val (.int bb), .val (.int d0), .val (.int d1), .val (.int d2), .val (.int nn), .val (.ref b243), .val (.int (aa &&& (2147483647 : Int32))), .val (.int (own_max (aa &&& (2147483647 : Int32)) bb)), .val (.ref x265), .val (.ref b273), .unset, .unset, .unset, .unset] [(.int (0 : Int32)), (.int nn), (.int (0 : Int32)), (.int d0)])) P335 (by
          intro tt_ kk_
          refine XS.astore X318.here hx rfl (hb hby at_158) rfl rfl (l' := #[.val (.int pk), .val (.int qq), .val (.int aa), .val (.int bb), .val (.int d0), .val (.int d1), .val (.int d2), .val (.int nn), .val (.ref b243), .val (.int (aa &&& (2147483647 : Int32))), .val (.int (own_max (aa &&& (2147483647 : Int32)) bb)), .val (.ref x265), .val (.ref b273), .unset, .unset, .unset, .unset]) rfl ?_
          refine XS.iload X318.here hx rfl (hb hby at_160) rfl ?_
          refine XS.iconst X318.here hx rfl (hb hby at_162) ?_
          refine XS.iload X318.here hx rfl (hb hby at_163) rfl ?_
          refine XS.iconst X318.here hx rfl (hb hby at_165) ?_
          exact kk_)
        obtain ⟨_, _, ⟨T337, L337, k337, n337⟩, -, X337, ⟨Lc337, hQ337, l337, y337, z337⟩, st337⟩ := Jvm.LawKit.callS X318 hx (y := (⟨"com/example/gatehouse/gatehouse/pattern/NameShapeCharactersPinLaw", "bit", "(IIII)J"⟩ : MethodName)) hown (mvT hZ (hw _ (List.mem_of_getElem? (i := 75) rfl))) (mvT hZ (hw _ (List.mem_of_getElem? (i := 76) rfl))) (mvT hZ (hw _ (List.mem_of_getElem? (i := 77) rfl))) (mvT hZ (hw _ (List.mem_of_getElem? (i := 78) rfl))) (by decide) (backOf (W := 0) (rm_own_b l Z a0 hw [] d0 (0 : Int32) nn (0 : Int32) T318.heap n0 Z334 ) hZ (hw _ (List.mem_of_getElem? (i := 78) rfl)) (hw _ (List.mem_of_getElem? (i := 77) rfl)) (by decide) (by decide)) (g := (mkF m 166 #[.val (.int pk), .val (.int qq), .val (.int aa), .val (.int bb), .val (.int d0), .val (.int d1), .val (.int d2), .val (.int nn), .val (.ref b243), .val (.int (aa &&& (2147483647 : Int32))), .val (.int (own_max (aa &&& (2147483647 : Int32)) bb)), .val (.ref x265), .val (.ref b273), .unset, .unset, .unset, .unset] [(.int (0 : Int32)), (.int nn), (.int (0 : Int32)), (.int d0)])) rfl (by rw [hml]; rfl) (argsL := [(.int d0), (.int (0 : Int32)), (.int nn), (.int (0 : Int32))]) (rest := []) (lenOf pd20 rfl) rfl (by show 2 * 0 + _ ≤ _; exact Nat.le_of_eq rfl) (hb hby at_166) (fun _ _ => ⟨rfl, rfl, (by decide : 6 + 0 ≤ _), (by decide : 18 + 0 ≤ _)⟩)
        dsimp only [Pt.U, Pt.locs, Pt.cells, Pt.slots] at X337 l337 y337 z337 st337 hQ337
        subst l337 y337 z337
        obtain ⟨rfl, N337q, e337⟩ := hQ337
        have N337 := Fr.app N318 N337q
        have P338 := own_step (C := T337.setTop (mkF m 169 #[.val (.int pk), .val (.int qq), .val (.int aa), .val (.int bb), .val (.int d0), .val (.int d1), .val (.int d2), .val (.int nn), .val (.ref b243), .val (.int (aa &&& (2147483647 : Int32))), .val (.int (own_max (aa &&& (2147483647 : Int32)) bb)), .val (.ref x265), .val (.ref b273), .unset, .unset, .unset, .unset] [(.long (own_b d0 (0 : Int32) nn (0 : Int32)))])) P336 (fun t_ k_ => st337 t_ k_)
        have P339 := own_step (C := T337.setTop (mkF m 175 #[.val (.int pk), .val (.int qq), .val (.int aa), .val (.int bb), .val (.int d0), .val (.int d1), .val (.int d2), .val (.int nn), .val (.ref b243), .val (.int (aa &&& (2147483647 : Int32))), .val (.int (own_max (aa &&& (2147483647 : Int32)) bb)), .val (.ref x265), .val (.ref b273), .unset, .unset, .unset, .unset] [(.int (0 : Int32)), (.int nn), (.int (1 : Int32)), (.int d1), (.long (own_b d0 (0 : Int32) nn (0 : Int32)))])) P338 (by
          intro tt_ kk_
          refine XS.iload X337.here hx rfl (hb hby at_169) rfl ?_
          refine XS.iconst X337.here hx rfl (hb hby at_171) ?_
          refine XS.iload X337.here hx rfl (hb hby at_172) rfl ?_
          refine XS.iconst X337.here hx rfl (hb hby at_174) ?_
          exact kk_)
        obtain ⟨_, _, ⟨T340, L340, k340, n340⟩, -, X340, ⟨Lc340, hQ340, l340, y340, z340⟩, st340⟩ := Jvm.LawKit.callS X337 hx (y := (⟨"com/example/gatehouse/gatehouse/pattern/NameShapeCharactersPinLaw", "bit", "(IIII)J"⟩ : MethodName)) hown (mvT hZ (hw _ (List.mem_of_getElem? (i := 75) rfl))) (mvT hZ (hw _ (List.mem_of_getElem? (i := 76) rfl))) (mvT hZ (hw _ (List.mem_of_getElem? (i := 77) rfl))) (mvT hZ (hw _ (List.mem_of_getElem? (i := 78) rfl))) (by decide) (backOf (W := 2) (rm_own_b l Z a0 hw [] d1 (1 : Int32) nn (0 : Int32) T318.heap n0 Z334 ) hZ (hw _ (List.mem_of_getElem? (i := 78) rfl)) (hw _ (List.mem_of_getElem? (i := 77) rfl)) (by decide) (by decide)) (g := (mkF m 175 #[.val (.int pk), .val (.int qq), .val (.int aa), .val (.int bb), .val (.int d0), .val (.int d1), .val (.int d2), .val (.int nn), .val (.ref b243), .val (.int (aa &&& (2147483647 : Int32))), .val (.int (own_max (aa &&& (2147483647 : Int32)) bb)), .val (.ref x265), .val (.ref b273), .unset, .unset, .unset, .unset] [(.int (0 : Int32)), (.int nn), (.int (1 : Int32)), (.int d1), (.long (own_b d0 (0 : Int32) nn (0 : Int32)))])) rfl (by rw [hml]; rfl) (argsL := [(.int d1), (.int (1 : Int32)), (.int nn), (.int (0 : Int32))]) (rest := [(.long (own_b d0 (0 : Int32) nn (0 : Int32)))]) (lenOf pd20 rfl) rfl (by show 2 * 0 + _ ≤ _; exact Nat.le_of_eq rfl) (hb hby at_175) (fun _ _ => ⟨rfl, e337, (by decide : 6 + 0 ≤ _), (by decide : 18 + 0 ≤ _)⟩)
        dsimp only [Pt.U, Pt.locs, Pt.cells, Pt.slots] at X340 l340 y340 z340 st340 hQ340
        subst l340 y340 z340
        obtain ⟨rfl, N340q, e340⟩ := hQ340
        have N340 := Fr.app N337 N340q
        have P341 := own_step (C := T340.setTop (mkF m 178 #[.val (.int pk), .val (.int qq), .val (.int aa), .val (.int bb), .val (.int d0), .val (.int d1), .val (.int d2), .val (.int nn), .val (.ref b243), .val (.int (aa &&& (2147483647 : Int32))), .val (.int (own_max (aa &&& (2147483647 : Int32)) bb)), .val (.ref x265), .val (.ref b273), .unset, .unset, .unset, .unset] [(.long (own_b d1 (1 : Int32) nn (0 : Int32))), (.long (own_b d0 (0 : Int32) nn (0 : Int32)))])) P339 (fun t_ k_ => st340 t_ k_)
        have P342 := own_step (C := T340.setTop (mkF m 185 #[.val (.int pk), .val (.int qq), .val (.int aa), .val (.int bb), .val (.int d0), .val (.int d1), .val (.int d2), .val (.int nn), .val (.ref b243), .val (.int (aa &&& (2147483647 : Int32))), .val (.int (own_max (aa &&& (2147483647 : Int32)) bb)), .val (.ref x265), .val (.ref b273), .unset, .unset, .unset, .unset] [(.int (0 : Int32)), (.int nn), (.int (2 : Int32)), (.int d2), (.long ((own_b d0 (0 : Int32) nn (0 : Int32)) ||| (own_b d1 (1 : Int32) nn (0 : Int32))))])) P341 (by
          intro tt_ kk_
          refine XS.lor X340.here hx rfl (hb hby at_178) rfl ?_
          refine XS.iload X340.here hx rfl (hb hby at_179) rfl ?_
          refine XS.iconst X340.here hx rfl (hb hby at_181) ?_
          refine XS.iload X340.here hx rfl (hb hby at_182) rfl ?_
          refine XS.iconst X340.here hx rfl (hb hby at_184) ?_
          exact kk_)
        obtain ⟨_, _, ⟨T343, L343, k343, n343⟩, -, X343, ⟨Lc343, hQ343, l343, y343, z343⟩, st343⟩ := Jvm.LawKit.callS X340 hx (y := (⟨"com/example/gatehouse/gatehouse/pattern/NameShapeCharactersPinLaw", "bit", "(IIII)J"⟩ : MethodName)) hown (mvT hZ (hw _ (List.mem_of_getElem? (i := 75) rfl))) (mvT hZ (hw _ (List.mem_of_getElem? (i := 76) rfl))) (mvT hZ (hw _ (List.mem_of_getElem? (i := 77) rfl))) (mvT hZ (hw _ (List.mem_of_getElem? (i := 78) rfl))) (by decide) (backOf (W := 2) (rm_own_b l Z a0 hw [] d2 (2 : Int32) nn (0 : Int32) T318.heap n0 Z334 ) hZ (hw _ (List.mem_of_getElem? (i := 78) rfl)) (hw _ (List.mem_of_getElem? (i := 77) rfl)) (by decide) (by decide)) (g := (mkF m 185 #[.val (.int pk), .val (.int qq), .val (.int aa), .val (.int bb), .val (.int d0), .val (.int d1), .val (.int d2), .val (.int nn), .val (.ref b243), .val (.int (aa &&& (2147483647 : Int32))), .val (.int (own_max (aa &&& (2147483647 : Int32)) bb)), .val (.ref x265), .val (.ref b273), .unset, .unset, .unset, .unset] [(.int (0 : Int32)), (.int nn), (.int (2 : Int32)), (.int d2), (.long ((own_b d0 (0 : Int32) nn (0 : Int32)) ||| (own_b d1 (1 : Int32) nn (0 : Int32))))])) rfl (by rw [hml]; rfl) (argsL := [(.int d2), (.int (2 : Int32)), (.int nn), (.int (0 : Int32))]) (rest := [(.long ((own_b d0 (0 : Int32) nn (0 : Int32)) ||| (own_b d1 (1 : Int32) nn (0 : Int32))))]) (lenOf pd20 rfl) rfl (by show 2 * 0 + _ ≤ _; exact Nat.le_of_eq rfl) (hb hby at_185) (fun _ _ => ⟨rfl, e340, (by decide : 6 + 0 ≤ _), (by decide : 18 + 0 ≤ _)⟩)
        dsimp only [Pt.U, Pt.locs, Pt.cells, Pt.slots] at X343 l343 y343 z343 st343 hQ343
        subst l343 y343 z343
        obtain ⟨rfl, N343q, e343⟩ := hQ343
        have N343 := Fr.app N340 N343q
        have P344 := own_step (C := T343.setTop (mkF m 188 #[.val (.int pk), .val (.int qq), .val (.int aa), .val (.int bb), .val (.int d0), .val (.int d1), .val (.int d2), .val (.int nn), .val (.ref b243), .val (.int (aa &&& (2147483647 : Int32))), .val (.int (own_max (aa &&& (2147483647 : Int32)) bb)), .val (.ref x265), .val (.ref b273), .unset, .unset, .unset, .unset] [(.long (own_b d2 (2 : Int32) nn (0 : Int32))), (.long ((own_b d0 (0 : Int32) nn (0 : Int32)) ||| (own_b d1 (1 : Int32) nn (0 : Int32))))])) P342 (fun t_ k_ => st343 t_ k_)
        have P345 := own_step (C := T343.setTop (mkF m 197 #[.val (.int pk), .val (.int qq), .val (.int aa), .val (.int bb), .val (.int d0), .val (.int d1), .val (.int d2), .val (.int nn), .val (.ref b243), .val (.int (aa &&& (2147483647 : Int32))), .val (.int (own_max (aa &&& (2147483647 : Int32)) bb)), .val (.ref x265), .val (.ref b273), .val (.long (((own_b d0 (0 : Int32) nn (0 : Int32)) ||| (own_b d1 (1 : Int32) nn (0 : Int32))) ||| (own_b d2 (2 : Int32) nn (0 : Int32)))), .second, .unset, .unset] [(.int (1 : Int32)), (.int nn), (.int (0 : Int32)), (.int d0)])) P344 (by
          intro tt_ kk_
          refine XS.lor X343.here hx rfl (hb hby at_188) rfl ?_
          refine XS.lstore X343.here hx rfl (hb hby at_189) rfl (l' := #[.val (.int pk), .val (.int qq), .val (.int aa), .val (.int bb), .val (.int d0), .val (.int d1), .val (.int d2), .val (.int nn), .val (.ref b243), .val (.int (aa &&& (2147483647 : Int32))), .val (.int (own_max (aa &&& (2147483647 : Int32)) bb)), .val (.ref x265), .val (.ref b273), .val (.long (((own_b d0 (0 : Int32) nn (0 : Int32)) ||| (own_b d1 (1 : Int32) nn (0 : Int32))) ||| (own_b d2 (2 : Int32) nn (0 : Int32)))), .second, .unset, .unset]) rfl ?_
          refine XS.iload X343.here hx rfl (hb hby at_191) rfl ?_
          refine XS.iconst X343.here hx rfl (hb hby at_193) ?_
          refine XS.iload X343.here hx rfl (hb hby at_194) rfl ?_
          refine XS.iconst X343.here hx rfl (hb hby at_196) ?_
          exact kk_)
        obtain ⟨_, _, ⟨T346, L346, k346, n346⟩, -, X346, ⟨Lc346, hQ346, l346, y346, z346⟩, st346⟩ := Jvm.LawKit.callS X343 hx (y := (⟨"com/example/gatehouse/gatehouse/pattern/NameShapeCharactersPinLaw", "bit", "(IIII)J"⟩ : MethodName)) hown (mvT hZ (hw _ (List.mem_of_getElem? (i := 75) rfl))) (mvT hZ (hw _ (List.mem_of_getElem? (i := 76) rfl))) (mvT hZ (hw _ (List.mem_of_getElem? (i := 77) rfl))) (mvT hZ (hw _ (List.mem_of_getElem? (i := 78) rfl))) (by decide) (backOf (W := 0) (rm_own_b l Z a0 hw [] d0 (0 : Int32) nn (1 : Int32) T318.heap n0 Z334 ) hZ (hw _ (List.mem_of_getElem? (i := 78) rfl)) (hw _ (List.mem_of_getElem? (i := 77) rfl)) (by decide) (by decide)) (g := (mkF m 197 #[.val (.int pk), .val (.int qq), .val (.int aa), .val (.int bb), .val (.int d0), .val (.int d1), .val (.int d2), .val (.int nn), .val (.ref b243), .val (.int (aa &&& (2147483647 : Int32))), .val (.int (own_max (aa &&& (2147483647 : Int32)) bb)), .val (.ref x265), .val (.ref b273), .val (.long (((own_b d0 (0 : Int32) nn (0 : Int32)) ||| (own_b d1 (1 : Int32) nn (0 : Int32))) ||| (own_b d2 (2 : Int32) nn (0 : Int32)))), .second, .unset, .unset] [(.int (1 : Int32)), (.int nn), (.int (0 : Int32)), (.int d0)])) rfl (by rw [hml]; rfl) (argsL := [(.int d0), (.int (0 : Int32)), (.int nn), (.int (1 : Int32))]) (rest := []) (lenOf pd20 rfl) rfl (by show 2 * 0 + _ ≤ _; exact Nat.le_of_eq rfl) (hb hby at_197) (fun _ _ => ⟨rfl, e343, (by decide : 6 + 0 ≤ _), (by decide : 18 + 0 ≤ _)⟩)
        dsimp only [Pt.U, Pt.locs, Pt.cells, Pt.slots] at X346 l346 y346 z346 st346 hQ346
        subst l346 y346 z346
        obtain ⟨rfl, N346q, e346⟩ := hQ346
        have N346 := Fr.app N343 N346q
        have P347 := own_step (C := T346.setTop (mkF m 200 #[.val (.int pk), .val (.int qq), .val (.int aa), .val (.int bb), .val (.int d0), .val (.int d1), .val (.int d2), .val (.int nn), .val (.ref b243), .val (.int (aa &&& (2147483647 : Int32))), .val (.int (own_max (aa &&& (2147483647 : Int32)) bb)), .val (.ref x265), .val (.ref b273), .val (.long (((own_b d0 (0 : Int32) nn (0 : Int32)) ||| (own_b d1 (1 : Int32) nn (0 : Int32))) ||| (own_b d2 (2 : Int32) nn (0 : Int32)))), .second, .unset, .unset] [(.long (own_b d0 (0 : Int32) nn (1 : Int32)))])) P345 (fun t_ k_ => st346 t_ k_)
        have P348 := own_step (C := T346.setTop (mkF m 206 #[.val (.int pk), .val (.int qq), .val (.int aa), .val (.int bb), .val (.int d0), .val (.int d1), .val (.int d2), .val (.int nn), .val (.ref b243), .val (.int (aa &&& (2147483647 : Int32))), .val (.int (own_max (aa &&& (2147483647 : Int32)) bb)), .val (.ref x265), .val (.ref b273), .val (.long (((own_b d0 (0 : Int32) nn (0 : Int32)) ||| (own_b d1 (1 : Int32) nn (0 : Int32))) ||| (own_b d2 (2 : Int32) nn (0 : Int32)))), .second, .unset, .unset] [(.int (1 : Int32)), (.int nn), (.int (1 : Int32)), (.int d1), (.long (own_b d0 (0 : Int32) nn (1 : Int32)))])) P347 (by
          intro tt_ kk_
          refine XS.iload X346.here hx rfl (hb hby at_200) rfl ?_
          refine XS.iconst X346.here hx rfl (hb hby at_202) ?_
          refine XS.iload X346.here hx rfl (hb hby at_203) rfl ?_
          refine XS.iconst X346.here hx rfl (hb hby at_205) ?_
          exact kk_)
        obtain ⟨_, _, ⟨T349, L349, k349, n349⟩, -, X349, ⟨Lc349, hQ349, l349, y349, z349⟩, st349⟩ := Jvm.LawKit.callS X346 hx (y := (⟨"com/example/gatehouse/gatehouse/pattern/NameShapeCharactersPinLaw", "bit", "(IIII)J"⟩ : MethodName)) hown (mvT hZ (hw _ (List.mem_of_getElem? (i := 75) rfl))) (mvT hZ (hw _ (List.mem_of_getElem? (i := 76) rfl))) (mvT hZ (hw _ (List.mem_of_getElem? (i := 77) rfl))) (mvT hZ (hw _ (List.mem_of_getElem? (i := 78) rfl))) (by decide) (backOf (W := 2) (rm_own_b l Z a0 hw [] d1 (1 : Int32) nn (1 : Int32) T318.heap n0 Z334 ) hZ (hw _ (List.mem_of_getElem? (i := 78) rfl)) (hw _ (List.mem_of_getElem? (i := 77) rfl)) (by decide) (by decide)) (g := (mkF m 206 #[.val (.int pk), .val (.int qq), .val (.int aa), .val (.int bb), .val (.int d0), .val (.int d1), .val (.int d2), .val (.int nn), .val (.ref b243), .val (.int (aa &&& (2147483647 : Int32))), .val (.int (own_max (aa &&& (2147483647 : Int32)) bb)), .val (.ref x265), .val (.ref b273), .val (.long (((own_b d0 (0 : Int32) nn (0 : Int32)) ||| (own_b d1 (1 : Int32) nn (0 : Int32))) ||| (own_b d2 (2 : Int32) nn (0 : Int32)))), .second, .unset, .unset] [(.int (1 : Int32)), (.int nn), (.int (1 : Int32)), (.int d1), (.long (own_b d0 (0 : Int32) nn (1 : Int32)))])) rfl (by rw [hml]; rfl) (argsL := [(.int d1), (.int (1 : Int32)), (.int nn), (.int (1 : Int32))]) (rest := [(.long (own_b d0 (0 : Int32) nn (1 : Int32)))]) (lenOf pd20 rfl) rfl (by show 2 * 0 + _ ≤ _; exact Nat.le_of_eq rfl) (hb hby at_206) (fun _ _ => ⟨rfl, e346, (by decide : 6 + 0 ≤ _), (by decide : 18 + 0 ≤ _)⟩)
        dsimp only [Pt.U, Pt.locs, Pt.cells, Pt.slots] at X349 l349 y349 z349 st349 hQ349
        subst l349 y349 z349
        obtain ⟨rfl, N349q, e349⟩ := hQ349
        have N349 := Fr.app N346 N349q
        have P350 := own_step (C := T349.setTop (mkF m 209 #[.val (.int pk), .val (.int qq), .val (.int aa), .val (.int bb), .val (.int d0), .val (.int d1), .val (.int d2), .val (.int nn), .val (.ref b243), .val (.int (aa &&& (2147483647 : Int32))), .val (.int (own_max (aa &&& (2147483647 : Int32)) bb)), .val (.ref x265), .val (.ref b273), .val (.long (((own_b d0 (0 : Int32) nn (0 : Int32)) ||| (own_b d1 (1 : Int32) nn (0 : Int32))) ||| (own_b d2 (2 : Int32) nn (0 : Int32)))), .second, .unset, .unset] [(.long (own_b d1 (1 : Int32) nn (1 : Int32))), (.long (own_b d0 (0 : Int32) nn (1 : Int32)))])) P348 (fun t_ k_ => st349 t_ k_)
        have P351 := own_step (C := T349.setTop (mkF m 216 #[.val (.int pk), .val (.int qq), .val (.int aa), .val (.int bb), .val (.int d0), .val (.int d1), .val (.int d2), .val (.int nn), .val (.ref b243), .val (.int (aa &&& (2147483647 : Int32))), .val (.int (own_max (aa &&& (2147483647 : Int32)) bb)), .val (.ref x265), .val (.ref b273), .val (.long (((own_b d0 (0 : Int32) nn (0 : Int32)) ||| (own_b d1 (1 : Int32) nn (0 : Int32))) ||| (own_b d2 (2 : Int32) nn (0 : Int32)))), .second, .unset, .unset] [(.int (1 : Int32)), (.int nn), (.int (2 : Int32)), (.int d2), (.long ((own_b d0 (0 : Int32) nn (1 : Int32)) ||| (own_b d1 (1 : Int32) nn (1 : Int32))))])) P350 (by
          intro tt_ kk_
          refine XS.lor X349.here hx rfl (hb hby at_209) rfl ?_
          refine XS.iload X349.here hx rfl (hb hby at_210) rfl ?_
          refine XS.iconst X349.here hx rfl (hb hby at_212) ?_
          refine XS.iload X349.here hx rfl (hb hby at_213) rfl ?_
          refine XS.iconst X349.here hx rfl (hb hby at_215) ?_
          exact kk_)
        obtain ⟨_, _, ⟨T352, L352, k352, n352⟩, -, X352, ⟨Lc352, hQ352, l352, y352, z352⟩, st352⟩ := Jvm.LawKit.callS X349 hx (y := (⟨"com/example/gatehouse/gatehouse/pattern/NameShapeCharactersPinLaw", "bit", "(IIII)J"⟩ : MethodName)) hown (mvT hZ (hw _ (List.mem_of_getElem? (i := 75) rfl))) (mvT hZ (hw _ (List.mem_of_getElem? (i := 76) rfl))) (mvT hZ (hw _ (List.mem_of_getElem? (i := 77) rfl))) (mvT hZ (hw _ (List.mem_of_getElem? (i := 78) rfl))) (by decide) (backOf (W := 2) (rm_own_b l Z a0 hw [] d2 (2 : Int32) nn (1 : Int32) T318.heap n0 Z334 ) hZ (hw _ (List.mem_of_getElem? (i := 78) rfl)) (hw _ (List.mem_of_getElem? (i := 77) rfl)) (by decide) (by decide)) (g := (mkF m 216 #[.val (.int pk), .val (.int qq), .val (.int aa), .val (.int bb), .val (.int d0), .val (.int d1), .val (.int d2), .val (.int nn), .val (.ref b243), .val (.int (aa &&& (2147483647 : Int32))), .val (.int (own_max (aa &&& (2147483647 : Int32)) bb)), .val (.ref x265), .val (.ref b273), .val (.long (((own_b d0 (0 : Int32) nn (0 : Int32)) ||| (own_b d1 (1 : Int32) nn (0 : Int32))) ||| (own_b d2 (2 : Int32) nn (0 : Int32)))), .second, .unset, .unset] [(.int (1 : Int32)), (.int nn), (.int (2 : Int32)), (.int d2), (.long ((own_b d0 (0 : Int32) nn (1 : Int32)) ||| (own_b d1 (1 : Int32) nn (1 : Int32))))])) rfl (by rw [hml]; rfl) (argsL := [(.int d2), (.int (2 : Int32)), (.int nn), (.int (1 : Int32))]) (rest := [(.long ((own_b d0 (0 : Int32) nn (1 : Int32)) ||| (own_b d1 (1 : Int32) nn (1 : Int32))))]) (lenOf pd20 rfl) rfl (by show 2 * 0 + _ ≤ _; exact Nat.le_of_eq rfl) (hb hby at_216) (fun _ _ => ⟨rfl, e349, (by decide : 6 + 0 ≤ _), (by decide : 18 + 0 ≤ _)⟩)
        dsimp only [Pt.U, Pt.locs, Pt.cells, Pt.slots] at X352 l352 y352 z352 st352 hQ352
        subst l352 y352 z352
        obtain ⟨rfl, N352q, e352⟩ := hQ352
        have N352 := Fr.app N349 N352q
        have P353 := own_step (C := T352.setTop (mkF m 219 #[.val (.int pk), .val (.int qq), .val (.int aa), .val (.int bb), .val (.int d0), .val (.int d1), .val (.int d2), .val (.int nn), .val (.ref b243), .val (.int (aa &&& (2147483647 : Int32))), .val (.int (own_max (aa &&& (2147483647 : Int32)) bb)), .val (.ref x265), .val (.ref b273), .val (.long (((own_b d0 (0 : Int32) nn (0 : Int32)) ||| (own_b d1 (1 : Int32) nn (0 : Int32))) ||| (own_b d2 (2 : Int32) nn (0 : Int32)))), .second, .unset, .unset] [(.long (own_b d2 (2 : Int32) nn (1 : Int32))), (.long ((own_b d0 (0 : Int32) nn (1 : Int32)) ||| (own_b d1 (1 : Int32) nn (1 : Int32))))])) P351 (fun t_ k_ => st352 t_ k_)
        have P354 := own_step (C := T352.setTop (mkF m 225 #[.val (.int pk), .val (.int qq), .val (.int aa), .val (.int bb), .val (.int d0), .val (.int d1), .val (.int d2), .val (.int nn), .val (.ref b243), .val (.int (aa &&& (2147483647 : Int32))), .val (.int (own_max (aa &&& (2147483647 : Int32)) bb)), .val (.ref x265), .val (.ref b273), .val (.long (((own_b d0 (0 : Int32) nn (0 : Int32)) ||| (own_b d1 (1 : Int32) nn (0 : Int32))) ||| (own_b d2 (2 : Int32) nn (0 : Int32)))), .second, .val (.long (((own_b d0 (0 : Int32) nn (1 : Int32)) ||| (own_b d1 (1 : Int32) nn (1 : Int32))) ||| (own_b d2 (2 : Int32) nn (1 : Int32)))), .second] [(.int (0 : Int32)), (.ref b273)])) P353 (by
          intro tt_ kk_
          refine XS.lor X352.here hx rfl (hb hby at_219) rfl ?_
          refine XS.lstore X352.here hx rfl (hb hby at_220) rfl (l' := #[.val (.int pk), .val (.int qq), .val (.int aa), .val (.int bb), .val (.int d0), .val (.int d1), .val (.int d2), .val (.int nn), .val (.ref b243), .val (.int (aa &&& (2147483647 : Int32))), .val (.int (own_max (aa &&& (2147483647 : Int32)) bb)), .val (.ref x265), .val (.ref b273), .val (.long (((own_b d0 (0 : Int32) nn (0 : Int32)) ||| (own_b d1 (1 : Int32) nn (0 : Int32))) ||| (own_b d2 (2 : Int32) nn (0 : Int32)))), .second, .val (.long (((own_b d0 (0 : Int32) nn (1 : Int32)) ||| (own_b d1 (1 : Int32) nn (1 : Int32))) ||| (own_b d2 (2 : Int32) nn (1 : Int32)))), .second]) rfl ?_
          refine XS.aload X352.here hx rfl (hb hby at_222) rfl rfl ?_
          refine XS.iconst X352.here hx rfl (hb hby at_224) ?_
          exact kk_)
        obtain ⟨cq355, kq355, q355a, q355b, q355c⟩ := isOf hZ e352 f319
        obtain ⟨_, _, ⟨T355, L355, k355, n355⟩, -, X355, ⟨Lc355, hQ355, l355, y355, z355⟩, st355⟩ := X352.virtualBack hx (y := (⟨"com/example/gatehouse/gatehouse/pattern/NameShape", "characters", "(I)J"⟩ : MethodName)) (z := (⟨"com/example/gatehouse/gatehouse/pattern/NameShape", "characters", "(I)J"⟩ : MethodName)) hown (mvT hZ (hw _ (List.mem_of_getElem? (i := 79) rfl))) (mvT hZ (hw _ (List.mem_of_getElem? (i := 80) rfl))) (notFace_of_selects (args := #[]) (mvT hZ (hw _ (List.mem_of_getElem? (i := 82) rfl)))) (mvT hZ (hw _ (List.mem_of_getElem? (i := 82) rfl))) (mvT hZ (hw _ (List.mem_of_getElem? (i := 81) rfl))) (by decide) (backOf (W := 0) (rm_own_chr l Z a0 hw [] b273 (0 : Int32) (own_bit (0 : Int32) (64 : Int32) ((((nar .char d1).toInt8.toInt32).toInt8.toInt32) &&& (255 : Int32)) (own_bit (0 : Int32) (64 : Int32) ((((nar .char d0).toInt8.toInt32).toInt8.toInt32) &&& (255 : Int32)) (0 : Int64))) (own_bit (64 : Int32) (128 : Int32) ((((nar .char d1).toInt8.toInt32).toInt8.toInt32) &&& (255 : Int32)) (own_bit (64 : Int32) (128 : Int32) ((((nar .char d0).toInt8.toInt32).toInt8.toInt32) &&& (255 : Int32)) (0 : Int64))) T318.heap n0 Z334 f320 f321) hZ (hw _ (List.mem_of_getElem? (i := 83) rfl)) (hw _ (List.mem_of_getElem? (i := 34) rfl)) (by decide) (by decide)) q355a q355c (g := (mkF m 225 #[.val (.int pk), .val (.int qq), .val (.int aa), .val (.int bb), .val (.int d0), .val (.int d1), .val (.int d2), .val (.int nn), .val (.ref b243), .val (.int (aa &&& (2147483647 : Int32))), .val (.int (own_max (aa &&& (2147483647 : Int32)) bb)), .val (.ref x265), .val (.ref b273), .val (.long (((own_b d0 (0 : Int32) nn (0 : Int32)) ||| (own_b d1 (1 : Int32) nn (0 : Int32))) ||| (own_b d2 (2 : Int32) nn (0 : Int32)))), .second, .val (.long (((own_b d0 (0 : Int32) nn (1 : Int32)) ||| (own_b d1 (1 : Int32) nn (1 : Int32))) ||| (own_b d2 (2 : Int32) nn (1 : Int32)))), .second] [(.int (0 : Int32)), (.ref b273)])) rfl (by rw [hml]; rfl) (Steps.refl _) (argsL := [(.int (0 : Int32))]) (rest := []) (lenOf pd21 rfl) rfl (by show 2 * 0 + _ ≤ _; exact Nat.le_of_eq rfl) (hb hby at_225) (fun _ _ => ⟨rfl, e352, (by decide : 6 + 0 ≤ _), (by decide : 18 + 0 ≤ _)⟩)
        dsimp only [Pt.U, Pt.locs, Pt.cells, Pt.slots] at X355 l355 y355 z355 st355 hQ355
        subst l355 y355 z355
        obtain ⟨rfl, N355q, e355⟩ := hQ355
        have N355 := Fr.app N352 N355q
        have P356 := own_step (C := T355.setTop (mkF m 228 #[.val (.int pk), .val (.int qq), .val (.int aa), .val (.int bb), .val (.int d0), .val (.int d1), .val (.int d2), .val (.int nn), .val (.ref b243), .val (.int (aa &&& (2147483647 : Int32))), .val (.int (own_max (aa &&& (2147483647 : Int32)) bb)), .val (.ref x265), .val (.ref b273), .val (.long (((own_b d0 (0 : Int32) nn (0 : Int32)) ||| (own_b d1 (1 : Int32) nn (0 : Int32))) ||| (own_b d2 (2 : Int32) nn (0 : Int32)))), .second, .val (.long (((own_b d0 (0 : Int32) nn (1 : Int32)) ||| (own_b d1 (1 : Int32) nn (1 : Int32))) ||| (own_b d2 (2 : Int32) nn (1 : Int32)))), .second] [(.long (own_chr (0 : Int32) (own_bit (0 : Int32) (64 : Int32) ((((nar .char d1).toInt8.toInt32).toInt8.toInt32) &&& (255 : Int32)) (own_bit (0 : Int32) (64 : Int32) ((((nar .char d0).toInt8.toInt32).toInt8.toInt32) &&& (255 : Int32)) (0 : Int64))) (own_bit (64 : Int32) (128 : Int32) ((((nar .char d1).toInt8.toInt32).toInt8.toInt32) &&& (255 : Int32)) (own_bit (64 : Int32) (128 : Int32) ((((nar .char d0).toInt8.toInt32).toInt8.toInt32) &&& (255 : Int32)) (0 : Int64)))))])) P354 (fun t_ k_ => st355.trans k_)
        have P357 := own_step (C := T355.setTop (mkF m 231 #[.val (.int pk), .val (.int qq), .val (.int aa), .val (.int bb), .val (.int d0), .val (.int d1), .val (.int d2), .val (.int nn), .val (.ref b243), .val (.int (aa &&& (2147483647 : Int32))), .val (.int (own_max (aa &&& (2147483647 : Int32)) bb)), .val (.ref x265), .val (.ref b273), .val (.long (((own_b d0 (0 : Int32) nn (0 : Int32)) ||| (own_b d1 (1 : Int32) nn (0 : Int32))) ||| (own_b d2 (2 : Int32) nn (0 : Int32)))), .second, .val (.long (((own_b d0 (0 : Int32) nn (1 : Int32)) ||| (own_b d1 (1 : Int32) nn (1 : Int32))) ||| (own_b d2 (2 : Int32) nn (1 : Int32)))), .second] [(.int (lcmpW (own_chr (0 : Int32) (own_bit (0 : Int32) (64 : Int32) ((((nar .char d1).toInt8.toInt32).toInt8.toInt32) &&& (255 : Int32)) (own_bit (0 : Int32) (64 : Int32) ((((nar .char d0).toInt8.toInt32).toInt8.toInt32) &&& (255 : Int32)) (0 : Int64))) (own_bit (64 : Int32) (128 : Int32) ((((nar .char d1).toInt8.toInt32).toInt8.toInt32) &&& (255 : Int32)) (own_bit (64 : Int32) (128 : Int32) ((((nar .char d0).toInt8.toInt32).toInt8.toInt32) &&& (255 : Int32)) (0 : Int64)))) (((own_b d0 (0 : Int32) nn (0 : Int32)) ||| (own_b d1 (1 : Int32) nn (0 : Int32))) ||| (own_b d2 (2 : Int32) nn (0 : Int32)))))])) P356 (by
          intro tt_ kk_
          refine XS.lload X355.here hx rfl (hb hby at_228) rfl ?_
          refine XS.lcmp X355.here hx rfl (hb hby at_230) rfl ?_
          exact kk_)
        have P358 := own_step (C := T355.setTop (mkF m 234 #[.val (.int pk), .val (.int qq), .val (.int aa), .val (.int bb), .val (.int d0), .val (.int d1), .val (.int d2), .val (.int nn), .val (.ref b243), .val (.int (aa &&& (2147483647 : Int32))), .val (.int (own_max (aa &&& (2147483647 : Int32)) bb)), .val (.ref x265), .val (.ref b273), .val (.long (((own_b d0 (0 : Int32) nn (0 : Int32)) ||| (own_b d1 (1 : Int32) nn (0 : Int32))) ||| (own_b d2 (2 : Int32) nn (0 : Int32)))), .second, .val (.long (((own_b d0 (0 : Int32) nn (1 : Int32)) ||| (own_b d1 (1 : Int32) nn (1 : Int32))) ||| (own_b d2 (2 : Int32) nn (1 : Int32)))), .second] [])) P357 (by
          intro tt_ kk_
          refine XS.ifNo X355.here hx rfl (hb hby at_231) rfl ((if0 _ _).trans (teq ((lw_eq _ _).mpr (own_f20 c240 gd0 gd1))).2) ?_
          exact kk_)
        have P359 := own_step (C := T355.setTop (mkF m 237 #[.val (.int pk), .val (.int qq), .val (.int aa), .val (.int bb), .val (.int d0), .val (.int d1), .val (.int d2), .val (.int nn), .val (.ref b243), .val (.int (aa &&& (2147483647 : Int32))), .val (.int (own_max (aa &&& (2147483647 : Int32)) bb)), .val (.ref x265), .val (.ref b273), .val (.long (((own_b d0 (0 : Int32) nn (0 : Int32)) ||| (own_b d1 (1 : Int32) nn (0 : Int32))) ||| (own_b d2 (2 : Int32) nn (0 : Int32)))), .second, .val (.long (((own_b d0 (0 : Int32) nn (1 : Int32)) ||| (own_b d1 (1 : Int32) nn (1 : Int32))) ||| (own_b d2 (2 : Int32) nn (1 : Int32)))), .second] [(.int (1 : Int32)), (.ref b273)])) P358 (by
          intro tt_ kk_
          refine XS.aload X355.here hx rfl (hb hby at_234) rfl rfl ?_
          refine XS.iconst X355.here hx rfl (hb hby at_236) ?_
          exact kk_)
        obtain ⟨cq360, kq360, q360a, q360b, q360c⟩ := isOf hZ e355 f319
        obtain ⟨_, _, ⟨T360, L360, k360, n360⟩, -, X360, ⟨Lc360, hQ360, l360, y360, z360⟩, st360⟩ := X355.virtualBack hx (y := (⟨"com/example/gatehouse/gatehouse/pattern/NameShape", "characters", "(I)J"⟩ : MethodName)) (z := (⟨"com/example/gatehouse/gatehouse/pattern/NameShape", "characters", "(I)J"⟩ : MethodName)) hown (mvT hZ (hw _ (List.mem_of_getElem? (i := 79) rfl))) (mvT hZ (hw _ (List.mem_of_getElem? (i := 80) rfl))) (notFace_of_selects (args := #[]) (mvT hZ (hw _ (List.mem_of_getElem? (i := 82) rfl)))) (mvT hZ (hw _ (List.mem_of_getElem? (i := 82) rfl))) (mvT hZ (hw _ (List.mem_of_getElem? (i := 81) rfl))) (by decide) (backOf (W := 0) (rm_own_chr l Z a0 hw [] b273 (1 : Int32) (own_bit (0 : Int32) (64 : Int32) ((((nar .char d1).toInt8.toInt32).toInt8.toInt32) &&& (255 : Int32)) (own_bit (0 : Int32) (64 : Int32) ((((nar .char d0).toInt8.toInt32).toInt8.toInt32) &&& (255 : Int32)) (0 : Int64))) (own_bit (64 : Int32) (128 : Int32) ((((nar .char d1).toInt8.toInt32).toInt8.toInt32) &&& (255 : Int32)) (own_bit (64 : Int32) (128 : Int32) ((((nar .char d0).toInt8.toInt32).toInt8.toInt32) &&& (255 : Int32)) (0 : Int64))) T318.heap n0 Z334 f320 f321) hZ (hw _ (List.mem_of_getElem? (i := 83) rfl)) (hw _ (List.mem_of_getElem? (i := 34) rfl)) (by decide) (by decide)) q360a q360c (g := (mkF m 237 #[.val (.int pk), .val (.int qq), .val (.int aa), .val (.int bb), .val (.int d0), .val (.int d1), .val (.int d2), .val (.int nn), .val (.ref b243), .val (.int (aa &&& (2147483647 : Int32))), .val (.int (own_max (aa &&& (2147483647 : Int32)) bb)), .val (.ref x265), .val (.ref b273), .val (.long (((own_b d0 (0 : Int32) nn (0 : Int32)) ||| (own_b d1 (1 : Int32) nn (0 : Int32))) ||| (own_b d2 (2 : Int32) nn (0 : Int32)))), .second, .val (.long (((own_b d0 (0 : Int32) nn (1 : Int32)) ||| (own_b d1 (1 : Int32) nn (1 : Int32))) ||| (own_b d2 (2 : Int32) nn (1 : Int32)))), .second] [(.int (1 : Int32)), (.ref b273)])) rfl (by rw [hml]; rfl) (Steps.refl _) (argsL := [(.int (1 : Int32))]) (rest := []) (lenOf pd21 rfl) rfl (by show 2 * 0 + _ ≤ _; exact Nat.le_of_eq rfl) (hb hby at_237) (fun _ _ => ⟨rfl, e355, (by decide : 6 + 0 ≤ _), (by decide : 18 + 0 ≤ _)⟩)
        dsimp only [Pt.U, Pt.locs, Pt.cells, Pt.slots] at X360 l360 y360 z360 st360 hQ360
        subst l360 y360 z360
        obtain ⟨rfl, N360q, e360⟩ := hQ360
        have N360 := Fr.app N355 N360q
        have P361 := own_step (C := T360.setTop (mkF m 240 #[.val (.int pk), .val (.int qq), .val (.int aa), .val (.int bb), .val (.int d0), .val (.int d1), .val (.int d2), .val (.int nn), .val (.ref b243), .val (.int (aa &&& (2147483647 : Int32))), .val (.int (own_max (aa &&& (2147483647 : Int32)) bb)), .val (.ref x265), .val (.ref b273), .val (.long (((own_b d0 (0 : Int32) nn (0 : Int32)) ||| (own_b d1 (1 : Int32) nn (0 : Int32))) ||| (own_b d2 (2 : Int32) nn (0 : Int32)))), .second, .val (.long (((own_b d0 (0 : Int32) nn (1 : Int32)) ||| (own_b d1 (1 : Int32) nn (1 : Int32))) ||| (own_b d2 (2 : Int32) nn (1 : Int32)))), .second] [(.long (own_chr (1 : Int32) (own_bit (0 : Int32) (64 : Int32) ((((nar .char d1).toInt8.toInt32).toInt8.toInt32) &&& (255 : Int32)) (own_bit (0 : Int32) (64 : Int32) ((((nar .char d0).toInt8.toInt32).toInt8.toInt32) &&& (255 : Int32)) (0 : Int64))) (own_bit (64 : Int32) (128 : Int32) ((((nar .char d1).toInt8.toInt32).toInt8.toInt32) &&& (255 : Int32)) (own_bit (64 : Int32) (128 : Int32) ((((nar .char d0).toInt8.toInt32).toInt8.toInt32) &&& (255 : Int32)) (0 : Int64)))))])) P359 (fun t_ k_ => st360.trans k_)
        have P362 := own_step (C := T360.setTop (mkF m 243 #[.val (.int pk), .val (.int qq), .val (.int aa), .val (.int bb), .val (.int d0), .val (.int d1), .val (.int d2), .val (.int nn), .val (.ref b243), .val (.int (aa &&& (2147483647 : Int32))), .val (.int (own_max (aa &&& (2147483647 : Int32)) bb)), .val (.ref x265), .val (.ref b273), .val (.long (((own_b d0 (0 : Int32) nn (0 : Int32)) ||| (own_b d1 (1 : Int32) nn (0 : Int32))) ||| (own_b d2 (2 : Int32) nn (0 : Int32)))), .second, .val (.long (((own_b d0 (0 : Int32) nn (1 : Int32)) ||| (own_b d1 (1 : Int32) nn (1 : Int32))) ||| (own_b d2 (2 : Int32) nn (1 : Int32)))), .second] [(.int (lcmpW (own_chr (1 : Int32) (own_bit (0 : Int32) (64 : Int32) ((((nar .char d1).toInt8.toInt32).toInt8.toInt32) &&& (255 : Int32)) (own_bit (0 : Int32) (64 : Int32) ((((nar .char d0).toInt8.toInt32).toInt8.toInt32) &&& (255 : Int32)) (0 : Int64))) (own_bit (64 : Int32) (128 : Int32) ((((nar .char d1).toInt8.toInt32).toInt8.toInt32) &&& (255 : Int32)) (own_bit (64 : Int32) (128 : Int32) ((((nar .char d0).toInt8.toInt32).toInt8.toInt32) &&& (255 : Int32)) (0 : Int64)))) (((own_b d0 (0 : Int32) nn (1 : Int32)) ||| (own_b d1 (1 : Int32) nn (1 : Int32))) ||| (own_b d2 (2 : Int32) nn (1 : Int32)))))])) P361 (by
          intro tt_ kk_
          refine XS.lload X360.here hx rfl (hb hby at_240) rfl ?_
          refine XS.lcmp X360.here hx rfl (hb hby at_242) rfl ?_
          exact kk_)
        have P363 := own_step (C := T360.setTop (mkF m 246 #[.val (.int pk), .val (.int qq), .val (.int aa), .val (.int bb), .val (.int d0), .val (.int d1), .val (.int d2), .val (.int nn), .val (.ref b243), .val (.int (aa &&& (2147483647 : Int32))), .val (.int (own_max (aa &&& (2147483647 : Int32)) bb)), .val (.ref x265), .val (.ref b273), .val (.long (((own_b d0 (0 : Int32) nn (0 : Int32)) ||| (own_b d1 (1 : Int32) nn (0 : Int32))) ||| (own_b d2 (2 : Int32) nn (0 : Int32)))), .second, .val (.long (((own_b d0 (0 : Int32) nn (1 : Int32)) ||| (own_b d1 (1 : Int32) nn (1 : Int32))) ||| (own_b d2 (2 : Int32) nn (1 : Int32)))), .second] [])) P362 (by
          intro tt_ kk_
          refine XS.ifNo X360.here hx rfl (hb hby at_243) rfl ((if0 _ _).trans (teq ((lw_eq _ _).mpr (own_f21 c240 gd0 gd1))).2) ?_
          exact kk_)
        have P364 := own_step (C := T360.setTop (mkF m 251 #[.val (.int pk), .val (.int qq), .val (.int aa), .val (.int bb), .val (.int d0), .val (.int d1), .val (.int d2), .val (.int nn), .val (.ref b243), .val (.int (aa &&& (2147483647 : Int32))), .val (.int (own_max (aa &&& (2147483647 : Int32)) bb)), .val (.ref x265), .val (.ref b273), .val (.long (((own_b d0 (0 : Int32) nn (0 : Int32)) ||| (own_b d1 (1 : Int32) nn (0 : Int32))) ||| (own_b d2 (2 : Int32) nn (0 : Int32)))), .second, .val (.long (((own_b d0 (0 : Int32) nn (1 : Int32)) ||| (own_b d1 (1 : Int32) nn (1 : Int32))) ||| (own_b d2 (2 : Int32) nn (1 : Int32)))), .second] [(.int (1 : Int32))])) P363 (by
          intro tt_ kk_
          refine XS.iconst X360.here hx rfl (hb hby at_246) ?_
          refine XS.goto X360.here hx rfl (pc0 := 247) (pc' := 251) rfl (hb hby at_247) (by decide) (by decide) ?_
          exact kk_)
        obtain ⟨fs, hr, hrun, hended, hW, hsame⟩ := X360.leave (v := some (.int (1 : Int32))) (fun h => by rw [Bd.returns] at h; cases h)
        refine ⟨_, _, P364 _ ?_, hrun, hended, _, _, rfl, ?_, wide ⟨⟨_, rfl⟩, hW, hsame.mono (by decide) (by decide)⟩⟩
        · exact retN X360 hx (t := .boolean) Bd.returns (by simp) (hb hby at_251) hr
        · show Q0 Z _ _ _ _ _ _ h0 n0 _ T360.heap _
          rw [e360]
          exact ⟨rfl, N360⟩
      · have P365 := own_step (C := s₁.setTop (mkF m 91 #[.val (.int pk), .val (.int qq), .val (.int aa), .val (.int bb), .val (.int d0), .val (.int d1), .val (.int d2), .val (.int nn), .unset, .unset, .unset, .unset, .unset, .unset, .unset, .unset, .unset] [])) P239 (by
          intro tt_ kk_
          refine XS.icmpYes X0.here hx rfl (pc0 := 70) (pc' := 91) rfl (hb hby at_70) rfl (feq c240).2 (by decide) (by decide) ?_
          exact kk_)
        have P366 := own_step (C := s₁.setTop (mkF m 92 #[.val (.int pk), .val (.int qq), .val (.int aa), .val (.int bb), .val (.int d0), .val (.int d1), .val (.int d2), .val (.int nn), .unset, .unset, .unset, .unset, .unset, .unset, .unset, .unset, .unset] [(.int (3 : Int32))])) P365 (by
          intro tt_ kk_
          refine XS.iconst X0.here hx rfl (hb hby at_91) ?_
          exact kk_)
        obtain ⟨T367, h367, k367, X367, e367, E367, A367, st367⟩ := newP X0 hx hZ (hw _ (List.mem_of_getElem? (i := 0) rfl)) e0 (g := (mkF m 92 #[.val (.int pk), .val (.int qq), .val (.int aa), .val (.int bb), .val (.int d0), .val (.int d1), .val (.int d2), .val (.int nn), .unset, .unset, .unset, .unset, .unset, .unset, .unset, .unset, .unset] [(.int (3 : Int32))])) rfl (hb hby at_92) rfl (by decide) (cap := 3) (by decide) (by decide) (by decide) (by decide)
        obtain ⟨b367, g367⟩ : ∃ z, z = h0.size := ⟨_, rfl⟩
        rw [← g367] at A367 st367
        have g_b367 : n0 ≤ b367 := Nat.le_trans Z0 (Nat.le_of_eq g367.symm)
        have f368 := O.ext E367
        have Z369 : n0 ≤ h367.size := Nat.le_trans Z0 E367.1
        have V367 : Arv Z h367 b367 k367 .char (3 : Int32) [(.int (0 : Int32)), (.int (0 : Int32)), (.int (0 : Int32))] (.int (0 : Int32)) := (Arv.new A367 (by decide)).pad (pad_rep [] _ 3)
        have P370 := own_step (C := T367.setTop (mkF m 94 #[.val (.int pk), .val (.int qq), .val (.int aa), .val (.int bb), .val (.int d0), .val (.int d1), .val (.int d2), .val (.int nn), .unset, .unset, .unset, .unset, .unset, .unset, .unset, .unset, .unset] [(.ref b367)])) P366 (fun t_ k_ => st367 t_ k_)
        have P371 := own_step (C := T367.setTop (mkF m 98 #[.val (.int pk), .val (.int qq), .val (.int aa), .val (.int bb), .val (.int d0), .val (.int d1), .val (.int d2), .val (.int nn), .unset, .unset, .unset, .unset, .unset, .unset, .unset, .unset, .unset] [(.int d0), (.int (0 : Int32)), (.ref b367), (.ref b367)])) P370 (by
          intro tt_ kk_
          refine XS.dup X367.here hx rfl (hb hby at_94) rfl rfl ?_
          refine XS.iconst X367.here hx rfl (hb hby at_95) ?_
          refine XS.iload X367.here hx rfl (hb hby at_96) rfl ?_
          exact kk_)
        obtain ⟨cl372, Ar372, q372, S372, M372, H372, G372⟩ := id V367
        obtain ⟨T373, h373, X373, e373, W373, st373⟩ := stC X367 hx hZ e367 Ar372 (j := (0 : Int32)) (inb_of S372 (by decide : ¬ (0 : Int32) < 0 ∧ (0 : Int32) < (3 : Int32))) (g := (mkF m 98 #[.val (.int pk), .val (.int qq), .val (.int aa), .val (.int bb), .val (.int d0), .val (.int d1), .val (.int d2), .val (.int nn), .unset, .unset, .unset, .unset, .unset, .unset, .unset, .unset, .unset] [(.int d0), (.int (0 : Int32)), (.ref b367), (.ref b367)])) rfl rfl (hb hby at_98)
        have f374 := f368.wr W373 g_b367
        have Z376 : n0 ≤ h373.size := Nat.le_trans Z369 (Keep.of_wr W373).1
        have V373 : Arv Z h373 b367 k367 .char (3 : Int32) [(.int (nar .char d0)), (.int (0 : Int32)), (.int (0 : Int32))] (.int (0 : Int32)) := Arv.set Ar372 q372 S372 M372 H372 G372 (fits_nar_char _) W373 0 rfl (Nat.le_of_ble_eq_true rfl)
        have N373 := Fr.snoc X373 N0 g_b367
        have P377 := own_step (C := T373.setTop (mkF m 99 #[.val (.int pk), .val (.int qq), .val (.int aa), .val (.int bb), .val (.int d0), .val (.int d1), .val (.int d2), .val (.int nn), .unset, .unset, .unset, .unset, .unset, .unset, .unset, .unset, .unset] [(.ref b367)])) P371 (fun t_ k_ => st373 t_ k_)
        have P378 := own_step (C := T373.setTop (mkF m 103 #[.val (.int pk), .val (.int qq), .val (.int aa), .val (.int bb), .val (.int d0), .val (.int d1), .val (.int d2), .val (.int nn), .unset, .unset, .unset, .unset, .unset, .unset, .unset, .unset, .unset] [(.int d1), (.int (1 : Int32)), (.ref b367), (.ref b367)])) P377 (by
          intro tt_ kk_
          refine XS.dup X373.here hx rfl (hb hby at_99) rfl rfl ?_
          refine XS.iconst X373.here hx rfl (hb hby at_100) ?_
          refine XS.iload X373.here hx rfl (hb hby at_101) rfl ?_
          exact kk_)
        obtain ⟨cl379, Ar379, q379, S379, M379, H379, G379⟩ := id V373
        obtain ⟨T380, h380, X380, e380, W380, st380⟩ := stC X373 hx hZ e373 Ar379 (j := (1 : Int32)) (inb_of S379 (by decide : ¬ (1 : Int32) < 0 ∧ (1 : Int32) < (3 : Int32))) (g := (mkF m 103 #[.val (.int pk), .val (.int qq), .val (.int aa), .val (.int bb), .val (.int d0), .val (.int d1), .val (.int d2), .val (.int nn), .unset, .unset, .unset, .unset, .unset, .unset, .unset, .unset, .unset] [(.int d1), (.int (1 : Int32)), (.ref b367), (.ref b367)])) rfl rfl (hb hby at_103)
        have f381 := f374.wr W380 g_b367
        have Z383 : n0 ≤ h380.size := Nat.le_trans Z376 (Keep.of_wr W380).1
        have V380 : Arv Z h380 b367 k367 .char (3 : Int32) [(.int (nar .char d0)), (.int (nar .char d1)), (.int (0 : Int32))] (.int (0 : Int32)) := Arv.set Ar379 q379 S379 M379 H379 G379 (fits_nar_char _) W380 1 rfl (Nat.le_of_ble_eq_true rfl)
        have N380 := Fr.snoc X380 N373 g_b367
        have P384 := own_step (C := T380.setTop (mkF m 104 #[.val (.int pk), .val (.int qq), .val (.int aa), .val (.int bb), .val (.int d0), .val (.int d1), .val (.int d2), .val (.int nn), .unset, .unset, .unset, .unset, .unset, .unset, .unset, .unset, .unset] [(.ref b367)])) P378 (fun t_ k_ => st380 t_ k_)
        have P385 := own_step (C := T380.setTop (mkF m 108 #[.val (.int pk), .val (.int qq), .val (.int aa), .val (.int bb), .val (.int d0), .val (.int d1), .val (.int d2), .val (.int nn), .unset, .unset, .unset, .unset, .unset, .unset, .unset, .unset, .unset] [(.int d2), (.int (2 : Int32)), (.ref b367), (.ref b367)])) P384 (by
          intro tt_ kk_
          refine XS.dup X380.here hx rfl (hb hby at_104) rfl rfl ?_
          refine XS.iconst X380.here hx rfl (hb hby at_105) ?_
          refine XS.iload X380.here hx rfl (hb hby at_106) rfl ?_
          exact kk_)
        obtain ⟨cl386, Ar386, q386, S386, M386, H386, G386⟩ := id V380
        obtain ⟨T387, h387, X387, e387, W387, st387⟩ := stC X380 hx hZ e380 Ar386 (j := (2 : Int32)) (inb_of S386 (by decide : ¬ (2 : Int32) < 0 ∧ (2 : Int32) < (3 : Int32))) (g := (mkF m 108 #[.val (.int pk), .val (.int qq), .val (.int aa), .val (.int bb), .val (.int d0), .val (.int d1), .val (.int d2), .val (.int nn), .unset, .unset, .unset, .unset, .unset, .unset, .unset, .unset, .unset] [(.int d2), (.int (2 : Int32)), (.ref b367), (.ref b367)])) rfl rfl (hb hby at_108)
        have f388 := f381.wr W387 g_b367
        have Z390 : n0 ≤ h387.size := Nat.le_trans Z383 (Keep.of_wr W387).1
        have V387 : Arv Z h387 b367 k367 .char (3 : Int32) [(.int (nar .char d0)), (.int (nar .char d1)), (.int (nar .char d2))] (.int (0 : Int32)) := Arv.set Ar386 q386 S386 M386 H386 G386 (fits_nar_char _) W387 2 rfl (Nat.le_of_ble_eq_true rfl)
        have N387 := Fr.snoc X387 N380 g_b367
        have P391 := own_step (C := T387.setTop (mkF m 109 #[.val (.int pk), .val (.int qq), .val (.int aa), .val (.int bb), .val (.int d0), .val (.int d1), .val (.int d2), .val (.int nn), .unset, .unset, .unset, .unset, .unset, .unset, .unset, .unset, .unset] [(.ref b367)])) P385 (fun t_ k_ => st387 t_ k_)
        have P392 := own_step (C := T387.setTop (mkF m 120 #[.val (.int pk), .val (.int qq), .val (.int aa), .val (.int bb), .val (.int d0), .val (.int d1), .val (.int d2), .val (.int nn), .val (.ref b367), .val (.int (aa &&& (2147483647 : Int32))), .unset, .unset, .unset, .unset, .unset, .unset, .unset] [(.int bb), (.int (aa &&& (2147483647 : Int32)))])) P391 (by
          intro tt_ kk_
          refine XS.astore X387.here hx rfl (hb hby at_109) rfl rfl (l' := #[.val (.int pk), .val (.int qq), .val (.int aa), .val (.int bb), .val (.int d0), .val (.int d1), .val (.int d2), .val (.int nn), .val (.ref b367), .unset, .unset, .unset, .unset, .unset, .unset, .unset, .unset]) rfl ?_
          refine XS.iloadN X387.here hx rfl (hb hby at_111) rfl ?_
          refine X387.ldcInt hx hown (mvT hZ (hw _ (List.mem_of_getElem? (i := 1) rfl))) (g := (mkF m 112 #[.val (.int pk), .val (.int qq), .val (.int aa), .val (.int bb), .val (.int d0), .val (.int d1), .val (.int d2), .val (.int nn), .val (.ref b367), .unset, .unset, .unset, .unset, .unset, .unset, .unset, .unset] [(.int aa)])) rfl (hb hby at_112) _ ?_
          refine XS.iand X387.here hx rfl (hb hby at_114) rfl ?_
          refine XS.istore X387.here hx rfl (hb hby at_115) rfl (l' := #[.val (.int pk), .val (.int qq), .val (.int aa), .val (.int bb), .val (.int d0), .val (.int d1), .val (.int d2), .val (.int nn), .val (.ref b367), .val (.int (aa &&& (2147483647 : Int32))), .unset, .unset, .unset, .unset, .unset, .unset, .unset]) rfl ?_
          refine XS.iload X387.here hx rfl (hb hby at_117) rfl ?_
          show Steps p.tables e below (T387.setTop (mkF m 119 #[.val (.int pk), .val (.int qq), .val (.int aa), .val (.int bb), .val (.int d0), .val (.int d1), .val (.int d2), .val (.int nn), .val (.ref b367), .val (.int (aa &&& (2147483647 : Int32))), .unset, .unset, .unset, .unset, .unset, .unset, .unset] [(.int (aa &&& (2147483647 : Int32)))])) _
          refine XS.iloadN X387.here hx rfl (hb hby at_119) rfl ?_
          exact kk_)
        obtain ⟨_, _, ⟨T393, L393, k393, n393⟩, -, X393, ⟨Lc393, hQ393, l393, y393, z393⟩, st393⟩ := Jvm.LawKit.callS X387 hx (y := (⟨"java/lang/Math", "max", "(II)I"⟩ : MethodName)) hown (mvT hZ (hw _ (List.mem_of_getElem? (i := 2) rfl))) (mvT hZ (hw _ (List.mem_of_getElem? (i := 3) rfl))) (mvT hZ (hw _ (List.mem_of_getElem? (i := 4) rfl))) (mvT hZ (hw _ (List.mem_of_getElem? (i := 5) rfl))) (by decide) (backOf (W := 0) (rm_own_max l Z a0 hw [] (aa &&& (2147483647 : Int32)) bb h387 n0 Z390 ) hZ (hw _ (List.mem_of_getElem? (i := 5) rfl)) (hw _ (List.mem_of_getElem? (i := 4) rfl)) (by decide) (by decide)) (g := (mkF m 120 #[.val (.int pk), .val (.int qq), .val (.int aa), .val (.int bb), .val (.int d0), .val (.int d1), .val (.int d2), .val (.int nn), .val (.ref b367), .val (.int (aa &&& (2147483647 : Int32))), .unset, .unset, .unset, .unset, .unset, .unset, .unset] [(.int bb), (.int (aa &&& (2147483647 : Int32)))])) rfl (by rw [hml]; rfl) (argsL := [(.int (aa &&& (2147483647 : Int32))), (.int bb)]) (rest := []) (lenOf pd16 rfl) rfl (by show 2 * 0 + _ ≤ _; exact Nat.le_of_eq rfl) (hb hby at_120) (fun _ _ => ⟨rfl, e387, (by decide : 1 + 0 ≤ _), (by decide : 3 + 0 ≤ _)⟩)
        dsimp only [Pt.U, Pt.locs, Pt.cells, Pt.slots] at X393 l393 y393 z393 st393 hQ393
        subst l393 y393 z393
        obtain ⟨rfl, N393q, e393⟩ := hQ393
        have N393 := Fr.app N387 N393q
        have P394 := own_step (C := T393.setTop (mkF m 123 #[.val (.int pk), .val (.int qq), .val (.int aa), .val (.int bb), .val (.int d0), .val (.int d1), .val (.int d2), .val (.int nn), .val (.ref b367), .val (.int (aa &&& (2147483647 : Int32))), .unset, .unset, .unset, .unset, .unset, .unset, .unset] [(.int (own_max (aa &&& (2147483647 : Int32)) bb))])) P392 (fun t_ k_ => st393 t_ k_)
        have P395 := own_step (C := T393.setTop (mkF m 131 #[.val (.int pk), .val (.int qq), .val (.int aa), .val (.int bb), .val (.int d0), .val (.int d1), .val (.int d2), .val (.int nn), .val (.ref b367), .val (.int (aa &&& (2147483647 : Int32))), .val (.int (own_max (aa &&& (2147483647 : Int32)) bb)), .unset, .unset, .unset, .unset, .unset, .unset] [(.int ((qq &&& (255 : Int32)).toUInt32.toUInt16.toUInt32.toInt32))])) P394 (by
          intro tt_ kk_
          refine XS.istore X393.here hx rfl (hb hby at_123) rfl (l' := #[.val (.int pk), .val (.int qq), .val (.int aa), .val (.int bb), .val (.int d0), .val (.int d1), .val (.int d2), .val (.int nn), .val (.ref b367), .val (.int (aa &&& (2147483647 : Int32))), .val (.int (own_max (aa &&& (2147483647 : Int32)) bb)), .unset, .unset, .unset, .unset, .unset, .unset]) rfl ?_
          refine XS.iloadN X393.here hx rfl (hb hby at_125) rfl ?_
          refine XS.sipush X393.here hx rfl (hb hby at_126) ?_
          refine XS.iand X393.here hx rfl (hb hby at_129) rfl ?_
          refine XS.i2c X393.here hx rfl (hb hby at_130) rfl ?_
          exact kk_)
        obtain ⟨_, _, ⟨T396, L396, k396, n396⟩, -, X396, ⟨Lc396, hQ396, l396, y396, z396⟩, st396⟩ := Jvm.LawKit.callS X393 hx (y := (⟨"java/lang/String", "valueOf", "(C)Ljava/lang/String;"⟩ : MethodName)) hown (mvT hZ (hw _ (List.mem_of_getElem? (i := 6) rfl))) (mvT hZ (hw _ (List.mem_of_getElem? (i := 7) rfl))) (mvT hZ (hw _ (List.mem_of_getElem? (i := 8) rfl))) (mvT hZ (hw _ (List.mem_of_getElem? (i := 9) rfl))) (by decide) (backOf (W := 0) (rm_valueOf l Z a0 hw [] ((qq &&& (255 : Int32)).toUInt32.toUInt16.toUInt32.toInt32) cs h387 n0 Z390 f388 Scs hcs (own_v255 _)) hZ (hw _ (List.mem_of_getElem? (i := 9) rfl)) (hw _ (List.mem_of_getElem? (i := 8) rfl)) (by decide) (by decide)) (g := (mkF m 131 #[.val (.int pk), .val (.int qq), .val (.int aa), .val (.int bb), .val (.int d0), .val (.int d1), .val (.int d2), .val (.int nn), .val (.ref b367), .val (.int (aa &&& (2147483647 : Int32))), .val (.int (own_max (aa &&& (2147483647 : Int32)) bb)), .unset, .unset, .unset, .unset, .unset, .unset] [(.int ((qq &&& (255 : Int32)).toUInt32.toUInt16.toUInt32.toInt32))])) rfl (by rw [hml]; rfl) (argsL := [(.int ((qq &&& (255 : Int32)).toUInt32.toUInt16.toUInt32.toInt32))]) (rest := []) (lenOf pd17 rfl) rfl (by show 2 * 0 + _ ≤ _; exact Nat.le_of_eq rfl) (hb hby at_131) (fun _ _ => ⟨rfl, e393, (by decide : 1 + 2 ≤ _), (by decide : 3 + 5 ≤ _)⟩)
        dsimp only [Pt.U, Pt.locs, Pt.cells, Pt.slots] at X396 l396 y396 z396 st396 hQ396
        subst l396 y396 z396
        obtain ⟨x396, rfl, N396q, K396, f397, f398⟩ := hQ396
        have N396 := Fr.app N393 N396q
        have ne_b367_x396 : b367 ≠ x396 := Nat.ne_of_lt (Nat.lt_of_lt_of_le V387.lt f397)
        have g_x396 : n0 ≤ x396 := Nat.le_trans Z390 f397
        have f399 := f388.keep K396 all0
        have f400 := V387.keep K396 nin0
        have Z401 : n0 ≤ T396.heap.size := Nat.le_trans Z390 K396.1
        have P402 := own_step (C := T396.setTop (mkF m 134 #[.val (.int pk), .val (.int qq), .val (.int aa), .val (.int bb), .val (.int d0), .val (.int d1), .val (.int d2), .val (.int nn), .val (.ref b367), .val (.int (aa &&& (2147483647 : Int32))), .val (.int (own_max (aa &&& (2147483647 : Int32)) bb)), .unset, .unset, .unset, .unset, .unset, .unset] [(.ref x396)])) P395 (fun t_ k_ => st396 t_ k_)
        have P403 := own_step (C := T396.setTop (mkF m 136 #[.val (.int pk), .val (.int qq), .val (.int aa), .val (.int bb), .val (.int d0), .val (.int d1), .val (.int d2), .val (.int nn), .val (.ref b367), .val (.int (aa &&& (2147483647 : Int32))), .val (.int (own_max (aa &&& (2147483647 : Int32)) bb)), .val (.ref x396), .unset, .unset, .unset, .unset, .unset] [])) P402 (by
          intro tt_ kk_
          refine XS.astore X396.here hx rfl (hb hby at_134) rfl rfl (l' := #[.val (.int pk), .val (.int qq), .val (.int aa), .val (.int bb), .val (.int d0), .val (.int d1), .val (.int d2), .val (.int nn), .val (.ref b367), .val (.int (aa &&& (2147483647 : Int32))), .val (.int (own_max (aa &&& (2147483647 : Int32)) bb)), .val (.ref x396), .unset, .unset, .unset, .unset, .unset]) rfl ?_
          exact kk_)
        obtain ⟨T404, h404, X404, e404, E404, A404, D404, -, st404⟩ := newO X396 hx hZ hown (hw _ (List.mem_of_getElem? (i := 32) rfl)) (hw _ (List.mem_of_getElem? (i := 33) rfl)) (hw _ (List.mem_of_getElem? (i := 34) rfl)) rfl (g := (mkF m 136 #[.val (.int pk), .val (.int qq), .val (.int aa), .val (.int bb), .val (.int d0), .val (.int d1), .val (.int d2), .val (.int nn), .val (.ref b367), .val (.int (aa &&& (2147483647 : Int32))), .val (.int (own_max (aa &&& (2147483647 : Int32)) bb)), .val (.ref x396), .unset, .unset, .unset, .unset, .unset] [])) rfl (hb hby at_136) (by decide) (by decide)
        obtain ⟨b404, g404⟩ : ∃ z, z = T396.heap.size := ⟨_, rfl⟩
        rw [← g404] at A404 D404 st404
        have ne_b367_b404 : b367 ≠ b404 := Nat.ne_of_lt (Nat.lt_of_lt_of_le f400.lt (Nat.le_of_eq g404.symm))
        have g_b404 : n0 ≤ b404 := Nat.le_trans Z401 (Nat.le_of_eq g404.symm)
        have f405 := f399.ext E404
        have f406 := f400.ext E404
        have Z407 : n0 ≤ h404.size := Nat.le_trans Z401 E404.1
        have f408 : Fld Z h404 b404 "com/example/gatehouse/gatehouse/pattern/NameShape" "begin" "Ljava/lang/String;" .null := D404 (Or.inr (hw _ (List.mem_of_getElem? (i := 66) rfl))) (ty := (.object "java/lang/String")) (by decide)
        have f409 : Fld Z h404 b404 "com/example/gatehouse/gatehouse/pattern/NameShape" "low" "J" (.long (0 : Int64)) := D404 (Or.inr (hw _ (List.mem_of_getElem? (i := 68) rfl))) (ty := .long) (by decide)
        have f410 : Fld Z h404 b404 "com/example/gatehouse/gatehouse/pattern/NameShape" "high" "J" (.long (0 : Int64)) := D404 (Or.inr (hw _ (List.mem_of_getElem? (i := 70) rfl))) (ty := .long) (by decide)
        have f411 : Fld Z h404 b404 "com/example/gatehouse/gatehouse/pattern/NameShape" "least" "I" (.int (0 : Int32)) := D404 (Or.inr (hw _ (List.mem_of_getElem? (i := 72) rfl))) (ty := .int) (by decide)
        have f412 : Fld Z h404 b404 "com/example/gatehouse/gatehouse/pattern/NameShape" "most" "I" (.int (0 : Int32)) := D404 (Or.inr (hw _ (List.mem_of_getElem? (i := 74) rfl))) (ty := .int) (by decide)
        have P413 := own_step (C := T404.setTop (mkF m 139 #[.val (.int pk), .val (.int qq), .val (.int aa), .val (.int bb), .val (.int d0), .val (.int d1), .val (.int d2), .val (.int nn), .val (.ref b367), .val (.int (aa &&& (2147483647 : Int32))), .val (.int (own_max (aa &&& (2147483647 : Int32)) bb)), .val (.ref x396), .unset, .unset, .unset, .unset, .unset] [(.ref b404)])) P403 (fun t_ k_ => st404 t_ k_)
        have P414 := own_step (C := T404.setTop (mkF m 142 #[.val (.int pk), .val (.int qq), .val (.int aa), .val (.int bb), .val (.int d0), .val (.int d1), .val (.int d2), .val (.int nn), .val (.ref b367), .val (.int (aa &&& (2147483647 : Int32))), .val (.int (own_max (aa &&& (2147483647 : Int32)) bb)), .val (.ref x396), .unset, .unset, .unset, .unset, .unset] [(.ref x396), (.ref b404), (.ref b404)])) P413 (by
          intro tt_ kk_
          refine XS.dup X404.here hx rfl (hb hby at_139) rfl rfl ?_
          refine XS.aload X404.here hx rfl (hb hby at_140) rfl rfl ?_
          exact kk_)
        obtain ⟨T415, h415, X415, e415, E415, A415, D415, -, st415⟩ := newO X404 hx hZ hown (hw _ (List.mem_of_getElem? (i := 35) rfl)) (hw _ (List.mem_of_getElem? (i := 16) rfl)) (hw _ (List.mem_of_getElem? (i := 8) rfl)) e404 (g := (mkF m 142 #[.val (.int pk), .val (.int qq), .val (.int aa), .val (.int bb), .val (.int d0), .val (.int d1), .val (.int d2), .val (.int nn), .val (.ref b367), .val (.int (aa &&& (2147483647 : Int32))), .val (.int (own_max (aa &&& (2147483647 : Int32)) bb)), .val (.ref x396), .unset, .unset, .unset, .unset, .unset] [(.ref x396), (.ref b404), (.ref b404)])) rfl (hb hby at_142) (by decide) (by decide)
        obtain ⟨b415, g415⟩ : ∃ z, z = h404.size := ⟨_, rfl⟩
        rw [← g415] at A415 D415 st415
        have ne_b367_b415 : b367 ≠ b415 := Nat.ne_of_lt (Nat.lt_of_lt_of_le f406.lt (Nat.le_of_eq g415.symm))
        have ne_b404_b415 : b404 ≠ b415 := Nat.ne_of_lt (Nat.lt_of_lt_of_le A404.lt (Nat.le_of_eq g415.symm))
        have g_b415 : n0 ≤ b415 := Nat.le_trans Z407 (Nat.le_of_eq g415.symm)
        have f416 := f405.ext E415
        have f417 := f406.ext E415
        have f418 := A404.ext E415
        have f419 := f408.ext E415
        have f420 := f409.ext E415
        have f421 := f410.ext E415
        have f422 := f411.ext E415
        have f423 := f412.ext E415
        have Z424 : n0 ≤ h415.size := Nat.le_trans Z407 E415.1
        have f425 : Fld Z h415 b415 "java/lang/String" "value" "[B" .null := D415 (Or.inr (hw _ (List.mem_of_getElem? (i := 29) rfl))) (ty := (.array .byte)) (by decide)
        have f426 : Fld Z h415 b415 "java/lang/String" "coder" "B" (.int (0 : Int32)) := D415 (Or.inr (hw _ (List.mem_of_getElem? (i := 31) rfl))) (ty := .byte) (by decide)
        have P427 := own_step (C := T415.setTop (mkF m 145 #[.val (.int pk), .val (.int qq), .val (.int aa), .val (.int bb), .val (.int d0), .val (.int d1), .val (.int d2), .val (.int nn), .val (.ref b367), .val (.int (aa &&& (2147483647 : Int32))), .val (.int (own_max (aa &&& (2147483647 : Int32)) bb)), .val (.ref x396), .unset, .unset, .unset, .unset, .unset] [(.ref b415), (.ref x396), (.ref b404), (.ref b404)])) P414 (fun t_ k_ => st415 t_ k_)
        have P428 := own_step (C := T415.setTop (mkF m 148 #[.val (.int pk), .val (.int qq), .val (.int aa), .val (.int bb), .val (.int d0), .val (.int d1), .val (.int d2), .val (.int nn), .val (.ref b367), .val (.int (aa &&& (2147483647 : Int32))), .val (.int (own_max (aa &&& (2147483647 : Int32)) bb)), .val (.ref x396), .unset, .unset, .unset, .unset, .unset] [(.ref b367), (.ref b415), (.ref b415), (.ref x396), (.ref b404), (.ref b404)])) P427 (by
          intro tt_ kk_
          refine XS.dup X415.here hx rfl (hb hby at_145) rfl rfl ?_
          refine XS.aload X415.here hx rfl (hb hby at_146) rfl rfl ?_
          exact kk_)
        obtain ⟨_, _, ⟨T429, L429, k429, n429⟩, -, X429, ⟨Lc429, hQ429, l429, y429, z429⟩, st429⟩ := X415.specialBack hx (y := (⟨"java/lang/String", "<init>", "([C)V"⟩ : MethodName)) rfl hown (mvT hZ (hw _ (List.mem_of_getElem? (i := 36) rfl))) (mvT hZ (hw _ (List.mem_of_getElem? (i := 37) rfl))) (mvT hZ (hw _ (List.mem_of_getElem? (i := 38) rfl))) (by decide) (backOf (W := 4) (rm_initC_3 l Z a0 hw [] b415 b367 k367 (nar .char d0) (nar .char d1) (nar .char d2) cs h415 n0 Z424 f416 Scs hcs A415 f425 f426 g_b415 f417 (own_n255 gd0) (own_n255 gd1) (own_n255 gd2)) hZ (hw _ (List.mem_of_getElem? (i := 38) rfl)) (hw _ (List.mem_of_getElem? (i := 8) rfl)) (by decide) (by decide)) (g := (mkF m 148 #[.val (.int pk), .val (.int qq), .val (.int aa), .val (.int bb), .val (.int d0), .val (.int d1), .val (.int d2), .val (.int nn), .val (.ref b367), .val (.int (aa &&& (2147483647 : Int32))), .val (.int (own_max (aa &&& (2147483647 : Int32)) bb)), .val (.ref x396), .unset, .unset, .unset, .unset, .unset] [(.ref b367), (.ref b415), (.ref b415), (.ref x396), (.ref b404), (.ref b404)])) rfl (by rw [hml]; rfl) (Steps.refl _) (a := b415) (argsL := [(.ref b367)]) (rest := [(.ref b415), (.ref x396), (.ref b404), (.ref b404)]) (lenOf pd18 rfl) rfl (by show 2 * 0 + _ ≤ _; exact Nat.le_of_eq rfl) (hb hby at_148) (fun _ _ => ⟨rfl, e415, (by decide : 5 + 1 ≤ _), (by decide : 17 + 3 ≤ _)⟩)
        dsimp only [Pt.U, Pt.locs, Pt.cells, Pt.slots] at X429 l429 y429 z429 st429 hQ429
        subst l429 y429 z429
        obtain ⟨x429, kk429, rfl, N429q, K429, f430, f431, f432, f433, f434⟩ := hQ429
        have N429 := Fr.app N396 N429q
        have ne_b367_x429 : b367 ≠ x429 := Nat.ne_of_lt (Nat.lt_of_lt_of_le f417.lt f434)
        have ne_b404_x429 : b404 ≠ x429 := Nat.ne_of_lt (Nat.lt_of_lt_of_le f418.lt f434)
        have ne_b415_x429 : b415 ≠ x429 := Nat.ne_of_lt (Nat.lt_of_lt_of_le A415.lt f434)
        have g_x429 : n0 ≤ x429 := Nat.le_trans Z424 f434
        have f435 := f416.keep K429 (allS g_b415 all0)
        have f436 := f417.keep K429 (ninS ne_b367_b415 nin0)
        have f437 := f418.keep K429
        have f438 := f419.keep K429 (ninS ne_b404_b415 nin0)
        have f439 := f420.keep K429 (ninS ne_b404_b415 nin0)
        have f440 := f421.keep K429 (ninS ne_b404_b415 nin0)
        have f441 := f422.keep K429 (ninS ne_b404_b415 nin0)
        have f442 := f423.keep K429 (ninS ne_b404_b415 nin0)
        have f443 := A415.keep K429
        have Z446 : n0 ≤ T429.heap.size := Nat.le_trans Z424 K429.1
        have P447 := own_step (C := T429.setTop (mkF m 151 #[.val (.int pk), .val (.int qq), .val (.int aa), .val (.int bb), .val (.int d0), .val (.int d1), .val (.int d2), .val (.int nn), .val (.ref b367), .val (.int (aa &&& (2147483647 : Int32))), .val (.int (own_max (aa &&& (2147483647 : Int32)) bb)), .val (.ref x396), .unset, .unset, .unset, .unset, .unset] [(.ref b415), (.ref x396), (.ref b404), (.ref b404)])) P428 (fun t_ k_ => st429.trans k_)
        have P448 := own_step (C := T429.setTop (mkF m 155 #[.val (.int pk), .val (.int qq), .val (.int aa), .val (.int bb), .val (.int d0), .val (.int d1), .val (.int d2), .val (.int nn), .val (.ref b367), .val (.int (aa &&& (2147483647 : Int32))), .val (.int (own_max (aa &&& (2147483647 : Int32)) bb)), .val (.ref x396), .unset, .unset, .unset, .unset, .unset] [(.int (own_max (aa &&& (2147483647 : Int32)) bb)), (.int (aa &&& (2147483647 : Int32))), (.ref b415), (.ref x396), (.ref b404), (.ref b404)])) P447 (by
          intro tt_ kk_
          refine XS.iload X429.here hx rfl (hb hby at_151) rfl ?_
          refine XS.iload X429.here hx rfl (hb hby at_153) rfl ?_
          exact kk_)
        obtain ⟨_, _, ⟨T449, L449, k449, n449⟩, -, X449, ⟨Lc449, hQ449, l449, y449, z449⟩, st449⟩ := X429.specialBack hx (y := (⟨"com/example/gatehouse/gatehouse/pattern/NameShape", "<init>", "(Ljava/lang/String;Ljava/lang/String;II)V"⟩ : MethodName)) rfl hown (mvT hZ (hw _ (List.mem_of_getElem? (i := 45) rfl))) (mvT hZ (hw _ (List.mem_of_getElem? (i := 46) rfl))) (mvT hZ (hw _ (List.mem_of_getElem? (i := 47) rfl))) (by decide) (backOf (W := 1) (rm_ns3 l Z a0 hw [] b404 x396 (aa &&& (2147483647 : Int32)) (own_max (aa &&& (2147483647 : Int32)) bb) b415 x429 kk429 (((nar .char d0).toInt8.toInt32).toInt8.toInt32) (((nar .char d1).toInt8.toInt32).toInt8.toInt32) (((nar .char d2).toInt8.toInt32).toInt8.toInt32) fm cs T429.heap n0 Z446 f435 Scs hcs Sfm hfm f430 f431 f432 f433 (own_b128 gd0) (own_b128 gd1) (own_b128 gd2) f437 f438 f439 f440 f441 f442 g_b404 (own_le _) (own_mo _ _)) hZ (hw _ (List.mem_of_getElem? (i := 47) rfl)) (hw _ (List.mem_of_getElem? (i := 34) rfl)) (by decide) (by decide)) (g := (mkF m 155 #[.val (.int pk), .val (.int qq), .val (.int aa), .val (.int bb), .val (.int d0), .val (.int d1), .val (.int d2), .val (.int nn), .val (.ref b367), .val (.int (aa &&& (2147483647 : Int32))), .val (.int (own_max (aa &&& (2147483647 : Int32)) bb)), .val (.ref x396), .unset, .unset, .unset, .unset, .unset] [(.int (own_max (aa &&& (2147483647 : Int32)) bb)), (.int (aa &&& (2147483647 : Int32))), (.ref b415), (.ref x396), (.ref b404), (.ref b404)])) rfl (by rw [hml]; rfl) (Steps.refl _) (a := b404) (argsL := [(.ref x396), (.ref b415), (.int (aa &&& (2147483647 : Int32))), (.int (own_max (aa &&& (2147483647 : Int32)) bb))]) (rest := [(.ref b404)]) (lenOf pd19 rfl) rfl (by show 2 * 0 + _ ≤ _; exact Nat.le_of_eq rfl) (hb hby at_155) (fun _ _ => ⟨rfl, rfl, (by decide : 6 + 0 ≤ _), (by decide : 20 + 0 ≤ _)⟩)
        dsimp only [Pt.U, Pt.locs, Pt.cells, Pt.slots] at X449 l449 y449 z449 st449 hQ449
        subst l449 y449 z449
        obtain ⟨rfl, N449q, K449, f450, f451, f452⟩ := hQ449
        have N449 := Fr.app N429 N449q
        have f453 := f435.keep K449 (allS g_b404 all0)
        have f454 := f436.keep K449 (ninS ne_b367_b404 nin0)
        have f455 := f437.keep K449
        have f461 := f430.keep K449
        have f462 := f431.keep K449 (ninS (Ne.symm ne_b404_b415) nin0)
        have f463 := f432.keep K449 (ninS (Ne.symm ne_b404_b415) nin0)
        have f464 := f433.keep K449 (ninS (Ne.symm ne_b404_x429) nin0)
        have Z465 : n0 ≤ T449.heap.size := Nat.le_trans Z446 K449.1
        have P466 := own_step (C := T449.setTop (mkF m 158 #[.val (.int pk), .val (.int qq), .val (.int aa), .val (.int bb), .val (.int d0), .val (.int d1), .val (.int d2), .val (.int nn), .val (.ref b367), .val (.int (aa &&& (2147483647 : Int32))), .val (.int (own_max (aa &&& (2147483647 : Int32)) bb)), .val (.ref x396), .unset, .unset, .unset, .unset, .unset] [(.ref b404)])) P448 (fun t_ k_ => st449.trans k_)
        have h3 : nn = (3 : Int32) := own_three gn c7 c120 c240
        have P467 := own_step (C := T449.setTop (mkF m 166 #[.val (.int pk), .val (.int qq), .val (.int aa), .val (.int bb), .val (.int d0), .val (.int d1), .val (.int d2), .val (.int nn), .val (.ref b367), .val (.int (aa &&& (2147483647 : Int32))), .val (.int (own_max (aa &&& (2147483647 : Int32)) bb)), .val (.ref x396), .val (.ref b404), .unset, .unset, .unset, .unset] [(.int (0 : Int32)), (.int nn), (.int (0 : Int32)), (.int d0)])) P466 (by
          intro tt_ kk_
          refine XS.astore X449.here hx rfl (hb hby at_158) rfl rfl (l' := #[.val (.int pk), .val (.int qq), .val (.int aa), .val (.int bb), .val (.int d0), .val (.int d1), .val (.int d2), .val (.int nn), .val (.ref b367), .val (.int (aa &&& (2147483647 : Int32))), .val (.int (own_max (aa &&& (2147483647 : Int32)) bb)), .val (.ref x396), .val (.ref b404), .unset, .unset, .unset, .unset]) rfl ?_
          refine XS.iload X449.here hx rfl (hb hby at_160) rfl ?_
          refine XS.iconst X449.here hx rfl (hb hby at_162) ?_
          refine XS.iload X449.here hx rfl (hb hby at_163) rfl ?_
          refine XS.iconst X449.here hx rfl (hb hby at_165) ?_
          exact kk_)
        obtain ⟨_, _, ⟨T468, L468, k468, n468⟩, -, X468, ⟨Lc468, hQ468, l468, y468, z468⟩, st468⟩ := Jvm.LawKit.callS X449 hx (y := (⟨"com/example/gatehouse/gatehouse/pattern/NameShapeCharactersPinLaw", "bit", "(IIII)J"⟩ : MethodName)) hown (mvT hZ (hw _ (List.mem_of_getElem? (i := 75) rfl))) (mvT hZ (hw _ (List.mem_of_getElem? (i := 76) rfl))) (mvT hZ (hw _ (List.mem_of_getElem? (i := 77) rfl))) (mvT hZ (hw _ (List.mem_of_getElem? (i := 78) rfl))) (by decide) (backOf (W := 0) (rm_own_b l Z a0 hw [] d0 (0 : Int32) nn (0 : Int32) T449.heap n0 Z465 ) hZ (hw _ (List.mem_of_getElem? (i := 78) rfl)) (hw _ (List.mem_of_getElem? (i := 77) rfl)) (by decide) (by decide)) (g := (mkF m 166 #[.val (.int pk), .val (.int qq), .val (.int aa), .val (.int bb), .val (.int d0), .val (.int d1), .val (.int d2), .val (.int nn), .val (.ref b367), .val (.int (aa &&& (2147483647 : Int32))), .val (.int (own_max (aa &&& (2147483647 : Int32)) bb)), .val (.ref x396), .val (.ref b404), .unset, .unset, .unset, .unset] [(.int (0 : Int32)), (.int nn), (.int (0 : Int32)), (.int d0)])) rfl (by rw [hml]; rfl) (argsL := [(.int d0), (.int (0 : Int32)), (.int nn), (.int (0 : Int32))]) (rest := []) (lenOf pd20 rfl) rfl (by show 2 * 0 + _ ≤ _; exact Nat.le_of_eq rfl) (hb hby at_166) (fun _ _ => ⟨rfl, rfl, (by decide : 6 + 0 ≤ _), (by decide : 20 + 0 ≤ _)⟩)
        dsimp only [Pt.U, Pt.locs, Pt.cells, Pt.slots] at X468 l468 y468 z468 st468 hQ468
        subst l468 y468 z468
        obtain ⟨rfl, N468q, e468⟩ := hQ468
        have N468 := Fr.app N449 N468q
        have P469 := own_step (C := T468.setTop (mkF m 169 #[.val (.int pk), .val (.int qq), .val (.int aa), .val (.int bb), .val (.int d0), .val (.int d1), .val (.int d2), .val (.int nn), .val (.ref b367), .val (.int (aa &&& (2147483647 : Int32))), .val (.int (own_max (aa &&& (2147483647 : Int32)) bb)), .val (.ref x396), .val (.ref b404), .unset, .unset, .unset, .unset] [(.long (own_b d0 (0 : Int32) nn (0 : Int32)))])) P467 (fun t_ k_ => st468 t_ k_)
        have P470 := own_step (C := T468.setTop (mkF m 175 #[.val (.int pk), .val (.int qq), .val (.int aa), .val (.int bb), .val (.int d0), .val (.int d1), .val (.int d2), .val (.int nn), .val (.ref b367), .val (.int (aa &&& (2147483647 : Int32))), .val (.int (own_max (aa &&& (2147483647 : Int32)) bb)), .val (.ref x396), .val (.ref b404), .unset, .unset, .unset, .unset] [(.int (0 : Int32)), (.int nn), (.int (1 : Int32)), (.int d1), (.long (own_b d0 (0 : Int32) nn (0 : Int32)))])) P469 (by
          intro tt_ kk_
          refine XS.iload X468.here hx rfl (hb hby at_169) rfl ?_
          refine XS.iconst X468.here hx rfl (hb hby at_171) ?_
          refine XS.iload X468.here hx rfl (hb hby at_172) rfl ?_
          refine XS.iconst X468.here hx rfl (hb hby at_174) ?_
          exact kk_)
        obtain ⟨_, _, ⟨T471, L471, k471, n471⟩, -, X471, ⟨Lc471, hQ471, l471, y471, z471⟩, st471⟩ := Jvm.LawKit.callS X468 hx (y := (⟨"com/example/gatehouse/gatehouse/pattern/NameShapeCharactersPinLaw", "bit", "(IIII)J"⟩ : MethodName)) hown (mvT hZ (hw _ (List.mem_of_getElem? (i := 75) rfl))) (mvT hZ (hw _ (List.mem_of_getElem? (i := 76) rfl))) (mvT hZ (hw _ (List.mem_of_getElem? (i := 77) rfl))) (mvT hZ (hw _ (List.mem_of_getElem? (i := 78) rfl))) (by decide) (backOf (W := 2) (rm_own_b l Z a0 hw [] d1 (1 : Int32) nn (0 : Int32) T449.heap n0 Z465 ) hZ (hw _ (List.mem_of_getElem? (i := 78) rfl)) (hw _ (List.mem_of_getElem? (i := 77) rfl)) (by decide) (by decide)) (g := (mkF m 175 #[.val (.int pk), .val (.int qq), .val (.int aa), .val (.int bb), .val (.int d0), .val (.int d1), .val (.int d2), .val (.int nn), .val (.ref b367), .val (.int (aa &&& (2147483647 : Int32))), .val (.int (own_max (aa &&& (2147483647 : Int32)) bb)), .val (.ref x396), .val (.ref b404), .unset, .unset, .unset, .unset] [(.int (0 : Int32)), (.int nn), (.int (1 : Int32)), (.int d1), (.long (own_b d0 (0 : Int32) nn (0 : Int32)))])) rfl (by rw [hml]; rfl) (argsL := [(.int d1), (.int (1 : Int32)), (.int nn), (.int (0 : Int32))]) (rest := [(.long (own_b d0 (0 : Int32) nn (0 : Int32)))]) (lenOf pd20 rfl) rfl (by show 2 * 0 + _ ≤ _; exact Nat.le_of_eq rfl) (hb hby at_175) (fun _ _ => ⟨rfl, e468, (by decide : 6 + 0 ≤ _), (by decide : 20 + 0 ≤ _)⟩)
        dsimp only [Pt.U, Pt.locs, Pt.cells, Pt.slots] at X471 l471 y471 z471 st471 hQ471
        subst l471 y471 z471
        obtain ⟨rfl, N471q, e471⟩ := hQ471
        have N471 := Fr.app N468 N471q
        have P472 := own_step (C := T471.setTop (mkF m 178 #[.val (.int pk), .val (.int qq), .val (.int aa), .val (.int bb), .val (.int d0), .val (.int d1), .val (.int d2), .val (.int nn), .val (.ref b367), .val (.int (aa &&& (2147483647 : Int32))), .val (.int (own_max (aa &&& (2147483647 : Int32)) bb)), .val (.ref x396), .val (.ref b404), .unset, .unset, .unset, .unset] [(.long (own_b d1 (1 : Int32) nn (0 : Int32))), (.long (own_b d0 (0 : Int32) nn (0 : Int32)))])) P470 (fun t_ k_ => st471 t_ k_)
        have P473 := own_step (C := T471.setTop (mkF m 185 #[.val (.int pk), .val (.int qq), .val (.int aa), .val (.int bb), .val (.int d0), .val (.int d1), .val (.int d2), .val (.int nn), .val (.ref b367), .val (.int (aa &&& (2147483647 : Int32))), .val (.int (own_max (aa &&& (2147483647 : Int32)) bb)), .val (.ref x396), .val (.ref b404), .unset, .unset, .unset, .unset] [(.int (0 : Int32)), (.int nn), (.int (2 : Int32)), (.int d2), (.long ((own_b d0 (0 : Int32) nn (0 : Int32)) ||| (own_b d1 (1 : Int32) nn (0 : Int32))))])) P472 (by
          intro tt_ kk_
          refine XS.lor X471.here hx rfl (hb hby at_178) rfl ?_
          refine XS.iload X471.here hx rfl (hb hby at_179) rfl ?_
          refine XS.iconst X471.here hx rfl (hb hby at_181) ?_
          refine XS.iload X471.here hx rfl (hb hby at_182) rfl ?_
          refine XS.iconst X471.here hx rfl (hb hby at_184) ?_
          exact kk_)
        obtain ⟨_, _, ⟨T474, L474, k474, n474⟩, -, X474, ⟨Lc474, hQ474, l474, y474, z474⟩, st474⟩ := Jvm.LawKit.callS X471 hx (y := (⟨"com/example/gatehouse/gatehouse/pattern/NameShapeCharactersPinLaw", "bit", "(IIII)J"⟩ : MethodName)) hown (mvT hZ (hw _ (List.mem_of_getElem? (i := 75) rfl))) (mvT hZ (hw _ (List.mem_of_getElem? (i := 76) rfl))) (mvT hZ (hw _ (List.mem_of_getElem? (i := 77) rfl))) (mvT hZ (hw _ (List.mem_of_getElem? (i := 78) rfl))) (by decide) (backOf (W := 2) (rm_own_b l Z a0 hw [] d2 (2 : Int32) nn (0 : Int32) T449.heap n0 Z465 ) hZ (hw _ (List.mem_of_getElem? (i := 78) rfl)) (hw _ (List.mem_of_getElem? (i := 77) rfl)) (by decide) (by decide)) (g := (mkF m 185 #[.val (.int pk), .val (.int qq), .val (.int aa), .val (.int bb), .val (.int d0), .val (.int d1), .val (.int d2), .val (.int nn), .val (.ref b367), .val (.int (aa &&& (2147483647 : Int32))), .val (.int (own_max (aa &&& (2147483647 : Int32)) bb)), .val (.ref x396), .val (.ref b404), .unset, .unset, .unset, .unset] [(.int (0 : Int32)), (.int nn), (.int (2 : Int32)), (.int d2), (.long ((own_b d0 (0 : Int32) nn (0 : Int32)) ||| (own_b d1 (1 : Int32) nn (0 : Int32))))])) rfl (by rw [hml]; rfl) (argsL := [(.int d2), (.int (2 : Int32)), (.int nn), (.int (0 : Int32))]) (rest := [(.long ((own_b d0 (0 : Int32) nn (0 : Int32)) ||| (own_b d1 (1 : Int32) nn (0 : Int32))))]) (lenOf pd20 rfl) rfl (by show 2 * 0 + _ ≤ _; exact Nat.le_of_eq rfl) (hb hby at_185) (fun _ _ => ⟨rfl, e471, (by decide : 6 + 0 ≤ _), (by decide : 20 + 0 ≤ _)⟩)
        dsimp only [Pt.U, Pt.locs, Pt.cells, Pt.slots] at X474 l474 y474 z474 st474 hQ474
        subst l474 y474 z474
        obtain ⟨rfl, N474q, e474⟩ := hQ474
        have N474 := Fr.app N471 N474q
        have P475 := own_step (C := T474.setTop (mkF m 188 #[.val (.int pk), .val (.int qq), .val (.int aa), .val (.int bb), .val (.int d0), .val (.int d1), .val (.int d2), .val (.int nn), .val (.ref b367), .val (.int (aa &&& (2147483647 : Int32))), .val (.int (own_max (aa &&& (2147483647 : Int32)) bb)), .val (.ref x396), .val (.ref b404), .unset, .unset, .unset, .unset] [(.long (own_b d2 (2 : Int32) nn (0 : Int32))), (.long ((own_b d0 (0 : Int32) nn (0 : Int32)) ||| (own_b d1 (1 : Int32) nn (0 : Int32))))])) P473 (fun t_ k_ => st474 t_ k_)
        have P476 := own_step (C := T474.setTop (mkF m 197 #[.val (.int pk), .val (.int qq), .val (.int aa), .val (.int bb), .val (.int d0), .val (.int d1), .val (.int d2), .val (.int nn), .val (.ref b367), .val (.int (aa &&& (2147483647 : Int32))), .val (.int (own_max (aa &&& (2147483647 : Int32)) bb)), .val (.ref x396), .val (.ref b404), .val (.long (((own_b d0 (0 : Int32) nn (0 : Int32)) ||| (own_b d1 (1 : Int32) nn (0 : Int32))) ||| (own_b d2 (2 : Int32) nn (0 : Int32)))), .second, .unset, .unset] [(.int (1 : Int32)), (.int nn), (.int (0 : Int32)), (.int d0)])) P475 (by
          intro tt_ kk_
          refine XS.lor X474.here hx rfl (hb hby at_188) rfl ?_
          refine XS.lstore X474.here hx rfl (hb hby at_189) rfl (l' := #[.val (.int pk), .val (.int qq), .val (.int aa), .val (.int bb), .val (.int d0), .val (.int d1), .val (.int d2), .val (.int nn), .val (.ref b367), .val (.int (aa &&& (2147483647 : Int32))), .val (.int (own_max (aa &&& (2147483647 : Int32)) bb)), .val (.ref x396), .val (.ref b404), .val (.long (((own_b d0 (0 : Int32) nn (0 : Int32)) ||| (own_b d1 (1 : Int32) nn (0 : Int32))) ||| (own_b d2 (2 : Int32) nn (0 : Int32)))), .second, .unset, .unset]) rfl ?_
          refine XS.iload X474.here hx rfl (hb hby at_191) rfl ?_
          refine XS.iconst X474.here hx rfl (hb hby at_193) ?_
          refine XS.iload X474.here hx rfl (hb hby at_194) rfl ?_
          refine XS.iconst X474.here hx rfl (hb hby at_196) ?_
          exact kk_)
        obtain ⟨_, _, ⟨T477, L477, k477, n477⟩, -, X477, ⟨Lc477, hQ477, l477, y477, z477⟩, st477⟩ := Jvm.LawKit.callS X474 hx (y := (⟨"com/example/gatehouse/gatehouse/pattern/NameShapeCharactersPinLaw", "bit", "(IIII)J"⟩ : MethodName)) hown (mvT hZ (hw _ (List.mem_of_getElem? (i := 75) rfl))) (mvT hZ (hw _ (List.mem_of_getElem? (i := 76) rfl))) (mvT hZ (hw _ (List.mem_of_getElem? (i := 77) rfl))) (mvT hZ (hw _ (List.mem_of_getElem? (i := 78) rfl))) (by decide) (backOf (W := 0) (rm_own_b l Z a0 hw [] d0 (0 : Int32) nn (1 : Int32) T449.heap n0 Z465 ) hZ (hw _ (List.mem_of_getElem? (i := 78) rfl)) (hw _ (List.mem_of_getElem? (i := 77) rfl)) (by decide) (by decide)) (g := (mkF m 197 #[.val (.int pk), .val (.int qq), .val (.int aa), .val (.int bb), .val (.int d0), .val (.int d1), .val (.int d2), .val (.int nn), .val (.ref b367), .val (.int (aa &&& (2147483647 : Int32))), .val (.int (own_max (aa &&& (2147483647 : Int32)) bb)), .val (.ref x396), .val (.ref b404), .val (.long (((own_b d0 (0 : Int32) nn (0 : Int32)) ||| (own_b d1 (1 : Int32) nn (0 : Int32))) ||| (own_b d2 (2 : Int32) nn (0 : Int32)))), .second, .unset, .unset] [(.int (1 : Int32)), (.int nn), (.int (0 : Int32)), (.int d0)])) rfl (by rw [hml]; rfl) (argsL := [(.int d0), (.int (0 : Int32)), (.int nn), (.int (1 : Int32))]) (rest := []) (lenOf pd20 rfl) rfl (by show 2 * 0 + _ ≤ _; exact Nat.le_of_eq rfl) (hb hby at_197) (fun _ _ => ⟨rfl, e474, (by decide : 6 + 0 ≤ _), (by decide : 20 + 0 ≤ _)⟩)
        dsimp only [Pt.U, Pt.locs, Pt.cells, Pt.slots] at X477 l477 y477 z477 st477 hQ477
        subst l477 y477 z477
        obtain ⟨rfl, N477q, e477⟩ := hQ477
        have N477 := Fr.app N474 N477q
        have P478 := own_step (C := T477.setTop (mkF m 200 #[.val (.int pk), .val (.int qq), .val (.int aa), .val (.int bb), .val (.int d0), .val (.int d1), .val (.int d2), .val (.int nn), .val (.ref b367), .val (.int (aa &&& (2147483647 : Int32))), .val (.int (own_max (aa &&& (2147483647 : Int32)) bb)), .val (.ref x396), .val (.ref b404), .val (.long (((own_b d0 (0 : Int32) nn (0 : Int32)) ||| (own_b d1 (1 : Int32) nn (0 : Int32))) ||| (own_b d2 (2 : Int32) nn (0 : Int32)))), .second, .unset, .unset] [(.long (own_b d0 (0 : Int32) nn (1 : Int32)))])) P476 (fun t_ k_ => st477 t_ k_)
        have P479 := own_step (C := T477.setTop (mkF m 206 #[.val (.int pk), .val (.int qq), .val (.int aa), .val (.int bb), .val (.int d0), .val (.int d1), .val (.int d2), .val (.int nn), .val (.ref b367), .val (.int (aa &&& (2147483647 : Int32))), .val (.int (own_max (aa &&& (2147483647 : Int32)) bb)), .val (.ref x396), .val (.ref b404), .val (.long (((own_b d0 (0 : Int32) nn (0 : Int32)) ||| (own_b d1 (1 : Int32) nn (0 : Int32))) ||| (own_b d2 (2 : Int32) nn (0 : Int32)))), .second, .unset, .unset] [(.int (1 : Int32)), (.int nn), (.int (1 : Int32)), (.int d1), (.long (own_b d0 (0 : Int32) nn (1 : Int32)))])) P478 (by
          intro tt_ kk_
          refine XS.iload X477.here hx rfl (hb hby at_200) rfl ?_
          refine XS.iconst X477.here hx rfl (hb hby at_202) ?_
          refine XS.iload X477.here hx rfl (hb hby at_203) rfl ?_
          refine XS.iconst X477.here hx rfl (hb hby at_205) ?_
          exact kk_)
        obtain ⟨_, _, ⟨T480, L480, k480, n480⟩, -, X480, ⟨Lc480, hQ480, l480, y480, z480⟩, st480⟩ := Jvm.LawKit.callS X477 hx (y := (⟨"com/example/gatehouse/gatehouse/pattern/NameShapeCharactersPinLaw", "bit", "(IIII)J"⟩ : MethodName)) hown (mvT hZ (hw _ (List.mem_of_getElem? (i := 75) rfl))) (mvT hZ (hw _ (List.mem_of_getElem? (i := 76) rfl))) (mvT hZ (hw _ (List.mem_of_getElem? (i := 77) rfl))) (mvT hZ (hw _ (List.mem_of_getElem? (i := 78) rfl))) (by decide) (backOf (W := 2) (rm_own_b l Z a0 hw [] d1 (1 : Int32) nn (1 : Int32) T449.heap n0 Z465 ) hZ (hw _ (List.mem_of_getElem? (i := 78) rfl)) (hw _ (List.mem_of_getElem? (i := 77) rfl)) (by decide) (by decide)) (g := (mkF m 206 #[.val (.int pk), .val (.int qq), .val (.int aa), .val (.int bb), .val (.int d0), .val (.int d1), .val (.int d2), .val (.int nn), .val (.ref b367), .val (.int (aa &&& (2147483647 : Int32))), .val (.int (own_max (aa &&& (2147483647 : Int32)) bb)), .val (.ref x396), .val (.ref b404), .val (.long (((own_b d0 (0 : Int32) nn (0 : Int32)) ||| (own_b d1 (1 : Int32) nn (0 : Int32))) ||| (own_b d2 (2 : Int32) nn (0 : Int32)))), .second, .unset, .unset] [(.int (1 : Int32)), (.int nn), (.int (1 : Int32)), (.int d1), (.long (own_b d0 (0 : Int32) nn (1 : Int32)))])) rfl (by rw [hml]; rfl) (argsL := [(.int d1), (.int (1 : Int32)), (.int nn), (.int (1 : Int32))]) (rest := [(.long (own_b d0 (0 : Int32) nn (1 : Int32)))]) (lenOf pd20 rfl) rfl (by show 2 * 0 + _ ≤ _; exact Nat.le_of_eq rfl) (hb hby at_206) (fun _ _ => ⟨rfl, e477, (by decide : 6 + 0 ≤ _), (by decide : 20 + 0 ≤ _)⟩)
        dsimp only [Pt.U, Pt.locs, Pt.cells, Pt.slots] at X480 l480 y480 z480 st480 hQ480
        subst l480 y480 z480
        obtain ⟨rfl, N480q, e480⟩ := hQ480
        have N480 := Fr.app N477 N480q
        have P481 := own_step (C := T480.setTop (mkF m 209 #[.val (.int pk), .val (.int qq), .val (.int aa), .val (.int bb), .val (.int d0), .val (.int d1), .val (.int d2), .val (.int nn), .val (.ref b367), .val (.int (aa &&& (2147483647 : Int32))), .val (.int (own_max (aa &&& (2147483647 : Int32)) bb)), .val (.ref x396), .val (.ref b404), .val (.long (((own_b d0 (0 : Int32) nn (0 : Int32)) ||| (own_b d1 (1 : Int32) nn (0 : Int32))) ||| (own_b d2 (2 : Int32) nn (0 : Int32)))), .second, .unset, .unset] [(.long (own_b d1 (1 : Int32) nn (1 : Int32))), (.long (own_b d0 (0 : Int32) nn (1 : Int32)))])) P479 (fun t_ k_ => st480 t_ k_)
        have P482 := own_step (C := T480.setTop (mkF m 216 #[.val (.int pk), .val (.int qq), .val (.int aa), .val (.int bb), .val (.int d0), .val (.int d1), .val (.int d2), .val (.int nn), .val (.ref b367), .val (.int (aa &&& (2147483647 : Int32))), .val (.int (own_max (aa &&& (2147483647 : Int32)) bb)), .val (.ref x396), .val (.ref b404), .val (.long (((own_b d0 (0 : Int32) nn (0 : Int32)) ||| (own_b d1 (1 : Int32) nn (0 : Int32))) ||| (own_b d2 (2 : Int32) nn (0 : Int32)))), .second, .unset, .unset] [(.int (1 : Int32)), (.int nn), (.int (2 : Int32)), (.int d2), (.long ((own_b d0 (0 : Int32) nn (1 : Int32)) ||| (own_b d1 (1 : Int32) nn (1 : Int32))))])) P481 (by
          intro tt_ kk_
          refine XS.lor X480.here hx rfl (hb hby at_209) rfl ?_
          refine XS.iload X480.here hx rfl (hb hby at_210) rfl ?_
          refine XS.iconst X480.here hx rfl (hb hby at_212) ?_
          refine XS.iload X480.here hx rfl (hb hby at_213) rfl ?_
          refine XS.iconst X480.here hx rfl (hb hby at_215) ?_
          exact kk_)
        obtain ⟨_, _, ⟨T483, L483, k483, n483⟩, -, X483, ⟨Lc483, hQ483, l483, y483, z483⟩, st483⟩ := Jvm.LawKit.callS X480 hx (y := (⟨"com/example/gatehouse/gatehouse/pattern/NameShapeCharactersPinLaw", "bit", "(IIII)J"⟩ : MethodName)) hown (mvT hZ (hw _ (List.mem_of_getElem? (i := 75) rfl))) (mvT hZ (hw _ (List.mem_of_getElem? (i := 76) rfl))) (mvT hZ (hw _ (List.mem_of_getElem? (i := 77) rfl))) (mvT hZ (hw _ (List.mem_of_getElem? (i := 78) rfl))) (by decide) (backOf (W := 2) (rm_own_b l Z a0 hw [] d2 (2 : Int32) nn (1 : Int32) T449.heap n0 Z465 ) hZ (hw _ (List.mem_of_getElem? (i := 78) rfl)) (hw _ (List.mem_of_getElem? (i := 77) rfl)) (by decide) (by decide)) (g := (mkF m 216 #[.val (.int pk), .val (.int qq), .val (.int aa), .val (.int bb), .val (.int d0), .val (.int d1), .val (.int d2), .val (.int nn), .val (.ref b367), .val (.int (aa &&& (2147483647 : Int32))), .val (.int (own_max (aa &&& (2147483647 : Int32)) bb)), .val (.ref x396), .val (.ref b404), .val (.long (((own_b d0 (0 : Int32) nn (0 : Int32)) ||| (own_b d1 (1 : Int32) nn (0 : Int32))) ||| (own_b d2 (2 : Int32) nn (0 : Int32)))), .second, .unset, .unset] [(.int (1 : Int32)), (.int nn), (.int (2 : Int32)), (.int d2), (.long ((own_b d0 (0 : Int32) nn (1 : Int32)) ||| (own_b d1 (1 : Int32) nn (1 : Int32))))])) rfl (by rw [hml]; rfl) (argsL := [(.int d2), (.int (2 : Int32)), (.int nn), (.int (1 : Int32))]) (rest := [(.long ((own_b d0 (0 : Int32) nn (1 : Int32)) ||| (own_b d1 (1 : Int32) nn (1 : Int32))))]) (lenOf pd20 rfl) rfl (by show 2 * 0 + _ ≤ _; exact Nat.le_of_eq rfl) (hb hby at_216) (fun _ _ => ⟨rfl, e480, (by decide : 6 + 0 ≤ _), (by decide : 20 + 0 ≤ _)⟩)
        dsimp only [Pt.U, Pt.locs, Pt.cells, Pt.slots] at X483 l483 y483 z483 st483 hQ483
        subst l483 y483 z483
        obtain ⟨rfl, N483q, e483⟩ := hQ483
        have N483 := Fr.app N480 N483q
        have P484 := own_step (C := T483.setTop (mkF m 219 #[.val (.int pk), .val (.int qq), .val (.int aa), .val (.int bb), .val (.int d0), .val (.int d1), .val (.int d2), .val (.int nn), .val (.ref b367), .val (.int (aa &&& (2147483647 : Int32))), .val (.int (own_max (aa &&& (2147483647 : Int32)) bb)), .val (.ref x396), .val (.ref b404), .val (.long (((own_b d0 (0 : Int32) nn (0 : Int32)) ||| (own_b d1 (1 : Int32) nn (0 : Int32))) ||| (own_b d2 (2 : Int32) nn (0 : Int32)))), .second, .unset, .unset] [(.long (own_b d2 (2 : Int32) nn (1 : Int32))), (.long ((own_b d0 (0 : Int32) nn (1 : Int32)) ||| (own_b d1 (1 : Int32) nn (1 : Int32))))])) P482 (fun t_ k_ => st483 t_ k_)
        have P485 := own_step (C := T483.setTop (mkF m 225 #[.val (.int pk), .val (.int qq), .val (.int aa), .val (.int bb), .val (.int d0), .val (.int d1), .val (.int d2), .val (.int nn), .val (.ref b367), .val (.int (aa &&& (2147483647 : Int32))), .val (.int (own_max (aa &&& (2147483647 : Int32)) bb)), .val (.ref x396), .val (.ref b404), .val (.long (((own_b d0 (0 : Int32) nn (0 : Int32)) ||| (own_b d1 (1 : Int32) nn (0 : Int32))) ||| (own_b d2 (2 : Int32) nn (0 : Int32)))), .second, .val (.long (((own_b d0 (0 : Int32) nn (1 : Int32)) ||| (own_b d1 (1 : Int32) nn (1 : Int32))) ||| (own_b d2 (2 : Int32) nn (1 : Int32)))), .second] [(.int (0 : Int32)), (.ref b404)])) P484 (by
          intro tt_ kk_
          refine XS.lor X483.here hx rfl (hb hby at_219) rfl ?_
          refine XS.lstore X483.here hx rfl (hb hby at_220) rfl (l' := #[.val (.int pk), .val (.int qq), .val (.int aa), .val (.int bb), .val (.int d0), .val (.int d1), .val (.int d2), .val (.int nn), .val (.ref b367), .val (.int (aa &&& (2147483647 : Int32))), .val (.int (own_max (aa &&& (2147483647 : Int32)) bb)), .val (.ref x396), .val (.ref b404), .val (.long (((own_b d0 (0 : Int32) nn (0 : Int32)) ||| (own_b d1 (1 : Int32) nn (0 : Int32))) ||| (own_b d2 (2 : Int32) nn (0 : Int32)))), .second, .val (.long (((own_b d0 (0 : Int32) nn (1 : Int32)) ||| (own_b d1 (1 : Int32) nn (1 : Int32))) ||| (own_b d2 (2 : Int32) nn (1 : Int32)))), .second]) rfl ?_
          refine XS.aload X483.here hx rfl (hb hby at_222) rfl rfl ?_
          refine XS.iconst X483.here hx rfl (hb hby at_224) ?_
          exact kk_)
        obtain ⟨cq486, kq486, q486a, q486b, q486c⟩ := isOf hZ e483 f450
        obtain ⟨_, _, ⟨T486, L486, k486, n486⟩, -, X486, ⟨Lc486, hQ486, l486, y486, z486⟩, st486⟩ := X483.virtualBack hx (y := (⟨"com/example/gatehouse/gatehouse/pattern/NameShape", "characters", "(I)J"⟩ : MethodName)) (z := (⟨"com/example/gatehouse/gatehouse/pattern/NameShape", "characters", "(I)J"⟩ : MethodName)) hown (mvT hZ (hw _ (List.mem_of_getElem? (i := 79) rfl))) (mvT hZ (hw _ (List.mem_of_getElem? (i := 80) rfl))) (notFace_of_selects (args := #[]) (mvT hZ (hw _ (List.mem_of_getElem? (i := 82) rfl)))) (mvT hZ (hw _ (List.mem_of_getElem? (i := 82) rfl))) (mvT hZ (hw _ (List.mem_of_getElem? (i := 81) rfl))) (by decide) (backOf (W := 0) (rm_own_chr l Z a0 hw [] b404 (0 : Int32) (own_bit (0 : Int32) (64 : Int32) ((((nar .char d2).toInt8.toInt32).toInt8.toInt32) &&& (255 : Int32)) (own_bit (0 : Int32) (64 : Int32) ((((nar .char d1).toInt8.toInt32).toInt8.toInt32) &&& (255 : Int32)) (own_bit (0 : Int32) (64 : Int32) ((((nar .char d0).toInt8.toInt32).toInt8.toInt32) &&& (255 : Int32)) (0 : Int64)))) (own_bit (64 : Int32) (128 : Int32) ((((nar .char d2).toInt8.toInt32).toInt8.toInt32) &&& (255 : Int32)) (own_bit (64 : Int32) (128 : Int32) ((((nar .char d1).toInt8.toInt32).toInt8.toInt32) &&& (255 : Int32)) (own_bit (64 : Int32) (128 : Int32) ((((nar .char d0).toInt8.toInt32).toInt8.toInt32) &&& (255 : Int32)) (0 : Int64)))) T449.heap n0 Z465 f451 f452) hZ (hw _ (List.mem_of_getElem? (i := 83) rfl)) (hw _ (List.mem_of_getElem? (i := 34) rfl)) (by decide) (by decide)) q486a q486c (g := (mkF m 225 #[.val (.int pk), .val (.int qq), .val (.int aa), .val (.int bb), .val (.int d0), .val (.int d1), .val (.int d2), .val (.int nn), .val (.ref b367), .val (.int (aa &&& (2147483647 : Int32))), .val (.int (own_max (aa &&& (2147483647 : Int32)) bb)), .val (.ref x396), .val (.ref b404), .val (.long (((own_b d0 (0 : Int32) nn (0 : Int32)) ||| (own_b d1 (1 : Int32) nn (0 : Int32))) ||| (own_b d2 (2 : Int32) nn (0 : Int32)))), .second, .val (.long (((own_b d0 (0 : Int32) nn (1 : Int32)) ||| (own_b d1 (1 : Int32) nn (1 : Int32))) ||| (own_b d2 (2 : Int32) nn (1 : Int32)))), .second] [(.int (0 : Int32)), (.ref b404)])) rfl (by rw [hml]; rfl) (Steps.refl _) (argsL := [(.int (0 : Int32))]) (rest := []) (lenOf pd21 rfl) rfl (by show 2 * 0 + _ ≤ _; exact Nat.le_of_eq rfl) (hb hby at_225) (fun _ _ => ⟨rfl, e483, (by decide : 6 + 0 ≤ _), (by decide : 20 + 0 ≤ _)⟩)
        dsimp only [Pt.U, Pt.locs, Pt.cells, Pt.slots] at X486 l486 y486 z486 st486 hQ486
        subst l486 y486 z486
        obtain ⟨rfl, N486q, e486⟩ := hQ486
        have N486 := Fr.app N483 N486q
        have P487 := own_step (C := T486.setTop (mkF m 228 #[.val (.int pk), .val (.int qq), .val (.int aa), .val (.int bb), .val (.int d0), .val (.int d1), .val (.int d2), .val (.int nn), .val (.ref b367), .val (.int (aa &&& (2147483647 : Int32))), .val (.int (own_max (aa &&& (2147483647 : Int32)) bb)), .val (.ref x396), .val (.ref b404), .val (.long (((own_b d0 (0 : Int32) nn (0 : Int32)) ||| (own_b d1 (1 : Int32) nn (0 : Int32))) ||| (own_b d2 (2 : Int32) nn (0 : Int32)))), .second, .val (.long (((own_b d0 (0 : Int32) nn (1 : Int32)) ||| (own_b d1 (1 : Int32) nn (1 : Int32))) ||| (own_b d2 (2 : Int32) nn (1 : Int32)))), .second] [(.long (own_chr (0 : Int32) (own_bit (0 : Int32) (64 : Int32) ((((nar .char d2).toInt8.toInt32).toInt8.toInt32) &&& (255 : Int32)) (own_bit (0 : Int32) (64 : Int32) ((((nar .char d1).toInt8.toInt32).toInt8.toInt32) &&& (255 : Int32)) (own_bit (0 : Int32) (64 : Int32) ((((nar .char d0).toInt8.toInt32).toInt8.toInt32) &&& (255 : Int32)) (0 : Int64)))) (own_bit (64 : Int32) (128 : Int32) ((((nar .char d2).toInt8.toInt32).toInt8.toInt32) &&& (255 : Int32)) (own_bit (64 : Int32) (128 : Int32) ((((nar .char d1).toInt8.toInt32).toInt8.toInt32) &&& (255 : Int32)) (own_bit (64 : Int32) (128 : Int32) ((((nar .char d0).toInt8.toInt32).toInt8.toInt32) &&& (255 : Int32)) (0 : Int64))))))])) P485 (fun t_ k_ => st486.trans k_)
        have P488 := own_step (C := T486.setTop (mkF m 231 #[.val (.int pk), .val (.int qq), .val (.int aa), .val (.int bb), .val (.int d0), .val (.int d1), .val (.int d2), .val (.int nn), .val (.ref b367), .val (.int (aa &&& (2147483647 : Int32))), .val (.int (own_max (aa &&& (2147483647 : Int32)) bb)), .val (.ref x396), .val (.ref b404), .val (.long (((own_b d0 (0 : Int32) nn (0 : Int32)) ||| (own_b d1 (1 : Int32) nn (0 : Int32))) ||| (own_b d2 (2 : Int32) nn (0 : Int32)))), .second, .val (.long (((own_b d0 (0 : Int32) nn (1 : Int32)) ||| (own_b d1 (1 : Int32) nn (1 : Int32))) ||| (own_b d2 (2 : Int32) nn (1 : Int32)))), .second] [(.int (lcmpW (own_chr (0 : Int32) (own_bit (0 : Int32) (64 : Int32) ((((nar .char d2).toInt8.toInt32).toInt8.toInt32) &&& (255 : Int32)) (own_bit (0 : Int32) (64 : Int32) ((((nar .char d1).toInt8.toInt32).toInt8.toInt32) &&& (255 : Int32)) (own_bit (0 : Int32) (64 : Int32) ((((nar .char d0).toInt8.toInt32).toInt8.toInt32) &&& (255 : Int32)) (0 : Int64)))) (own_bit (64 : Int32) (128 : Int32) ((((nar .char d2).toInt8.toInt32).toInt8.toInt32) &&& (255 : Int32)) (own_bit (64 : Int32) (128 : Int32) ((((nar .char d1).toInt8.toInt32).toInt8.toInt32) &&& (255 : Int32)) (own_bit (64 : Int32) (128 : Int32) ((((nar .char d0).toInt8.toInt32).toInt8.toInt32) &&& (255 : Int32)) (0 : Int64))))) (((own_b d0 (0 : Int32) nn (0 : Int32)) ||| (own_b d1 (1 : Int32) nn (0 : Int32))) ||| (own_b d2 (2 : Int32) nn (0 : Int32)))))])) P487 (by
          intro tt_ kk_
          refine XS.lload X486.here hx rfl (hb hby at_228) rfl ?_
          refine XS.lcmp X486.here hx rfl (hb hby at_230) rfl ?_
          exact kk_)
        have P489 := own_step (C := T486.setTop (mkF m 234 #[.val (.int pk), .val (.int qq), .val (.int aa), .val (.int bb), .val (.int d0), .val (.int d1), .val (.int d2), .val (.int nn), .val (.ref b367), .val (.int (aa &&& (2147483647 : Int32))), .val (.int (own_max (aa &&& (2147483647 : Int32)) bb)), .val (.ref x396), .val (.ref b404), .val (.long (((own_b d0 (0 : Int32) nn (0 : Int32)) ||| (own_b d1 (1 : Int32) nn (0 : Int32))) ||| (own_b d2 (2 : Int32) nn (0 : Int32)))), .second, .val (.long (((own_b d0 (0 : Int32) nn (1 : Int32)) ||| (own_b d1 (1 : Int32) nn (1 : Int32))) ||| (own_b d2 (2 : Int32) nn (1 : Int32)))), .second] [])) P488 (by
          intro tt_ kk_
          refine XS.ifNo X486.here hx rfl (hb hby at_231) rfl ((if0 _ _).trans (teq ((lw_eq _ _).mpr (own_f30 h3 gd0 gd1 gd2))).2) ?_
          exact kk_)
        have P490 := own_step (C := T486.setTop (mkF m 237 #[.val (.int pk), .val (.int qq), .val (.int aa), .val (.int bb), .val (.int d0), .val (.int d1), .val (.int d2), .val (.int nn), .val (.ref b367), .val (.int (aa &&& (2147483647 : Int32))), .val (.int (own_max (aa &&& (2147483647 : Int32)) bb)), .val (.ref x396), .val (.ref b404), .val (.long (((own_b d0 (0 : Int32) nn (0 : Int32)) ||| (own_b d1 (1 : Int32) nn (0 : Int32))) ||| (own_b d2 (2 : Int32) nn (0 : Int32)))), .second, .val (.long (((own_b d0 (0 : Int32) nn (1 : Int32)) ||| (own_b d1 (1 : Int32) nn (1 : Int32))) ||| (own_b d2 (2 : Int32) nn (1 : Int32)))), .second] [(.int (1 : Int32)), (.ref b404)])) P489 (by
          intro tt_ kk_
          refine XS.aload X486.here hx rfl (hb hby at_234) rfl rfl ?_
          refine XS.iconst X486.here hx rfl (hb hby at_236) ?_
          exact kk_)
        obtain ⟨cq491, kq491, q491a, q491b, q491c⟩ := isOf hZ e486 f450
        obtain ⟨_, _, ⟨T491, L491, k491, n491⟩, -, X491, ⟨Lc491, hQ491, l491, y491, z491⟩, st491⟩ := X486.virtualBack hx (y := (⟨"com/example/gatehouse/gatehouse/pattern/NameShape", "characters", "(I)J"⟩ : MethodName)) (z := (⟨"com/example/gatehouse/gatehouse/pattern/NameShape", "characters", "(I)J"⟩ : MethodName)) hown (mvT hZ (hw _ (List.mem_of_getElem? (i := 79) rfl))) (mvT hZ (hw _ (List.mem_of_getElem? (i := 80) rfl))) (notFace_of_selects (args := #[]) (mvT hZ (hw _ (List.mem_of_getElem? (i := 82) rfl)))) (mvT hZ (hw _ (List.mem_of_getElem? (i := 82) rfl))) (mvT hZ (hw _ (List.mem_of_getElem? (i := 81) rfl))) (by decide) (backOf (W := 0) (rm_own_chr l Z a0 hw [] b404 (1 : Int32) (own_bit (0 : Int32) (64 : Int32) ((((nar .char d2).toInt8.toInt32).toInt8.toInt32) &&& (255 : Int32)) (own_bit (0 : Int32) (64 : Int32) ((((nar .char d1).toInt8.toInt32).toInt8.toInt32) &&& (255 : Int32)) (own_bit (0 : Int32) (64 : Int32) ((((nar .char d0).toInt8.toInt32).toInt8.toInt32) &&& (255 : Int32)) (0 : Int64)))) (own_bit (64 : Int32) (128 : Int32) ((((nar .char d2).toInt8.toInt32).toInt8.toInt32) &&& (255 : Int32)) (own_bit (64 : Int32) (128 : Int32) ((((nar .char d1).toInt8.toInt32).toInt8.toInt32) &&& (255 : Int32)) (own_bit (64 : Int32) (128 : Int32) ((((nar .char d0).toInt8.toInt32).toInt8.toInt32) &&& (255 : Int32)) (0 : Int64)))) T449.heap n0 Z465 f451 f452) hZ (hw _ (List.mem_of_getElem? (i := 83) rfl)) (hw _ (List.mem_of_getElem? (i := 34) rfl)) (by decide) (by decide)) q491a q491c (g := (mkF m 237 #[.val (.int pk), .val (.int qq), .val (.int aa), .val (.int bb), .val (.int d0), .val (.int d1), .val (.int d2), .val (.int nn), .val (.ref b367), .val (.int (aa &&& (2147483647 : Int32))), .val (.int (own_max (aa &&& (2147483647 : Int32)) bb)), .val (.ref x396), .val (.ref b404), .val (.long (((own_b d0 (0 : Int32) nn (0 : Int32)) ||| (own_b d1 (1 : Int32) nn (0 : Int32))) ||| (own_b d2 (2 : Int32) nn (0 : Int32)))), .second, .val (.long (((own_b d0 (0 : Int32) nn (1 : Int32)) ||| (own_b d1 (1 : Int32) nn (1 : Int32))) ||| (own_b d2 (2 : Int32) nn (1 : Int32)))), .second] [(.int (1 : Int32)), (.ref b404)])) rfl (by rw [hml]; rfl) (Steps.refl _) (argsL := [(.int (1 : Int32))]) (rest := []) (lenOf pd21 rfl) rfl (by show 2 * 0 + _ ≤ _; exact Nat.le_of_eq rfl) (hb hby at_237) (fun _ _ => ⟨rfl, e486, (by decide : 6 + 0 ≤ _), (by decide : 20 + 0 ≤ _)⟩)
        dsimp only [Pt.U, Pt.locs, Pt.cells, Pt.slots] at X491 l491 y491 z491 st491 hQ491
        subst l491 y491 z491
        obtain ⟨rfl, N491q, e491⟩ := hQ491
        have N491 := Fr.app N486 N491q
        have P492 := own_step (C := T491.setTop (mkF m 240 #[.val (.int pk), .val (.int qq), .val (.int aa), .val (.int bb), .val (.int d0), .val (.int d1), .val (.int d2), .val (.int nn), .val (.ref b367), .val (.int (aa &&& (2147483647 : Int32))), .val (.int (own_max (aa &&& (2147483647 : Int32)) bb)), .val (.ref x396), .val (.ref b404), .val (.long (((own_b d0 (0 : Int32) nn (0 : Int32)) ||| (own_b d1 (1 : Int32) nn (0 : Int32))) ||| (own_b d2 (2 : Int32) nn (0 : Int32)))), .second, .val (.long (((own_b d0 (0 : Int32) nn (1 : Int32)) ||| (own_b d1 (1 : Int32) nn (1 : Int32))) ||| (own_b d2 (2 : Int32) nn (1 : Int32)))), .second] [(.long (own_chr (1 : Int32) (own_bit (0 : Int32) (64 : Int32) ((((nar .char d2).toInt8.toInt32).toInt8.toInt32) &&& (255 : Int32)) (own_bit (0 : Int32) (64 : Int32) ((((nar .char d1).toInt8.toInt32).toInt8.toInt32) &&& (255 : Int32)) (own_bit (0 : Int32) (64 : Int32) ((((nar .char d0).toInt8.toInt32).toInt8.toInt32) &&& (255 : Int32)) (0 : Int64)))) (own_bit (64 : Int32) (128 : Int32) ((((nar .char d2).toInt8.toInt32).toInt8.toInt32) &&& (255 : Int32)) (own_bit (64 : Int32) (128 : Int32) ((((nar .char d1).toInt8.toInt32).toInt8.toInt32) &&& (255 : Int32)) (own_bit (64 : Int32) (128 : Int32) ((((nar .char d0).toInt8.toInt32).toInt8.toInt32) &&& (255 : Int32)) (0 : Int64))))))])) P490 (fun t_ k_ => st491.trans k_)
        have P493 := own_step (C := T491.setTop (mkF m 243 #[.val (.int pk), .val (.int qq), .val (.int aa), .val (.int bb), .val (.int d0), .val (.int d1), .val (.int d2), .val (.int nn), .val (.ref b367), .val (.int (aa &&& (2147483647 : Int32))), .val (.int (own_max (aa &&& (2147483647 : Int32)) bb)), .val (.ref x396), .val (.ref b404), .val (.long (((own_b d0 (0 : Int32) nn (0 : Int32)) ||| (own_b d1 (1 : Int32) nn (0 : Int32))) ||| (own_b d2 (2 : Int32) nn (0 : Int32)))), .second, .val (.long (((own_b d0 (0 : Int32) nn (1 : Int32)) ||| (own_b d1 (1 : Int32) nn (1 : Int32))) ||| (own_b d2 (2 : Int32) nn (1 : Int32)))), .second] [(.int (lcmpW (own_chr (1 : Int32) (own_bit (0 : Int32) (64 : Int32) ((((nar .char d2).toInt8.toInt32).toInt8.toInt32) &&& (255 : Int32)) (own_bit (0 : Int32) (64 : Int32) ((((nar .char d1).toInt8.toInt32).toInt8.toInt32) &&& (255 : Int32)) (own_bit (0 : Int32) (64 : Int32) ((((nar .char d0).toInt8.toInt32).toInt8.toInt32) &&& (255 : Int32)) (0 : Int64)))) (own_bit (64 : Int32) (128 : Int32) ((((nar .char d2).toInt8.toInt32).toInt8.toInt32) &&& (255 : Int32)) (own_bit (64 : Int32) (128 : Int32) ((((nar .char d1).toInt8.toInt32).toInt8.toInt32) &&& (255 : Int32)) (own_bit (64 : Int32) (128 : Int32) ((((nar .char d0).toInt8.toInt32).toInt8.toInt32) &&& (255 : Int32)) (0 : Int64))))) (((own_b d0 (0 : Int32) nn (1 : Int32)) ||| (own_b d1 (1 : Int32) nn (1 : Int32))) ||| (own_b d2 (2 : Int32) nn (1 : Int32)))))])) P492 (by
          intro tt_ kk_
          refine XS.lload X491.here hx rfl (hb hby at_240) rfl ?_
          refine XS.lcmp X491.here hx rfl (hb hby at_242) rfl ?_
          exact kk_)
        have P494 := own_step (C := T491.setTop (mkF m 246 #[.val (.int pk), .val (.int qq), .val (.int aa), .val (.int bb), .val (.int d0), .val (.int d1), .val (.int d2), .val (.int nn), .val (.ref b367), .val (.int (aa &&& (2147483647 : Int32))), .val (.int (own_max (aa &&& (2147483647 : Int32)) bb)), .val (.ref x396), .val (.ref b404), .val (.long (((own_b d0 (0 : Int32) nn (0 : Int32)) ||| (own_b d1 (1 : Int32) nn (0 : Int32))) ||| (own_b d2 (2 : Int32) nn (0 : Int32)))), .second, .val (.long (((own_b d0 (0 : Int32) nn (1 : Int32)) ||| (own_b d1 (1 : Int32) nn (1 : Int32))) ||| (own_b d2 (2 : Int32) nn (1 : Int32)))), .second] [])) P493 (by
          intro tt_ kk_
          refine XS.ifNo X491.here hx rfl (hb hby at_243) rfl ((if0 _ _).trans (teq ((lw_eq _ _).mpr (own_f31 h3 gd0 gd1 gd2))).2) ?_
          exact kk_)
        have P495 := own_step (C := T491.setTop (mkF m 251 #[.val (.int pk), .val (.int qq), .val (.int aa), .val (.int bb), .val (.int d0), .val (.int d1), .val (.int d2), .val (.int nn), .val (.ref b367), .val (.int (aa &&& (2147483647 : Int32))), .val (.int (own_max (aa &&& (2147483647 : Int32)) bb)), .val (.ref x396), .val (.ref b404), .val (.long (((own_b d0 (0 : Int32) nn (0 : Int32)) ||| (own_b d1 (1 : Int32) nn (0 : Int32))) ||| (own_b d2 (2 : Int32) nn (0 : Int32)))), .second, .val (.long (((own_b d0 (0 : Int32) nn (1 : Int32)) ||| (own_b d1 (1 : Int32) nn (1 : Int32))) ||| (own_b d2 (2 : Int32) nn (1 : Int32)))), .second] [(.int (1 : Int32))])) P494 (by
          intro tt_ kk_
          refine XS.iconst X491.here hx rfl (hb hby at_246) ?_
          refine XS.goto X491.here hx rfl (pc0 := 247) (pc' := 251) rfl (hb hby at_247) (by decide) (by decide) ?_
          exact kk_)
        obtain ⟨fs, hr, hrun, hended, hW, hsame⟩ := X491.leave (v := some (.int (1 : Int32))) (fun h => by rw [Bd.returns] at h; cases h)
        refine ⟨_, _, P495 _ ?_, hrun, hended, _, _, rfl, ?_, wide ⟨⟨_, rfl⟩, hW, hsame.mono (by decide) (by decide)⟩⟩
        · exact retN X491 hx (t := .boolean) Bd.returns (by simp) (hb hby at_251) hr
        · show Q0 Z _ _ _ _ _ _ h0 n0 _ T491.heap _
          rw [e491]
          exact ⟨rfl, N491⟩
set_option maxRecDepth 65536 in
set_option maxHeartbeats 40000000 in
theorem comes_1 {Post : Tables → Env → Array Value → State → Outcome → State → Prop} (hpost : ∀ tb e args s v u, (limb_1_1.after args s (.returned v) u = true ∧ limb_1_2.after args s (.returned v) u = true ∧ True) → ReturnedEndW s (.returned v) u (Jvm.fieldLocs frame_1_writes args s ++ Jvm.arrayLocs frame_1_arrays args s ++ Jvm.staticLocs frame_1_statics s) 24 1152 → Post tb e args s (.returned v) u) :
    ArmFor flags0 classFile x code maxLocals ret World_1 tables_1 room_1 Calls_1 rest_1 Pre_1 Post := by
  intro l hfl _ _ p e ha hc hk s m args below hf hA hF happ hP
  obtain ⟨hcalls, hrest, hpre⟩ := hP
  obtain ⟨-, -, -, hnamed, -, -, -, hat⟩ := (Spec.applies_iff hf).mp happ
  obtain ⟨hg, hn⟩ := and_e (Cond.before_iff.mp (show (Jvm.Cond.and given_1 narrow_1).before args s = true from hpre))
  obtain ⟨hgc, hg0⟩ := and_e hg
  obtain ⟨ha0, hg1⟩ := and_e hg0
  obtain ⟨ha1, hg2⟩ := and_e hg1
  obtain ⟨ha2, hg3⟩ := and_e hg2
  have ha3 := hg3
  obtain ⟨w0, w1, w2, w3, rfl⟩ : ∃ w0 w1 w2 w3 : Value, args = #[w0, w1, w2, w3] := by
    have hs : args.size = 4 := by simpa [Cond.value, given_1] using hgc
    obtain ⟨L⟩ := args
    match L, hs with
    | [w0, w1, w2, w3], _ => exact ⟨w0, w1, w2, w3, rfl⟩
  have hw := fun d (hd : d ∈ tables_1) => atoms_spec (ws := Jvm.Cond.code x code maxLocals ret :: tables_1) hat d (List.mem_cons_of_mem _ hd)
  have hfit : Fit s := fun {y c} hc i hi => by
    obtain ⟨ha, rfl⟩ := Array.getElem?_eq_some_iff.mp hc
    have q := List.all_eq_true.mp ((Array.all_eq_true_iff_forall_mem.mp hF) _ (Array.getElem_mem ha)) i (List.mem_range.mpr hi)
    simpa [Array.getElem?_eq_getElem hi] using q
  obtain ⟨hsets, hown0⟩ := atoms_of _ (rest_1_c_eq ▸ (show rest_1_c.before _ s = true from hrest))
  obtain ⟨i0, ei0⟩ := is_v ha0
  obtain rfl : w0 = (.int i0) := Option.some.inj ei0
  obtain ⟨i1, ei1⟩ := is_v ha1
  obtain rfl : w1 = (.int i1) := Option.some.inj ei1
  obtain ⟨i2, ei2⟩ := is_v ha2
  obtain rfl : w2 = (.int i2) := Option.some.inj ei2
  obtain ⟨i3, ei3⟩ := is_v ha3
  obtain rfl : w3 = (.int i3) := Option.some.inj ei3
  have hheld : Jvm.Lit.constHeld s "java/lang/String" 7 := hcalls.1 _ (List.mem_of_getElem? (i := 0) rfl)
  have hcw : Jvm.Lit.compactW.before _ s = true := hsets _ (List.mem_of_getElem? (i := 2) rfl)
  obtain ⟨cs, ecs⟩ := is_v (Cond.before_iff.mp (hsets _ (List.mem_of_getElem? (i := 1) rfl)))
  have Scs := Sta.start ecs (Or.inl (hsets _ (List.mem_of_getElem? (i := 0) rfl)))
  have hcs : ¬ (cs = (0 : Int32)) := own_cs ecs hcw
  obtain ⟨fm, efm, rfm⟩ := isR_v (Cond.before_iff.mp (hsets _ (List.mem_of_getElem? (i := 8) rfl)))
  have Sfm := Sta.start efm (Or.inl (hsets _ (List.mem_of_getElem? (i := 7) rfl)))
  have hfm : fm.category = 1 := by rcases ref_cases rfm with rfl | ⟨_, rfl⟩ <;> rfl
  obtain ⟨n, o, h1, h2, h3, _, L, rfl, ⟨rfl, N⟩, hq⟩ := rm0 l s _ hw tables_1 i0 i1 i2 i3 fm cs s.heap s.heap.size (Nat.le_refl _) (Old.start s) Scs hcs Sfm hfm hheld hcw p e ha hc hk s m _ below hf ((Spec.applies_iff_loose hf).mp happ).1 ⟨rfl, State.Warmed39.refl s, rfl, IB.start⟩ trivial
  exact ⟨n, _, h1, h2, h3, hpost _ _ _ _ _ _ ⟨Cond.after_iff.mpr rfl, Cond.after_iff.mpr (eq_i res_at (Term.int_eval (1)) rfl), trivial⟩ ⟨hq.1, hq.2.1, hq.2.2.1, (hq.2.2.2.sift fun y hy => Or.inr (N y hy)).mono (by decide) (by decide)⟩⟩
theorem main_1_1 : Claimed_1_1 := comes_1 fun _ _ _ _ _ _ h hF => ⟨h.1, hF⟩
theorem main_1_2 : Claimed_1_2 := comes_1 fun _ _ _ _ _ _ h hF => ⟨h.2.1, hF⟩
end Jvm.Pilot.@@N@@
namespace Jvm.Pilot.@@N@@
open Jvm Jvm.ClassFile Sem Op Lib Jvm.Free Jvm.Stand Jvm.Pilot.@@N@@.Jvm.D
/-! MADE BY PROGRAM (witnessworld.py) out of the Statement's table words and the real class files: 21 classes; the members and pool entries that the words name. The judged class is class 1, her method 1. -/
namespace start1
open Jvm.ClassFile
def u (s : String) : CpInfo := .utf8 (stringToUtf16 s)
/-- a pool by its gaps: so many unusable entries, then the entry; so many at the end -/
def gap : Nat → List CpInfo → List CpInfo
  | 0, r => r
  | n + 1, r => .unusable :: gap n r
def poolList (es : List (Nat × CpInfo)) (last : Nat) : List CpInfo := es.foldr (fun e r => gap e.1 (e.2 :: r)) (gap last [])
def pool (es : List (Nat × CpInfo)) (last : Nat) : Array CpInfo := ⟨poolList es last⟩
def fileOf (pool : Array CpInfo) (this : Nat) (attrs : Array Attribute := #[]) (ms : Array MethodInfo := #[]) (fl : Nat := 33) (sup : Nat := 0) (ifs : Array Nat := #[]) (fds : Array FieldInfo := #[]) : ClassFile where
  minorVersion := 0
  majorVersion := 65
  constantPool := pool
  accessFlags := fl
  thisClass := this
  superClass := sup
  interfaces := ifs
  fields := fds
  methods := ms
  attributes := attrs
def plain (name : String) (sup : Option ClassId) : Class where
  name := name
  kind := .ordinary
  loader := none
  accessFlags := 33
  super := sup
  interfaces := #[]
  cf := none
  fields := #[]
  methods := #[]
  instanceTypes := #[]
  staticTypes := #[]
  resolved := #[]
  callSites := []
  init := .initialized
  statics := none
  mirror := none

def pool0 : Array CpInfo := pool [(5, u "<init>"), (0, u "()V"), (1, .class_ 10), (1, u "java/lang/Object")] 113

def k0c0 : Code := { maxStack := 0, maxLocals := 1, code := object_method_1_code, exceptionTable := #[], attributes := #[] }
def k0m0 : Method := { name := "<init>", desc := "()V", sig := { parameters := [], returnType := none }, accessFlags := 1, code := some k0c0 }
/-- java/lang/Object -/
def k0 : Class := { plain "java/lang/Object" none with
  accessFlags := 33
  interfaces := #[]
  cf := some (fileOf pool0 8 #[] #[{ accessFlags := 1, nameIndex := 5, descriptorIndex := 6, attributes := #[] }] 33 0 #[] #[])
  fields := #[]
  methods := #[k0m0]
  instanceTypes := #[]
  staticTypes := #[]
  resolved := Array.replicate 124 none
  statics := none }

def pool1 : Array CpInfo := pool [(2, .class_ 4), (1, u "java/lang/Object"), (0, u "<init>"), (0, u "()V"), (0, .integer 2147483647), (0, .methodref 9 10), (0, .class_ 11), (0, .nameAndType 12 13), (0, u "java/lang/Math"), (0, u "max"), (0, u "(II)I"), (0, .methodref 15 16), (0, .class_ 17), (0, .nameAndType 18 19), (0, u "java/lang/String"), (0, u "valueOf"), (0, u "(C)Ljava/lang/String;"), (0, .class_ 21), (0, u "com/example/gatehouse/gatehouse/pattern/NameShape"), (0, .methodref 15 23), (0, .nameAndType 5 24), (0, u "([C)V"), (0, .methodref 20 26), (0, .nameAndType 5 27), (0, u "(Ljava/lang/String;Ljava/lang/String;II)V"), (0, .methodref 29 30), (0, .class_ 31), (0, .nameAndType 32 33), (0, u "com/example/gatehouse/gatehouse/pattern/NameShapeCharactersPinLaw"), (0, u "bit"), (0, u "(IIII)J"), (0, .methodref 20 35), (0, .nameAndType 36 37), (0, u "characters"), (0, u "(I)J"), (2, u "law"), (0, u "(IIII)Z")] 5

def k1m0 : Method := { name := "<init>", desc := "()V", sig := { parameters := [], returnType := none }, accessFlags := 1, code := none }
def k1c1 : Code := { maxStack := 6, maxLocals := 17, code := code, exceptionTable := #[], attributes := #[] }
def k1m1 : Method := { name := "law", desc := "(IIII)Z", sig := { parameters := [.int, .int, .int, .int], returnType := some .boolean }, accessFlags := 9, code := some k1c1 }
def k1c2 : Code := { maxStack := 4, maxLocals := 4, code := method_3_code, exceptionTable := #[], attributes := #[] }
def k1m2 : Method := { name := "bit", desc := "(IIII)J", sig := { parameters := [.int, .int, .int, .int], returnType := some .long }, accessFlags := 10, code := some k1c2 }
/-- com/example/gatehouse/gatehouse/pattern/NameShapeCharactersPinLaw -/
def k1 : Class := { plain "com/example/gatehouse/gatehouse/pattern/NameShapeCharactersPinLaw" (some 0) with
  accessFlags := 49
  interfaces := #[]
  cf := some (fileOf pool1 29 #[] #[{ accessFlags := 1, nameIndex := 5, descriptorIndex := 6, attributes := #[] }, { accessFlags := 9, nameIndex := 40, descriptorIndex := 41, attributes := #[] }, { accessFlags := 10, nameIndex := 32, descriptorIndex := 33, attributes := #[] }] 49 2 #[] #[])
  fields := #[]
  methods := #[k1m0, k1m1, k1m2]
  instanceTypes := #[]
  staticTypes := #[]
  resolved := Array.replicate 47 none
  statics := none }

def pool2 : Array CpInfo := pool [(1, .class_ 2), (0, u "java/lang/Math"), (1, .class_ 6), (1, u "java/lang/Object"), (0, u "<init>"), (0, u "()V"), (89, .class_ 100), (1, u "java/lang/Math$RandomNumberGeneratorHolder"), (71, u "negativeZeroFloatBits"), (0, u "J"), (2, u "negativeZeroDoubleBits"), (21, u "max"), (46, u "$assertionsDisabled"), (0, u "Z"), (88, u "(II)I"), (2, u "twoToTheDoubleScaleDown"), (0, u "D"), (4, u "twoToTheDoubleScaleUp"), (9, u "E"), (3, u "PI"), (2, u "TAU"), (2, u "DEGREES_TO_RADIANS"), (0, u "RADIANS_TO_DEGREES")] 94

def k2m0 : Method := { name := "<init>", desc := "()V", sig := { parameters := [], returnType := none }, accessFlags := 2, code := none }
def k2c1 : Code := { maxStack := 2, maxLocals := 2, code := jdk_29_method_65_code, exceptionTable := #[], attributes := #[] }
def k2m1 : Method := { name := "max", desc := "(II)I", sig := { parameters := [.int, .int], returnType := some .int }, accessFlags := 9, code := some k2c1 }
/-- java/lang/Math -/
def k2 : Class := { plain "java/lang/Math" (some 0) with
  accessFlags := 49
  interfaces := #[]
  cf := some (fileOf pool2 1 #[.nestMembers #[98]] #[{ accessFlags := 2, nameIndex := 7, descriptorIndex := 8, attributes := #[] }, { accessFlags := 9, nameIndex := 198, descriptorIndex := 335, attributes := #[] }] 49 4 #[] #[{ accessFlags := 25, nameIndex := 354, descriptorIndex := 339, attributes := #[] }, { accessFlags := 25, nameIndex := 358, descriptorIndex := 339, attributes := #[] }, { accessFlags := 25, nameIndex := 361, descriptorIndex := 339, attributes := #[] }, { accessFlags := 26, nameIndex := 364, descriptorIndex := 339, attributes := #[] }, { accessFlags := 26, nameIndex := 365, descriptorIndex := 339, attributes := #[] }, { accessFlags := 26, nameIndex := 172, descriptorIndex := 173, attributes := #[] }, { accessFlags := 26, nameIndex := 176, descriptorIndex := 173, attributes := #[] }, { accessFlags := 8, nameIndex := 344, descriptorIndex := 339, attributes := #[] }, { accessFlags := 8, nameIndex := 338, descriptorIndex := 339, attributes := #[] }, { accessFlags := 4120, nameIndex := 245, descriptorIndex := 246, attributes := #[] }])
  fields := #[{ name := "E", type := .double, accessFlags := 25, slot := 0, constantValue := 0 }, { name := "PI", type := .double, accessFlags := 25, slot := 1, constantValue := 0 }, { name := "TAU", type := .double, accessFlags := 25, slot := 2, constantValue := 0 }, { name := "DEGREES_TO_RADIANS", type := .double, accessFlags := 26, slot := 3, constantValue := 0 }, { name := "RADIANS_TO_DEGREES", type := .double, accessFlags := 26, slot := 4, constantValue := 0 }, { name := "negativeZeroFloatBits", type := .long, accessFlags := 26, slot := 5, constantValue := 0 }, { name := "negativeZeroDoubleBits", type := .long, accessFlags := 26, slot := 6, constantValue := 0 }, { name := "twoToTheDoubleScaleUp", type := .double, accessFlags := 8, slot := 7, constantValue := 0 }, { name := "twoToTheDoubleScaleDown", type := .double, accessFlags := 8, slot := 8, constantValue := 0 }, { name := "$assertionsDisabled", type := .boolean, accessFlags := 4120, slot := 9, constantValue := 0 }]
  methods := #[k2m0, k2m1]
  instanceTypes := #[]
  staticTypes := #[.double, .double, .double, .double, .double, .long, .long, .double, .double, .boolean]
  resolved := Array.replicate 460 none
  statics := none }

def pool3 : Array CpInfo := pool [(1, .class_ 2), (0, u "java/io/Serializable"), (0, .class_ 4), (0, u "java/lang/Object")] 2

/-- java/io/Serializable -/
def k3 : Class := { plain "java/io/Serializable" (some 0) with
  accessFlags := 1537
  interfaces := #[]
  cf := some (fileOf pool3 1 #[] #[] 1537 3 #[] #[])
  fields := #[]
  methods := #[]
  instanceTypes := #[]
  staticTypes := #[]
  resolved := Array.replicate 7 none
  statics := none }

def pool4 : Array CpInfo := pool [(1, .class_ 2), (0, u "java/lang/Comparable"), (0, .class_ 4), (0, u "java/lang/Object")] 7

/-- java/lang/Comparable -/
def k4 : Class := { plain "java/lang/Comparable" (some 0) with
  accessFlags := 1537
  interfaces := #[]
  cf := some (fileOf pool4 1 #[] #[] 1537 3 #[] #[])
  fields := #[]
  methods := #[]
  instanceTypes := #[]
  staticTypes := #[]
  resolved := Array.replicate 12 none
  statics := none }

def pool5 : Array CpInfo := pool [(2, .class_ 4), (1, u "java/lang/CharSequence"), (42, .class_ 48), (0, u "java/lang/CharSequence$1CodePointIterator"), (10, .class_ 60), (0, u "java/lang/CharSequence$1CharIterator"), (5, .class_ 67), (0, u "java/lang/Object")] 63

/-- java/lang/CharSequence -/
def k5 : Class := { plain "java/lang/CharSequence" (some 0) with
  accessFlags := 1537
  interfaces := #[]
  cf := some (fileOf pool5 2 #[.nestMembers #[47, 59]] #[] 1537 66 #[] #[])
  fields := #[]
  methods := #[]
  instanceTypes := #[]
  staticTypes := #[]
  resolved := Array.replicate 131 none
  statics := none }

def pool6 : Array CpInfo := pool [(1, .class_ 2), (0, u "java/lang/constant/Constable"), (0, .class_ 4), (0, u "java/lang/Object")] 6

/-- java/lang/constant/Constable -/
def k6 : Class := { plain "java/lang/constant/Constable" (some 0) with
  accessFlags := 1537
  interfaces := #[]
  cf := some (fileOf pool6 1 #[] #[] 1537 3 #[] #[])
  fields := #[]
  methods := #[]
  instanceTypes := #[]
  staticTypes := #[]
  resolved := Array.replicate 11 none
  statics := none }

def pool7 : Array CpInfo := pool [(1, .class_ 2), (0, u "java/lang/constant/ConstantDesc"), (0, .class_ 4), (0, u "java/lang/Object")] 32

/-- java/lang/constant/ConstantDesc -/
def k7 : Class := { plain "java/lang/constant/ConstantDesc" (some 0) with
  accessFlags := 1537
  interfaces := #[]
  cf := some (fileOf pool7 1 #[] #[] 1537 3 #[] #[])
  fields := #[]
  methods := #[]
  instanceTypes := #[]
  staticTypes := #[]
  resolved := Array.replicate 37 none
  statics := none }

def pool8 : Array CpInfo := pool [(1, .methodref 2 3), (0, .class_ 4), (0, .nameAndType 5 6), (0, u "java/lang/Object"), (0, u "<init>"), (0, u "()V"), (0, .string 8), (0, u ""), (0, .fieldref 10 11), (0, .class_ 12), (0, .nameAndType 13 14), (0, u "java/lang/String"), (0, u "value"), (0, u "[B"), (0, .fieldref 10 16), (0, .nameAndType 17 18), (0, u "coder"), (0, u "B"), (2, u "hash"), (0, u "I"), (2, u "hashIsZero"), (0, u "Z"), (0, .methodref 10 28), (0, .nameAndType 5 29), (0, u "([CIILjava/lang/Void;)V"), (8, .fieldref 10 39), (0, .nameAndType 40 26), (0, u "COMPACT_STRINGS"), (1, .class_ 44), (1, u "java/lang/StringUTF16"), (0, u "compress"), (1, .methodref 42 48), (0, .nameAndType 49 50), (0, u "coderFromArrayLen"), (0, u "([BI)B"), (2, u "toBytes"), (53, .class_ 109), (1, u "java/lang/StringLatin1"), (32, u "()Z"), (34, .methodref 42 178), (0, .nameAndType 45 179), (0, u "([CII)[B"), (29, .methodref 10 210), (0, .nameAndType 5 211), (0, u "([BB)V"), (122, u "()I"), (0, .methodref 10 336), (0, .nameAndType 17 337), (0, u "()B"), (25, u "([BI)C"), (5, u "(C)Z"), (21, u "(II)V"), (35, u "(I)C"), (64, .methodref 10 493), (0, .nameAndType 494 142), (0, u "isLatin1"), (0, .methodref 107 496), (0, .nameAndType 497 363), (0, u "charAt"), (3, u "checkIndex"), (5, u "length"), (67, .class_ 576), (0, u "java/lang/CharSequence"), (22, u "CASE_INSENSITIVE_ORDER"), (0, u "Ljava/util/Comparator;"), (181, u "valueOf"), (0, u "(C)Ljava/lang/String;"), (226, u "([C)V"), (4, .methodref 107 1016), (0, .nameAndType 1017 369), (0, u "canEncode"), (0, .methodref 107 1019), (0, .nameAndType 53 1020), (0, u "(C)[B"), (32, .fieldref 1054 1055), (0, .class_ 1056), (0, .nameAndType 1057 1058), (0, u "jdk/internal/util/Preconditions"), (0, u "SIOOBE_FORMATTER"), (0, u "Ljava/util/function/BiFunction;"), (0, .methodref 1054 1060), (0, .nameAndType 501 1061), (0, u "(IILjava/util/function/BiFunction;)I"), (39, u "serialPersistentFields"), (0, u "[Ljava/io/ObjectStreamField;"), (0, .class_ 1104), (0, u "java/lang/String$CaseInsensitiveComparator"), (1, .class_ 1107), (0, u "java/io/Serializable"), (0, .class_ 1109), (0, u "java/lang/Comparable"), (0, .class_ 1111), (0, u "java/lang/constant/Constable"), (0, .class_ 1113), (0, u "java/lang/constant/ConstantDesc"), (2, u "serialVersionUID"), (0, u "J"), (3, u "REPL"), (0, u "C"), (2, u "LATIN1"), (1, u "UTF16")] 323

def k8m0 : Method := { name := "<init>", desc := "()V", sig := { parameters := [], returnType := none }, accessFlags := 1, code := none }
def k8c1 : Code := { maxStack := 5, maxLocals := 2, code := jdk_42_method_3_code, exceptionTable := #[], attributes := #[] }
def k8m1 : Method := { name := "<init>", desc := "([C)V", sig := { parameters := [(.array .char)], returnType := none }, accessFlags := 1, code := some k8c1 }
def k8c2 : Code := { maxStack := 2, maxLocals := 1, code := jdk_42_method_54_code, exceptionTable := #[], attributes := #[] }
def k8m2 : Method := { name := "length", desc := "()I", sig := { parameters := [], returnType := some .int }, accessFlags := 1, code := some k8c2 }
def k8c3 : Code := { maxStack := 2, maxLocals := 2, code := jdk_42_method_56_code, exceptionTable := #[], attributes := #[] }
def k8m3 : Method := { name := "charAt", desc := "(I)C", sig := { parameters := [.int], returnType := some .char }, accessFlags := 1, code := some k8c3 }
def k8c4 : Code := { maxStack := 4, maxLocals := 1, code := jdk_42_method_139_code, exceptionTable := #[], attributes := #[] }
def k8m4 : Method := { name := "valueOf", desc := "(C)Ljava/lang/String;", sig := { parameters := [.char], returnType := some (.object "java/lang/String") }, accessFlags := 9, code := some k8c4 }
def k8c5 : Code := { maxStack := 4, maxLocals := 6, code := jdk_42_method_149_code, exceptionTable := #[], attributes := #[] }
def k8m5 : Method := { name := "<init>", desc := "([CIILjava/lang/Void;)V", sig := { parameters := [(.array .char), .int, .int, (.object "java/lang/Void")], returnType := none }, accessFlags := 2, code := some k8c5 }
def k8c6 : Code := { maxStack := 2, maxLocals := 3, code := jdk_42_method_151_code, exceptionTable := #[], attributes := #[] }
def k8m6 : Method := { name := "<init>", desc := "([BB)V", sig := { parameters := [(.array .byte), .byte], returnType := none }, accessFlags := 0, code := some k8c6 }
def k8c7 : Code := { maxStack := 1, maxLocals := 1, code := jdk_42_method_152_code, exceptionTable := #[], attributes := #[] }
def k8m7 : Method := { name := "coder", desc := "()B", sig := { parameters := [], returnType := some .byte }, accessFlags := 0, code := some k8c7 }
def k8c8 : Code := { maxStack := 1, maxLocals := 1, code := jdk_42_method_154_code, exceptionTable := #[], attributes := #[] }
def k8m8 : Method := { name := "isLatin1", desc := "()Z", sig := { parameters := [], returnType := some .boolean }, accessFlags := 0, code := some k8c8 }
def k8c9 : Code := { maxStack := 3, maxLocals := 2, code := jdk_42_method_155_code, exceptionTable := #[], attributes := #[] }
def k8m9 : Method := { name := "checkIndex", desc := "(II)V", sig := { parameters := [.int, .int], returnType := none }, accessFlags := 8, code := some k8c9 }
/-- java/lang/String -/
def k8 : Class := { plain "java/lang/String" (some 0) with
  accessFlags := 49
  interfaces := #[3, 4, 5, 6, 7]
  cf := some (fileOf pool8 10 #[.nestMembers #[1103]] #[{ accessFlags := 1, nameIndex := 5, descriptorIndex := 6, attributes := #[] }, { accessFlags := 1, nameIndex := 5, descriptorIndex := 1010, attributes := #[] }, { accessFlags := 1, nameIndex := 507, descriptorIndex := 334, attributes := #[] }, { accessFlags := 1, nameIndex := 497, descriptorIndex := 427, attributes := #[] }, { accessFlags := 9, nameIndex := 782, descriptorIndex := 783, attributes := #[] }, { accessFlags := 2, nameIndex := 5, descriptorIndex := 29, attributes := #[] }, { accessFlags := 0, nameIndex := 5, descriptorIndex := 211, attributes := #[] }, { accessFlags := 0, nameIndex := 17, descriptorIndex := 337, attributes := #[] }, { accessFlags := 0, nameIndex := 494, descriptorIndex := 142, attributes := #[] }, { accessFlags := 8, nameIndex := 501, descriptorIndex := 391, attributes := #[] }] 49 2 #[1106, 1108, 575, 1110, 1112] #[{ accessFlags := 18, nameIndex := 13, descriptorIndex := 14, attributes := #[] }, { accessFlags := 18, nameIndex := 17, descriptorIndex := 18, attributes := #[] }, { accessFlags := 2, nameIndex := 21, descriptorIndex := 22, attributes := #[] }, { accessFlags := 2, nameIndex := 25, descriptorIndex := 26, attributes := #[] }, { accessFlags := 26, nameIndex := 1116, descriptorIndex := 1117, attributes := #[] }, { accessFlags := 24, nameIndex := 40, descriptorIndex := 26, attributes := #[] }, { accessFlags := 26, nameIndex := 1101, descriptorIndex := 1102, attributes := #[] }, { accessFlags := 26, nameIndex := 1121, descriptorIndex := 1122, attributes := #[] }, { accessFlags := 25, nameIndex := 599, descriptorIndex := 600, attributes := #[] }, { accessFlags := 24, nameIndex := 1125, descriptorIndex := 18, attributes := #[] }, { accessFlags := 24, nameIndex := 1127, descriptorIndex := 18, attributes := #[] }])
  fields := #[{ name := "value", type := (.array .byte), accessFlags := 18, slot := 0, constantValue := 0 }, { name := "coder", type := .byte, accessFlags := 18, slot := 1, constantValue := 0 }, { name := "hash", type := .int, accessFlags := 2, slot := 2, constantValue := 0 }, { name := "hashIsZero", type := .boolean, accessFlags := 2, slot := 3, constantValue := 0 }, { name := "serialVersionUID", type := .long, accessFlags := 26, slot := 0, constantValue := 0 }, { name := "COMPACT_STRINGS", type := .boolean, accessFlags := 24, slot := 1, constantValue := 0 }, { name := "serialPersistentFields", type := (.array (.object "java/io/ObjectStreamField")), accessFlags := 26, slot := 2, constantValue := 0 }, { name := "REPL", type := .char, accessFlags := 26, slot := 3, constantValue := 0 }, { name := "CASE_INSENSITIVE_ORDER", type := (.object "java/util/Comparator"), accessFlags := 25, slot := 4, constantValue := 0 }, { name := "LATIN1", type := .byte, accessFlags := 24, slot := 5, constantValue := 0 }, { name := "UTF16", type := .byte, accessFlags := 24, slot := 6, constantValue := 0 }]
  methods := #[k8m0, k8m1, k8m2, k8m3, k8m4, k8m5, k8m6, k8m7, k8m8, k8m9]
  instanceTypes := #[(.array .byte), .byte, .int, .boolean]
  staticTypes := #[.long, .boolean, (.array (.object "java/io/ObjectStreamField")), .char, (.object "java/util/Comparator"), .byte, .byte]
  resolved := Array.replicate 1451 none
  statics := some 0 }

def pool9 : Array CpInfo := pool [(1, .class_ 2), (0, u "java/lang/String"), (1, .class_ 6), (1, u "java/lang/Object"), (0, u "<init>"), (0, u "()V"), (0, .methodref 1 10), (0, .nameAndType 11 12), (0, u "checkIndex"), (0, u "(II)V"), (1, .class_ 16), (1, u "java/lang/StringLatin1"), (36, u "([BI)C"), (36, u "canEncode"), (14, u "(C)Z"), (15, u "$assertionsDisabled"), (0, u "Z"), (98, .class_ 223), (1, u "java/lang/StringLatin1$LinesSpliterator"), (28, u "charAt"), (127, u "toBytes"), (1, u "(C)[B"), (7, .class_ 391), (0, u "java/lang/StringLatin1$CharsSpliterator")] 3

def k9m0 : Method := { name := "<init>", desc := "()V", sig := { parameters := [], returnType := none }, accessFlags := 0, code := none }
def k9c1 : Code := { maxStack := 2, maxLocals := 2, code := jdk_43_method_2_code, exceptionTable := #[], attributes := #[] }
def k9m1 : Method := { name := "charAt", desc := "([BI)C", sig := { parameters := [(.array .byte), .int], returnType := some .char }, accessFlags := 9, code := some k9c1 }
def k9c2 : Code := { maxStack := 2, maxLocals := 1, code := jdk_43_method_3_code, exceptionTable := #[], attributes := #[] }
def k9m2 : Method := { name := "canEncode", desc := "(C)Z", sig := { parameters := [.char], returnType := some .boolean }, accessFlags := 9, code := some k9c2 }
def k9c3 : Code := { maxStack := 4, maxLocals := 1, code := jdk_43_method_46_code, exceptionTable := #[], attributes := #[] }
def k9m3 : Method := { name := "toBytes", desc := "(C)[B", sig := { parameters := [.char], returnType := some (.array .byte) }, accessFlags := 9, code := some k9c3 }
/-- java/lang/StringLatin1 -/
def k9 : Class := { plain "java/lang/StringLatin1" (some 0) with
  accessFlags := 48
  interfaces := #[]
  cf := some (fileOf pool9 14 #[.nestMembers #[390, 221]] #[{ accessFlags := 0, nameIndex := 7, descriptorIndex := 8, attributes := #[] }, { accessFlags := 9, nameIndex := 252, descriptorIndex := 53, attributes := #[] }, { accessFlags := 9, nameIndex := 90, descriptorIndex := 105, attributes := #[] }, { accessFlags := 9, nameIndex := 380, descriptorIndex := 382, attributes := #[] }] 48 4 #[] #[{ accessFlags := 4120, nameIndex := 121, descriptorIndex := 122, attributes := #[] }])
  fields := #[{ name := "$assertionsDisabled", type := .boolean, accessFlags := 4120, slot := 0, constantValue := 0 }]
  methods := #[k9m0, k9m1, k9m2, k9m3]
  instanceTypes := #[]
  staticTypes := #[.boolean]
  resolved := Array.replicate 395 none
  statics := none }

def pool10 : Array CpInfo := pool [(1, .methodref 2 3), (0, .class_ 4), (0, .nameAndType 5 6), (0, u "com/example/gatehouse/gatehouse/pattern/NameShape"), (0, u "bits"), (0, u "(Ljava/lang/String;I)J"), (0, .methodref 2 8), (0, .nameAndType 9 10), (0, u "<init>"), (0, u "(Ljava/lang/String;JJII)V"), (9, .methodref 21 22), (0, .class_ 23), (0, .nameAndType 9 24), (0, u "java/lang/Object"), (0, u "()V"), (0, .fieldref 2 26), (0, .nameAndType 27 28), (0, u "begin"), (0, u "Ljava/lang/String;"), (0, .fieldref 2 30), (0, .nameAndType 31 32), (0, u "low"), (0, u "J"), (0, .fieldref 2 34), (0, .nameAndType 35 32), (0, u "high"), (0, .fieldref 2 37), (0, .nameAndType 38 39), (0, u "least"), (0, u "I"), (0, .fieldref 2 41), (0, .nameAndType 42 39), (0, u "most"), (0, .methodref 44 45), (0, .class_ 46), (0, .nameAndType 47 48), (0, u "java/lang/String"), (0, u "length"), (0, u "()I"), (0, .methodref 44 50), (0, .nameAndType 51 52), (0, u "charAt"), (0, u "(I)C"), (32, u "(Ljava/lang/String;Ljava/lang/String;II)V"), (7, u "characters"), (0, u "(I)J")] 19

def k10c0 : Code := { maxStack := 8, maxLocals := 5, code := prog_36_method_1_code, exceptionTable := #[], attributes := #[] }
def k10m0 : Method := { name := "<init>", desc := "(Ljava/lang/String;Ljava/lang/String;II)V", sig := { parameters := [(.object "java/lang/String"), (.object "java/lang/String"), .int, .int], returnType := none }, accessFlags := 1, code := some k10c0 }
def k10c1 : Code := { maxStack := 3, maxLocals := 8, code := prog_36_method_2_code, exceptionTable := #[], attributes := #[] }
def k10m1 : Method := { name := "<init>", desc := "(Ljava/lang/String;JJII)V", sig := { parameters := [(.object "java/lang/String"), .long, .long, .int, .int], returnType := none }, accessFlags := 2, code := some k10c1 }
def k10c2 : Code := { maxStack := 5, maxLocals := 6, code := prog_36_method_3_code, exceptionTable := #[], attributes := #[] }
def k10m2 : Method := { name := "bits", desc := "(Ljava/lang/String;I)J", sig := { parameters := [(.object "java/lang/String"), .int], returnType := some .long }, accessFlags := 10, code := some k10c2 }
def k10c3 : Code := { maxStack := 2, maxLocals := 2, code := prog_36_method_8_code, exceptionTable := #[], attributes := #[] }
def k10m3 : Method := { name := "characters", desc := "(I)J", sig := { parameters := [.int], returnType := some .long }, accessFlags := 0, code := some k10c3 }
/-- com/example/gatehouse/gatehouse/pattern/NameShape -/
def k10 : Class := { plain "com/example/gatehouse/gatehouse/pattern/NameShape" (some 0) with
  accessFlags := 49
  interfaces := #[]
  cf := some (fileOf pool10 2 #[] #[{ accessFlags := 1, nameIndex := 9, descriptorIndex := 85, attributes := #[] }, { accessFlags := 2, nameIndex := 9, descriptorIndex := 10, attributes := #[] }, { accessFlags := 10, nameIndex := 5, descriptorIndex := 6, attributes := #[] }, { accessFlags := 0, nameIndex := 93, descriptorIndex := 94, attributes := #[] }] 49 21 #[] #[{ accessFlags := 18, nameIndex := 27, descriptorIndex := 28, attributes := #[] }, { accessFlags := 18, nameIndex := 31, descriptorIndex := 32, attributes := #[] }, { accessFlags := 18, nameIndex := 35, descriptorIndex := 32, attributes := #[] }, { accessFlags := 18, nameIndex := 38, descriptorIndex := 39, attributes := #[] }, { accessFlags := 18, nameIndex := 42, descriptorIndex := 39, attributes := #[] }])
  fields := #[{ name := "begin", type := (.object "java/lang/String"), accessFlags := 18, slot := 0, constantValue := 0 }, { name := "low", type := .long, accessFlags := 18, slot := 1, constantValue := 0 }, { name := "high", type := .long, accessFlags := 18, slot := 2, constantValue := 0 }, { name := "least", type := .int, accessFlags := 18, slot := 3, constantValue := 0 }, { name := "most", type := .int, accessFlags := 18, slot := 4, constantValue := 0 }]
  methods := #[k10m0, k10m1, k10m2, k10m3]
  instanceTypes := #[(.object "java/lang/String"), .long, .long, .int, .int]
  staticTypes := #[]
  resolved := Array.replicate 114 none
  statics := none }

def pool11 : Array CpInfo := pool [(6, .class_ 8), (1, u "java/lang/Object"), (0, u "<init>"), (0, u "()V"), (1, .class_ 14), (1, u "java/lang/StringUTF16"), (31, u "$assertionsDisabled"), (0, u "Z"), (13, u "HI_BYTE_SHIFT"), (0, u "I"), (2, u "LO_BYTE_SHIFT"), (49, .methodref 12 116), (0, .nameAndType 117 118), (0, u "compress"), (0, u "([CI[BII)I"), (3, u "([CII)[B"), (138, u "coderFromArrayLen"), (0, u "([BI)B"), (106, .class_ 371), (1, u "java/lang/StringUTF16$LinesSpliterator"), (58, u "MAX_LENGTH"), (196, .class_ 628), (0, u "java/lang/StringUTF16$CodePointsSpliterator"), (0, .class_ 630), (0, u "java/lang/StringUTF16$CharsSpliterator")] 4

def k11m0 : Method := { name := "<init>", desc := "()V", sig := { parameters := [], returnType := none }, accessFlags := 0, code := none }
def k11c1 : Code := { maxStack := 2, maxLocals := 2, code := jdk_52_method_15_code, exceptionTable := #[], attributes := #[] }
def k11m1 : Method := { name := "coderFromArrayLen", desc := "([BI)B", sig := { parameters := [(.array .byte), .int], returnType := some .byte }, accessFlags := 8, code := some k11c1 }
def k11c2 : Code := { maxStack := 5, maxLocals := 6, code := jdk_52_method_16_code, exceptionTable := #[], attributes := #[] }
def k11m2 : Method := { name := "compress", desc := "([CII)[B", sig := { parameters := [(.array .char), .int, .int], returnType := some (.array .byte) }, accessFlags := 9, code := some k11c2 }
def k11c3 : Code := { maxStack := 3, maxLocals := 7, code := jdk_52_method_21_code, exceptionTable := #[], attributes := #[] }
def k11m3 : Method := { name := "compress", desc := "([CI[BII)I", sig := { parameters := [(.array .char), .int, (.array .byte), .int, .int], returnType := some .int }, accessFlags := 9, code := some k11c3 }
/-- java/lang/StringUTF16 -/
def k11 : Class := { plain "java/lang/StringUTF16" (some 0) with
  accessFlags := 48
  interfaces := #[]
  cf := some (fileOf pool11 12 #[.nestMembers #[627, 629, 369]] #[{ accessFlags := 0, nameIndex := 9, descriptorIndex := 10, attributes := #[] }, { accessFlags := 8, nameIndex := 261, descriptorIndex := 262, attributes := #[] }, { accessFlags := 9, nameIndex := 117, descriptorIndex := 122, attributes := #[] }, { accessFlags := 9, nameIndex := 117, descriptorIndex := 118, attributes := #[] }] 48 6 #[] #[{ accessFlags := 26, nameIndex := 61, descriptorIndex := 62, attributes := #[] }, { accessFlags := 26, nameIndex := 65, descriptorIndex := 62, attributes := #[] }, { accessFlags := 24, nameIndex := 430, descriptorIndex := 62, attributes := #[] }, { accessFlags := 4120, nameIndex := 46, descriptorIndex := 47, attributes := #[] }])
  fields := #[{ name := "HI_BYTE_SHIFT", type := .int, accessFlags := 26, slot := 0, constantValue := 0 }, { name := "LO_BYTE_SHIFT", type := .int, accessFlags := 26, slot := 1, constantValue := 0 }, { name := "MAX_LENGTH", type := .int, accessFlags := 24, slot := 2, constantValue := 0 }, { name := "$assertionsDisabled", type := .boolean, accessFlags := 4120, slot := 3, constantValue := 0 }]
  methods := #[k11m0, k11m1, k11m2, k11m3]
  instanceTypes := #[]
  staticTypes := #[.int, .int, .int, .boolean]
  resolved := Array.replicate 635 none
  statics := none }

def pool12 : Array CpInfo := pool [(2, .class_ 4), (1, u "java/lang/Object"), (0, u "<init>"), (0, u "()V"), (17, .class_ 26), (1, u "jdk/internal/util/Preconditions"), (6, u "checkIndex"), (21, .class_ 56), (0, u "jdk/internal/util/Preconditions$4"), (57, .class_ 115), (0, u "jdk/internal/util/Preconditions$1"), (7, u "SIOOBE_FORMATTER"), (0, u "Ljava/util/function/BiFunction;"), (0, .class_ 126), (0, u "jdk/internal/util/Preconditions$2"), (3, u "AIOOBE_FORMATTER"), (0, .class_ 132), (0, u "jdk/internal/util/Preconditions$3"), (3, u "IOOBE_FORMATTER"), (41, u "(IILjava/util/function/BiFunction;)I")] 15

def k12m0 : Method := { name := "<init>", desc := "()V", sig := { parameters := [], returnType := none }, accessFlags := 1, code := none }
def k12c1 : Code := { maxStack := 3, maxLocals := 3, code := jdk_41_method_11_code, exceptionTable := #[], attributes := #[] }
def k12m1 : Method := { name := "checkIndex", desc := "(IILjava/util/function/BiFunction;)I", sig := { parameters := [.int, .int, (.object "java/util/function/BiFunction")], returnType := some .int }, accessFlags := 9, code := some k12c1 }
/-- jdk/internal/util/Preconditions -/
def k12 : Class := { plain "jdk/internal/util/Preconditions" (some 0) with
  accessFlags := 33
  interfaces := #[]
  cf := some (fileOf pool12 24 #[.nestMembers #[55, 131, 125, 114]] #[{ accessFlags := 1, nameIndex := 5, descriptorIndex := 6, attributes := #[] }, { accessFlags := 9, nameIndex := 33, descriptorIndex := 178, attributes := #[] }] 33 2 #[] #[{ accessFlags := 25, nameIndex := 123, descriptorIndex := 124, attributes := #[] }, { accessFlags := 25, nameIndex := 130, descriptorIndex := 124, attributes := #[] }, { accessFlags := 25, nameIndex := 136, descriptorIndex := 124, attributes := #[] }])
  fields := #[{ name := "SIOOBE_FORMATTER", type := (.object "java/util/function/BiFunction"), accessFlags := 25, slot := 0, constantValue := 0 }, { name := "AIOOBE_FORMATTER", type := (.object "java/util/function/BiFunction"), accessFlags := 25, slot := 1, constantValue := 0 }, { name := "IOOBE_FORMATTER", type := (.object "java/util/function/BiFunction"), accessFlags := 25, slot := 2, constantValue := 0 }]
  methods := #[k12m0, k12m1]
  instanceTypes := #[]
  staticTypes := #[(.object "java/util/function/BiFunction"), (.object "java/util/function/BiFunction"), (.object "java/util/function/BiFunction")]
  resolved := Array.replicate 194 none
  statics := some 1 }

def pool13 : Array CpInfo := pool [(9, u "<init>"), (6, .class_ 18), (1, u "java/lang/Object"), (0, u "()V"), (1, .class_ 23), (1, u "jdk/internal/util/ArraysSupport"), (0, u "LOG2_ARRAY_LONG_INDEX_SCALE"), (0, u "I"), (2, u "U"), (0, u "Ljdk/internal/misc/Unsafe;"), (8, u "BIG_ENDIAN"), (0, u "Z"), (8, u "LOG2_BYTE_BIT_SIZE"), (4, u "LOG2_ARRAY_INT_INDEX_SCALE"), (54, u "JLA"), (0, u "Ljdk/internal/access/JavaLangAccess;"), (11, u "LOG2_ARRAY_BOOLEAN_INDEX_SCALE"), (9, u "LOG2_ARRAY_BYTE_INDEX_SCALE"), (5, u "LOG2_ARRAY_CHAR_INDEX_SCALE"), (5, u "LOG2_ARRAY_SHORT_INDEX_SCALE"), (18, u "LOG2_ARRAY_FLOAT_INDEX_SCALE"), (24, u "LOG2_ARRAY_DOUBLE_INDEX_SCALE"), (89, u "T_BOOLEAN"), (2, u "T_CHAR"), (1, u "T_FLOAT"), (1, u "T_DOUBLE"), (1, u "T_BYTE"), (1, u "T_SHORT"), (1, u "T_INT"), (1, u "T_LONG"), (1, u "SOFT_MAX_ARRAY_LENGTH")] 83

def k13m0 : Method := { name := "<init>", desc := "()V", sig := { parameters := [], returnType := none }, accessFlags := 2, code := none }
/-- jdk/internal/util/ArraysSupport -/
def k13 : Class := { plain "jdk/internal/util/ArraysSupport" (some 0) with
  accessFlags := 33
  interfaces := #[]
  cf := some (fileOf pool13 21 #[] #[{ accessFlags := 2, nameIndex := 9, descriptorIndex := 19, attributes := #[] }] 33 16 #[] #[{ accessFlags := 24, nameIndex := 28, descriptorIndex := 29, attributes := #[] }, { accessFlags := 26, nameIndex := 38, descriptorIndex := 39, attributes := #[] }, { accessFlags := 25, nameIndex := 121, descriptorIndex := 25, attributes := #[] }, { accessFlags := 25, nameIndex := 131, descriptorIndex := 25, attributes := #[] }, { accessFlags := 25, nameIndex := 137, descriptorIndex := 25, attributes := #[] }, { accessFlags := 25, nameIndex := 143, descriptorIndex := 25, attributes := #[] }, { accessFlags := 25, nameIndex := 53, descriptorIndex := 25, attributes := #[] }, { accessFlags := 25, nameIndex := 24, descriptorIndex := 25, attributes := #[] }, { accessFlags := 25, nameIndex := 162, descriptorIndex := 25, attributes := #[] }, { accessFlags := 25, nameIndex := 187, descriptorIndex := 25, attributes := #[] }, { accessFlags := 26, nameIndex := 48, descriptorIndex := 25, attributes := #[] }, { accessFlags := 25, nameIndex := 277, descriptorIndex := 25, attributes := #[] }, { accessFlags := 25, nameIndex := 280, descriptorIndex := 25, attributes := #[] }, { accessFlags := 25, nameIndex := 282, descriptorIndex := 25, attributes := #[] }, { accessFlags := 25, nameIndex := 284, descriptorIndex := 25, attributes := #[] }, { accessFlags := 25, nameIndex := 286, descriptorIndex := 25, attributes := #[] }, { accessFlags := 25, nameIndex := 288, descriptorIndex := 25, attributes := #[] }, { accessFlags := 25, nameIndex := 290, descriptorIndex := 25, attributes := #[] }, { accessFlags := 25, nameIndex := 292, descriptorIndex := 25, attributes := #[] }, { accessFlags := 26, nameIndex := 108, descriptorIndex := 109, attributes := #[] }, { accessFlags := 25, nameIndex := 294, descriptorIndex := 25, attributes := #[] }])
  fields := #[{ name := "U", type := (.object "jdk/internal/misc/Unsafe"), accessFlags := 24, slot := 0, constantValue := 0 }, { name := "BIG_ENDIAN", type := .boolean, accessFlags := 26, slot := 1, constantValue := 0 }, { name := "LOG2_ARRAY_BOOLEAN_INDEX_SCALE", type := .int, accessFlags := 25, slot := 2, constantValue := 0 }, { name := "LOG2_ARRAY_BYTE_INDEX_SCALE", type := .int, accessFlags := 25, slot := 3, constantValue := 0 }, { name := "LOG2_ARRAY_CHAR_INDEX_SCALE", type := .int, accessFlags := 25, slot := 4, constantValue := 0 }, { name := "LOG2_ARRAY_SHORT_INDEX_SCALE", type := .int, accessFlags := 25, slot := 5, constantValue := 0 }, { name := "LOG2_ARRAY_INT_INDEX_SCALE", type := .int, accessFlags := 25, slot := 6, constantValue := 0 }, { name := "LOG2_ARRAY_LONG_INDEX_SCALE", type := .int, accessFlags := 25, slot := 7, constantValue := 0 }, { name := "LOG2_ARRAY_FLOAT_INDEX_SCALE", type := .int, accessFlags := 25, slot := 8, constantValue := 0 }, { name := "LOG2_ARRAY_DOUBLE_INDEX_SCALE", type := .int, accessFlags := 25, slot := 9, constantValue := 0 }, { name := "LOG2_BYTE_BIT_SIZE", type := .int, accessFlags := 26, slot := 10, constantValue := 0 }, { name := "T_BOOLEAN", type := .int, accessFlags := 25, slot := 11, constantValue := 0 }, { name := "T_CHAR", type := .int, accessFlags := 25, slot := 12, constantValue := 0 }, { name := "T_FLOAT", type := .int, accessFlags := 25, slot := 13, constantValue := 0 }, { name := "T_DOUBLE", type := .int, accessFlags := 25, slot := 14, constantValue := 0 }, { name := "T_BYTE", type := .int, accessFlags := 25, slot := 15, constantValue := 0 }, { name := "T_SHORT", type := .int, accessFlags := 25, slot := 16, constantValue := 0 }, { name := "T_INT", type := .int, accessFlags := 25, slot := 17, constantValue := 0 }, { name := "T_LONG", type := .int, accessFlags := 25, slot := 18, constantValue := 0 }, { name := "JLA", type := (.object "jdk/internal/access/JavaLangAccess"), accessFlags := 26, slot := 19, constantValue := 0 }, { name := "SOFT_MAX_ARRAY_LENGTH", type := .int, accessFlags := 25, slot := 20, constantValue := 0 }]
  methods := #[k13m0]
  instanceTypes := #[]
  staticTypes := #[(.object "jdk/internal/misc/Unsafe"), .boolean, .int, .int, .int, .int, .int, .int, .int, .int, .int, .int, .int, .int, .int, .int, .int, .int, .int, (.object "jdk/internal/access/JavaLangAccess"), .int]
  resolved := Array.replicate 378 none
  statics := none }

def pool14 : Array CpInfo := pool [(1, u "java/lang/Cloneable"), (0, .class_ 1), (0, u "java/lang/Object"), (0, .class_ 3)] 3

/-- java/lang/Cloneable -/
def k14 : Class := { plain "java/lang/Cloneable" (some 0) with
  accessFlags := 1537
  interfaces := #[]
  cf := some (fileOf pool14 2 #[] #[] 1537 4 #[] #[])
  fields := #[]
  methods := #[]
  instanceTypes := #[]
  staticTypes := #[]
  resolved := Array.replicate 8 none
  statics := none }

/-- the primitive byte -/
def k15 : Class := { plain "byte" none with kind := .primitive 'B', accessFlags := 0x411 }
/-- [B -/
def k16 : Class := { plain "[B" (some 0) with kind := .array 15 .byte, interfaces := #[14, 3], accessFlags := 1041 }

/-- the primitive char -/
def k17 : Class := { plain "char" none with kind := .primitive 'C', accessFlags := 0x411 }
/-- [C -/
def k18 : Class := { plain "[C" (some 0) with kind := .array 17 .char, interfaces := #[14, 3], accessFlags := 1041 }

/-- the primitive int -/
def k19 : Class := { plain "int" none with kind := .primitive 'I', accessFlags := 0x411 }
/-- [I -/
def k20 : Class := { plain "[I" (some 0) with kind := .array 19 .int, interfaces := #[14, 3], accessFlags := 1041 }

def heap : Heap := #[{ cls := 8, slots := #[.long 0, .int 1, .null, .int 0, .null, .int 0, .int 0], vm := .statics 8 },
  { cls := 12, slots := #[.null, .null, .null], vm := .statics 12 }]
def classes : Array Class := #[k0, k1, k2, k3, k4, k5, k6, k7, k8, k9, k10, k11, k12, k13, k14, k15, k16, k17, k18, k19, k20]
def interned : List (Array UInt16 × Addr) := []
def slotsUsed : Nat := 10
def theMethod : MethodId := ⟨1, 1⟩
def args0 : Array Value := #[.int 1, .int 5, .int 7, .int 9]
def aboutOver (below : List Frame) : State where
  vm := { classes := classes, interned := interned.toArray }
  heap := heap
  slotsUsed := slotsUsed
  threads := #[{ frames := .invoking theMethod args0 :: below }]
def below0 : List Frame := [.native { method := ⟨0, 0⟩, args := #[] }]
def about1 : State := aboutOver below0
def p0 : Program := .bare "" "" ""
def e0 : Env := launch0.env 0 0 0
theorem w_frames : about1.frames = Frame.invoking theMethod args0 :: below0 := rfl
set_option maxRecDepth 65536 in
theorem w_args : argsFit about1.vm theMethod args0 = true := by decide +kernel
set_option maxRecDepth 65536 in
theorem w_heap : heapFits about1 = true := by decide +kernel
set_option maxRecDepth 65536 in
theorem w_runnable : about1.curStatus? = some .runnable := by decide +kernel
set_option maxRecDepth 65536 in
theorem w_alone : about1.alone = true := by decide +kernel
set_option maxRecDepth 65536 in
theorem w_named : about1.methodNamed? x = some theMethod := by decide +kernel
set_option maxRecDepth 65536 in
theorem w_hears : about1.hears theMethod below0 = true := by decide +kernel
set_option maxRecDepth 65536 in
theorem w_ripe : about1.ripe theMethod args0 below0 = true := by decide +kernel
theorem w_running : about1.status = .running := rfl
set_option maxRecDepth 65536 in
theorem w_room : about1.hasRoom e0.platform room_1 = true :=
  launch0.hasRoom_least _ room_1 (by decide +kernel) (by decide +kernel) (by decide +kernel) (by decide +kernel) (by decide +kernel) (by decide +kernel)
theorem allAtoms_all (ts : List Jvm.Cond) (a : Array Jvm.Value) (st : Jvm.State) : (allAtoms ts).before a st = ts.all (fun c => c.before a st) := by
  induction ts with
  | nil => rfl
  | cons c t ih =>
    show (Jvm.Cond.and c (allAtoms t)).before a st = _
    rw [Jvm.Cond.before_and, ih, List.all_cons]
def words1 : List Jvm.Cond := Jvm.Cond.code x code maxLocals ret :: tables_1
/-- a 'code' word, met by the world's own term for the bytes: nothing is compared byte by byte -/
theorem code_word {y : MethodName} {bytes : ByteArray} {mx : Nat} {rt : Option FieldType} {a : Array Value} {s : State} {m : MethodId} {meth : Method} {c : Code} (h1 : s.methodNamed? y = some m) (h2 : s.vm.method? m = some meth) (h3 : meth.code = some c) (h4 : c.code = bytes)
    (h5 : (c.maxLocals == mx && c.exceptionTable.isEmpty && decide (c.maxStack ≤ mostOperands) && decide (meth.sig.returnType = rt) && !meth.locks && decide (parseMethodDescriptor y.desc = some meth.sig)) = true) : (Jvm.Cond.code y bytes mx rt).before a s = true := by
  simp only [Bool.and_eq_true, beq_iff_eq, Bool.not_eq_true', decide_eq_true_eq] at h5
  obtain ⟨⟨⟨⟨⟨g1, g2⟩, g3⟩, g4⟩, g5⟩, g6⟩ := h5
  simp [Cond.before, Cond.holds, Cond.value, h1, h2, h3, h4, g1, g2, g3, g4, g5, g6]
def isCode : Jvm.Cond → Bool
  | .code _ _ _ _ => true
  | _ => false
theorem all_split {L : List Jvm.Cond} {P : Jvm.Cond → Bool} (h1 : L.all (fun c => isCode c || P c) = true) (h2 : ∀ c ∈ L.filter isCode, P c = true) : L.all P = true := by
  refine List.all_eq_true.mpr fun c hc => ?_
  have h := List.all_eq_true.mp h1 c hc
  rcases Bool.eq_false_or_eq_true (isCode c) with hi | hi
  · exact h2 c (List.mem_filter.mpr ⟨hc, hi⟩)
  · simpa [hi] using h
set_option maxRecDepth 65536 in
theorem w_c0 : (Jvm.Cond.code x code maxLocals ret).before args0 about1 = true := code_word (m := ⟨1, 1⟩) (meth := k1m1) (c := k1c1) (by decide +kernel) rfl rfl rfl (by decide +kernel)
set_option maxRecDepth 65536 in
theorem w_c1 : (Jvm.Cond.code ({ cls := "java/lang/Math", name := "max", desc := "(II)I" } : Jvm.MethodName) jdk_29_method_65_code (2 : Nat) (Option.some Jvm.ClassFile.FieldType.int)).before args0 about1 = true := code_word (m := ⟨2, 1⟩) (meth := k2m1) (c := k2c1) (by decide +kernel) rfl rfl rfl (by decide +kernel)
set_option maxRecDepth 65536 in
theorem w_c2 : (Jvm.Cond.code ({ cls := "java/lang/String", name := "valueOf", desc := "(C)Ljava/lang/String;" } : Jvm.MethodName) jdk_42_method_139_code (1 : Nat) (Option.some (Jvm.ClassFile.FieldType.object "java/lang/String"))).before args0 about1 = true := code_word (m := ⟨8, 4⟩) (meth := k8m4) (c := k8c4) (by decide +kernel) rfl rfl rfl (by decide +kernel)
set_option maxRecDepth 65536 in
theorem w_c3 : (Jvm.Cond.code ({ cls := "java/lang/StringLatin1", name := "canEncode", desc := "(C)Z" } : Jvm.MethodName) jdk_43_method_3_code (1 : Nat) (Option.some Jvm.ClassFile.FieldType.boolean)).before args0 about1 = true := code_word (m := ⟨9, 2⟩) (meth := k9m2) (c := k9c2) (by decide +kernel) rfl rfl rfl (by decide +kernel)
set_option maxRecDepth 65536 in
theorem w_c4 : (Jvm.Cond.code ({ cls := "java/lang/StringLatin1", name := "toBytes", desc := "(C)[B" } : Jvm.MethodName) jdk_43_method_46_code (1 : Nat) (Option.some (Jvm.ClassFile.FieldType.array Jvm.ClassFile.FieldType.byte))).before args0 about1 = true := code_word (m := ⟨9, 3⟩) (meth := k9m3) (c := k9c3) (by decide +kernel) rfl rfl rfl (by decide +kernel)
set_option maxRecDepth 65536 in
theorem w_c5 : (Jvm.Cond.code ({ cls := "java/lang/String", name := "<init>", desc := "([BB)V" } : Jvm.MethodName) jdk_42_method_151_code (3 : Nat) (Option.none : Option Jvm.ClassFile.FieldType)).before args0 about1 = true := code_word (m := ⟨8, 6⟩) (meth := k8m6) (c := k8c6) (by decide +kernel) rfl rfl rfl (by decide +kernel)
set_option maxRecDepth 65536 in
theorem w_c6 : (Jvm.Cond.code ({ cls := "java/lang/Object", name := "<init>", desc := "()V" } : Jvm.MethodName) object_method_1_code (1 : Nat) (Option.none : Option Jvm.ClassFile.FieldType)).before args0 about1 = true := code_word (m := ⟨0, 0⟩) (meth := k0m0) (c := k0c0) (by decide +kernel) rfl rfl rfl (by decide +kernel)
set_option maxRecDepth 65536 in
theorem w_c7 : (Jvm.Cond.code ({ cls := "java/lang/String", name := "<init>", desc := "([C)V" } : Jvm.MethodName) jdk_42_method_3_code (2 : Nat) (Option.none : Option Jvm.ClassFile.FieldType)).before args0 about1 = true := code_word (m := ⟨8, 1⟩) (meth := k8m1) (c := k8c1) (by decide +kernel) rfl rfl rfl (by decide +kernel)
set_option maxRecDepth 65536 in
theorem w_c8 : (Jvm.Cond.code ({ cls := "java/lang/String", name := "<init>", desc := "([CIILjava/lang/Void;)V" } : Jvm.MethodName) jdk_42_method_149_code (6 : Nat) (Option.none : Option Jvm.ClassFile.FieldType)).before args0 about1 = true := code_word (m := ⟨8, 5⟩) (meth := k8m5) (c := k8c5) (by decide +kernel) rfl rfl rfl (by decide +kernel)
set_option maxRecDepth 65536 in
theorem w_c9 : (Jvm.Cond.code ({ cls := "com/example/gatehouse/gatehouse/pattern/NameShape", name := "<init>", desc := "(Ljava/lang/String;Ljava/lang/String;II)V" } : Jvm.MethodName) prog_36_method_1_code (5 : Nat) (Option.none : Option Jvm.ClassFile.FieldType)).before args0 about1 = true := code_word (m := ⟨10, 0⟩) (meth := k10m0) (c := k10c0) (by decide +kernel) rfl rfl rfl (by decide +kernel)
set_option maxRecDepth 65536 in
theorem w_c10 : (Jvm.Cond.code ({ cls := "com/example/gatehouse/gatehouse/pattern/NameShape", name := "bits", desc := "(Ljava/lang/String;I)J" } : Jvm.MethodName) prog_36_method_3_code (6 : Nat) (Option.some Jvm.ClassFile.FieldType.long)).before args0 about1 = true := code_word (m := ⟨10, 2⟩) (meth := k10m2) (c := k10c2) (by decide +kernel) rfl rfl rfl (by decide +kernel)
set_option maxRecDepth 65536 in
theorem w_c11 : (Jvm.Cond.code ({ cls := "java/lang/String", name := "length", desc := "()I" } : Jvm.MethodName) jdk_42_method_54_code (1 : Nat) (Option.some Jvm.ClassFile.FieldType.int)).before args0 about1 = true := code_word (m := ⟨8, 2⟩) (meth := k8m2) (c := k8c2) (by decide +kernel) rfl rfl rfl (by decide +kernel)
set_option maxRecDepth 65536 in
theorem w_c12 : (Jvm.Cond.code ({ cls := "java/lang/String", name := "coder", desc := "()B" } : Jvm.MethodName) jdk_42_method_152_code (1 : Nat) (Option.some Jvm.ClassFile.FieldType.byte)).before args0 about1 = true := code_word (m := ⟨8, 7⟩) (meth := k8m7) (c := k8c7) (by decide +kernel) rfl rfl rfl (by decide +kernel)
set_option maxRecDepth 65536 in
theorem w_c13 : (Jvm.Cond.code ({ cls := "com/example/gatehouse/gatehouse/pattern/NameShape", name := "<init>", desc := "(Ljava/lang/String;JJII)V" } : Jvm.MethodName) prog_36_method_2_code (8 : Nat) (Option.none : Option Jvm.ClassFile.FieldType)).before args0 about1 = true := code_word (m := ⟨10, 1⟩) (meth := k10m1) (c := k10c1) (by decide +kernel) rfl rfl rfl (by decide +kernel)
set_option maxRecDepth 65536 in
theorem w_c14 : (Jvm.Cond.code ({ cls := "com/example/gatehouse/gatehouse/pattern/NameShapeCharactersPinLaw", name := "bit", desc := "(IIII)J" } : Jvm.MethodName) method_3_code (4 : Nat) (Option.some Jvm.ClassFile.FieldType.long)).before args0 about1 = true := code_word (m := ⟨1, 2⟩) (meth := k1m2) (c := k1c2) (by decide +kernel) rfl rfl rfl (by decide +kernel)
set_option maxRecDepth 65536 in
theorem w_c15 : (Jvm.Cond.code ({ cls := "com/example/gatehouse/gatehouse/pattern/NameShape", name := "characters", desc := "(I)J" } : Jvm.MethodName) prog_36_method_8_code (2 : Nat) (Option.some Jvm.ClassFile.FieldType.long)).before args0 about1 = true := code_word (m := ⟨10, 3⟩) (meth := k10m3) (c := k10c3) (by decide +kernel) rfl rfl rfl (by decide +kernel)
set_option maxRecDepth 65536 in
theorem w_c16 : (Jvm.Cond.code ({ cls := "java/lang/StringUTF16", name := "compress", desc := "([CII)[B" } : Jvm.MethodName) jdk_52_method_16_code (6 : Nat) (Option.some (Jvm.ClassFile.FieldType.array Jvm.ClassFile.FieldType.byte))).before args0 about1 = true := code_word (m := ⟨11, 2⟩) (meth := k11m2) (c := k11c2) (by decide +kernel) rfl rfl rfl (by decide +kernel)
set_option maxRecDepth 65536 in
theorem w_c17 : (Jvm.Cond.code ({ cls := "java/lang/StringUTF16", name := "compress", desc := "([CI[BII)I" } : Jvm.MethodName) jdk_52_method_21_code (7 : Nat) (Option.some Jvm.ClassFile.FieldType.int)).before args0 about1 = true := code_word (m := ⟨11, 3⟩) (meth := k11m3) (c := k11c3) (by decide +kernel) rfl rfl rfl (by decide +kernel)
set_option maxRecDepth 65536 in
theorem w_c18 : (Jvm.Cond.code ({ cls := "java/lang/StringUTF16", name := "coderFromArrayLen", desc := "([BI)B" } : Jvm.MethodName) jdk_52_method_15_code (2 : Nat) (Option.some Jvm.ClassFile.FieldType.byte)).before args0 about1 = true := code_word (m := ⟨11, 1⟩) (meth := k11m1) (c := k11c1) (by decide +kernel) rfl rfl rfl (by decide +kernel)
set_option maxRecDepth 65536 in
theorem w_c19 : (Jvm.Cond.code ({ cls := "java/lang/String", name := "charAt", desc := "(I)C" } : Jvm.MethodName) jdk_42_method_56_code (2 : Nat) (Option.some Jvm.ClassFile.FieldType.char)).before args0 about1 = true := code_word (m := ⟨8, 3⟩) (meth := k8m3) (c := k8c3) (by decide +kernel) rfl rfl rfl (by decide +kernel)
set_option maxRecDepth 65536 in
theorem w_c20 : (Jvm.Cond.code ({ cls := "java/lang/String", name := "isLatin1", desc := "()Z" } : Jvm.MethodName) jdk_42_method_154_code (1 : Nat) (Option.some Jvm.ClassFile.FieldType.boolean)).before args0 about1 = true := code_word (m := ⟨8, 8⟩) (meth := k8m8) (c := k8c8) (by decide +kernel) rfl rfl rfl (by decide +kernel)
set_option maxRecDepth 65536 in
theorem w_c21 : (Jvm.Cond.code ({ cls := "java/lang/StringLatin1", name := "charAt", desc := "([BI)C" } : Jvm.MethodName) jdk_43_method_2_code (2 : Nat) (Option.some Jvm.ClassFile.FieldType.char)).before args0 about1 = true := code_word (m := ⟨9, 1⟩) (meth := k9m1) (c := k9c1) (by decide +kernel) rfl rfl rfl (by decide +kernel)
set_option maxRecDepth 65536 in
theorem w_c22 : (Jvm.Cond.code ({ cls := "java/lang/String", name := "checkIndex", desc := "(II)V" } : Jvm.MethodName) jdk_42_method_155_code (2 : Nat) (Option.none : Option Jvm.ClassFile.FieldType)).before args0 about1 = true := code_word (m := ⟨8, 9⟩) (meth := k8m9) (c := k8c9) (by decide +kernel) rfl rfl rfl (by decide +kernel)
set_option maxRecDepth 65536 in
theorem w_c23 : (Jvm.Cond.code ({ cls := "jdk/internal/util/Preconditions", name := "checkIndex", desc := "(IILjava/util/function/BiFunction;)I" } : Jvm.MethodName) jdk_41_method_11_code (3 : Nat) (Option.some Jvm.ClassFile.FieldType.int)).before args0 about1 = true := code_word (m := ⟨12, 1⟩) (meth := k12m1) (c := k12c1) (by decide +kernel) rfl rfl rfl (by decide +kernel)
def codes1 : List Jvm.Cond := [Jvm.Cond.code x code maxLocals ret, Jvm.Cond.code ({ cls := "java/lang/Math", name := "max", desc := "(II)I" } : Jvm.MethodName) jdk_29_method_65_code (2 : Nat) (Option.some Jvm.ClassFile.FieldType.int), Jvm.Cond.code ({ cls := "java/lang/String", name := "valueOf", desc := "(C)Ljava/lang/String;" } : Jvm.MethodName) jdk_42_method_139_code (1 : Nat) (Option.some (Jvm.ClassFile.FieldType.object "java/lang/String")), Jvm.Cond.code ({ cls := "java/lang/StringLatin1", name := "canEncode", desc := "(C)Z" } : Jvm.MethodName) jdk_43_method_3_code (1 : Nat) (Option.some Jvm.ClassFile.FieldType.boolean), Jvm.Cond.code ({ cls := "java/lang/StringLatin1", name := "toBytes", desc := "(C)[B" } : Jvm.MethodName) jdk_43_method_46_code (1 : Nat) (Option.some (Jvm.ClassFile.FieldType.array Jvm.ClassFile.FieldType.byte)), Jvm.Cond.code ({ cls := "java/lang/String", name := "<init>", desc := "([BB)V" } : Jvm.MethodName) jdk_42_method_151_code (3 : Nat) (Option.none : Option Jvm.ClassFile.FieldType), Jvm.Cond.code ({ cls := "java/lang/Object", name := "<init>", desc := "()V" } : Jvm.MethodName) object_method_1_code (1 : Nat) (Option.none : Option Jvm.ClassFile.FieldType), Jvm.Cond.code ({ cls := "java/lang/String", name := "<init>", desc := "([C)V" } : Jvm.MethodName) jdk_42_method_3_code (2 : Nat) (Option.none : Option Jvm.ClassFile.FieldType), Jvm.Cond.code ({ cls := "java/lang/String", name := "<init>", desc := "([CIILjava/lang/Void;)V" } : Jvm.MethodName) jdk_42_method_149_code (6 : Nat) (Option.none : Option Jvm.ClassFile.FieldType), Jvm.Cond.code ({ cls := "com/example/gatehouse/gatehouse/pattern/NameShape", name := "<init>", desc := "(Ljava/lang/String;Ljava/lang/String;II)V" } : Jvm.MethodName) prog_36_method_1_code (5 : Nat) (Option.none : Option Jvm.ClassFile.FieldType), Jvm.Cond.code ({ cls := "com/example/gatehouse/gatehouse/pattern/NameShape", name := "bits", desc := "(Ljava/lang/String;I)J" } : Jvm.MethodName) prog_36_method_3_code (6 : Nat) (Option.some Jvm.ClassFile.FieldType.long), Jvm.Cond.code ({ cls := "java/lang/String", name := "length", desc := "()I" } : Jvm.MethodName) jdk_42_method_54_code (1 : Nat) (Option.some Jvm.ClassFile.FieldType.int), Jvm.Cond.code ({ cls := "java/lang/String", name := "coder", desc := "()B" } : Jvm.MethodName) jdk_42_method_152_code (1 : Nat) (Option.some Jvm.ClassFile.FieldType.byte), Jvm.Cond.code ({ cls := "com/example/gatehouse/gatehouse/pattern/NameShape", name := "<init>", desc := "(Ljava/lang/String;JJII)V" } : Jvm.MethodName) prog_36_method_2_code (8 : Nat) (Option.none : Option Jvm.ClassFile.FieldType), Jvm.Cond.code ({ cls := "com/example/gatehouse/gatehouse/pattern/NameShapeCharactersPinLaw", name := "bit", desc := "(IIII)J" } : Jvm.MethodName) method_3_code (4 : Nat) (Option.some Jvm.ClassFile.FieldType.long), Jvm.Cond.code ({ cls := "com/example/gatehouse/gatehouse/pattern/NameShape", name := "characters", desc := "(I)J" } : Jvm.MethodName) prog_36_method_8_code (2 : Nat) (Option.some Jvm.ClassFile.FieldType.long), Jvm.Cond.code ({ cls := "java/lang/StringUTF16", name := "compress", desc := "([CII)[B" } : Jvm.MethodName) jdk_52_method_16_code (6 : Nat) (Option.some (Jvm.ClassFile.FieldType.array Jvm.ClassFile.FieldType.byte)), Jvm.Cond.code ({ cls := "java/lang/StringUTF16", name := "compress", desc := "([CI[BII)I" } : Jvm.MethodName) jdk_52_method_21_code (7 : Nat) (Option.some Jvm.ClassFile.FieldType.int), Jvm.Cond.code ({ cls := "java/lang/StringUTF16", name := "coderFromArrayLen", desc := "([BI)B" } : Jvm.MethodName) jdk_52_method_15_code (2 : Nat) (Option.some Jvm.ClassFile.FieldType.byte), Jvm.Cond.code ({ cls := "java/lang/String", name := "charAt", desc := "(I)C" } : Jvm.MethodName) jdk_42_method_56_code (2 : Nat) (Option.some Jvm.ClassFile.FieldType.char), Jvm.Cond.code ({ cls := "java/lang/String", name := "isLatin1", desc := "()Z" } : Jvm.MethodName) jdk_42_method_154_code (1 : Nat) (Option.some Jvm.ClassFile.FieldType.boolean), Jvm.Cond.code ({ cls := "java/lang/StringLatin1", name := "charAt", desc := "([BI)C" } : Jvm.MethodName) jdk_43_method_2_code (2 : Nat) (Option.some Jvm.ClassFile.FieldType.char), Jvm.Cond.code ({ cls := "java/lang/String", name := "checkIndex", desc := "(II)V" } : Jvm.MethodName) jdk_42_method_155_code (2 : Nat) (Option.none : Option Jvm.ClassFile.FieldType), Jvm.Cond.code ({ cls := "jdk/internal/util/Preconditions", name := "checkIndex", desc := "(IILjava/util/function/BiFunction;)I" } : Jvm.MethodName) jdk_41_method_11_code (3 : Nat) (Option.some Jvm.ClassFile.FieldType.int)]
set_option maxRecDepth 65536 in
theorem codes_eq : words1.filter isCode = codes1 := rfl
theorem w_codes : ∀ c ∈ words1.filter isCode, c.before args0 about1 = true := by
  rw [codes_eq]
  intro c hc
  simp only [codes1, List.mem_cons, List.not_mem_nil, or_false] at hc
  rcases hc with rfl | rfl | rfl | rfl | rfl | rfl | rfl | rfl | rfl | rfl | rfl | rfl | rfl | rfl | rfl | rfl | rfl | rfl | rfl | rfl | rfl | rfl | rfl | rfl
  · exact w_c0
  · exact w_c1
  · exact w_c2
  · exact w_c3
  · exact w_c4
  · exact w_c5
  · exact w_c6
  · exact w_c7
  · exact w_c8
  · exact w_c9
  · exact w_c10
  · exact w_c11
  · exact w_c12
  · exact w_c13
  · exact w_c14
  · exact w_c15
  · exact w_c16
  · exact w_c17
  · exact w_c18
  · exact w_c19
  · exact w_c20
  · exact w_c21
  · exact w_c22
  · exact w_c23
set_option maxRecDepth 65536 in
theorem w_t1 : (words1.take 24).all (fun c => isCode c || c.before args0 about1) = true := by decide +kernel
set_option maxRecDepth 65536 in
theorem w_t2 : ((words1.drop 24).take 24).all (fun c => isCode c || c.before args0 about1) = true := by decide +kernel
set_option maxRecDepth 65536 in
theorem w_t3 : (((words1.drop 24).drop 24).take 24).all (fun c => isCode c || c.before args0 about1) = true := by decide +kernel
set_option maxRecDepth 65536 in
theorem w_t4 : ((((words1.drop 24).drop 24).drop 24).take 24).all (fun c => isCode c || c.before args0 about1) = true := by decide +kernel
set_option maxRecDepth 65536 in
theorem w_t5 : ((((words1.drop 24).drop 24).drop 24).drop 24).all (fun c => isCode c || c.before args0 about1) = true := by decide +kernel
theorem w_tables : (allAtoms (Jvm.Cond.code x code maxLocals ret :: tables_1)).before args0 about1 = true := by
  rw [allAtoms_all]
  show words1.all (fun c => c.before args0 about1) = true
  refine all_split ?_ w_codes
  rw [← List.take_append_drop 24 words1, List.all_append, w_t1, ← List.take_append_drop 24 (words1.drop 24), List.all_append, w_t2, ← List.take_append_drop 24 ((words1.drop 24).drop 24), List.all_append, w_t3, ← List.take_append_drop 24 (((words1.drop 24).drop 24).drop 24), List.all_append, w_t4, w_t5]
  rfl
set_option maxRecDepth 65536 in
theorem w_rest : rest_1_c.before args0 about1 = true := by decide +kernel
set_option maxRecDepth 65536 in
theorem w_case : (Jvm.Cond.and given_1 narrow_1).before args0 about1 = true := by decide +kernel
set_option maxRecDepth 65536 in
theorem w_consts : constsHeld consts_1 about1 := Jvm.Lit.constsHeldB_iff.mp (by decide +kernel)
theorem w_applies : (headSpec (Jvm.Cond.code x code maxLocals ret :: tables_1) room_1).applies x e0.platform about1 = true :=
  (Spec.applies_iff w_frames).mpr ⟨w_running, w_runnable, w_alone, w_named, w_hears, w_ripe, w_room, w_tables⟩
theorem atStart : AtStart classFile x code maxLocals ret World_1 tables_1 room_1 Calls_1 rest_1 Pre_1 launch0 p0 e0 about1 theMethod args0 below0 :=
  ⟨lists_1, trivial, launch0.admits_env _ _ _, launch0.least_env, fairChoices_fair.cas, fairChoices_fair.clock, w_frames, w_args, w_heap, w_applies, ⟨w_consts, trivial⟩, w_rest, w_case⟩
end start1
theorem witness_1 : WitnessClaimed_1 := ⟨start1.p0, start1.e0, start1.about1, start1.theMethod, start1.args0, start1.below0, start1.atStart⟩
end Jvm.Pilot.@@N@@
