import JvmDerived
import JvmDerived.Pilot.@@N@@Statement
import JvmDerived.Pilot.@@N@@Code
set_option linter.unusedVariables false
set_option linter.unusedSimpArgs false
namespace Jvm.RoadKit
open Sem ClassFile Op Lib Jvm.Stand Jvm.Free Jvm.LawKit
abbrev own_Go (p : Program) (e : Env) (below : List Frame) (A B : State) : Prop := ∀ t, Steps p.tables e below B t → Steps p.tables e below A t
theorem own_name {p : Program} {e : Env} {below : List Frame} {A : State} {α : Type} {F : α → State} (x : α) (P : own_Go p e below A (F x)) : ∃ z, z = x ∧ own_Go p e below A (F z) := ⟨x, rfl, P⟩
theorem own_step {p : Program} {e : Env} {below : List Frame} {A B C : State} (P : own_Go p e below A B) (q : own_Go p e below B C) : own_Go p e below A C := fun t_ k_ => P t_ (q t_ k_)
theorem own_IB {Z s U : State} {Ts : List String} (I : IB Z s.vm Ts) (w : s.WarmedH U.vm) : IB Z U.vm Ts := by
  obtain ⟨more, e, hm⟩ := I
  exact ⟨more, w.interned_eq.trans e, hm⟩
theorem own_backI {p : Program} {l : Launch} {e : Env} {R : Room} {s Z : State} {args a0 : Array Value} {below : List Frame} {h : Heap} {y : MethodName} {bytes : ByteArray} {maxL : Nat} {ret : Option FieldType} {rm : Room} {len W : Nat} {as' : Array Value} {Ts : List String} {Q : Option Value → Heap → List Loc → Prop}
    (hM : MetFree l y (head1 [Cond.code y bytes maxL ret] rm) (fun a U => a = as' ∧ Z.Warmed39 U.vm ∧ U.heap = h ∧ IB Z U.vm Ts) (fun _ _ _ _ _ => True) (fun _ U o U' => ∃ v L, o = .returned v ∧ Q v U'.heap L ∧ ReturnedEndW U o U' L rm.cells rm.slots))
    (hZ : Z.Warmed39 s.vm) (hI : IB Z s.vm Ts) (wc : (Cond.code y bytes maxL ret).before a0 Z = true) (wz : (Cond.initialized y.cls).before a0 Z = true) (hf : rm.frames + 1 ≤ R.frames) (hl : W + (maxL + 11) + rm.locals ≤ R.locals) :
    BackS l R p e below s args y len W (fun A a => a = as' ∧ A.U.heap = h ∧ A.cells + rm.cells ≤ R.cells ∧ A.slots + rm.slots ≤ R.slots) (fun A _ v B => ∃ L, Q v B.U.heap L ∧ B.locs = A.locs ++ L ∧ B.cells = A.cells + rm.cells ∧ B.slots = A.slots + rm.slots) := by
  refine BackS.of_freeW (bytes := bytes) (maxL := maxL) (ret := ret) (E := fun _ _ o t L k n => k = rm.cells ∧ n = rm.slots ∧ ∃ v, o = .returned v ∧ Q v t.heap L) hM hf hl ?_ ?_ (fun _ _ _ _ _ _ _ _ _ => trivial) ?_ ?_
  · intro m meth c A a Y hp
    have hU : Z.Warmed39 A.U.vm := wtrans hZ Y.warmed
    refine ⟨?_, mv hU wc, mv hU wz, hp.2.2.1, hp.2.2.2⟩
    show (Cond.and _ .tt).before a A.U = true
    rw [Cond.before_and, mv hU wc]; rfl
  · intro m meth c A a g mk Y hp
    exact ⟨hp.1, wtrans hZ Y.warmed, hp.2.1, own_IB hI Y.warmed⟩
  · rintro _ _ _ _ ⟨v, L, h1, h2, h3⟩
    exact ⟨L, _, _, h3, rfl, rfl, v, h1, h2⟩
  · intro m meth c A a g mk v t L k n Y hp _ _ q
    obtain ⟨e1, e2, v', e3, e4⟩ := q
    cases e3; subst e1 e2; exact ⟨L, e4, rfl, rfl, rfl⟩
section New
variable {p : Program} {l : Launch} {e : Env} {R : Room} {s : State} {m : MethodId} {args : Array Value} {below : List Frame} {meth : Method} {c : Code} {T : State} {locs : List Loc} {cells slots : Nat}
theorem retI (X : Stand p l e R s m args below meth c T locs cells slots) (hx : p.tables.exec = Jvm.exec) {pc : Nat} {Ls : Array Slot} {z : Int32} {rest : List Value} (hret : meth.sig.returnType = some .int) (hd : decode c.code pc = .ok (.ireturn, 1)) {fs : List Frame}
    (hl : ∀ (f : JFrame) (acts : List Action), f.method = m → f.locked = none → f.entered = [] → (doReturn e (T.setTop f) acts (some (.int z))).1 = T.setFrames fs) : Steps p.tables e below (T.setTop (mkF m pc Ls (.int z :: rest))) (T.setFrames fs) := by
  have hm' : T.vm.method? m = some meth := X.method'
  have hn : narrow .int (.int z) = .int z := rfl
  show Steps p.tables e below (T.setTop { method := m, pc := pc, locals := Ls, stack := _ :: rest, locked := none }) _
  jvm_step X.here [X.here.top, hx, hd, hm', hret, hn]
  first | (intro acts; rw [hl _ acts rfl rfl rfl]) | rw [hl _ _ rfl rfl rfl]
  exact Steps.refl _
end New
end Jvm.RoadKit
namespace Jvm.Pilot.@@N@@
open Jvm Jvm.ClassFile Sem Op Lib Jvm.Free Jvm.Stand Jvm.LawKit Jvm.RoadKit Bundle Jvm.Pilot.@@N@@.Jvm.D
def own_r (o : Int32) (r0 r1 r2 r3 r4 r5 : Addr) : Addr := if o = (0 : Int32) then r0 else if o = (1 : Int32) then r1 else if o = (2 : Int32) then r2 else if o = (3 : Int32) then r3 else if o = (4 : Int32) then r4 else r5
def own_neg (o : Int32) : Int32 := if o = (0 : Int32) then 4 else if o = (1 : Int32) then 5 else if o = (2 : Int32) then 3 else if o = (3 : Int32) then 2 else if o = (4 : Int32) then 0 else 1
def own_O (o : Int32) : Prop := o = (0 : Int32) ∨ o = (1 : Int32) ∨ o = (2 : Int32) ∨ o = (3 : Int32) ∨ o = (4 : Int32) ∨ o = (5 : Int32)
theorem own_neg_O {o : Int32} (h : own_O o) : own_O (own_neg o) := by unfold own_O at *; rcases h with rfl | rfl | rfl | rfl | rfl | rfl <;> decide
theorem own_neg_neg {o : Int32} (h : own_O o) : own_neg (own_neg o) = o := by unfold own_O at *; rcases h with rfl | rfl | rfl | rfl | rfl | rfl <;> decide
def own_test (o : Int32) (l r : Int64) : Int32 := if o = (0 : Int32) then (if l < r then 1 else 0) else if o = (1 : Int32) then (if r < l then 0 else 1) else if o = (2 : Int32) then (if l = r then 1 else 0) else if o = (3 : Int32) then (if l = r then 0 else 1) else if o = (4 : Int32) then (if l < r then 0 else 1) else (if r < l then 1 else 0)
theorem own_rE {Z : State} {h : Heap} {C : String} {o : Int32} {r0 r1 r2 r3 r4 r5 : Addr} (H : own_O o) (E0 : Exa Z h r0 C) (E1 : Exa Z h r1 C) (E2 : Exa Z h r2 C) (E3 : Exa Z h r3 C) (E4 : Exa Z h r4 C) (E5 : Exa Z h r5 C) : Exa Z h (own_r o r0 r1 r2 r3 r4 r5) C := by
  unfold own_O at H; rcases H with rfl | rfl | rfl | rfl | rfl | rfl
  · exact E0
  · exact E1
  · exact E2
  · exact E3
  · exact E4
  · exact E5
theorem own_rF {Z : State} {h : Heap} {C n d : String} {o : Int32} {r0 r1 r2 r3 r4 r5 : Addr} (H : own_O o) (E0 : Fld Z h r0 C n d (.int 0)) (E1 : Fld Z h r1 C n d (.int 1)) (E2 : Fld Z h r2 C n d (.int 2)) (E3 : Fld Z h r3 C n d (.int 3)) (E4 : Fld Z h r4 C n d (.int 4)) (E5 : Fld Z h r5 C n d (.int 5)) : Fld Z h (own_r o r0 r1 r2 r3 r4 r5) C n d (.int o) := by
  unfold own_O at H; rcases H with rfl | rfl | rfl | rfl | rfl | rfl
  · exact E0
  · exact E1
  · exact E2
  · exact E3
  · exact E4
  · exact E5
def own_ord (oo : Int32) : Int32 := oo
theorem d2_0 : decode jdk_37_method_2_code 0 = .ok (.aload_n 0, 1) := by decide +kernel
theorem d2_1 : decode jdk_37_method_2_code 1 = .ok (.getfield 7, 3) := by decide +kernel
theorem d2_4 : decode jdk_37_method_2_code 4 = .ok (.ireturn, 1) := by decide +kernel
theorem ef__own_ord (m : MethodId) (x0 : Addr) : entryFrame m #[(.ref x0)] 1 = mkF m 0 #[.val (.ref x0)] [] := by first | (simp [entryFrame, mkF, argsToLocals, Value.category]; done) | rfl
def Q_own_ord (Z : State) (a : Addr) (oo : Int32) (h0 : Heap) (n0 : Nat) (v_ : Option Value) (h : Heap) (L_ : List Loc) : Prop := v_ = some (.int (own_ord oo)) ∧ Fr n0 L_ ∧ h = h0
theorem pn0 : plainName "java/lang/Enum" = true := by first | (simp [plainName, overriddenIn]; done) | decide +kernel
set_option maxRecDepth 65536 in
set_option maxHeartbeats 40000000 in
theorem rm_own_ord (l : Launch) (Z : State) (a0 : Array Value) (hw : ∀ d ∈ tables_1, d.before a0 Z = true) (ws : List Jvm.Cond) (a : Addr) (oo : Int32) (h0 : Heap) (n0 : Nat) (Z0 : n0 ≤ h0.size) (Fa : Fld Z h0 a "java/lang/Enum" "ordinal" "I" (.int oo)) :
    MetFree l (⟨"java/lang/Enum", "ordinal", "()I"⟩ : MethodName) (head1 (Jvm.Cond.code (⟨"java/lang/Enum", "ordinal", "()I"⟩ : MethodName) jdk_37_method_2_code 1 (some .int) :: ws) ({ frames := 0, cells := 0, slots := 0, locals := 0 } : Room)) (fun a_ U_ => a_ = #[(.ref a)] ∧ Z.Warmed39 U_.vm ∧ U_.heap = h0) (fun _ _ _ _ _ => True) (fun _ U_ o_ V_ => ∃ v_ L_, o_ = .returned v_ ∧ Q_own_ord Z a oo h0 n0 v_ V_.heap L_ ∧ FrameEnd U_ o_ V_ L_ ({ frames := 0, cells := 0, slots := 0, locals := 0 } : Room).cells ({ frames := 0, cells := 0, slots := 0, locals := 0 } : Room).slots) := by
  refine MetFree.of_bodySF (plainFor_of_name pn0) hisR ?_
  intro p e s m args below meth c s₁ Bd hml0 hP hK
  obtain ⟨rfl, hZ, hh⟩ := hP
  have hx := Bd.exec
  have hby := Bd.bytes
  have hml : c.maxLocals = 1 := hml0
  have hown : s.vm.findClass "java/lang/Enum" = some m.cls := findClass_of_methodNamed Bd.named
  have hnm := (name_of_methodNamed Bd.named Bd.method).1
  have X0 : Stand p l e ({ frames := 0, cells := 0, slots := 0, locals := 0 } : Room) s m #[(.ref a)] below meth c s₁ [] 0 0 := Stand.of_body Bd
  have e0 : s₁.heap = h0 := by rw [← hh, Bd.state]; rfl
  have N0 := Fr.nil n0
  have pre0 : own_Go p e below (s₁.setTop (entryFrame m #[(.ref a)] 1)) (s₁.setTop (mkF m 0 #[.val (.ref a)] [])) := fun t_ k_ => castTop (ef__own_ord m a) k_
  have P1 := own_step (C := s₁.setTop (mkF m 1 #[.val (.ref a)] [(.ref a)])) pre0 (by
    intro tt_ kk_
    refine XS.aloadN X0.here hx rfl (hb hby d2_0) rfl rfl ?_
    exact kk_)
  obtain ⟨T2, X2, e2, st2⟩ := getF X0 hx hZ hown (host := "") (Or.inl (hw _ (List.mem_of_getElem? (i := 30) rfl))) Via.refl e0 Fa (g := (mkF m 1 #[.val (.ref a)] [(.ref a)])) rfl rfl (hb hby d2_1)
  have P3 := own_step (C := T2.setTop (mkF m 4 #[.val (.ref a)] [(.int oo)])) P1 (fun t_ k_ => st2 t_ k_)
  obtain ⟨fs, hr, hrun, hended, hW, hsame⟩ := X2.leave (v := some (.int oo)) (fun h => by rw [Bd.returns] at h; cases h)
  refine ⟨_, _, P3 _ ?_, hrun, hended, _, _, rfl, ?_, ⟨_, rfl⟩, hW, hsame.mono (by decide) (by decide)⟩
  · exact retI X2 hx Bd.returns (hb hby d2_4) hr
  · show Q_own_ord Z _ _ h0 n0 _ T2.heap _
    rw [e2]
    exact ⟨rfl, N0, rfl⟩
theorem pd0 : parseMethodDescriptor "()I" = some ⟨[], some .int⟩ := by decide +kernel
theorem d1_0 : decode prog_84_method_6_code 0 = .ok (.aload_n 0, 1) := by decide +kernel
theorem d1_1 : decode prog_84_method_6_code 1 = .ok (.invokevirtual 55, 3) := by decide +kernel
theorem d1_4 : decode prog_84_method_6_code 4 = .ok (.tableswitch 40 0 5 #[50, 64, 78, 92, 106, 120], 40) := by decide +kernel
theorem d1_54 : decode prog_84_method_6_code 54 = .ok (.lload_n 1, 1) := by decide +kernel
theorem d1_55 : decode prog_84_method_6_code 55 = .ok (.lload_n 3, 1) := by decide +kernel
theorem d1_56 : decode prog_84_method_6_code 56 = .ok (.lcmp, 1) := by decide +kernel
theorem d1_57 : decode prog_84_method_6_code 57 = .ok (.ifCond .ge 7, 3) := by decide +kernel
theorem d1_60 : decode prog_84_method_6_code 60 = .ok (.iconst 1, 1) := by decide +kernel
theorem d1_61 : decode prog_84_method_6_code 61 = .ok (.goto 74, 3) := by decide +kernel
theorem d1_64 : decode prog_84_method_6_code 64 = .ok (.iconst 0, 1) := by decide +kernel
theorem d1_65 : decode prog_84_method_6_code 65 = .ok (.goto 70, 3) := by decide +kernel
theorem d1_68 : decode prog_84_method_6_code 68 = .ok (.lload_n 1, 1) := by decide +kernel
theorem d1_69 : decode prog_84_method_6_code 69 = .ok (.lload_n 3, 1) := by decide +kernel
theorem d1_70 : decode prog_84_method_6_code 70 = .ok (.lcmp, 1) := by decide +kernel
theorem d1_71 : decode prog_84_method_6_code 71 = .ok (.ifCond .gt 7, 3) := by decide +kernel
theorem d1_74 : decode prog_84_method_6_code 74 = .ok (.iconst 1, 1) := by decide +kernel
theorem d1_75 : decode prog_84_method_6_code 75 = .ok (.goto 60, 3) := by decide +kernel
theorem d1_78 : decode prog_84_method_6_code 78 = .ok (.iconst 0, 1) := by decide +kernel
theorem d1_79 : decode prog_84_method_6_code 79 = .ok (.goto 56, 3) := by decide +kernel
theorem d1_82 : decode prog_84_method_6_code 82 = .ok (.lload_n 1, 1) := by decide +kernel
theorem d1_83 : decode prog_84_method_6_code 83 = .ok (.lload_n 3, 1) := by decide +kernel
theorem d1_84 : decode prog_84_method_6_code 84 = .ok (.lcmp, 1) := by decide +kernel
theorem d1_85 : decode prog_84_method_6_code 85 = .ok (.ifCond .ne 7, 3) := by decide +kernel
theorem d1_88 : decode prog_84_method_6_code 88 = .ok (.iconst 1, 1) := by decide +kernel
theorem d1_89 : decode prog_84_method_6_code 89 = .ok (.goto 46, 3) := by decide +kernel
theorem d1_92 : decode prog_84_method_6_code 92 = .ok (.iconst 0, 1) := by decide +kernel
theorem d1_93 : decode prog_84_method_6_code 93 = .ok (.goto 42, 3) := by decide +kernel
theorem d1_96 : decode prog_84_method_6_code 96 = .ok (.lload_n 1, 1) := by decide +kernel
theorem d1_97 : decode prog_84_method_6_code 97 = .ok (.lload_n 3, 1) := by decide +kernel
theorem d1_98 : decode prog_84_method_6_code 98 = .ok (.lcmp, 1) := by decide +kernel
theorem d1_99 : decode prog_84_method_6_code 99 = .ok (.ifCond .eq 7, 3) := by decide +kernel
theorem d1_102 : decode prog_84_method_6_code 102 = .ok (.iconst 1, 1) := by decide +kernel
theorem d1_103 : decode prog_84_method_6_code 103 = .ok (.goto 32, 3) := by decide +kernel
theorem d1_106 : decode prog_84_method_6_code 106 = .ok (.iconst 0, 1) := by decide +kernel
theorem d1_107 : decode prog_84_method_6_code 107 = .ok (.goto 28, 3) := by decide +kernel
theorem d1_110 : decode prog_84_method_6_code 110 = .ok (.lload_n 1, 1) := by decide +kernel
theorem d1_111 : decode prog_84_method_6_code 111 = .ok (.lload_n 3, 1) := by decide +kernel
theorem d1_112 : decode prog_84_method_6_code 112 = .ok (.lcmp, 1) := by decide +kernel
theorem d1_113 : decode prog_84_method_6_code 113 = .ok (.ifCond .lt 7, 3) := by decide +kernel
theorem d1_116 : decode prog_84_method_6_code 116 = .ok (.iconst 1, 1) := by decide +kernel
theorem d1_117 : decode prog_84_method_6_code 117 = .ok (.goto 18, 3) := by decide +kernel
theorem d1_120 : decode prog_84_method_6_code 120 = .ok (.iconst 0, 1) := by decide +kernel
theorem d1_121 : decode prog_84_method_6_code 121 = .ok (.goto 14, 3) := by decide +kernel
theorem d1_124 : decode prog_84_method_6_code 124 = .ok (.lload_n 1, 1) := by decide +kernel
theorem d1_125 : decode prog_84_method_6_code 125 = .ok (.lload_n 3, 1) := by decide +kernel
theorem d1_126 : decode prog_84_method_6_code 126 = .ok (.lcmp, 1) := by decide +kernel
theorem d1_127 : decode prog_84_method_6_code 127 = .ok (.ifCond .le 7, 3) := by decide +kernel
theorem d1_130 : decode prog_84_method_6_code 130 = .ok (.iconst 1, 1) := by decide +kernel
theorem d1_131 : decode prog_84_method_6_code 131 = .ok (.goto 4, 3) := by decide +kernel
theorem d1_134 : decode prog_84_method_6_code 134 = .ok (.iconst 0, 1) := by decide +kernel
theorem d1_135 : decode prog_84_method_6_code 135 = .ok (.ireturn, 1) := by decide +kernel
theorem ef__test (m : MethodId) (x0 : Addr) (x1 : Int64) (x2 : Int64) : entryFrame m #[(.ref x0), (.long x1), (.long x2)] 5 = mkF m 0 #[.val (.ref x0), .val (.long x1), .second, .val (.long x2), .second] [] := by first | (simp [entryFrame, mkF, argsToLocals, Value.category]; done) | rfl
def Q_test (Z : State) (a : Addr) (oo : Int32) (lx : Int64) (rx : Int64) (h0 : Heap) (n0 : Nat) (v_ : Option Value) (h : Heap) (L_ : List Loc) : Prop := v_ = some (.int (own_test oo lx rx)) ∧ Fr n0 L_ ∧ h = h0
theorem pn1 : plainName "com/example/uhrwerk/uhrwerk/model/Relation" = true := by first | (simp [plainName, overriddenIn]; done) | decide +kernel
set_option maxRecDepth 65536 in
set_option maxHeartbeats 40000000 in
theorem rm_test (l : Launch) (Z : State) (a0 : Array Value) (hw : ∀ d ∈ tables_1, d.before a0 Z = true) (ws : List Jvm.Cond) (a : Addr) (oo : Int32) (lx : Int64) (rx : Int64) (h0 : Heap) (n0 : Nat) (Z0 : n0 ≤ h0.size) (ho : own_O oo) (Ea : Exa Z h0 a "com/example/uhrwerk/uhrwerk/model/Relation") (Fa : Fld Z h0 a "java/lang/Enum" "ordinal" "I" (.int oo)) :
    MetFree l (⟨"com/example/uhrwerk/uhrwerk/model/Relation", "test", "(JJ)Z"⟩ : MethodName) (head1 (Jvm.Cond.code (⟨"com/example/uhrwerk/uhrwerk/model/Relation", "test", "(JJ)Z"⟩ : MethodName) prog_84_method_6_code 5 (some .boolean) :: ws) ({ frames := 1, cells := 0, slots := 0, locals := 12 } : Room)) (fun a_ U_ => a_ = #[(.ref a), (.long lx), (.long rx)] ∧ Z.Warmed39 U_.vm ∧ U_.heap = h0) (fun _ _ _ _ _ => True) (fun _ U_ o_ V_ => ∃ v_ L_, o_ = .returned v_ ∧ Q_test Z a oo lx rx h0 n0 v_ V_.heap L_ ∧ FrameEnd U_ o_ V_ L_ ({ frames := 1, cells := 0, slots := 0, locals := 12 } : Room).cells ({ frames := 1, cells := 0, slots := 0, locals := 12 } : Room).slots) := by
  refine MetFree.of_bodySF (plainFor_of_name pn1) hisR ?_
  intro p e s m args below meth c s₁ Bd hml0 hP hK
  obtain ⟨rfl, hZ, hh⟩ := hP
  have hx := Bd.exec
  have hby := Bd.bytes
  have hml : c.maxLocals = 5 := hml0
  have hown : s.vm.findClass "com/example/uhrwerk/uhrwerk/model/Relation" = some m.cls := findClass_of_methodNamed Bd.named
  have hnm := (name_of_methodNamed Bd.named Bd.method).1
  have X0 : Stand p l e ({ frames := 1, cells := 0, slots := 0, locals := 12 } : Room) s m #[(.ref a), (.long lx), (.long rx)] below meth c s₁ [] 0 0 := Stand.of_body Bd
  have e0 : s₁.heap = h0 := by rw [← hh, Bd.state]; rfl
  have N0 := Fr.nil n0
  have pre0 : own_Go p e below (s₁.setTop (entryFrame m #[(.ref a), (.long lx), (.long rx)] 5)) (s₁.setTop (mkF m 0 #[.val (.ref a), .val (.long lx), .second, .val (.long rx), .second] [])) := fun t_ k_ => castTop (ef__test m a lx rx) k_
  unfold own_O at ho
  rcases ho with rfl | rfl | rfl | rfl | rfl | rfl
  · have P1 := own_step (C := s₁.setTop (mkF m 1 #[.val (.ref a), .val (.long lx), .second, .val (.long rx), .second] [(.ref a)])) pre0 (by
      intro tt_ kk_
      refine XS.aloadN X0.here hx rfl (hb hby d1_0) rfl rfl ?_
      exact kk_)
    obtain ⟨cq2, kq2, q2a, q2b, q2c⟩ := isOf hZ e0 Ea
    obtain ⟨_, _, ⟨T2, L2, k2, n2⟩, -, X2, ⟨Lc2, hQ2, l2, y2, z2⟩, st2⟩ := X0.virtualBackUp hx (C := "com/example/uhrwerk/uhrwerk/model/Relation") (owner := "java/lang/Enum") (x := (⟨"com/example/uhrwerk/uhrwerk/model/Relation", "ordinal", "()I"⟩ : MethodName)) (y := (⟨"java/lang/Enum", "ordinal", "()I"⟩ : MethodName)) hown (mvT hZ (hw _ (List.mem_of_getElem? (i := 23) rfl))) (mvT hZ (hw _ (List.mem_of_getElem? (i := 24) rfl))) (mvT hZ (hw _ (List.mem_of_getElem? (i := 25) rfl))) (by decide) (mvT hZ (hw _ (List.mem_of_getElem? (i := 27) rfl))) (mvT hZ (hw _ (List.mem_of_getElem? (i := 26) rfl))) (backOf (W := 0) (rm_own_ord l Z a0 hw [] a (0 : Int32) h0 n0 Z0 Fa) hZ (hw _ (List.mem_of_getElem? (i := 29) rfl)) (hw _ (List.mem_of_getElem? (i := 28) rfl)) (by decide) (by decide)) q2a q2c (g := (mkF m 1 #[.val (.ref a), .val (.long lx), .second, .val (.long rx), .second] [(.ref a)])) rfl (by rw [hml]; rfl) (Steps.refl _) (argsL := []) (rest := []) (lenOf pd0 rfl) rfl (by show 2 * 0 + _ ≤ _; exact Nat.le_of_eq rfl) (hb hby d1_1) (fun _ _ => ⟨rfl, e0, (by decide : 0 + 0 ≤ _), (by decide : 0 + 0 ≤ _)⟩)
    dsimp only [Pt.U, Pt.locs, Pt.cells, Pt.slots] at X2 l2 y2 z2 st2 hQ2
    subst l2 y2 z2
    obtain ⟨rfl, N2q, e2⟩ := hQ2
    have N2 := Fr.app N0 N2q
    have P3 := own_step (C := T2.setTop (mkF m 4 #[.val (.ref a), .val (.long lx), .second, .val (.long rx), .second] [(.int (0 : Int32))])) P1 (fun t_ k_ => st2.trans k_)
    have P4 := own_step (C := T2.setTop (mkF m 54 #[.val (.ref a), .val (.long lx), .second, .val (.long rx), .second] [])) P3 (by
      intro tt_ kk_
      refine XS.tswIn X2.here hx rfl (pc0 := 4) (pc' := 54) rfl (hb hby d1_4) rfl (by decide) rfl (by decide) (by decide) ?_
      exact kk_)
    have P5 := own_step (C := T2.setTop (mkF m 57 #[.val (.ref a), .val (.long lx), .second, .val (.long rx), .second] [(.int (lcmpW lx rx))])) P4 (by
      intro tt_ kk_
      refine XS.lloadN X2.here hx rfl (hb hby d1_54) rfl ?_
      show Steps p.tables e below (T2.setTop (mkF m 55 #[.val (.ref a), .val (.long lx), .second, .val (.long rx), .second] [(.long lx)])) _
      refine XS.lloadN X2.here hx rfl (hb hby d1_55) rfl ?_
      show Steps p.tables e below (T2.setTop (mkF m 56 #[.val (.ref a), .val (.long lx), .second, .val (.long rx), .second] [(.long rx), (.long lx)])) _
      refine XS.lcmp X2.here hx rfl (hb hby d1_56) rfl ?_
      exact kk_)
    by_cases c6 : lx < rx
    · have P7 := own_step (C := T2.setTop (mkF m 60 #[.val (.ref a), .val (.long lx), .second, .val (.long rx), .second] [])) P5 (by
        intro tt_ kk_
        refine XS.ifNo X2.here hx rfl (hb hby d1_57) rfl ((if0 _ _).trans (tlt ((lw_lt _ _).mpr c6)).2.1) ?_
        exact kk_)
      have P8 := own_step (C := T2.setTop (mkF m 135 #[.val (.ref a), .val (.long lx), .second, .val (.long rx), .second] [(.int (1 : Int32))])) P7 (by
        intro tt_ kk_
        refine XS.iconst X2.here hx rfl (hb hby d1_60) ?_
        show Steps p.tables e below (T2.setTop (mkF m 61 #[.val (.ref a), .val (.long lx), .second, .val (.long rx), .second] [(.int (1 : Int32))])) _
        refine XS.goto X2.here hx rfl (pc0 := 61) (pc' := 135) rfl (hb hby d1_61) (by decide) (by decide) ?_
        exact kk_)
      obtain ⟨fs, hr, hrun, hended, hW, hsame⟩ := X2.leave (v := some (.int (1 : Int32))) (fun h => by rw [Bd.returns] at h; cases h)
      refine ⟨_, _, P8 _ ?_, hrun, hended, _, _, rfl, ?_, ⟨_, rfl⟩, hW, hsame.mono (by decide) (by decide)⟩
      · exact retN X2 hx (t := .boolean) Bd.returns (by simp) (hb hby d1_135) hr
      · show Q_test Z _ _ _ _ h0 n0 _ T2.heap _
        rw [e2]
        exact ⟨by simp +decide [own_test, c6], N2, rfl⟩
    · have P9 := own_step (C := T2.setTop (mkF m 64 #[.val (.ref a), .val (.long lx), .second, .val (.long rx), .second] [])) P5 (by
        intro tt_ kk_
        refine XS.ifYes X2.here hx rfl (pc0 := 57) (pc' := 64) rfl (hb hby d1_57) rfl ((if0 _ _).trans (flt (fun q => c6 ((lw_lt _ _).mp q))).2.1) (by decide) (by decide) ?_
        exact kk_)
      have P10 := own_step (C := T2.setTop (mkF m 135 #[.val (.ref a), .val (.long lx), .second, .val (.long rx), .second] [(.int (0 : Int32))])) P9 (by
        intro tt_ kk_
        refine XS.iconst X2.here hx rfl (hb hby d1_64) ?_
        show Steps p.tables e below (T2.setTop (mkF m 65 #[.val (.ref a), .val (.long lx), .second, .val (.long rx), .second] [(.int (0 : Int32))])) _
        refine XS.goto X2.here hx rfl (pc0 := 65) (pc' := 135) rfl (hb hby d1_65) (by decide) (by decide) ?_
        exact kk_)
      obtain ⟨fs, hr, hrun, hended, hW, hsame⟩ := X2.leave (v := some (.int (0 : Int32))) (fun h => by rw [Bd.returns] at h; cases h)
      refine ⟨_, _, P10 _ ?_, hrun, hended, _, _, rfl, ?_, ⟨_, rfl⟩, hW, hsame.mono (by decide) (by decide)⟩
      · exact retN X2 hx (t := .boolean) Bd.returns (by simp) (hb hby d1_135) hr
      · show Q_test Z _ _ _ _ h0 n0 _ T2.heap _
        rw [e2]
        exact ⟨by simp +decide [own_test, c6], N2, rfl⟩
  · have P11 := own_step (C := s₁.setTop (mkF m 1 #[.val (.ref a), .val (.long lx), .second, .val (.long rx), .second] [(.ref a)])) pre0 (by
      intro tt_ kk_
      refine XS.aloadN X0.here hx rfl (hb hby d1_0) rfl rfl ?_
      exact kk_)
    obtain ⟨cq12, kq12, q12a, q12b, q12c⟩ := isOf hZ e0 Ea
    obtain ⟨_, _, ⟨T12, L12, k12, n12⟩, -, X12, ⟨Lc12, hQ12, l12, y12, z12⟩, st12⟩ := X0.virtualBackUp hx (C := "com/example/uhrwerk/uhrwerk/model/Relation") (owner := "java/lang/Enum") (x := (⟨"com/example/uhrwerk/uhrwerk/model/Relation", "ordinal", "()I"⟩ : MethodName)) (y := (⟨"java/lang/Enum", "ordinal", "()I"⟩ : MethodName)) hown (mvT hZ (hw _ (List.mem_of_getElem? (i := 23) rfl))) (mvT hZ (hw _ (List.mem_of_getElem? (i := 24) rfl))) (mvT hZ (hw _ (List.mem_of_getElem? (i := 25) rfl))) (by decide) (mvT hZ (hw _ (List.mem_of_getElem? (i := 27) rfl))) (mvT hZ (hw _ (List.mem_of_getElem? (i := 26) rfl))) (backOf (W := 0) (rm_own_ord l Z a0 hw [] a (1 : Int32) h0 n0 Z0 Fa) hZ (hw _ (List.mem_of_getElem? (i := 29) rfl)) (hw _ (List.mem_of_getElem? (i := 28) rfl)) (by decide) (by decide)) q12a q12c (g := (mkF m 1 #[.val (.ref a), .val (.long lx), .second, .val (.long rx), .second] [(.ref a)])) rfl (by rw [hml]; rfl) (Steps.refl _) (argsL := []) (rest := []) (lenOf pd0 rfl) rfl (by show 2 * 0 + _ ≤ _; exact Nat.le_of_eq rfl) (hb hby d1_1) (fun _ _ => ⟨rfl, e0, (by decide : 0 + 0 ≤ _), (by decide : 0 + 0 ≤ _)⟩)
    dsimp only [Pt.U, Pt.locs, Pt.cells, Pt.slots] at X12 l12 y12 z12 st12 hQ12
    subst l12 y12 z12
    obtain ⟨rfl, N12q, e12⟩ := hQ12
    have N12 := Fr.app N0 N12q
    have P13 := own_step (C := T12.setTop (mkF m 4 #[.val (.ref a), .val (.long lx), .second, .val (.long rx), .second] [(.int (1 : Int32))])) P11 (fun t_ k_ => st12.trans k_)
    have P14 := own_step (C := T12.setTop (mkF m 68 #[.val (.ref a), .val (.long lx), .second, .val (.long rx), .second] [])) P13 (by
      intro tt_ kk_
      refine XS.tswIn X12.here hx rfl (pc0 := 4) (pc' := 68) rfl (hb hby d1_4) rfl (by decide) rfl (by decide) (by decide) ?_
      exact kk_)
    have P15 := own_step (C := T12.setTop (mkF m 71 #[.val (.ref a), .val (.long lx), .second, .val (.long rx), .second] [(.int (lcmpW lx rx))])) P14 (by
      intro tt_ kk_
      refine XS.lloadN X12.here hx rfl (hb hby d1_68) rfl ?_
      show Steps p.tables e below (T12.setTop (mkF m 69 #[.val (.ref a), .val (.long lx), .second, .val (.long rx), .second] [(.long lx)])) _
      refine XS.lloadN X12.here hx rfl (hb hby d1_69) rfl ?_
      show Steps p.tables e below (T12.setTop (mkF m 70 #[.val (.ref a), .val (.long lx), .second, .val (.long rx), .second] [(.long rx), (.long lx)])) _
      refine XS.lcmp X12.here hx rfl (hb hby d1_70) rfl ?_
      exact kk_)
    by_cases c16 : rx < lx
    · have P17 := own_step (C := T12.setTop (mkF m 78 #[.val (.ref a), .val (.long lx), .second, .val (.long rx), .second] [])) P15 (by
        intro tt_ kk_
        refine XS.ifYes X12.here hx rfl (pc0 := 71) (pc' := 78) rfl (hb hby d1_71) rfl ((if0 _ _).trans (tlt ((lw_gt _ _).mpr c16)).2.2.1) (by decide) (by decide) ?_
        exact kk_)
      have P18 := own_step (C := T12.setTop (mkF m 135 #[.val (.ref a), .val (.long lx), .second, .val (.long rx), .second] [(.int (0 : Int32))])) P17 (by
        intro tt_ kk_
        refine XS.iconst X12.here hx rfl (hb hby d1_78) ?_
        show Steps p.tables e below (T12.setTop (mkF m 79 #[.val (.ref a), .val (.long lx), .second, .val (.long rx), .second] [(.int (0 : Int32))])) _
        refine XS.goto X12.here hx rfl (pc0 := 79) (pc' := 135) rfl (hb hby d1_79) (by decide) (by decide) ?_
        exact kk_)
      obtain ⟨fs, hr, hrun, hended, hW, hsame⟩ := X12.leave (v := some (.int (0 : Int32))) (fun h => by rw [Bd.returns] at h; cases h)
      refine ⟨_, _, P18 _ ?_, hrun, hended, _, _, rfl, ?_, ⟨_, rfl⟩, hW, hsame.mono (by decide) (by decide)⟩
      · exact retN X12 hx (t := .boolean) Bd.returns (by simp) (hb hby d1_135) hr
      · show Q_test Z _ _ _ _ h0 n0 _ T12.heap _
        rw [e12]
        exact ⟨by simp +decide [own_test, c16], N12, rfl⟩
    · have P19 := own_step (C := T12.setTop (mkF m 74 #[.val (.ref a), .val (.long lx), .second, .val (.long rx), .second] [])) P15 (by
        intro tt_ kk_
        refine XS.ifNo X12.here hx rfl (hb hby d1_71) rfl ((if0 _ _).trans (flt (fun q => c16 ((lw_gt _ _).mp q))).2.2.1) ?_
        exact kk_)
      have P20 := own_step (C := T12.setTop (mkF m 135 #[.val (.ref a), .val (.long lx), .second, .val (.long rx), .second] [(.int (1 : Int32))])) P19 (by
        intro tt_ kk_
        refine XS.iconst X12.here hx rfl (hb hby d1_74) ?_
        show Steps p.tables e below (T12.setTop (mkF m 75 #[.val (.ref a), .val (.long lx), .second, .val (.long rx), .second] [(.int (1 : Int32))])) _
        refine XS.goto X12.here hx rfl (pc0 := 75) (pc' := 135) rfl (hb hby d1_75) (by decide) (by decide) ?_
        exact kk_)
      obtain ⟨fs, hr, hrun, hended, hW, hsame⟩ := X12.leave (v := some (.int (1 : Int32))) (fun h => by rw [Bd.returns] at h; cases h)
      refine ⟨_, _, P20 _ ?_, hrun, hended, _, _, rfl, ?_, ⟨_, rfl⟩, hW, hsame.mono (by decide) (by decide)⟩
      · exact retN X12 hx (t := .boolean) Bd.returns (by simp) (hb hby d1_135) hr
      · show Q_test Z _ _ _ _ h0 n0 _ T12.heap _
        rw [e12]
        exact ⟨by simp +decide [own_test, c16], N12, rfl⟩
  · have P21 := own_step (C := s₁.setTop (mkF m 1 #[.val (.ref a), .val (.long lx), .second, .val (.long rx), .second] [(.ref a)])) pre0 (by
      intro tt_ kk_
      refine XS.aloadN X0.here hx rfl (hb hby d1_0) rfl rfl ?_
      exact kk_)
    obtain ⟨cq22, kq22, q22a, q22b, q22c⟩ := isOf hZ e0 Ea
    obtain ⟨_, _, ⟨T22, L22, k22, n22⟩, -, X22, ⟨Lc22, hQ22, l22, y22, z22⟩, st22⟩ := X0.virtualBackUp hx (C := "com/example/uhrwerk/uhrwerk/model/Relation") (owner := "java/lang/Enum") (x := (⟨"com/example/uhrwerk/uhrwerk/model/Relation", "ordinal", "()I"⟩ : MethodName)) (y := (⟨"java/lang/Enum", "ordinal", "()I"⟩ : MethodName)) hown (mvT hZ (hw _ (List.mem_of_getElem? (i := 23) rfl))) (mvT hZ (hw _ (List.mem_of_getElem? (i := 24) rfl))) (mvT hZ (hw _ (List.mem_of_getElem? (i := 25) rfl))) (by decide) (mvT hZ (hw _ (List.mem_of_getElem? (i := 27) rfl))) (mvT hZ (hw _ (List.mem_of_getElem? (i := 26) rfl))) (backOf (W := 0) (rm_own_ord l Z a0 hw [] a (2 : Int32) h0 n0 Z0 Fa) hZ (hw _ (List.mem_of_getElem? (i := 29) rfl)) (hw _ (List.mem_of_getElem? (i := 28) rfl)) (by decide) (by decide)) q22a q22c (g := (mkF m 1 #[.val (.ref a), .val (.long lx), .second, .val (.long rx), .second] [(.ref a)])) rfl (by rw [hml]; rfl) (Steps.refl _) (argsL := []) (rest := []) (lenOf pd0 rfl) rfl (by show 2 * 0 + _ ≤ _; exact Nat.le_of_eq rfl) (hb hby d1_1) (fun _ _ => ⟨rfl, e0, (by decide : 0 + 0 ≤ _), (by decide : 0 + 0 ≤ _)⟩)
    dsimp only [Pt.U, Pt.locs, Pt.cells, Pt.slots] at X22 l22 y22 z22 st22 hQ22
    subst l22 y22 z22
    obtain ⟨rfl, N22q, e22⟩ := hQ22
    have N22 := Fr.app N0 N22q
    have P23 := own_step (C := T22.setTop (mkF m 4 #[.val (.ref a), .val (.long lx), .second, .val (.long rx), .second] [(.int (2 : Int32))])) P21 (fun t_ k_ => st22.trans k_)
    have P24 := own_step (C := T22.setTop (mkF m 82 #[.val (.ref a), .val (.long lx), .second, .val (.long rx), .second] [])) P23 (by
      intro tt_ kk_
      refine XS.tswIn X22.here hx rfl (pc0 := 4) (pc' := 82) rfl (hb hby d1_4) rfl (by decide) rfl (by decide) (by decide) ?_
      exact kk_)
    have P25 := own_step (C := T22.setTop (mkF m 85 #[.val (.ref a), .val (.long lx), .second, .val (.long rx), .second] [(.int (lcmpW lx rx))])) P24 (by
      intro tt_ kk_
      refine XS.lloadN X22.here hx rfl (hb hby d1_82) rfl ?_
      show Steps p.tables e below (T22.setTop (mkF m 83 #[.val (.ref a), .val (.long lx), .second, .val (.long rx), .second] [(.long lx)])) _
      refine XS.lloadN X22.here hx rfl (hb hby d1_83) rfl ?_
      show Steps p.tables e below (T22.setTop (mkF m 84 #[.val (.ref a), .val (.long lx), .second, .val (.long rx), .second] [(.long rx), (.long lx)])) _
      refine XS.lcmp X22.here hx rfl (hb hby d1_84) rfl ?_
      exact kk_)
    by_cases c26 : lx = rx
    · have P27 := own_step (C := T22.setTop (mkF m 88 #[.val (.ref a), .val (.long lx), .second, .val (.long rx), .second] [])) P25 (by
        intro tt_ kk_
        refine XS.ifNo X22.here hx rfl (hb hby d1_85) rfl ((if0 _ _).trans (teq ((lw_eq _ _).mpr c26)).2) ?_
        exact kk_)
      have P28 := own_step (C := T22.setTop (mkF m 135 #[.val (.ref a), .val (.long lx), .second, .val (.long rx), .second] [(.int (1 : Int32))])) P27 (by
        intro tt_ kk_
        refine XS.iconst X22.here hx rfl (hb hby d1_88) ?_
        show Steps p.tables e below (T22.setTop (mkF m 89 #[.val (.ref a), .val (.long lx), .second, .val (.long rx), .second] [(.int (1 : Int32))])) _
        refine XS.goto X22.here hx rfl (pc0 := 89) (pc' := 135) rfl (hb hby d1_89) (by decide) (by decide) ?_
        exact kk_)
      obtain ⟨fs, hr, hrun, hended, hW, hsame⟩ := X22.leave (v := some (.int (1 : Int32))) (fun h => by rw [Bd.returns] at h; cases h)
      refine ⟨_, _, P28 _ ?_, hrun, hended, _, _, rfl, ?_, ⟨_, rfl⟩, hW, hsame.mono (by decide) (by decide)⟩
      · exact retN X22 hx (t := .boolean) Bd.returns (by simp) (hb hby d1_135) hr
      · show Q_test Z _ _ _ _ h0 n0 _ T22.heap _
        rw [e22]
        exact ⟨by simp +decide [own_test, c26], N22, rfl⟩
    · have P29 := own_step (C := T22.setTop (mkF m 92 #[.val (.ref a), .val (.long lx), .second, .val (.long rx), .second] [])) P25 (by
        intro tt_ kk_
        refine XS.ifYes X22.here hx rfl (pc0 := 85) (pc' := 92) rfl (hb hby d1_85) rfl ((if0 _ _).trans (feq (fun q => c26 ((lw_eq _ _).mp q))).2) (by decide) (by decide) ?_
        exact kk_)
      have P30 := own_step (C := T22.setTop (mkF m 135 #[.val (.ref a), .val (.long lx), .second, .val (.long rx), .second] [(.int (0 : Int32))])) P29 (by
        intro tt_ kk_
        refine XS.iconst X22.here hx rfl (hb hby d1_92) ?_
        show Steps p.tables e below (T22.setTop (mkF m 93 #[.val (.ref a), .val (.long lx), .second, .val (.long rx), .second] [(.int (0 : Int32))])) _
        refine XS.goto X22.here hx rfl (pc0 := 93) (pc' := 135) rfl (hb hby d1_93) (by decide) (by decide) ?_
        exact kk_)
      obtain ⟨fs, hr, hrun, hended, hW, hsame⟩ := X22.leave (v := some (.int (0 : Int32))) (fun h => by rw [Bd.returns] at h; cases h)
      refine ⟨_, _, P30 _ ?_, hrun, hended, _, _, rfl, ?_, ⟨_, rfl⟩, hW, hsame.mono (by decide) (by decide)⟩
      · exact retN X22 hx (t := .boolean) Bd.returns (by simp) (hb hby d1_135) hr
      · show Q_test Z _ _ _ _ h0 n0 _ T22.heap _
        rw [e22]
        exact ⟨by simp +decide [own_test, c26], N22, rfl⟩
  · have P31 := own_step (C := s₁.setTop (mkF m 1 #[.val (.ref a), .val (.long lx), .second, .val (.long rx), .second] [(.ref a)])) pre0 (by
      intro tt_ kk_
      refine XS.aloadN X0.here hx rfl (hb hby d1_0) rfl rfl ?_
      exact kk_)
    obtain ⟨cq32, kq32, q32a, q32b, q32c⟩ := isOf hZ e0 Ea
    obtain ⟨_, _, ⟨T32, L32, k32, n32⟩, -, X32, ⟨Lc32, hQ32, l32, y32, z32⟩, st32⟩ := X0.virtualBackUp hx (C := "com/example/uhrwerk/uhrwerk/model/Relation") (owner := "java/lang/Enum") (x := (⟨"com/example/uhrwerk/uhrwerk/model/Relation", "ordinal", "()I"⟩ : MethodName)) (y := (⟨"java/lang/Enum", "ordinal", "()I"⟩ : MethodName)) hown (mvT hZ (hw _ (List.mem_of_getElem? (i := 23) rfl))) (mvT hZ (hw _ (List.mem_of_getElem? (i := 24) rfl))) (mvT hZ (hw _ (List.mem_of_getElem? (i := 25) rfl))) (by decide) (mvT hZ (hw _ (List.mem_of_getElem? (i := 27) rfl))) (mvT hZ (hw _ (List.mem_of_getElem? (i := 26) rfl))) (backOf (W := 0) (rm_own_ord l Z a0 hw [] a (3 : Int32) h0 n0 Z0 Fa) hZ (hw _ (List.mem_of_getElem? (i := 29) rfl)) (hw _ (List.mem_of_getElem? (i := 28) rfl)) (by decide) (by decide)) q32a q32c (g := (mkF m 1 #[.val (.ref a), .val (.long lx), .second, .val (.long rx), .second] [(.ref a)])) rfl (by rw [hml]; rfl) (Steps.refl _) (argsL := []) (rest := []) (lenOf pd0 rfl) rfl (by show 2 * 0 + _ ≤ _; exact Nat.le_of_eq rfl) (hb hby d1_1) (fun _ _ => ⟨rfl, e0, (by decide : 0 + 0 ≤ _), (by decide : 0 + 0 ≤ _)⟩)
    dsimp only [Pt.U, Pt.locs, Pt.cells, Pt.slots] at X32 l32 y32 z32 st32 hQ32
    subst l32 y32 z32
    obtain ⟨rfl, N32q, e32⟩ := hQ32
    have N32 := Fr.app N0 N32q
    have P33 := own_step (C := T32.setTop (mkF m 4 #[.val (.ref a), .val (.long lx), .second, .val (.long rx), .second] [(.int (3 : Int32))])) P31 (fun t_ k_ => st32.trans k_)
    have P34 := own_step (C := T32.setTop (mkF m 96 #[.val (.ref a), .val (.long lx), .second, .val (.long rx), .second] [])) P33 (by
      intro tt_ kk_
      refine XS.tswIn X32.here hx rfl (pc0 := 4) (pc' := 96) rfl (hb hby d1_4) rfl (by decide) rfl (by decide) (by decide) ?_
      exact kk_)
    have P35 := own_step (C := T32.setTop (mkF m 99 #[.val (.ref a), .val (.long lx), .second, .val (.long rx), .second] [(.int (lcmpW lx rx))])) P34 (by
      intro tt_ kk_
      refine XS.lloadN X32.here hx rfl (hb hby d1_96) rfl ?_
      show Steps p.tables e below (T32.setTop (mkF m 97 #[.val (.ref a), .val (.long lx), .second, .val (.long rx), .second] [(.long lx)])) _
      refine XS.lloadN X32.here hx rfl (hb hby d1_97) rfl ?_
      show Steps p.tables e below (T32.setTop (mkF m 98 #[.val (.ref a), .val (.long lx), .second, .val (.long rx), .second] [(.long rx), (.long lx)])) _
      refine XS.lcmp X32.here hx rfl (hb hby d1_98) rfl ?_
      exact kk_)
    by_cases c36 : lx = rx
    · have P37 := own_step (C := T32.setTop (mkF m 106 #[.val (.ref a), .val (.long lx), .second, .val (.long rx), .second] [])) P35 (by
        intro tt_ kk_
        refine XS.ifYes X32.here hx rfl (pc0 := 99) (pc' := 106) rfl (hb hby d1_99) rfl ((if0 _ _).trans (teq ((lw_eq _ _).mpr c36)).1) (by decide) (by decide) ?_
        exact kk_)
      have P38 := own_step (C := T32.setTop (mkF m 135 #[.val (.ref a), .val (.long lx), .second, .val (.long rx), .second] [(.int (0 : Int32))])) P37 (by
        intro tt_ kk_
        refine XS.iconst X32.here hx rfl (hb hby d1_106) ?_
        show Steps p.tables e below (T32.setTop (mkF m 107 #[.val (.ref a), .val (.long lx), .second, .val (.long rx), .second] [(.int (0 : Int32))])) _
        refine XS.goto X32.here hx rfl (pc0 := 107) (pc' := 135) rfl (hb hby d1_107) (by decide) (by decide) ?_
        exact kk_)
      obtain ⟨fs, hr, hrun, hended, hW, hsame⟩ := X32.leave (v := some (.int (0 : Int32))) (fun h => by rw [Bd.returns] at h; cases h)
      refine ⟨_, _, P38 _ ?_, hrun, hended, _, _, rfl, ?_, ⟨_, rfl⟩, hW, hsame.mono (by decide) (by decide)⟩
      · exact retN X32 hx (t := .boolean) Bd.returns (by simp) (hb hby d1_135) hr
      · show Q_test Z _ _ _ _ h0 n0 _ T32.heap _
        rw [e32]
        exact ⟨by simp +decide [own_test, c36], N32, rfl⟩
    · have P39 := own_step (C := T32.setTop (mkF m 102 #[.val (.ref a), .val (.long lx), .second, .val (.long rx), .second] [])) P35 (by
        intro tt_ kk_
        refine XS.ifNo X32.here hx rfl (hb hby d1_99) rfl ((if0 _ _).trans (feq (fun q => c36 ((lw_eq _ _).mp q))).1) ?_
        exact kk_)
      have P40 := own_step (C := T32.setTop (mkF m 135 #[.val (.ref a), .val (.long lx), .second, .val (.long rx), .second] [(.int (1 : Int32))])) P39 (by
        intro tt_ kk_
        refine XS.iconst X32.here hx rfl (hb hby d1_102) ?_
        show Steps p.tables e below (T32.setTop (mkF m 103 #[.val (.ref a), .val (.long lx), .second, .val (.long rx), .second] [(.int (1 : Int32))])) _
        refine XS.goto X32.here hx rfl (pc0 := 103) (pc' := 135) rfl (hb hby d1_103) (by decide) (by decide) ?_
        exact kk_)
      obtain ⟨fs, hr, hrun, hended, hW, hsame⟩ := X32.leave (v := some (.int (1 : Int32))) (fun h => by rw [Bd.returns] at h; cases h)
      refine ⟨_, _, P40 _ ?_, hrun, hended, _, _, rfl, ?_, ⟨_, rfl⟩, hW, hsame.mono (by decide) (by decide)⟩
      · exact retN X32 hx (t := .boolean) Bd.returns (by simp) (hb hby d1_135) hr
      · show Q_test Z _ _ _ _ h0 n0 _ T32.heap _
        rw [e32]
        exact ⟨by simp +decide [own_test, c36], N32, rfl⟩
  · have P41 := own_step (C := s₁.setTop (mkF m 1 #[.val (.ref a), .val (.long lx), .second, .val (.long rx), .second] [(.ref a)])) pre0 (by
      intro tt_ kk_
      refine XS.aloadN X0.here hx rfl (hb hby d1_0) rfl rfl ?_
      exact kk_)
    obtain ⟨cq42, kq42, q42a, q42b, q42c⟩ := isOf hZ e0 Ea
    obtain ⟨_, _, ⟨T42, L42, k42, n42⟩, -, X42, ⟨Lc42, hQ42, l42, y42, z42⟩, st42⟩ := X0.virtualBackUp hx (C := "com/example/uhrwerk/uhrwerk/model/Relation") (owner := "java/lang/Enum") (x := (⟨"com/example/uhrwerk/uhrwerk/model/Relation", "ordinal", "()I"⟩ : MethodName)) (y := (⟨"java/lang/Enum", "ordinal", "()I"⟩ : MethodName)) hown (mvT hZ (hw _ (List.mem_of_getElem? (i := 23) rfl))) (mvT hZ (hw _ (List.mem_of_getElem? (i := 24) rfl))) (mvT hZ (hw _ (List.mem_of_getElem? (i := 25) rfl))) (by decide) (mvT hZ (hw _ (List.mem_of_getElem? (i := 27) rfl))) (mvT hZ (hw _ (List.mem_of_getElem? (i := 26) rfl))) (backOf (W := 0) (rm_own_ord l Z a0 hw [] a (4 : Int32) h0 n0 Z0 Fa) hZ (hw _ (List.mem_of_getElem? (i := 29) rfl)) (hw _ (List.mem_of_getElem? (i := 28) rfl)) (by decide) (by decide)) q42a q42c (g := (mkF m 1 #[.val (.ref a), .val (.long lx), .second, .val (.long rx), .second] [(.ref a)])) rfl (by rw [hml]; rfl) (Steps.refl _) (argsL := []) (rest := []) (lenOf pd0 rfl) rfl (by show 2 * 0 + _ ≤ _; exact Nat.le_of_eq rfl) (hb hby d1_1) (fun _ _ => ⟨rfl, e0, (by decide : 0 + 0 ≤ _), (by decide : 0 + 0 ≤ _)⟩)
    dsimp only [Pt.U, Pt.locs, Pt.cells, Pt.slots] at X42 l42 y42 z42 st42 hQ42
    subst l42 y42 z42
    obtain ⟨rfl, N42q, e42⟩ := hQ42
    have N42 := Fr.app N0 N42q
    have P43 := own_step (C := T42.setTop (mkF m 4 #[.val (.ref a), .val (.long lx), .second, .val (.long rx), .second] [(.int (4 : Int32))])) P41 (fun t_ k_ => st42.trans k_)
    have P44 := own_step (C := T42.setTop (mkF m 110 #[.val (.ref a), .val (.long lx), .second, .val (.long rx), .second] [])) P43 (by
      intro tt_ kk_
      refine XS.tswIn X42.here hx rfl (pc0 := 4) (pc' := 110) rfl (hb hby d1_4) rfl (by decide) rfl (by decide) (by decide) ?_
      exact kk_)
    have P45 := own_step (C := T42.setTop (mkF m 113 #[.val (.ref a), .val (.long lx), .second, .val (.long rx), .second] [(.int (lcmpW lx rx))])) P44 (by
      intro tt_ kk_
      refine XS.lloadN X42.here hx rfl (hb hby d1_110) rfl ?_
      show Steps p.tables e below (T42.setTop (mkF m 111 #[.val (.ref a), .val (.long lx), .second, .val (.long rx), .second] [(.long lx)])) _
      refine XS.lloadN X42.here hx rfl (hb hby d1_111) rfl ?_
      show Steps p.tables e below (T42.setTop (mkF m 112 #[.val (.ref a), .val (.long lx), .second, .val (.long rx), .second] [(.long rx), (.long lx)])) _
      refine XS.lcmp X42.here hx rfl (hb hby d1_112) rfl ?_
      exact kk_)
    by_cases c46 : lx < rx
    · have P47 := own_step (C := T42.setTop (mkF m 120 #[.val (.ref a), .val (.long lx), .second, .val (.long rx), .second] [])) P45 (by
        intro tt_ kk_
        refine XS.ifYes X42.here hx rfl (pc0 := 113) (pc' := 120) rfl (hb hby d1_113) rfl ((if0 _ _).trans (tlt ((lw_lt _ _).mpr c46)).1) (by decide) (by decide) ?_
        exact kk_)
      have P48 := own_step (C := T42.setTop (mkF m 135 #[.val (.ref a), .val (.long lx), .second, .val (.long rx), .second] [(.int (0 : Int32))])) P47 (by
        intro tt_ kk_
        refine XS.iconst X42.here hx rfl (hb hby d1_120) ?_
        show Steps p.tables e below (T42.setTop (mkF m 121 #[.val (.ref a), .val (.long lx), .second, .val (.long rx), .second] [(.int (0 : Int32))])) _
        refine XS.goto X42.here hx rfl (pc0 := 121) (pc' := 135) rfl (hb hby d1_121) (by decide) (by decide) ?_
        exact kk_)
      obtain ⟨fs, hr, hrun, hended, hW, hsame⟩ := X42.leave (v := some (.int (0 : Int32))) (fun h => by rw [Bd.returns] at h; cases h)
      refine ⟨_, _, P48 _ ?_, hrun, hended, _, _, rfl, ?_, ⟨_, rfl⟩, hW, hsame.mono (by decide) (by decide)⟩
      · exact retN X42 hx (t := .boolean) Bd.returns (by simp) (hb hby d1_135) hr
      · show Q_test Z _ _ _ _ h0 n0 _ T42.heap _
        rw [e42]
        exact ⟨by simp +decide [own_test, c46], N42, rfl⟩
    · have P49 := own_step (C := T42.setTop (mkF m 116 #[.val (.ref a), .val (.long lx), .second, .val (.long rx), .second] [])) P45 (by
        intro tt_ kk_
        refine XS.ifNo X42.here hx rfl (hb hby d1_113) rfl ((if0 _ _).trans (flt (fun q => c46 ((lw_lt _ _).mp q))).1) ?_
        exact kk_)
      have P50 := own_step (C := T42.setTop (mkF m 135 #[.val (.ref a), .val (.long lx), .second, .val (.long rx), .second] [(.int (1 : Int32))])) P49 (by
        intro tt_ kk_
        refine XS.iconst X42.here hx rfl (hb hby d1_116) ?_
        show Steps p.tables e below (T42.setTop (mkF m 117 #[.val (.ref a), .val (.long lx), .second, .val (.long rx), .second] [(.int (1 : Int32))])) _
        refine XS.goto X42.here hx rfl (pc0 := 117) (pc' := 135) rfl (hb hby d1_117) (by decide) (by decide) ?_
        exact kk_)
      obtain ⟨fs, hr, hrun, hended, hW, hsame⟩ := X42.leave (v := some (.int (1 : Int32))) (fun h => by rw [Bd.returns] at h; cases h)
      refine ⟨_, _, P50 _ ?_, hrun, hended, _, _, rfl, ?_, ⟨_, rfl⟩, hW, hsame.mono (by decide) (by decide)⟩
      · exact retN X42 hx (t := .boolean) Bd.returns (by simp) (hb hby d1_135) hr
      · show Q_test Z _ _ _ _ h0 n0 _ T42.heap _
        rw [e42]
        exact ⟨by simp +decide [own_test, c46], N42, rfl⟩
  · have P51 := own_step (C := s₁.setTop (mkF m 1 #[.val (.ref a), .val (.long lx), .second, .val (.long rx), .second] [(.ref a)])) pre0 (by
      intro tt_ kk_
      refine XS.aloadN X0.here hx rfl (hb hby d1_0) rfl rfl ?_
      exact kk_)
    obtain ⟨cq52, kq52, q52a, q52b, q52c⟩ := isOf hZ e0 Ea
    obtain ⟨_, _, ⟨T52, L52, k52, n52⟩, -, X52, ⟨Lc52, hQ52, l52, y52, z52⟩, st52⟩ := X0.virtualBackUp hx (C := "com/example/uhrwerk/uhrwerk/model/Relation") (owner := "java/lang/Enum") (x := (⟨"com/example/uhrwerk/uhrwerk/model/Relation", "ordinal", "()I"⟩ : MethodName)) (y := (⟨"java/lang/Enum", "ordinal", "()I"⟩ : MethodName)) hown (mvT hZ (hw _ (List.mem_of_getElem? (i := 23) rfl))) (mvT hZ (hw _ (List.mem_of_getElem? (i := 24) rfl))) (mvT hZ (hw _ (List.mem_of_getElem? (i := 25) rfl))) (by decide) (mvT hZ (hw _ (List.mem_of_getElem? (i := 27) rfl))) (mvT hZ (hw _ (List.mem_of_getElem? (i := 26) rfl))) (backOf (W := 0) (rm_own_ord l Z a0 hw [] a (5 : Int32) h0 n0 Z0 Fa) hZ (hw _ (List.mem_of_getElem? (i := 29) rfl)) (hw _ (List.mem_of_getElem? (i := 28) rfl)) (by decide) (by decide)) q52a q52c (g := (mkF m 1 #[.val (.ref a), .val (.long lx), .second, .val (.long rx), .second] [(.ref a)])) rfl (by rw [hml]; rfl) (Steps.refl _) (argsL := []) (rest := []) (lenOf pd0 rfl) rfl (by show 2 * 0 + _ ≤ _; exact Nat.le_of_eq rfl) (hb hby d1_1) (fun _ _ => ⟨rfl, e0, (by decide : 0 + 0 ≤ _), (by decide : 0 + 0 ≤ _)⟩)
    dsimp only [Pt.U, Pt.locs, Pt.cells, Pt.slots] at X52 l52 y52 z52 st52 hQ52
    subst l52 y52 z52
    obtain ⟨rfl, N52q, e52⟩ := hQ52
    have N52 := Fr.app N0 N52q
    have P53 := own_step (C := T52.setTop (mkF m 4 #[.val (.ref a), .val (.long lx), .second, .val (.long rx), .second] [(.int (5 : Int32))])) P51 (fun t_ k_ => st52.trans k_)
    have P54 := own_step (C := T52.setTop (mkF m 124 #[.val (.ref a), .val (.long lx), .second, .val (.long rx), .second] [])) P53 (by
      intro tt_ kk_
      refine XS.tswIn X52.here hx rfl (pc0 := 4) (pc' := 124) rfl (hb hby d1_4) rfl (by decide) rfl (by decide) (by decide) ?_
      exact kk_)
    have P55 := own_step (C := T52.setTop (mkF m 127 #[.val (.ref a), .val (.long lx), .second, .val (.long rx), .second] [(.int (lcmpW lx rx))])) P54 (by
      intro tt_ kk_
      refine XS.lloadN X52.here hx rfl (hb hby d1_124) rfl ?_
      show Steps p.tables e below (T52.setTop (mkF m 125 #[.val (.ref a), .val (.long lx), .second, .val (.long rx), .second] [(.long lx)])) _
      refine XS.lloadN X52.here hx rfl (hb hby d1_125) rfl ?_
      show Steps p.tables e below (T52.setTop (mkF m 126 #[.val (.ref a), .val (.long lx), .second, .val (.long rx), .second] [(.long rx), (.long lx)])) _
      refine XS.lcmp X52.here hx rfl (hb hby d1_126) rfl ?_
      exact kk_)
    by_cases c56 : rx < lx
    · have P57 := own_step (C := T52.setTop (mkF m 130 #[.val (.ref a), .val (.long lx), .second, .val (.long rx), .second] [])) P55 (by
        intro tt_ kk_
        refine XS.ifNo X52.here hx rfl (hb hby d1_127) rfl ((if0 _ _).trans (tlt ((lw_gt _ _).mpr c56)).2.2.2) ?_
        exact kk_)
      have P58 := own_step (C := T52.setTop (mkF m 135 #[.val (.ref a), .val (.long lx), .second, .val (.long rx), .second] [(.int (1 : Int32))])) P57 (by
        intro tt_ kk_
        refine XS.iconst X52.here hx rfl (hb hby d1_130) ?_
        show Steps p.tables e below (T52.setTop (mkF m 131 #[.val (.ref a), .val (.long lx), .second, .val (.long rx), .second] [(.int (1 : Int32))])) _
        refine XS.goto X52.here hx rfl (pc0 := 131) (pc' := 135) rfl (hb hby d1_131) (by decide) (by decide) ?_
        exact kk_)
      obtain ⟨fs, hr, hrun, hended, hW, hsame⟩ := X52.leave (v := some (.int (1 : Int32))) (fun h => by rw [Bd.returns] at h; cases h)
      refine ⟨_, _, P58 _ ?_, hrun, hended, _, _, rfl, ?_, ⟨_, rfl⟩, hW, hsame.mono (by decide) (by decide)⟩
      · exact retN X52 hx (t := .boolean) Bd.returns (by simp) (hb hby d1_135) hr
      · show Q_test Z _ _ _ _ h0 n0 _ T52.heap _
        rw [e52]
        exact ⟨by simp +decide [own_test, c56], N52, rfl⟩
    · have P59 := own_step (C := T52.setTop (mkF m 134 #[.val (.ref a), .val (.long lx), .second, .val (.long rx), .second] [])) P55 (by
        intro tt_ kk_
        refine XS.ifYes X52.here hx rfl (pc0 := 127) (pc' := 134) rfl (hb hby d1_127) rfl ((if0 _ _).trans (flt (fun q => c56 ((lw_gt _ _).mp q))).2.2.2) (by decide) (by decide) ?_
        exact kk_)
      have P60 := own_step (C := T52.setTop (mkF m 135 #[.val (.ref a), .val (.long lx), .second, .val (.long rx), .second] [(.int (0 : Int32))])) P59 (by
        intro tt_ kk_
        refine XS.iconst X52.here hx rfl (hb hby d1_134) ?_
        exact kk_)
      obtain ⟨fs, hr, hrun, hended, hW, hsame⟩ := X52.leave (v := some (.int (0 : Int32))) (fun h => by rw [Bd.returns] at h; cases h)
      refine ⟨_, _, P60 _ ?_, hrun, hended, _, _, rfl, ?_, ⟨_, rfl⟩, hW, hsame.mono (by decide) (by decide)⟩
      · exact retN X52 hx (t := .boolean) Bd.returns (by simp) (hb hby d1_135) hr
      · show Q_test Z _ _ _ _ h0 n0 _ T52.heap _
        rw [e52]
        exact ⟨by simp +decide [own_test, c56], N52, rfl⟩
theorem own_six (k : Int32) : own_O ((k &&& (2147483647 : Int32)) % (6 : Int32)) := by
  have h1 := c_mask k 2147483647 31 (by decide) (by decide +kernel)
  have h2 := (c_irem (k &&& (2147483647 : Int32)) 6 6 rfl).1
  have h3 : 0 ≤ (k &&& (2147483647 : Int32)).toInt := by rw [h1]; omega
  have h4 := h2 h3
  generalize (k &&& (2147483647 : Int32)) % (6 : Int32) = i at *
  generalize (k &&& (2147483647 : Int32)).toInt = z at *
  unfold own_O
  simp only [← Int32.toInt_inj, show (0 : Int32).toInt = 0 from rfl, show (1 : Int32).toInt = 1 from rfl, show (2 : Int32).toInt = 2 from rfl, show (3 : Int32).toInt = 3 from rfl, show (4 : Int32).toInt = 4 from rfl, show (5 : Int32).toInt = 5 from rfl]
  omega

def own_ad (o : Int32) : Int32 := if o = (0 : Int32) then 1 else if o = (1 : Int32) then 3 else if o = (2 : Int32) then 2 else if o = (3 : Int32) then 5 else if o = (4 : Int32) then 6 else 4
theorem own_inb {o : Int32} (h : own_O o) : ¬ o < 0 ∧ o < (6 : Int32) := by unfold own_O at h; rcases h with rfl | rfl | rfl | rfl | rfl | rfl <;> decide
theorem own_u1 {o : Int32} {d : Value} (h : own_O o) : [(.int (1 : Int32)), (.int (3 : Int32)), (.int (2 : Int32)), (.int (5 : Int32)), (.int (6 : Int32)), (.int (4 : Int32))].getD o.toNatClampNeg d = Value.int (own_ad o) := by
  unfold own_O at h; rcases h with rfl | rfl | rfl | rfl | rfl | rfl <;> rfl
theorem own_u2 {o : Int32} {d : Value} {r0 r1 r2 r3 r4 r5 : Addr} (h : own_O o) : [(.ref r0), (.ref r1), (.ref r2), (.ref r3), (.ref r4), (.ref r5)].getD o.toNatClampNeg d = Value.ref (own_r o r0 r1 r2 r3 r4 r5) := by
  unfold own_O at h; rcases h with rfl | rfl | rfl | rfl | rfl | rfl <;> rfl
theorem own_fin {o oc ve : Int32} {l r : Int64} (h : own_O o) (h1 : (l < r ∧ oc = (1 : Int32)) ∨ (¬ (l < r) ∧ l = r ∧ oc = (2 : Int32)) ∨ (¬ (l < r) ∧ ¬ (l = r) ∧ oc = (4 : Int32))) (h2 : ((own_ad o &&& oc) = (0 : Int32) ∧ ve = (0 : Int32)) ∨ (¬ ((own_ad o &&& oc) = (0 : Int32)) ∧ ve = (1 : Int32))) : own_test o l r = ve := by
  have t := Int64.lt_iff_toInt_lt (x := l) (y := r); have t' := Int64.lt_iff_toInt_lt (x := r) (y := l); have te := @Int64.toInt_inj l r
  unfold own_O at h
  rcases h1 with ⟨q, rfl⟩ | ⟨q, q2, rfl⟩ | ⟨q, q2, rfl⟩
  · have n1 : ¬ r < l := by rw [t'] ; rw [t] at q; omega
    have n2 : ¬ l = r := by rw [← te]; rw [t] at q; omega
    rcases h with rfl | rfl | rfl | rfl | rfl | rfl <;> simp +decide [own_test, own_ad, q, n1, n2] at h2 ⊢ <;> exact h2.symm
  · have n1 : ¬ r < l := by rw [t']; rw [← te] at q2; omega
    rcases h with rfl | rfl | rfl | rfl | rfl | rfl <;> simp +decide [own_test, own_ad, q, n1, q2] at h2 ⊢ <;> exact h2.symm
  · have n1 : r < l := by rw [t']; rw [t] at q; rw [← te] at q2; omega
    rcases h with rfl | rfl | rfl | rfl | rfl | rfl <;> simp +decide [own_test, own_ad, q, n1, q2] at h2 ⊢ <;> exact h2.symm

theorem pd1 : parseMethodDescriptor "(JJ)Z" = some ⟨[.long, .long], some .boolean⟩ := by decide +kernel
theorem ef_0 (m : MethodId) (x0 : Int32) (x1 : Int64) (x2 : Int64) (x3 : Int32) : entryFrame m #[(.int x0), (.long x1), (.long x2), (.int x3)] maxLocals = mkF m 0 #[.val (.int x0), .val (.long x1), .second, .val (.long x2), .second, .val (.int x3), .unset, .unset, .unset, .unset, .unset, .unset, .unset, .unset] [] := by first | (simp [entryFrame, mkF, argsToLocals, Value.category, maxLocals]; done) | rfl
def Q0 (Z : State) (sel : Int32) (le : Int64) (ri : Int64) (mo : Int32) (r0 : Addr) (r1 : Addr) (r2 : Addr) (r3 : Addr) (r4 : Addr) (r5 : Addr) (h0 : Heap) (n0 : Nat) (v_ : Option Value) (h : Heap) (L_ : List Loc) : Prop := v_ = some (.int 1) ∧ Fr n0 L_
theorem pn2 : plainName "com/example/uhrwerk/uhrwerk/model/RelationTestPinLaw" = true := by first | (simp [plainName, overriddenIn]; done) | decide +kernel
set_option maxRecDepth 65536 in
set_option maxHeartbeats 40000000 in
theorem rm0 (l : Launch) (Z : State) (a0 : Array Value) (hw : ∀ d ∈ tables_1, d.before a0 Z = true) (ws : List Jvm.Cond) (sel : Int32) (le : Int64) (ri : Int64) (mo : Int32) (r0 : Addr) (r1 : Addr) (r2 : Addr) (r3 : Addr) (r4 : Addr) (r5 : Addr) (h0 : Heap) (n0 : Nat) (Z0 : n0 ≤ h0.size) (RS0 : Sta Z h0 "com/example/uhrwerk/uhrwerk/model/Relation" "LESS" "Lcom/example/uhrwerk/uhrwerk/model/Relation;" (.ref r0)) (RS1 : Sta Z h0 "com/example/uhrwerk/uhrwerk/model/Relation" "LESS_OR_EQUAL" "Lcom/example/uhrwerk/uhrwerk/model/Relation;" (.ref r1)) (RS2 : Sta Z h0 "com/example/uhrwerk/uhrwerk/model/Relation" "EQUAL" "Lcom/example/uhrwerk/uhrwerk/model/Relation;" (.ref r2)) (RS3 : Sta Z h0 "com/example/uhrwerk/uhrwerk/model/Relation" "NOT_EQUAL" "Lcom/example/uhrwerk/uhrwerk/model/Relation;" (.ref r3)) (RS4 : Sta Z h0 "com/example/uhrwerk/uhrwerk/model/Relation" "GREATER_OR_EQUAL" "Lcom/example/uhrwerk/uhrwerk/model/Relation;" (.ref r4)) (RS5 : Sta Z h0 "com/example/uhrwerk/uhrwerk/model/Relation" "GREATER" "Lcom/example/uhrwerk/uhrwerk/model/Relation;" (.ref r5)) (RE0 : Exa Z h0 r0 "com/example/uhrwerk/uhrwerk/model/Relation") (RE1 : Exa Z h0 r1 "com/example/uhrwerk/uhrwerk/model/Relation") (RE2 : Exa Z h0 r2 "com/example/uhrwerk/uhrwerk/model/Relation") (RE3 : Exa Z h0 r3 "com/example/uhrwerk/uhrwerk/model/Relation") (RE4 : Exa Z h0 r4 "com/example/uhrwerk/uhrwerk/model/Relation") (RE5 : Exa Z h0 r5 "com/example/uhrwerk/uhrwerk/model/Relation") (RF0 : Fld Z h0 r0 "java/lang/Enum" "ordinal" "I" (.int (0 : Int32))) (RF1 : Fld Z h0 r1 "java/lang/Enum" "ordinal" "I" (.int (1 : Int32))) (RF2 : Fld Z h0 r2 "java/lang/Enum" "ordinal" "I" (.int (2 : Int32))) (RF3 : Fld Z h0 r3 "java/lang/Enum" "ordinal" "I" (.int (3 : Int32))) (RF4 : Fld Z h0 r4 "java/lang/Enum" "ordinal" "I" (.int (4 : Int32))) (RF5 : Fld Z h0 r5 "java/lang/Enum" "ordinal" "I" (.int (5 : Int32))) :
    MetFree l x (head1 (Jvm.Cond.code x code maxLocals ret :: ws) room_1) (fun a_ U_ => a_ = #[(.int sel), (.long le), (.long ri), (.int mo)] ∧ Z.Warmed39 U_.vm ∧ U_.heap = h0) (fun _ _ _ _ _ => True) (fun _ U_ o_ V_ => ∃ v_ L_, o_ = .returned v_ ∧ Q0 Z sel le ri mo r0 r1 r2 r3 r4 r5 h0 n0 v_ V_.heap L_ ∧ FrameEnd U_ o_ V_ L_ room_1.cells room_1.slots) := by
  refine MetFree.of_bodySF (plainFor_of_name pn2) hisR ?_
  intro p e s m args below meth c s₁ Bd hml0 hP hK
  obtain ⟨rfl, hZ, hh⟩ := hP
  have hx := Bd.exec
  have hby := Bd.bytes
  have hml : c.maxLocals = 14 := hml0
  have hown : s.vm.findClass "com/example/uhrwerk/uhrwerk/model/RelationTestPinLaw" = some m.cls := findClass_of_methodNamed Bd.named
  have hnm := (name_of_methodNamed Bd.named Bd.method).1
  have X0 : Stand p l e room_1 s m #[(.int sel), (.long le), (.long ri), (.int mo)] below meth c s₁ [] 0 0 := Stand.of_body Bd
  have e0 : s₁.heap = h0 := by rw [← hh, Bd.state]; rfl
  have N0 := Fr.nil n0
  have pre0 : own_Go p e below (s₁.setTop (entryFrame m #[(.int sel), (.long le), (.long ri), (.int mo)] maxLocals)) (s₁.setTop (mkF m 0 #[.val (.int sel), .val (.long le), .second, .val (.long ri), .second, .val (.int mo), .unset, .unset, .unset, .unset, .unset, .unset, .unset, .unset] [])) := fun t_ k_ => castTop (ef_0 m sel le ri mo) k_
  have P1 := own_step (C := s₁.setTop (mkF m 2 #[.val (.int sel), .val (.long le), .second, .val (.long ri), .second, .val (.int mo), .unset, .unset, .unset, .unset, .unset, .unset, .unset, .unset] [(.int (6 : Int32))])) pre0 (by
    intro tt_ kk_
    refine XS.bipush X0.here hx rfl (hb hby at_0) ?_
    exact kk_)
  obtain ⟨T2, h2, k2, X2, e2, E2, A2, O2, st2⟩ := newR X0 hx hZ hown (hw _ (List.mem_of_getElem? (i := 0) rfl)) (hw _ (List.mem_of_getElem? (i := 1) rfl)) e0 (g := (mkF m 2 #[.val (.int sel), .val (.long le), .second, .val (.long ri), .second, .val (.int mo), .unset, .unset, .unset, .unset, .unset, .unset, .unset, .unset] [(.int (6 : Int32))])) rfl (hb hby at_2) rfl (by decide) (cap := 6) (by decide) (by decide) (by decide) (by decide)
  obtain ⟨b2, g2⟩ : ∃ z, z = h0.size := ⟨_, rfl⟩
  rw [← g2] at A2 st2
  have ne_r0_b2 : r0 ≠ b2 := Nat.ne_of_lt (Nat.lt_of_lt_of_le RE0.lt (Nat.le_of_eq g2.symm))
  have ne_r1_b2 : r1 ≠ b2 := Nat.ne_of_lt (Nat.lt_of_lt_of_le RE1.lt (Nat.le_of_eq g2.symm))
  have ne_r2_b2 : r2 ≠ b2 := Nat.ne_of_lt (Nat.lt_of_lt_of_le RE2.lt (Nat.le_of_eq g2.symm))
  have ne_r3_b2 : r3 ≠ b2 := Nat.ne_of_lt (Nat.lt_of_lt_of_le RE3.lt (Nat.le_of_eq g2.symm))
  have ne_r4_b2 : r4 ≠ b2 := Nat.ne_of_lt (Nat.lt_of_lt_of_le RE4.lt (Nat.le_of_eq g2.symm))
  have ne_r5_b2 : r5 ≠ b2 := Nat.ne_of_lt (Nat.lt_of_lt_of_le RE5.lt (Nat.le_of_eq g2.symm))
  have g_b2 : n0 ≤ b2 := Nat.le_trans Z0 (Nat.le_of_eq g2.symm)
  have f3 := RS0.ext E2
  have f4 := RE0.ext E2
  have f5 := RF0.ext E2
  have f6 := RS1.ext E2
  have f7 := RE1.ext E2
  have f8 := RF1.ext E2
  have f9 := RS2.ext E2
  have f10 := RE2.ext E2
  have f11 := RF2.ext E2
  have f12 := RS3.ext E2
  have f13 := RE3.ext E2
  have f14 := RF3.ext E2
  have f15 := RS4.ext E2
  have f16 := RE4.ext E2
  have f17 := RF4.ext E2
  have f18 := RS5.ext E2
  have f19 := RE5.ext E2
  have f20 := RF5.ext E2
  have Z21 : n0 ≤ h2.size := Nat.le_trans Z0 E2.1
  have V2 : Arv Z h2 b2 k2 (.object "com/example/uhrwerk/uhrwerk/model/Relation") (6 : Int32) [.null, .null, .null, .null, .null, .null] .null := (Arv.new A2 (by decide)).pad (pad_rep [] _ 6)
  have P22 := own_step (C := T2.setTop (mkF m 5 #[.val (.int sel), .val (.long le), .second, .val (.long ri), .second, .val (.int mo), .unset, .unset, .unset, .unset, .unset, .unset, .unset, .unset] [(.ref b2)])) P1 (fun t_ k_ => st2 t_ k_)
  have P23 := own_step (C := T2.setTop (mkF m 7 #[.val (.int sel), .val (.long le), .second, .val (.long ri), .second, .val (.int mo), .unset, .unset, .unset, .unset, .unset, .unset, .unset, .unset] [(.int (0 : Int32)), (.ref b2), (.ref b2)])) P22 (by
    intro tt_ kk_
    refine XS.dup X2.here hx rfl (hb hby at_5) rfl rfl ?_
    show Steps p.tables e below (T2.setTop (mkF m 6 #[.val (.int sel), .val (.long le), .second, .val (.long ri), .second, .val (.int mo), .unset, .unset, .unset, .unset, .unset, .unset, .unset, .unset] [(.ref b2), (.ref b2)])) _
    refine XS.iconst X2.here hx rfl (hb hby at_6) ?_
    exact kk_)
  obtain ⟨T24, X24, e24, st24⟩ := getS2 X2 hx hZ hown (host := "") (Or.inl (hw _ (List.mem_of_getElem? (i := 2) rfl))) Via.refl e2 f3 (g := (mkF m 7 #[.val (.int sel), .val (.long le), .second, .val (.long ri), .second, .val (.int mo), .unset, .unset, .unset, .unset, .unset, .unset, .unset, .unset] [(.int (0 : Int32)), (.ref b2), (.ref b2)])) rfl (hb hby at_7)
  have P25 := own_step (C := T24.setTop (mkF m 10 #[.val (.int sel), .val (.long le), .second, .val (.long ri), .second, .val (.int mo), .unset, .unset, .unset, .unset, .unset, .unset, .unset, .unset] [(.ref r0), (.int (0 : Int32)), (.ref b2), (.ref b2)])) P23 (fun t_ k_ => st24 t_ k_)
  obtain ⟨cl26, Ar26, q26, S26, M26, H26, G26⟩ := id V2
  obtain ⟨T27, h27, X27, e27, W27, st27⟩ := stR X24 hx hZ e24 Ar26 (j := (0 : Int32)) (inb_of S26 (by decide : ¬ (0 : Int32) < 0 ∧ (0 : Int32) < (6 : Int32))) rfl (Sto.ofV Ar26 q26 O2 (Ins.self f4)) (g := (mkF m 10 #[.val (.int sel), .val (.long le), .second, .val (.long ri), .second, .val (.int mo), .unset, .unset, .unset, .unset, .unset, .unset, .unset, .unset] [(.ref r0), (.int (0 : Int32)), (.ref b2), (.ref b2)])) rfl rfl (hb hby at_10)
  have f28 := f3.wr W27
  have f29 := f4.wr W27
  have f30 := f5.other W27 (Or.inl ne_r0_b2)
  have f31 := f6.wr W27
  have f32 := f7.wr W27
  have f33 := f8.other W27 (Or.inl ne_r1_b2)
  have f34 := f9.wr W27
  have f35 := f10.wr W27
  have f36 := f11.other W27 (Or.inl ne_r2_b2)
  have f37 := f12.wr W27
  have f38 := f13.wr W27
  have f39 := f14.other W27 (Or.inl ne_r3_b2)
  have f40 := f15.wr W27
  have f41 := f16.wr W27
  have f42 := f17.other W27 (Or.inl ne_r4_b2)
  have f43 := f18.wr W27
  have f44 := f19.wr W27
  have f45 := f20.other W27 (Or.inl ne_r5_b2)
  have Z47 : n0 ≤ h27.size := Nat.le_trans Z21 (Keep.of_wr W27).1
  have V27 : Arv Z h27 b2 k2 (.object "com/example/uhrwerk/uhrwerk/model/Relation") (6 : Int32) [(.ref r0), .null, .null, .null, .null, .null] .null := Arv.set Ar26 q26 S26 M26 H26 G26 rfl W27 0 rfl (Nat.le_of_ble_eq_true rfl)
  have N27 := Fr.snoc X27 N0 g_b2
  have P48 := own_step (C := T27.setTop (mkF m 11 #[.val (.int sel), .val (.long le), .second, .val (.long ri), .second, .val (.int mo), .unset, .unset, .unset, .unset, .unset, .unset, .unset, .unset] [(.ref b2)])) P25 (fun t_ k_ => st27 t_ k_)
  have P49 := own_step (C := T27.setTop (mkF m 13 #[.val (.int sel), .val (.long le), .second, .val (.long ri), .second, .val (.int mo), .unset, .unset, .unset, .unset, .unset, .unset, .unset, .unset] [(.int (1 : Int32)), (.ref b2), (.ref b2)])) P48 (by
    intro tt_ kk_
    refine XS.dup X27.here hx rfl (hb hby at_11) rfl rfl ?_
    show Steps p.tables e below (T27.setTop (mkF m 12 #[.val (.int sel), .val (.long le), .second, .val (.long ri), .second, .val (.int mo), .unset, .unset, .unset, .unset, .unset, .unset, .unset, .unset] [(.ref b2), (.ref b2)])) _
    refine XS.iconst X27.here hx rfl (hb hby at_12) ?_
    exact kk_)
  obtain ⟨T50, X50, e50, st50⟩ := getS2 X27 hx hZ hown (host := "") (Or.inl (hw _ (List.mem_of_getElem? (i := 6) rfl))) Via.refl e27 f31 (g := (mkF m 13 #[.val (.int sel), .val (.long le), .second, .val (.long ri), .second, .val (.int mo), .unset, .unset, .unset, .unset, .unset, .unset, .unset, .unset] [(.int (1 : Int32)), (.ref b2), (.ref b2)])) rfl (hb hby at_13)
  have P51 := own_step (C := T50.setTop (mkF m 16 #[.val (.int sel), .val (.long le), .second, .val (.long ri), .second, .val (.int mo), .unset, .unset, .unset, .unset, .unset, .unset, .unset, .unset] [(.ref r1), (.int (1 : Int32)), (.ref b2), (.ref b2)])) P49 (fun t_ k_ => st50 t_ k_)
  obtain ⟨cl52, Ar52, q52, S52, M52, H52, G52⟩ := id V27
  obtain ⟨T53, h53, X53, e53, W53, st53⟩ := stR X50 hx hZ e50 Ar52 (j := (1 : Int32)) (inb_of S52 (by decide : ¬ (1 : Int32) < 0 ∧ (1 : Int32) < (6 : Int32))) rfl (Sto.ofV Ar52 q52 O2 (Ins.self f32)) (g := (mkF m 16 #[.val (.int sel), .val (.long le), .second, .val (.long ri), .second, .val (.int mo), .unset, .unset, .unset, .unset, .unset, .unset, .unset, .unset] [(.ref r1), (.int (1 : Int32)), (.ref b2), (.ref b2)])) rfl rfl (hb hby at_16)
  have f54 := f28.wr W53
  have f55 := f29.wr W53
  have f56 := f30.other W53 (Or.inl ne_r0_b2)
  have f57 := f31.wr W53
  have f58 := f32.wr W53
  have f59 := f33.other W53 (Or.inl ne_r1_b2)
  have f60 := f34.wr W53
  have f61 := f35.wr W53
  have f62 := f36.other W53 (Or.inl ne_r2_b2)
  have f63 := f37.wr W53
  have f64 := f38.wr W53
  have f65 := f39.other W53 (Or.inl ne_r3_b2)
  have f66 := f40.wr W53
  have f67 := f41.wr W53
  have f68 := f42.other W53 (Or.inl ne_r4_b2)
  have f69 := f43.wr W53
  have f70 := f44.wr W53
  have f71 := f45.other W53 (Or.inl ne_r5_b2)
  have Z73 : n0 ≤ h53.size := Nat.le_trans Z47 (Keep.of_wr W53).1
  have V53 : Arv Z h53 b2 k2 (.object "com/example/uhrwerk/uhrwerk/model/Relation") (6 : Int32) [(.ref r0), (.ref r1), .null, .null, .null, .null] .null := Arv.set Ar52 q52 S52 M52 H52 G52 rfl W53 1 rfl (Nat.le_of_ble_eq_true rfl)
  have N53 := Fr.snoc X53 N27 g_b2
  have P74 := own_step (C := T53.setTop (mkF m 17 #[.val (.int sel), .val (.long le), .second, .val (.long ri), .second, .val (.int mo), .unset, .unset, .unset, .unset, .unset, .unset, .unset, .unset] [(.ref b2)])) P51 (fun t_ k_ => st53 t_ k_)
  have P75 := own_step (C := T53.setTop (mkF m 19 #[.val (.int sel), .val (.long le), .second, .val (.long ri), .second, .val (.int mo), .unset, .unset, .unset, .unset, .unset, .unset, .unset, .unset] [(.int (2 : Int32)), (.ref b2), (.ref b2)])) P74 (by
    intro tt_ kk_
    refine XS.dup X53.here hx rfl (hb hby at_17) rfl rfl ?_
    show Steps p.tables e below (T53.setTop (mkF m 18 #[.val (.int sel), .val (.long le), .second, .val (.long ri), .second, .val (.int mo), .unset, .unset, .unset, .unset, .unset, .unset, .unset, .unset] [(.ref b2), (.ref b2)])) _
    refine XS.iconst X53.here hx rfl (hb hby at_18) ?_
    exact kk_)
  obtain ⟨T76, X76, e76, st76⟩ := getS2 X53 hx hZ hown (host := "") (Or.inl (hw _ (List.mem_of_getElem? (i := 8) rfl))) Via.refl e53 f60 (g := (mkF m 19 #[.val (.int sel), .val (.long le), .second, .val (.long ri), .second, .val (.int mo), .unset, .unset, .unset, .unset, .unset, .unset, .unset, .unset] [(.int (2 : Int32)), (.ref b2), (.ref b2)])) rfl (hb hby at_19)
  have P77 := own_step (C := T76.setTop (mkF m 22 #[.val (.int sel), .val (.long le), .second, .val (.long ri), .second, .val (.int mo), .unset, .unset, .unset, .unset, .unset, .unset, .unset, .unset] [(.ref r2), (.int (2 : Int32)), (.ref b2), (.ref b2)])) P75 (fun t_ k_ => st76 t_ k_)
  obtain ⟨cl78, Ar78, q78, S78, M78, H78, G78⟩ := id V53
  obtain ⟨T79, h79, X79, e79, W79, st79⟩ := stR X76 hx hZ e76 Ar78 (j := (2 : Int32)) (inb_of S78 (by decide : ¬ (2 : Int32) < 0 ∧ (2 : Int32) < (6 : Int32))) rfl (Sto.ofV Ar78 q78 O2 (Ins.self f61)) (g := (mkF m 22 #[.val (.int sel), .val (.long le), .second, .val (.long ri), .second, .val (.int mo), .unset, .unset, .unset, .unset, .unset, .unset, .unset, .unset] [(.ref r2), (.int (2 : Int32)), (.ref b2), (.ref b2)])) rfl rfl (hb hby at_22)
  have f80 := f54.wr W79
  have f81 := f55.wr W79
  have f82 := f56.other W79 (Or.inl ne_r0_b2)
  have f83 := f57.wr W79
  have f84 := f58.wr W79
  have f85 := f59.other W79 (Or.inl ne_r1_b2)
  have f86 := f60.wr W79
  have f87 := f61.wr W79
  have f88 := f62.other W79 (Or.inl ne_r2_b2)
  have f89 := f63.wr W79
  have f90 := f64.wr W79
  have f91 := f65.other W79 (Or.inl ne_r3_b2)
  have f92 := f66.wr W79
  have f93 := f67.wr W79
  have f94 := f68.other W79 (Or.inl ne_r4_b2)
  have f95 := f69.wr W79
  have f96 := f70.wr W79
  have f97 := f71.other W79 (Or.inl ne_r5_b2)
  have Z99 : n0 ≤ h79.size := Nat.le_trans Z73 (Keep.of_wr W79).1
  have V79 : Arv Z h79 b2 k2 (.object "com/example/uhrwerk/uhrwerk/model/Relation") (6 : Int32) [(.ref r0), (.ref r1), (.ref r2), .null, .null, .null] .null := Arv.set Ar78 q78 S78 M78 H78 G78 rfl W79 2 rfl (Nat.le_of_ble_eq_true rfl)
  have N79 := Fr.snoc X79 N53 g_b2
  have P100 := own_step (C := T79.setTop (mkF m 23 #[.val (.int sel), .val (.long le), .second, .val (.long ri), .second, .val (.int mo), .unset, .unset, .unset, .unset, .unset, .unset, .unset, .unset] [(.ref b2)])) P77 (fun t_ k_ => st79 t_ k_)
  have P101 := own_step (C := T79.setTop (mkF m 25 #[.val (.int sel), .val (.long le), .second, .val (.long ri), .second, .val (.int mo), .unset, .unset, .unset, .unset, .unset, .unset, .unset, .unset] [(.int (3 : Int32)), (.ref b2), (.ref b2)])) P100 (by
    intro tt_ kk_
    refine XS.dup X79.here hx rfl (hb hby at_23) rfl rfl ?_
    show Steps p.tables e below (T79.setTop (mkF m 24 #[.val (.int sel), .val (.long le), .second, .val (.long ri), .second, .val (.int mo), .unset, .unset, .unset, .unset, .unset, .unset, .unset, .unset] [(.ref b2), (.ref b2)])) _
    refine XS.iconst X79.here hx rfl (hb hby at_24) ?_
    exact kk_)
  obtain ⟨T102, X102, e102, st102⟩ := getS2 X79 hx hZ hown (host := "") (Or.inl (hw _ (List.mem_of_getElem? (i := 10) rfl))) Via.refl e79 f89 (g := (mkF m 25 #[.val (.int sel), .val (.long le), .second, .val (.long ri), .second, .val (.int mo), .unset, .unset, .unset, .unset, .unset, .unset, .unset, .unset] [(.int (3 : Int32)), (.ref b2), (.ref b2)])) rfl (hb hby at_25)
  have P103 := own_step (C := T102.setTop (mkF m 28 #[.val (.int sel), .val (.long le), .second, .val (.long ri), .second, .val (.int mo), .unset, .unset, .unset, .unset, .unset, .unset, .unset, .unset] [(.ref r3), (.int (3 : Int32)), (.ref b2), (.ref b2)])) P101 (fun t_ k_ => st102 t_ k_)
  obtain ⟨cl104, Ar104, q104, S104, M104, H104, G104⟩ := id V79
  obtain ⟨T105, h105, X105, e105, W105, st105⟩ := stR X102 hx hZ e102 Ar104 (j := (3 : Int32)) (inb_of S104 (by decide : ¬ (3 : Int32) < 0 ∧ (3 : Int32) < (6 : Int32))) rfl (Sto.ofV Ar104 q104 O2 (Ins.self f90)) (g := (mkF m 28 #[.val (.int sel), .val (.long le), .second, .val (.long ri), .second, .val (.int mo), .unset, .unset, .unset, .unset, .unset, .unset, .unset, .unset] [(.ref r3), (.int (3 : Int32)), (.ref b2), (.ref b2)])) rfl rfl (hb hby at_28)
  have f106 := f80.wr W105
  have f107 := f81.wr W105
  have f108 := f82.other W105 (Or.inl ne_r0_b2)
  have f109 := f83.wr W105
  have f110 := f84.wr W105
  have f111 := f85.other W105 (Or.inl ne_r1_b2)
  have f112 := f86.wr W105
  have f113 := f87.wr W105
  have f114 := f88.other W105 (Or.inl ne_r2_b2)
  have f115 := f89.wr W105
  have f116 := f90.wr W105
  have f117 := f91.other W105 (Or.inl ne_r3_b2)
  have f118 := f92.wr W105
  have f119 := f93.wr W105
  have f120 := f94.other W105 (Or.inl ne_r4_b2)
  have f121 := f95.wr W105
  have f122 := f96.wr W105
  have f123 := f97.other W105 (Or.inl ne_r5_b2)
  have Z125 : n0 ≤ h105.size := Nat.le_trans Z99 (Keep.of_wr W105).1
  have V105 : Arv Z h105 b2 k2 (.object "com/example/uhrwerk/uhrwerk/model/Relation") (6 : Int32) [(.ref r0), (.ref r1), (.ref r2), (.ref r3), .null, .null] .null := Arv.set Ar104 q104 S104 M104 H104 G104 rfl W105 3 rfl (Nat.le_of_ble_eq_true rfl)
  have N105 := Fr.snoc X105 N79 g_b2
  have P126 := own_step (C := T105.setTop (mkF m 29 #[.val (.int sel), .val (.long le), .second, .val (.long ri), .second, .val (.int mo), .unset, .unset, .unset, .unset, .unset, .unset, .unset, .unset] [(.ref b2)])) P103 (fun t_ k_ => st105 t_ k_)
  have P127 := own_step (C := T105.setTop (mkF m 31 #[.val (.int sel), .val (.long le), .second, .val (.long ri), .second, .val (.int mo), .unset, .unset, .unset, .unset, .unset, .unset, .unset, .unset] [(.int (4 : Int32)), (.ref b2), (.ref b2)])) P126 (by
    intro tt_ kk_
    refine XS.dup X105.here hx rfl (hb hby at_29) rfl rfl ?_
    show Steps p.tables e below (T105.setTop (mkF m 30 #[.val (.int sel), .val (.long le), .second, .val (.long ri), .second, .val (.int mo), .unset, .unset, .unset, .unset, .unset, .unset, .unset, .unset] [(.ref b2), (.ref b2)])) _
    refine XS.iconst X105.here hx rfl (hb hby at_30) ?_
    exact kk_)
  obtain ⟨T128, X128, e128, st128⟩ := getS2 X105 hx hZ hown (host := "") (Or.inl (hw _ (List.mem_of_getElem? (i := 12) rfl))) Via.refl e105 f118 (g := (mkF m 31 #[.val (.int sel), .val (.long le), .second, .val (.long ri), .second, .val (.int mo), .unset, .unset, .unset, .unset, .unset, .unset, .unset, .unset] [(.int (4 : Int32)), (.ref b2), (.ref b2)])) rfl (hb hby at_31)
  have P129 := own_step (C := T128.setTop (mkF m 34 #[.val (.int sel), .val (.long le), .second, .val (.long ri), .second, .val (.int mo), .unset, .unset, .unset, .unset, .unset, .unset, .unset, .unset] [(.ref r4), (.int (4 : Int32)), (.ref b2), (.ref b2)])) P127 (fun t_ k_ => st128 t_ k_)
  obtain ⟨cl130, Ar130, q130, S130, M130, H130, G130⟩ := id V105
  obtain ⟨T131, h131, X131, e131, W131, st131⟩ := stR X128 hx hZ e128 Ar130 (j := (4 : Int32)) (inb_of S130 (by decide : ¬ (4 : Int32) < 0 ∧ (4 : Int32) < (6 : Int32))) rfl (Sto.ofV Ar130 q130 O2 (Ins.self f119)) (g := (mkF m 34 #[.val (.int sel), .val (.long le), .second, .val (.long ri), .second, .val (.int mo), .unset, .unset, .unset, .unset, .unset, .unset, .unset, .unset] [(.ref r4), (.int (4 : Int32)), (.ref b2), (.ref b2)])) rfl rfl (hb hby at_34)
  have f132 := f106.wr W131
  have f133 := f107.wr W131
  have f134 := f108.other W131 (Or.inl ne_r0_b2)
  have f135 := f109.wr W131
  have f136 := f110.wr W131
  have f137 := f111.other W131 (Or.inl ne_r1_b2)
  have f138 := f112.wr W131
  have f139 := f113.wr W131
  have f140 := f114.other W131 (Or.inl ne_r2_b2)
  have f141 := f115.wr W131
  have f142 := f116.wr W131
  have f143 := f117.other W131 (Or.inl ne_r3_b2)
  have f144 := f118.wr W131
  have f145 := f119.wr W131
  have f146 := f120.other W131 (Or.inl ne_r4_b2)
  have f147 := f121.wr W131
  have f148 := f122.wr W131
  have f149 := f123.other W131 (Or.inl ne_r5_b2)
  have Z151 : n0 ≤ h131.size := Nat.le_trans Z125 (Keep.of_wr W131).1
  have V131 : Arv Z h131 b2 k2 (.object "com/example/uhrwerk/uhrwerk/model/Relation") (6 : Int32) [(.ref r0), (.ref r1), (.ref r2), (.ref r3), (.ref r4), .null] .null := Arv.set Ar130 q130 S130 M130 H130 G130 rfl W131 4 rfl (Nat.le_of_ble_eq_true rfl)
  have N131 := Fr.snoc X131 N105 g_b2
  have P152 := own_step (C := T131.setTop (mkF m 35 #[.val (.int sel), .val (.long le), .second, .val (.long ri), .second, .val (.int mo), .unset, .unset, .unset, .unset, .unset, .unset, .unset, .unset] [(.ref b2)])) P129 (fun t_ k_ => st131 t_ k_)
  have P153 := own_step (C := T131.setTop (mkF m 37 #[.val (.int sel), .val (.long le), .second, .val (.long ri), .second, .val (.int mo), .unset, .unset, .unset, .unset, .unset, .unset, .unset, .unset] [(.int (5 : Int32)), (.ref b2), (.ref b2)])) P152 (by
    intro tt_ kk_
    refine XS.dup X131.here hx rfl (hb hby at_35) rfl rfl ?_
    show Steps p.tables e below (T131.setTop (mkF m 36 #[.val (.int sel), .val (.long le), .second, .val (.long ri), .second, .val (.int mo), .unset, .unset, .unset, .unset, .unset, .unset, .unset, .unset] [(.ref b2), (.ref b2)])) _
    refine XS.iconst X131.here hx rfl (hb hby at_36) ?_
    exact kk_)
  obtain ⟨T154, X154, e154, st154⟩ := getS2 X131 hx hZ hown (host := "") (Or.inl (hw _ (List.mem_of_getElem? (i := 14) rfl))) Via.refl e131 f147 (g := (mkF m 37 #[.val (.int sel), .val (.long le), .second, .val (.long ri), .second, .val (.int mo), .unset, .unset, .unset, .unset, .unset, .unset, .unset, .unset] [(.int (5 : Int32)), (.ref b2), (.ref b2)])) rfl (hb hby at_37)
  have P155 := own_step (C := T154.setTop (mkF m 40 #[.val (.int sel), .val (.long le), .second, .val (.long ri), .second, .val (.int mo), .unset, .unset, .unset, .unset, .unset, .unset, .unset, .unset] [(.ref r5), (.int (5 : Int32)), (.ref b2), (.ref b2)])) P153 (fun t_ k_ => st154 t_ k_)
  obtain ⟨cl156, Ar156, q156, S156, M156, H156, G156⟩ := id V131
  obtain ⟨T157, h157, X157, e157, W157, st157⟩ := stR X154 hx hZ e154 Ar156 (j := (5 : Int32)) (inb_of S156 (by decide : ¬ (5 : Int32) < 0 ∧ (5 : Int32) < (6 : Int32))) rfl (Sto.ofV Ar156 q156 O2 (Ins.self f148)) (g := (mkF m 40 #[.val (.int sel), .val (.long le), .second, .val (.long ri), .second, .val (.int mo), .unset, .unset, .unset, .unset, .unset, .unset, .unset, .unset] [(.ref r5), (.int (5 : Int32)), (.ref b2), (.ref b2)])) rfl rfl (hb hby at_40)
  have f158 := f132.wr W157
  have f159 := f133.wr W157
  have f160 := f134.other W157 (Or.inl ne_r0_b2)
  have f161 := f135.wr W157
  have f162 := f136.wr W157
  have f163 := f137.other W157 (Or.inl ne_r1_b2)
  have f164 := f138.wr W157
  have f165 := f139.wr W157
  have f166 := f140.other W157 (Or.inl ne_r2_b2)
  have f167 := f141.wr W157
  have f168 := f142.wr W157
  have f169 := f143.other W157 (Or.inl ne_r3_b2)
  have f170 := f144.wr W157
  have f171 := f145.wr W157
  have f172 := f146.other W157 (Or.inl ne_r4_b2)
  have f173 := f147.wr W157
  have f174 := f148.wr W157
  have f175 := f149.other W157 (Or.inl ne_r5_b2)
  have Z177 : n0 ≤ h157.size := Nat.le_trans Z151 (Keep.of_wr W157).1
  have V157 : Arv Z h157 b2 k2 (.object "com/example/uhrwerk/uhrwerk/model/Relation") (6 : Int32) [(.ref r0), (.ref r1), (.ref r2), (.ref r3), (.ref r4), (.ref r5)] .null := Arv.set Ar156 q156 S156 M156 H156 G156 rfl W157 5 rfl (Nat.le_of_ble_eq_true rfl)
  have N157 := Fr.snoc X157 N131 g_b2
  have P178 := own_step (C := T157.setTop (mkF m 41 #[.val (.int sel), .val (.long le), .second, .val (.long ri), .second, .val (.int mo), .unset, .unset, .unset, .unset, .unset, .unset, .unset, .unset] [(.ref b2)])) P155 (fun t_ k_ => st157 t_ k_)
  have P179 := own_step (C := T157.setTop (mkF m 45 #[.val (.int sel), .val (.long le), .second, .val (.long ri), .second, .val (.int mo), .val (.ref b2), .unset, .unset, .unset, .unset, .unset, .unset, .unset] [(.int (6 : Int32))])) P178 (by
    intro tt_ kk_
    refine XS.astore X157.here hx rfl (hb hby at_41) rfl rfl (l' := #[.val (.int sel), .val (.long le), .second, .val (.long ri), .second, .val (.int mo), .val (.ref b2), .unset, .unset, .unset, .unset, .unset, .unset, .unset]) rfl ?_
    show Steps p.tables e below (T157.setTop (mkF m 43 #[.val (.int sel), .val (.long le), .second, .val (.long ri), .second, .val (.int mo), .val (.ref b2), .unset, .unset, .unset, .unset, .unset, .unset, .unset] [])) _
    refine XS.bipush X157.here hx rfl (hb hby at_43) ?_
    exact kk_)
  obtain ⟨T180, h180, k180, X180, e180, E180, A180, st180⟩ := newP X157 hx hZ (hw _ (List.mem_of_getElem? (i := 16) rfl)) e157 (g := (mkF m 45 #[.val (.int sel), .val (.long le), .second, .val (.long ri), .second, .val (.int mo), .val (.ref b2), .unset, .unset, .unset, .unset, .unset, .unset, .unset] [(.int (6 : Int32))])) rfl (hb hby at_45) rfl (by decide) (cap := 6) (by decide) (by decide) (by decide) (by decide)
  obtain ⟨b180, g180⟩ : ∃ z, z = h157.size := ⟨_, rfl⟩
  rw [← g180] at A180 st180
  have ne_r0_b180 : r0 ≠ b180 := Nat.ne_of_lt (Nat.lt_of_lt_of_le f159.lt (Nat.le_of_eq g180.symm))
  have ne_r1_b180 : r1 ≠ b180 := Nat.ne_of_lt (Nat.lt_of_lt_of_le f162.lt (Nat.le_of_eq g180.symm))
  have ne_r2_b180 : r2 ≠ b180 := Nat.ne_of_lt (Nat.lt_of_lt_of_le f165.lt (Nat.le_of_eq g180.symm))
  have ne_r3_b180 : r3 ≠ b180 := Nat.ne_of_lt (Nat.lt_of_lt_of_le f168.lt (Nat.le_of_eq g180.symm))
  have ne_r4_b180 : r4 ≠ b180 := Nat.ne_of_lt (Nat.lt_of_lt_of_le f171.lt (Nat.le_of_eq g180.symm))
  have ne_r5_b180 : r5 ≠ b180 := Nat.ne_of_lt (Nat.lt_of_lt_of_le f174.lt (Nat.le_of_eq g180.symm))
  have ne_b2_b180 : b2 ≠ b180 := Nat.ne_of_lt (Nat.lt_of_lt_of_le V157.lt (Nat.le_of_eq g180.symm))
  have g_b180 : n0 ≤ b180 := Nat.le_trans Z177 (Nat.le_of_eq g180.symm)
  have f181 := f158.ext E180
  have f182 := f159.ext E180
  have f183 := f160.ext E180
  have f184 := f161.ext E180
  have f185 := f162.ext E180
  have f186 := f163.ext E180
  have f187 := f164.ext E180
  have f188 := f165.ext E180
  have f189 := f166.ext E180
  have f190 := f167.ext E180
  have f191 := f168.ext E180
  have f192 := f169.ext E180
  have f193 := f170.ext E180
  have f194 := f171.ext E180
  have f195 := f172.ext E180
  have f196 := f173.ext E180
  have f197 := f174.ext E180
  have f198 := f175.ext E180
  have f199 := V157.ext E180
  have Z200 : n0 ≤ h180.size := Nat.le_trans Z177 E180.1
  have V180 : Arv Z h180 b180 k180 .int (6 : Int32) [(.int (0 : Int32)), (.int (0 : Int32)), (.int (0 : Int32)), (.int (0 : Int32)), (.int (0 : Int32)), (.int (0 : Int32))] (.int (0 : Int32)) := (Arv.new A180 (by decide)).pad (pad_rep [] _ 6)
  have P201 := own_step (C := T180.setTop (mkF m 47 #[.val (.int sel), .val (.long le), .second, .val (.long ri), .second, .val (.int mo), .val (.ref b2), .unset, .unset, .unset, .unset, .unset, .unset, .unset] [(.ref b180)])) P179 (fun t_ k_ => st180 t_ k_)
  have P202 := own_step (C := T180.setTop (mkF m 50 #[.val (.int sel), .val (.long le), .second, .val (.long ri), .second, .val (.int mo), .val (.ref b2), .unset, .unset, .unset, .unset, .unset, .unset, .unset] [(.int (1 : Int32)), (.int (0 : Int32)), (.ref b180), (.ref b180)])) P201 (by
    intro tt_ kk_
    refine XS.dup X180.here hx rfl (hb hby at_47) rfl rfl ?_
    show Steps p.tables e below (T180.setTop (mkF m 48 #[.val (.int sel), .val (.long le), .second, .val (.long ri), .second, .val (.int mo), .val (.ref b2), .unset, .unset, .unset, .unset, .unset, .unset, .unset] [(.ref b180), (.ref b180)])) _
    refine XS.iconst X180.here hx rfl (hb hby at_48) ?_
    show Steps p.tables e below (T180.setTop (mkF m 49 #[.val (.int sel), .val (.long le), .second, .val (.long ri), .second, .val (.int mo), .val (.ref b2), .unset, .unset, .unset, .unset, .unset, .unset, .unset] [(.int (0 : Int32)), (.ref b180), (.ref b180)])) _
    refine XS.iconst X180.here hx rfl (hb hby at_49) ?_
    exact kk_)
  obtain ⟨cl203, Ar203, q203, S203, M203, H203, G203⟩ := id V180
  obtain ⟨T204, h204, X204, e204, W204, st204⟩ := stI X180 hx hZ e180 Ar203 (j := (0 : Int32)) (inb_of S203 (by decide : ¬ (0 : Int32) < 0 ∧ (0 : Int32) < (6 : Int32))) (g := (mkF m 50 #[.val (.int sel), .val (.long le), .second, .val (.long ri), .second, .val (.int mo), .val (.ref b2), .unset, .unset, .unset, .unset, .unset, .unset, .unset] [(.int (1 : Int32)), (.int (0 : Int32)), (.ref b180), (.ref b180)])) rfl rfl (hb hby at_50)
  have f205 := f181.wr W204
  have f206 := f182.wr W204
  have f207 := f183.other W204 (Or.inl ne_r0_b180)
  have f208 := f184.wr W204
  have f209 := f185.wr W204
  have f210 := f186.other W204 (Or.inl ne_r1_b180)
  have f211 := f187.wr W204
  have f212 := f188.wr W204
  have f213 := f189.other W204 (Or.inl ne_r2_b180)
  have f214 := f190.wr W204
  have f215 := f191.wr W204
  have f216 := f192.other W204 (Or.inl ne_r3_b180)
  have f217 := f193.wr W204
  have f218 := f194.wr W204
  have f219 := f195.other W204 (Or.inl ne_r4_b180)
  have f220 := f196.wr W204
  have f221 := f197.wr W204
  have f222 := f198.other W204 (Or.inl ne_r5_b180)
  have f223 := f199.other W204 ne_b2_b180
  have Z225 : n0 ≤ h204.size := Nat.le_trans Z200 (Keep.of_wr W204).1
  have V204 : Arv Z h204 b180 k180 .int (6 : Int32) [(.int (1 : Int32)), (.int (0 : Int32)), (.int (0 : Int32)), (.int (0 : Int32)), (.int (0 : Int32)), (.int (0 : Int32))] (.int (0 : Int32)) := Arv.set Ar203 q203 S203 M203 H203 G203 rfl W204 0 rfl (Nat.le_of_ble_eq_true rfl)
  have N204 := Fr.snoc X204 N157 g_b180
  have P226 := own_step (C := T204.setTop (mkF m 51 #[.val (.int sel), .val (.long le), .second, .val (.long ri), .second, .val (.int mo), .val (.ref b2), .unset, .unset, .unset, .unset, .unset, .unset, .unset] [(.ref b180)])) P202 (fun t_ k_ => st204 t_ k_)
  have P227 := own_step (C := T204.setTop (mkF m 54 #[.val (.int sel), .val (.long le), .second, .val (.long ri), .second, .val (.int mo), .val (.ref b2), .unset, .unset, .unset, .unset, .unset, .unset, .unset] [(.int (3 : Int32)), (.int (1 : Int32)), (.ref b180), (.ref b180)])) P226 (by
    intro tt_ kk_
    refine XS.dup X204.here hx rfl (hb hby at_51) rfl rfl ?_
    show Steps p.tables e below (T204.setTop (mkF m 52 #[.val (.int sel), .val (.long le), .second, .val (.long ri), .second, .val (.int mo), .val (.ref b2), .unset, .unset, .unset, .unset, .unset, .unset, .unset] [(.ref b180), (.ref b180)])) _
    refine XS.iconst X204.here hx rfl (hb hby at_52) ?_
    show Steps p.tables e below (T204.setTop (mkF m 53 #[.val (.int sel), .val (.long le), .second, .val (.long ri), .second, .val (.int mo), .val (.ref b2), .unset, .unset, .unset, .unset, .unset, .unset, .unset] [(.int (1 : Int32)), (.ref b180), (.ref b180)])) _
    refine XS.iconst X204.here hx rfl (hb hby at_53) ?_
    exact kk_)
  obtain ⟨cl228, Ar228, q228, S228, M228, H228, G228⟩ := id V204
  obtain ⟨T229, h229, X229, e229, W229, st229⟩ := stI X204 hx hZ e204 Ar228 (j := (1 : Int32)) (inb_of S228 (by decide : ¬ (1 : Int32) < 0 ∧ (1 : Int32) < (6 : Int32))) (g := (mkF m 54 #[.val (.int sel), .val (.long le), .second, .val (.long ri), .second, .val (.int mo), .val (.ref b2), .unset, .unset, .unset, .unset, .unset, .unset, .unset] [(.int (3 : Int32)), (.int (1 : Int32)), (.ref b180), (.ref b180)])) rfl rfl (hb hby at_54)
  have f230 := f205.wr W229
  have f231 := f206.wr W229
  have f232 := f207.other W229 (Or.inl ne_r0_b180)
  have f233 := f208.wr W229
  have f234 := f209.wr W229
  have f235 := f210.other W229 (Or.inl ne_r1_b180)
  have f236 := f211.wr W229
  have f237 := f212.wr W229
  have f238 := f213.other W229 (Or.inl ne_r2_b180)
  have f239 := f214.wr W229
  have f240 := f215.wr W229
  have f241 := f216.other W229 (Or.inl ne_r3_b180)
  have f242 := f217.wr W229
  have f243 := f218.wr W229
  have f244 := f219.other W229 (Or.inl ne_r4_b180)
  have f245 := f220.wr W229
  have f246 := f221.wr W229
  have f247 := f222.other W229 (Or.inl ne_r5_b180)
  have f248 := f223.other W229 ne_b2_b180
  have Z250 : n0 ≤ h229.size := Nat.le_trans Z225 (Keep.of_wr W229).1
  have V229 : Arv Z h229 b180 k180 .int (6 : Int32) [(.int (1 : Int32)), (.int (3 : Int32)), (.int (0 : Int32)), (.int (0 : Int32)), (.int (0 : Int32)), (.int (0 : Int32))] (.int (0 : Int32)) := Arv.set Ar228 q228 S228 M228 H228 G228 rfl W229 1 rfl (Nat.le_of_ble_eq_true rfl)
  have N229 := Fr.snoc X229 N204 g_b180
  have P251 := own_step (C := T229.setTop (mkF m 55 #[.val (.int sel), .val (.long le), .second, .val (.long ri), .second, .val (.int mo), .val (.ref b2), .unset, .unset, .unset, .unset, .unset, .unset, .unset] [(.ref b180)])) P227 (fun t_ k_ => st229 t_ k_)
  have P252 := own_step (C := T229.setTop (mkF m 58 #[.val (.int sel), .val (.long le), .second, .val (.long ri), .second, .val (.int mo), .val (.ref b2), .unset, .unset, .unset, .unset, .unset, .unset, .unset] [(.int (2 : Int32)), (.int (2 : Int32)), (.ref b180), (.ref b180)])) P251 (by
    intro tt_ kk_
    refine XS.dup X229.here hx rfl (hb hby at_55) rfl rfl ?_
    show Steps p.tables e below (T229.setTop (mkF m 56 #[.val (.int sel), .val (.long le), .second, .val (.long ri), .second, .val (.int mo), .val (.ref b2), .unset, .unset, .unset, .unset, .unset, .unset, .unset] [(.ref b180), (.ref b180)])) _
    refine XS.iconst X229.here hx rfl (hb hby at_56) ?_
    show Steps p.tables e below (T229.setTop (mkF m 57 #[.val (.int sel), .val (.long le), .second, .val (.long ri), .second, .val (.int mo), .val (.ref b2), .unset, .unset, .unset, .unset, .unset, .unset, .unset] [(.int (2 : Int32)), (.ref b180), (.ref b180)])) _
    refine XS.iconst X229.here hx rfl (hb hby at_57) ?_
    exact kk_)
  obtain ⟨cl253, Ar253, q253, S253, M253, H253, G253⟩ := id V229
  obtain ⟨T254, h254, X254, e254, W254, st254⟩ := stI X229 hx hZ e229 Ar253 (j := (2 : Int32)) (inb_of S253 (by decide : ¬ (2 : Int32) < 0 ∧ (2 : Int32) < (6 : Int32))) (g := (mkF m 58 #[.val (.int sel), .val (.long le), .second, .val (.long ri), .second, .val (.int mo), .val (.ref b2), .unset, .unset, .unset, .unset, .unset, .unset, .unset] [(.int (2 : Int32)), (.int (2 : Int32)), (.ref b180), (.ref b180)])) rfl rfl (hb hby at_58)
  have f255 := f230.wr W254
  have f256 := f231.wr W254
  have f257 := f232.other W254 (Or.inl ne_r0_b180)
  have f258 := f233.wr W254
  have f259 := f234.wr W254
  have f260 := f235.other W254 (Or.inl ne_r1_b180)
  have f261 := f236.wr W254
  have f262 := f237.wr W254
  have f263 := f238.other W254 (Or.inl ne_r2_b180)
  have f264 := f239.wr W254
  have f265 := f240.wr W254
  have f266 := f241.other W254 (Or.inl ne_r3_b180)
  have f267 := f242.wr W254
  have f268 := f243.wr W254
  have f269 := f244.other W254 (Or.inl ne_r4_b180)
  have f270 := f245.wr W254
  have f271 := f246.wr W254
  have f272 := f247.other W254 (Or.inl ne_r5_b180)
  have f273 := f248.other W254 ne_b2_b180
  have Z275 : n0 ≤ h254.size := Nat.le_trans Z250 (Keep.of_wr W254).1
  have V254 : Arv Z h254 b180 k180 .int (6 : Int32) [(.int (1 : Int32)), (.int (3 : Int32)), (.int (2 : Int32)), (.int (0 : Int32)), (.int (0 : Int32)), (.int (0 : Int32))] (.int (0 : Int32)) := Arv.set Ar253 q253 S253 M253 H253 G253 rfl W254 2 rfl (Nat.le_of_ble_eq_true rfl)
  have N254 := Fr.snoc X254 N229 g_b180
  have P276 := own_step (C := T254.setTop (mkF m 59 #[.val (.int sel), .val (.long le), .second, .val (.long ri), .second, .val (.int mo), .val (.ref b2), .unset, .unset, .unset, .unset, .unset, .unset, .unset] [(.ref b180)])) P252 (fun t_ k_ => st254 t_ k_)
  have P277 := own_step (C := T254.setTop (mkF m 62 #[.val (.int sel), .val (.long le), .second, .val (.long ri), .second, .val (.int mo), .val (.ref b2), .unset, .unset, .unset, .unset, .unset, .unset, .unset] [(.int (5 : Int32)), (.int (3 : Int32)), (.ref b180), (.ref b180)])) P276 (by
    intro tt_ kk_
    refine XS.dup X254.here hx rfl (hb hby at_59) rfl rfl ?_
    show Steps p.tables e below (T254.setTop (mkF m 60 #[.val (.int sel), .val (.long le), .second, .val (.long ri), .second, .val (.int mo), .val (.ref b2), .unset, .unset, .unset, .unset, .unset, .unset, .unset] [(.ref b180), (.ref b180)])) _
    refine XS.iconst X254.here hx rfl (hb hby at_60) ?_
    show Steps p.tables e below (T254.setTop (mkF m 61 #[.val (.int sel), .val (.long le), .second, .val (.long ri), .second, .val (.int mo), .val (.ref b2), .unset, .unset, .unset, .unset, .unset, .unset, .unset] [(.int (3 : Int32)), (.ref b180), (.ref b180)])) _
    refine XS.iconst X254.here hx rfl (hb hby at_61) ?_
    exact kk_)
  obtain ⟨cl278, Ar278, q278, S278, M278, H278, G278⟩ := id V254
  obtain ⟨T279, h279, X279, e279, W279, st279⟩ := stI X254 hx hZ e254 Ar278 (j := (3 : Int32)) (inb_of S278 (by decide : ¬ (3 : Int32) < 0 ∧ (3 : Int32) < (6 : Int32))) (g := (mkF m 62 #[.val (.int sel), .val (.long le), .second, .val (.long ri), .second, .val (.int mo), .val (.ref b2), .unset, .unset, .unset, .unset, .unset, .unset, .unset] [(.int (5 : Int32)), (.int (3 : Int32)), (.ref b180), (.ref b180)])) rfl rfl (hb hby at_62)
  have f280 := f255.wr W279
  have f281 := f256.wr W279
  have f282 := f257.other W279 (Or.inl ne_r0_b180)
  have f283 := f258.wr W279
  have f284 := f259.wr W279
  have f285 := f260.other W279 (Or.inl ne_r1_b180)
  have f286 := f261.wr W279
  have f287 := f262.wr W279
  have f288 := f263.other W279 (Or.inl ne_r2_b180)
  have f289 := f264.wr W279
  have f290 := f265.wr W279
  have f291 := f266.other W279 (Or.inl ne_r3_b180)
  have f292 := f267.wr W279
  have f293 := f268.wr W279
  have f294 := f269.other W279 (Or.inl ne_r4_b180)
  have f295 := f270.wr W279
  have f296 := f271.wr W279
  have f297 := f272.other W279 (Or.inl ne_r5_b180)
  have f298 := f273.other W279 ne_b2_b180
  have Z300 : n0 ≤ h279.size := Nat.le_trans Z275 (Keep.of_wr W279).1
  have V279 : Arv Z h279 b180 k180 .int (6 : Int32) [(.int (1 : Int32)), (.int (3 : Int32)), (.int (2 : Int32)), (.int (5 : Int32)), (.int (0 : Int32)), (.int (0 : Int32))] (.int (0 : Int32)) := Arv.set Ar278 q278 S278 M278 H278 G278 rfl W279 3 rfl (Nat.le_of_ble_eq_true rfl)
  have N279 := Fr.snoc X279 N254 g_b180
  have P301 := own_step (C := T279.setTop (mkF m 63 #[.val (.int sel), .val (.long le), .second, .val (.long ri), .second, .val (.int mo), .val (.ref b2), .unset, .unset, .unset, .unset, .unset, .unset, .unset] [(.ref b180)])) P277 (fun t_ k_ => st279 t_ k_)
  have P302 := own_step (C := T279.setTop (mkF m 67 #[.val (.int sel), .val (.long le), .second, .val (.long ri), .second, .val (.int mo), .val (.ref b2), .unset, .unset, .unset, .unset, .unset, .unset, .unset] [(.int (6 : Int32)), (.int (4 : Int32)), (.ref b180), (.ref b180)])) P301 (by
    intro tt_ kk_
    refine XS.dup X279.here hx rfl (hb hby at_63) rfl rfl ?_
    show Steps p.tables e below (T279.setTop (mkF m 64 #[.val (.int sel), .val (.long le), .second, .val (.long ri), .second, .val (.int mo), .val (.ref b2), .unset, .unset, .unset, .unset, .unset, .unset, .unset] [(.ref b180), (.ref b180)])) _
    refine XS.iconst X279.here hx rfl (hb hby at_64) ?_
    show Steps p.tables e below (T279.setTop (mkF m 65 #[.val (.int sel), .val (.long le), .second, .val (.long ri), .second, .val (.int mo), .val (.ref b2), .unset, .unset, .unset, .unset, .unset, .unset, .unset] [(.int (4 : Int32)), (.ref b180), (.ref b180)])) _
    refine XS.bipush X279.here hx rfl (hb hby at_65) ?_
    exact kk_)
  obtain ⟨cl303, Ar303, q303, S303, M303, H303, G303⟩ := id V279
  obtain ⟨T304, h304, X304, e304, W304, st304⟩ := stI X279 hx hZ e279 Ar303 (j := (4 : Int32)) (inb_of S303 (by decide : ¬ (4 : Int32) < 0 ∧ (4 : Int32) < (6 : Int32))) (g := (mkF m 67 #[.val (.int sel), .val (.long le), .second, .val (.long ri), .second, .val (.int mo), .val (.ref b2), .unset, .unset, .unset, .unset, .unset, .unset, .unset] [(.int (6 : Int32)), (.int (4 : Int32)), (.ref b180), (.ref b180)])) rfl rfl (hb hby at_67)
  have f305 := f280.wr W304
  have f306 := f281.wr W304
  have f307 := f282.other W304 (Or.inl ne_r0_b180)
  have f308 := f283.wr W304
  have f309 := f284.wr W304
  have f310 := f285.other W304 (Or.inl ne_r1_b180)
  have f311 := f286.wr W304
  have f312 := f287.wr W304
  have f313 := f288.other W304 (Or.inl ne_r2_b180)
  have f314 := f289.wr W304
  have f315 := f290.wr W304
  have f316 := f291.other W304 (Or.inl ne_r3_b180)
  have f317 := f292.wr W304
  have f318 := f293.wr W304
  have f319 := f294.other W304 (Or.inl ne_r4_b180)
  have f320 := f295.wr W304
  have f321 := f296.wr W304
  have f322 := f297.other W304 (Or.inl ne_r5_b180)
  have f323 := f298.other W304 ne_b2_b180
  have Z325 : n0 ≤ h304.size := Nat.le_trans Z300 (Keep.of_wr W304).1
  have V304 : Arv Z h304 b180 k180 .int (6 : Int32) [(.int (1 : Int32)), (.int (3 : Int32)), (.int (2 : Int32)), (.int (5 : Int32)), (.int (6 : Int32)), (.int (0 : Int32))] (.int (0 : Int32)) := Arv.set Ar303 q303 S303 M303 H303 G303 rfl W304 4 rfl (Nat.le_of_ble_eq_true rfl)
  have N304 := Fr.snoc X304 N279 g_b180
  have P326 := own_step (C := T304.setTop (mkF m 68 #[.val (.int sel), .val (.long le), .second, .val (.long ri), .second, .val (.int mo), .val (.ref b2), .unset, .unset, .unset, .unset, .unset, .unset, .unset] [(.ref b180)])) P302 (fun t_ k_ => st304 t_ k_)
  have P327 := own_step (C := T304.setTop (mkF m 71 #[.val (.int sel), .val (.long le), .second, .val (.long ri), .second, .val (.int mo), .val (.ref b2), .unset, .unset, .unset, .unset, .unset, .unset, .unset] [(.int (4 : Int32)), (.int (5 : Int32)), (.ref b180), (.ref b180)])) P326 (by
    intro tt_ kk_
    refine XS.dup X304.here hx rfl (hb hby at_68) rfl rfl ?_
    show Steps p.tables e below (T304.setTop (mkF m 69 #[.val (.int sel), .val (.long le), .second, .val (.long ri), .second, .val (.int mo), .val (.ref b2), .unset, .unset, .unset, .unset, .unset, .unset, .unset] [(.ref b180), (.ref b180)])) _
    refine XS.iconst X304.here hx rfl (hb hby at_69) ?_
    show Steps p.tables e below (T304.setTop (mkF m 70 #[.val (.int sel), .val (.long le), .second, .val (.long ri), .second, .val (.int mo), .val (.ref b2), .unset, .unset, .unset, .unset, .unset, .unset, .unset] [(.int (5 : Int32)), (.ref b180), (.ref b180)])) _
    refine XS.iconst X304.here hx rfl (hb hby at_70) ?_
    exact kk_)
  obtain ⟨cl328, Ar328, q328, S328, M328, H328, G328⟩ := id V304
  obtain ⟨T329, h329, X329, e329, W329, st329⟩ := stI X304 hx hZ e304 Ar328 (j := (5 : Int32)) (inb_of S328 (by decide : ¬ (5 : Int32) < 0 ∧ (5 : Int32) < (6 : Int32))) (g := (mkF m 71 #[.val (.int sel), .val (.long le), .second, .val (.long ri), .second, .val (.int mo), .val (.ref b2), .unset, .unset, .unset, .unset, .unset, .unset, .unset] [(.int (4 : Int32)), (.int (5 : Int32)), (.ref b180), (.ref b180)])) rfl rfl (hb hby at_71)
  have f330 := f305.wr W329
  have f331 := f306.wr W329
  have f332 := f307.other W329 (Or.inl ne_r0_b180)
  have f333 := f308.wr W329
  have f334 := f309.wr W329
  have f335 := f310.other W329 (Or.inl ne_r1_b180)
  have f336 := f311.wr W329
  have f337 := f312.wr W329
  have f338 := f313.other W329 (Or.inl ne_r2_b180)
  have f339 := f314.wr W329
  have f340 := f315.wr W329
  have f341 := f316.other W329 (Or.inl ne_r3_b180)
  have f342 := f317.wr W329
  have f343 := f318.wr W329
  have f344 := f319.other W329 (Or.inl ne_r4_b180)
  have f345 := f320.wr W329
  have f346 := f321.wr W329
  have f347 := f322.other W329 (Or.inl ne_r5_b180)
  have f348 := f323.other W329 ne_b2_b180
  have Z350 : n0 ≤ h329.size := Nat.le_trans Z325 (Keep.of_wr W329).1
  have V329 : Arv Z h329 b180 k180 .int (6 : Int32) [(.int (1 : Int32)), (.int (3 : Int32)), (.int (2 : Int32)), (.int (5 : Int32)), (.int (6 : Int32)), (.int (4 : Int32))] (.int (0 : Int32)) := Arv.set Ar328 q328 S328 M328 H328 G328 rfl W329 5 rfl (Nat.le_of_ble_eq_true rfl)
  have N329 := Fr.snoc X329 N304 g_b180
  have P351 := own_step (C := T329.setTop (mkF m 72 #[.val (.int sel), .val (.long le), .second, .val (.long ri), .second, .val (.int mo), .val (.ref b2), .unset, .unset, .unset, .unset, .unset, .unset, .unset] [(.ref b180)])) P327 (fun t_ k_ => st329 t_ k_)
  have P352 := own_step (C := T329.setTop (mkF m 92 #[.val (.int sel), .val (.long le), .second, .val (.long ri), .second, .val (.int mo), .val (.ref b2), .val (.ref b180), .val (.int ((sel &&& (2147483647 : Int32)) % (6 : Int32))), .val (.long ri), .second, .val (.int (mo &&& (3 : Int32))), .unset, .unset] [])) P351 (by
    intro tt_ kk_
    refine XS.astore X329.here hx rfl (hb hby at_72) rfl rfl (l' := #[.val (.int sel), .val (.long le), .second, .val (.long ri), .second, .val (.int mo), .val (.ref b2), .val (.ref b180), .unset, .unset, .unset, .unset, .unset, .unset]) rfl ?_
    show Steps p.tables e below (T329.setTop (mkF m 74 #[.val (.int sel), .val (.long le), .second, .val (.long ri), .second, .val (.int mo), .val (.ref b2), .val (.ref b180), .unset, .unset, .unset, .unset, .unset, .unset] [])) _
    refine XS.iloadN X329.here hx rfl (hb hby at_74) rfl ?_
    show Steps p.tables e below (T329.setTop (mkF m 75 #[.val (.int sel), .val (.long le), .second, .val (.long ri), .second, .val (.int mo), .val (.ref b2), .val (.ref b180), .unset, .unset, .unset, .unset, .unset, .unset] [(.int sel)])) _
    refine X329.ldcInt hx hown (mvT hZ (hw _ (List.mem_of_getElem? (i := 17) rfl))) (g := (mkF m 75 #[.val (.int sel), .val (.long le), .second, .val (.long ri), .second, .val (.int mo), .val (.ref b2), .val (.ref b180), .unset, .unset, .unset, .unset, .unset, .unset] [(.int sel)])) rfl (hb hby at_75) _ ?_
    show Steps p.tables e below (T329.setTop (mkF m 77 #[.val (.int sel), .val (.long le), .second, .val (.long ri), .second, .val (.int mo), .val (.ref b2), .val (.ref b180), .unset, .unset, .unset, .unset, .unset, .unset] [(.int (2147483647 : Int32)), (.int sel)])) _
    refine XS.iand X329.here hx rfl (hb hby at_77) rfl ?_
    show Steps p.tables e below (T329.setTop (mkF m 78 #[.val (.int sel), .val (.long le), .second, .val (.long ri), .second, .val (.int mo), .val (.ref b2), .val (.ref b180), .unset, .unset, .unset, .unset, .unset, .unset] [(.int (sel &&& (2147483647 : Int32)))])) _
    refine XS.bipush X329.here hx rfl (hb hby at_78) ?_
    show Steps p.tables e below (T329.setTop (mkF m 80 #[.val (.int sel), .val (.long le), .second, .val (.long ri), .second, .val (.int mo), .val (.ref b2), .val (.ref b180), .unset, .unset, .unset, .unset, .unset, .unset] [(.int (6 : Int32)), (.int (sel &&& (2147483647 : Int32)))])) _
    refine iremM X329 hx rfl (hb hby at_80) rfl (by decide) ?_
    show Steps p.tables e below (T329.setTop (mkF m 81 #[.val (.int sel), .val (.long le), .second, .val (.long ri), .second, .val (.int mo), .val (.ref b2), .val (.ref b180), .unset, .unset, .unset, .unset, .unset, .unset] [(.int ((sel &&& (2147483647 : Int32)) % (6 : Int32)))])) _
    refine XS.istore X329.here hx rfl (hb hby at_81) rfl (l' := #[.val (.int sel), .val (.long le), .second, .val (.long ri), .second, .val (.int mo), .val (.ref b2), .val (.ref b180), .val (.int ((sel &&& (2147483647 : Int32)) % (6 : Int32))), .unset, .unset, .unset, .unset, .unset]) rfl ?_
    show Steps p.tables e below (T329.setTop (mkF m 83 #[.val (.int sel), .val (.long le), .second, .val (.long ri), .second, .val (.int mo), .val (.ref b2), .val (.ref b180), .val (.int ((sel &&& (2147483647 : Int32)) % (6 : Int32))), .unset, .unset, .unset, .unset, .unset] [])) _
    refine XS.lloadN X329.here hx rfl (hb hby at_83) rfl ?_
    show Steps p.tables e below (T329.setTop (mkF m 84 #[.val (.int sel), .val (.long le), .second, .val (.long ri), .second, .val (.int mo), .val (.ref b2), .val (.ref b180), .val (.int ((sel &&& (2147483647 : Int32)) % (6 : Int32))), .unset, .unset, .unset, .unset, .unset] [(.long ri)])) _
    refine XS.lstore X329.here hx rfl (hb hby at_84) rfl (l' := #[.val (.int sel), .val (.long le), .second, .val (.long ri), .second, .val (.int mo), .val (.ref b2), .val (.ref b180), .val (.int ((sel &&& (2147483647 : Int32)) % (6 : Int32))), .val (.long ri), .second, .unset, .unset, .unset]) rfl ?_
    show Steps p.tables e below (T329.setTop (mkF m 86 #[.val (.int sel), .val (.long le), .second, .val (.long ri), .second, .val (.int mo), .val (.ref b2), .val (.ref b180), .val (.int ((sel &&& (2147483647 : Int32)) % (6 : Int32))), .val (.long ri), .second, .unset, .unset, .unset] [])) _
    refine XS.iload X329.here hx rfl (hb hby at_86) rfl ?_
    show Steps p.tables e below (T329.setTop (mkF m 88 #[.val (.int sel), .val (.long le), .second, .val (.long ri), .second, .val (.int mo), .val (.ref b2), .val (.ref b180), .val (.int ((sel &&& (2147483647 : Int32)) % (6 : Int32))), .val (.long ri), .second, .unset, .unset, .unset] [(.int mo)])) _
    refine XS.iconst X329.here hx rfl (hb hby at_88) ?_
    show Steps p.tables e below (T329.setTop (mkF m 89 #[.val (.int sel), .val (.long le), .second, .val (.long ri), .second, .val (.int mo), .val (.ref b2), .val (.ref b180), .val (.int ((sel &&& (2147483647 : Int32)) % (6 : Int32))), .val (.long ri), .second, .unset, .unset, .unset] [(.int (3 : Int32)), (.int mo)])) _
    refine XS.iand X329.here hx rfl (hb hby at_89) rfl ?_
    show Steps p.tables e below (T329.setTop (mkF m 90 #[.val (.int sel), .val (.long le), .second, .val (.long ri), .second, .val (.int mo), .val (.ref b2), .val (.ref b180), .val (.int ((sel &&& (2147483647 : Int32)) % (6 : Int32))), .val (.long ri), .second, .unset, .unset, .unset] [(.int (mo &&& (3 : Int32)))])) _
    refine XS.istore X329.here hx rfl (hb hby at_90) rfl (l' := #[.val (.int sel), .val (.long le), .second, .val (.long ri), .second, .val (.int mo), .val (.ref b2), .val (.ref b180), .val (.int ((sel &&& (2147483647 : Int32)) % (6 : Int32))), .val (.long ri), .second, .val (.int (mo &&& (3 : Int32))), .unset, .unset]) rfl ?_
    exact kk_)
  obtain ⟨o, ho, P353⟩ := own_name (F := fun z => T329.setTop (mkF m 92 #[.val (.int sel), .val (.long le), .second, .val (.long ri), .second, .val (.int mo), .val (.ref b2), .val (.ref b180), .val (.int z), .val (.long ri), .second, .val (.int (mo &&& (3 : Int32))), .unset, .unset] [])) ((sel &&& (2147483647 : Int32)) % (6 : Int32)) P352
  have ho : own_O o := by rw [ho]; exact own_six sel
  obtain ⟨rt, hv354, J354⟩ : ∃ (rt : Int64), (((mo &&& (3 : Int32)) = (1 : Int32) ∧ rt = le) ∨ (¬ ((mo &&& (3 : Int32)) = (1 : Int32)) ∧ (mo &&& (3 : Int32)) = (2 : Int32) ∧ rt = (le + (1 : Int64))) ∨ (¬ ((mo &&& (3 : Int32)) = (1 : Int32)) ∧ ¬ ((mo &&& (3 : Int32)) = (2 : Int32)) ∧ (mo &&& (3 : Int32)) = (3 : Int32) ∧ rt = (le - (1 : Int64))) ∨ (¬ ((mo &&& (3 : Int32)) = (1 : Int32)) ∧ ¬ ((mo &&& (3 : Int32)) = (2 : Int32)) ∧ ¬ ((mo &&& (3 : Int32)) = (3 : Int32)) ∧ rt = ri)) ∧ own_Go p e below (T329.setTop (mkF m 92 #[.val (.int sel), .val (.long le), .second, .val (.long ri), .second, .val (.int mo), .val (.ref b2), .val (.ref b180), .val (.int o), .val (.long ri), .second, .val (.int (mo &&& (3 : Int32))), .unset, .unset] [])) (T329.setTop (mkF m 129 #[.val (.int sel), .val (.long le), .second, .val (.long ri), .second, .val (.int mo), .val (.ref b2), .val (.ref b180), .val (.int o), .val (.long rt), .second, .val (.int (mo &&& (3 : Int32))), .unset, .unset] [])) := by
    have P355 : own_Go p e below (T329.setTop (mkF m 92 #[.val (.int sel), .val (.long le), .second, .val (.long ri), .second, .val (.int mo), .val (.ref b2), .val (.ref b180), .val (.int o), .val (.long ri), .second, .val (.int (mo &&& (3 : Int32))), .unset, .unset] [])) (T329.setTop (mkF m 92 #[.val (.int sel), .val (.long le), .second, .val (.long ri), .second, .val (.int mo), .val (.ref b2), .val (.ref b180), .val (.int o), .val (.long ri), .second, .val (.int (mo &&& (3 : Int32))), .unset, .unset] [])) := fun t_ k_ => k_
    have P356 := own_step (C := T329.setTop (mkF m 95 #[.val (.int sel), .val (.long le), .second, .val (.long ri), .second, .val (.int mo), .val (.ref b2), .val (.ref b180), .val (.int o), .val (.long ri), .second, .val (.int (mo &&& (3 : Int32))), .unset, .unset] [(.int (1 : Int32)), (.int (mo &&& (3 : Int32)))])) P355 (by
      intro tt_ kk_
      refine XS.iload X329.here hx rfl (hb hby at_92) rfl ?_
      show Steps p.tables e below (T329.setTop (mkF m 94 #[.val (.int sel), .val (.long le), .second, .val (.long ri), .second, .val (.int mo), .val (.ref b2), .val (.ref b180), .val (.int o), .val (.long ri), .second, .val (.int (mo &&& (3 : Int32))), .unset, .unset] [(.int (mo &&& (3 : Int32)))])) _
      refine XS.iconst X329.here hx rfl (hb hby at_94) ?_
      exact kk_)
    by_cases c357 : (mo &&& (3 : Int32)) = (1 : Int32)
    · have P358 := own_step (C := T329.setTop (mkF m 98 #[.val (.int sel), .val (.long le), .second, .val (.long ri), .second, .val (.int mo), .val (.ref b2), .val (.ref b180), .val (.int o), .val (.long ri), .second, .val (.int (mo &&& (3 : Int32))), .unset, .unset] [])) P356 (by
        intro tt_ kk_
        refine XS.icmpNo X329.here hx rfl (hb hby at_95) rfl (teq c357).2 ?_
        exact kk_)
      have P359 := own_step (C := T329.setTop (mkF m 129 #[.val (.int sel), .val (.long le), .second, .val (.long ri), .second, .val (.int mo), .val (.ref b2), .val (.ref b180), .val (.int o), .val (.long le), .second, .val (.int (mo &&& (3 : Int32))), .unset, .unset] [])) P358 (by
        intro tt_ kk_
        refine XS.lloadN X329.here hx rfl (hb hby at_98) rfl ?_
        show Steps p.tables e below (T329.setTop (mkF m 99 #[.val (.int sel), .val (.long le), .second, .val (.long ri), .second, .val (.int mo), .val (.ref b2), .val (.ref b180), .val (.int o), .val (.long ri), .second, .val (.int (mo &&& (3 : Int32))), .unset, .unset] [(.long le)])) _
        refine XS.lstore X329.here hx rfl (hb hby at_99) rfl (l' := #[.val (.int sel), .val (.long le), .second, .val (.long ri), .second, .val (.int mo), .val (.ref b2), .val (.ref b180), .val (.int o), .val (.long le), .second, .val (.int (mo &&& (3 : Int32))), .unset, .unset]) rfl ?_
        show Steps p.tables e below (T329.setTop (mkF m 101 #[.val (.int sel), .val (.long le), .second, .val (.long ri), .second, .val (.int mo), .val (.ref b2), .val (.ref b180), .val (.int o), .val (.long le), .second, .val (.int (mo &&& (3 : Int32))), .unset, .unset] [])) _
        refine XS.goto X329.here hx rfl (pc0 := 101) (pc' := 129) rfl (hb hby at_101) (by decide) (by decide) ?_
        exact kk_)
      exact ⟨le, Or.inl ⟨c357, rfl⟩, P359⟩
    · have P360 := own_step (C := T329.setTop (mkF m 104 #[.val (.int sel), .val (.long le), .second, .val (.long ri), .second, .val (.int mo), .val (.ref b2), .val (.ref b180), .val (.int o), .val (.long ri), .second, .val (.int (mo &&& (3 : Int32))), .unset, .unset] [])) P356 (by
        intro tt_ kk_
        refine XS.icmpYes X329.here hx rfl (pc0 := 95) (pc' := 104) rfl (hb hby at_95) rfl (feq c357).2 (by decide) (by decide) ?_
        exact kk_)
      have P361 := own_step (C := T329.setTop (mkF m 107 #[.val (.int sel), .val (.long le), .second, .val (.long ri), .second, .val (.int mo), .val (.ref b2), .val (.ref b180), .val (.int o), .val (.long ri), .second, .val (.int (mo &&& (3 : Int32))), .unset, .unset] [(.int (2 : Int32)), (.int (mo &&& (3 : Int32)))])) P360 (by
        intro tt_ kk_
        refine XS.iload X329.here hx rfl (hb hby at_104) rfl ?_
        show Steps p.tables e below (T329.setTop (mkF m 106 #[.val (.int sel), .val (.long le), .second, .val (.long ri), .second, .val (.int mo), .val (.ref b2), .val (.ref b180), .val (.int o), .val (.long ri), .second, .val (.int (mo &&& (3 : Int32))), .unset, .unset] [(.int (mo &&& (3 : Int32)))])) _
        refine XS.iconst X329.here hx rfl (hb hby at_106) ?_
        exact kk_)
      by_cases c362 : (mo &&& (3 : Int32)) = (2 : Int32)
      · have P363 := own_step (C := T329.setTop (mkF m 110 #[.val (.int sel), .val (.long le), .second, .val (.long ri), .second, .val (.int mo), .val (.ref b2), .val (.ref b180), .val (.int o), .val (.long ri), .second, .val (.int (mo &&& (3 : Int32))), .unset, .unset] [])) P361 (by
          intro tt_ kk_
          refine XS.icmpNo X329.here hx rfl (hb hby at_107) rfl (teq c362).2 ?_
          exact kk_)
        have P364 := own_step (C := T329.setTop (mkF m 129 #[.val (.int sel), .val (.long le), .second, .val (.long ri), .second, .val (.int mo), .val (.ref b2), .val (.ref b180), .val (.int o), .val (.long (le + (1 : Int64))), .second, .val (.int (mo &&& (3 : Int32))), .unset, .unset] [])) P363 (by
          intro tt_ kk_
          refine XS.lloadN X329.here hx rfl (hb hby at_110) rfl ?_
          show Steps p.tables e below (T329.setTop (mkF m 111 #[.val (.int sel), .val (.long le), .second, .val (.long ri), .second, .val (.int mo), .val (.ref b2), .val (.ref b180), .val (.int o), .val (.long ri), .second, .val (.int (mo &&& (3 : Int32))), .unset, .unset] [(.long le)])) _
          refine XS.lconst X329.here hx rfl (hb hby at_111) ?_
          show Steps p.tables e below (T329.setTop (mkF m 112 #[.val (.int sel), .val (.long le), .second, .val (.long ri), .second, .val (.int mo), .val (.ref b2), .val (.ref b180), .val (.int o), .val (.long ri), .second, .val (.int (mo &&& (3 : Int32))), .unset, .unset] [(.long (1 : Int64)), (.long le)])) _
          refine XS.ladd X329.here hx rfl (hb hby at_112) rfl ?_
          show Steps p.tables e below (T329.setTop (mkF m 113 #[.val (.int sel), .val (.long le), .second, .val (.long ri), .second, .val (.int mo), .val (.ref b2), .val (.ref b180), .val (.int o), .val (.long ri), .second, .val (.int (mo &&& (3 : Int32))), .unset, .unset] [(.long (le + (1 : Int64)))])) _
          refine XS.lstore X329.here hx rfl (hb hby at_113) rfl (l' := #[.val (.int sel), .val (.long le), .second, .val (.long ri), .second, .val (.int mo), .val (.ref b2), .val (.ref b180), .val (.int o), .val (.long (le + (1 : Int64))), .second, .val (.int (mo &&& (3 : Int32))), .unset, .unset]) rfl ?_
          show Steps p.tables e below (T329.setTop (mkF m 115 #[.val (.int sel), .val (.long le), .second, .val (.long ri), .second, .val (.int mo), .val (.ref b2), .val (.ref b180), .val (.int o), .val (.long (le + (1 : Int64))), .second, .val (.int (mo &&& (3 : Int32))), .unset, .unset] [])) _
          refine XS.goto X329.here hx rfl (pc0 := 115) (pc' := 129) rfl (hb hby at_115) (by decide) (by decide) ?_
          exact kk_)
        exact ⟨(le + (1 : Int64)), Or.inr (Or.inl ⟨c357, c362, rfl⟩), P364⟩
      · have P365 := own_step (C := T329.setTop (mkF m 118 #[.val (.int sel), .val (.long le), .second, .val (.long ri), .second, .val (.int mo), .val (.ref b2), .val (.ref b180), .val (.int o), .val (.long ri), .second, .val (.int (mo &&& (3 : Int32))), .unset, .unset] [])) P361 (by
          intro tt_ kk_
          refine XS.icmpYes X329.here hx rfl (pc0 := 107) (pc' := 118) rfl (hb hby at_107) rfl (feq c362).2 (by decide) (by decide) ?_
          exact kk_)
        have P366 := own_step (C := T329.setTop (mkF m 121 #[.val (.int sel), .val (.long le), .second, .val (.long ri), .second, .val (.int mo), .val (.ref b2), .val (.ref b180), .val (.int o), .val (.long ri), .second, .val (.int (mo &&& (3 : Int32))), .unset, .unset] [(.int (3 : Int32)), (.int (mo &&& (3 : Int32)))])) P365 (by
          intro tt_ kk_
          refine XS.iload X329.here hx rfl (hb hby at_118) rfl ?_
          show Steps p.tables e below (T329.setTop (mkF m 120 #[.val (.int sel), .val (.long le), .second, .val (.long ri), .second, .val (.int mo), .val (.ref b2), .val (.ref b180), .val (.int o), .val (.long ri), .second, .val (.int (mo &&& (3 : Int32))), .unset, .unset] [(.int (mo &&& (3 : Int32)))])) _
          refine XS.iconst X329.here hx rfl (hb hby at_120) ?_
          exact kk_)
        by_cases c367 : (mo &&& (3 : Int32)) = (3 : Int32)
        · have P368 := own_step (C := T329.setTop (mkF m 124 #[.val (.int sel), .val (.long le), .second, .val (.long ri), .second, .val (.int mo), .val (.ref b2), .val (.ref b180), .val (.int o), .val (.long ri), .second, .val (.int (mo &&& (3 : Int32))), .unset, .unset] [])) P366 (by
            intro tt_ kk_
            refine XS.icmpNo X329.here hx rfl (hb hby at_121) rfl (teq c367).2 ?_
            exact kk_)
          have P369 := own_step (C := T329.setTop (mkF m 129 #[.val (.int sel), .val (.long le), .second, .val (.long ri), .second, .val (.int mo), .val (.ref b2), .val (.ref b180), .val (.int o), .val (.long (le - (1 : Int64))), .second, .val (.int (mo &&& (3 : Int32))), .unset, .unset] [])) P368 (by
            intro tt_ kk_
            refine XS.lloadN X329.here hx rfl (hb hby at_124) rfl ?_
            show Steps p.tables e below (T329.setTop (mkF m 125 #[.val (.int sel), .val (.long le), .second, .val (.long ri), .second, .val (.int mo), .val (.ref b2), .val (.ref b180), .val (.int o), .val (.long ri), .second, .val (.int (mo &&& (3 : Int32))), .unset, .unset] [(.long le)])) _
            refine XS.lconst X329.here hx rfl (hb hby at_125) ?_
            show Steps p.tables e below (T329.setTop (mkF m 126 #[.val (.int sel), .val (.long le), .second, .val (.long ri), .second, .val (.int mo), .val (.ref b2), .val (.ref b180), .val (.int o), .val (.long ri), .second, .val (.int (mo &&& (3 : Int32))), .unset, .unset] [(.long (1 : Int64)), (.long le)])) _
            refine XS.lsub X329.here hx rfl (hb hby at_126) rfl ?_
            show Steps p.tables e below (T329.setTop (mkF m 127 #[.val (.int sel), .val (.long le), .second, .val (.long ri), .second, .val (.int mo), .val (.ref b2), .val (.ref b180), .val (.int o), .val (.long ri), .second, .val (.int (mo &&& (3 : Int32))), .unset, .unset] [(.long (le - (1 : Int64)))])) _
            refine XS.lstore X329.here hx rfl (hb hby at_127) rfl (l' := #[.val (.int sel), .val (.long le), .second, .val (.long ri), .second, .val (.int mo), .val (.ref b2), .val (.ref b180), .val (.int o), .val (.long (le - (1 : Int64))), .second, .val (.int (mo &&& (3 : Int32))), .unset, .unset]) rfl ?_
            exact kk_)
          exact ⟨(le - (1 : Int64)), Or.inr (Or.inr (Or.inl ⟨c357, c362, c367, rfl⟩)), P369⟩
        · have P370 := own_step (C := T329.setTop (mkF m 129 #[.val (.int sel), .val (.long le), .second, .val (.long ri), .second, .val (.int mo), .val (.ref b2), .val (.ref b180), .val (.int o), .val (.long ri), .second, .val (.int (mo &&& (3 : Int32))), .unset, .unset] [])) P366 (by
            intro tt_ kk_
            refine XS.icmpYes X329.here hx rfl (pc0 := 121) (pc' := 129) rfl (hb hby at_121) rfl (feq c367).2 (by decide) (by decide) ?_
            exact kk_)
          exact ⟨ri, Or.inr (Or.inr (Or.inr (⟨c357, c362, c367, rfl⟩))), P370⟩
  have P371 := own_step P353 J354
  obtain ⟨oc, hv372, J372⟩ : ∃ (oc : Int32), ((le < rt ∧ oc = (1 : Int32)) ∨ (¬ (le < rt) ∧ le = rt ∧ oc = (2 : Int32)) ∨ (¬ (le < rt) ∧ ¬ (le = rt) ∧ oc = (4 : Int32))) ∧ own_Go p e below (T329.setTop (mkF m 129 #[.val (.int sel), .val (.long le), .second, .val (.long ri), .second, .val (.int mo), .val (.ref b2), .val (.ref b180), .val (.int o), .val (.long rt), .second, .val (.int (mo &&& (3 : Int32))), .unset, .unset] [])) (T329.setTop (mkF m 158 #[.val (.int sel), .val (.long le), .second, .val (.long ri), .second, .val (.int mo), .val (.ref b2), .val (.ref b180), .val (.int o), .val (.long rt), .second, .val (.int (mo &&& (3 : Int32))), .val (.int oc), .unset] [])) := by
    have P373 : own_Go p e below (T329.setTop (mkF m 129 #[.val (.int sel), .val (.long le), .second, .val (.long ri), .second, .val (.int mo), .val (.ref b2), .val (.ref b180), .val (.int o), .val (.long rt), .second, .val (.int (mo &&& (3 : Int32))), .unset, .unset] [])) (T329.setTop (mkF m 129 #[.val (.int sel), .val (.long le), .second, .val (.long ri), .second, .val (.int mo), .val (.ref b2), .val (.ref b180), .val (.int o), .val (.long rt), .second, .val (.int (mo &&& (3 : Int32))), .unset, .unset] [])) := fun t_ k_ => k_
    have P374 := own_step (C := T329.setTop (mkF m 133 #[.val (.int sel), .val (.long le), .second, .val (.long ri), .second, .val (.int mo), .val (.ref b2), .val (.ref b180), .val (.int o), .val (.long rt), .second, .val (.int (mo &&& (3 : Int32))), .unset, .unset] [(.int (lcmpW le rt))])) P373 (by
      intro tt_ kk_
      refine XS.lloadN X329.here hx rfl (hb hby at_129) rfl ?_
      show Steps p.tables e below (T329.setTop (mkF m 130 #[.val (.int sel), .val (.long le), .second, .val (.long ri), .second, .val (.int mo), .val (.ref b2), .val (.ref b180), .val (.int o), .val (.long rt), .second, .val (.int (mo &&& (3 : Int32))), .unset, .unset] [(.long le)])) _
      refine XS.lload X329.here hx rfl (hb hby at_130) rfl ?_
      show Steps p.tables e below (T329.setTop (mkF m 132 #[.val (.int sel), .val (.long le), .second, .val (.long ri), .second, .val (.int mo), .val (.ref b2), .val (.ref b180), .val (.int o), .val (.long rt), .second, .val (.int (mo &&& (3 : Int32))), .unset, .unset] [(.long rt), (.long le)])) _
      refine XS.lcmp X329.here hx rfl (hb hby at_132) rfl ?_
      exact kk_)
    by_cases c375 : le < rt
    · have P376 := own_step (C := T329.setTop (mkF m 136 #[.val (.int sel), .val (.long le), .second, .val (.long ri), .second, .val (.int mo), .val (.ref b2), .val (.ref b180), .val (.int o), .val (.long rt), .second, .val (.int (mo &&& (3 : Int32))), .unset, .unset] [])) P374 (by
        intro tt_ kk_
        refine XS.ifNo X329.here hx rfl (hb hby at_133) rfl ((if0 _ _).trans (tlt ((lw_lt _ _).mpr c375)).2.1) ?_
        exact kk_)
      have P377 := own_step (C := T329.setTop (mkF m 158 #[.val (.int sel), .val (.long le), .second, .val (.long ri), .second, .val (.int mo), .val (.ref b2), .val (.ref b180), .val (.int o), .val (.long rt), .second, .val (.int (mo &&& (3 : Int32))), .val (.int (1 : Int32)), .unset] [])) P376 (by
        intro tt_ kk_
        refine XS.iconst X329.here hx rfl (hb hby at_136) ?_
        show Steps p.tables e below (T329.setTop (mkF m 137 #[.val (.int sel), .val (.long le), .second, .val (.long ri), .second, .val (.int mo), .val (.ref b2), .val (.ref b180), .val (.int o), .val (.long rt), .second, .val (.int (mo &&& (3 : Int32))), .unset, .unset] [(.int (1 : Int32))])) _
        refine XS.istore X329.here hx rfl (hb hby at_137) rfl (l' := #[.val (.int sel), .val (.long le), .second, .val (.long ri), .second, .val (.int mo), .val (.ref b2), .val (.ref b180), .val (.int o), .val (.long rt), .second, .val (.int (mo &&& (3 : Int32))), .val (.int (1 : Int32)), .unset]) rfl ?_
        show Steps p.tables e below (T329.setTop (mkF m 139 #[.val (.int sel), .val (.long le), .second, .val (.long ri), .second, .val (.int mo), .val (.ref b2), .val (.ref b180), .val (.int o), .val (.long rt), .second, .val (.int (mo &&& (3 : Int32))), .val (.int (1 : Int32)), .unset] [])) _
        refine XS.goto X329.here hx rfl (pc0 := 139) (pc' := 158) rfl (hb hby at_139) (by decide) (by decide) ?_
        exact kk_)
      exact ⟨(1 : Int32), Or.inl ⟨c375, rfl⟩, P377⟩
    · have P378 := own_step (C := T329.setTop (mkF m 142 #[.val (.int sel), .val (.long le), .second, .val (.long ri), .second, .val (.int mo), .val (.ref b2), .val (.ref b180), .val (.int o), .val (.long rt), .second, .val (.int (mo &&& (3 : Int32))), .unset, .unset] [])) P374 (by
        intro tt_ kk_
        refine XS.ifYes X329.here hx rfl (pc0 := 133) (pc' := 142) rfl (hb hby at_133) rfl ((if0 _ _).trans (flt (fun q => c375 ((lw_lt _ _).mp q))).2.1) (by decide) (by decide) ?_
        exact kk_)
      have P379 := own_step (C := T329.setTop (mkF m 146 #[.val (.int sel), .val (.long le), .second, .val (.long ri), .second, .val (.int mo), .val (.ref b2), .val (.ref b180), .val (.int o), .val (.long rt), .second, .val (.int (mo &&& (3 : Int32))), .unset, .unset] [(.int (lcmpW le rt))])) P378 (by
        intro tt_ kk_
        refine XS.lloadN X329.here hx rfl (hb hby at_142) rfl ?_
        show Steps p.tables e below (T329.setTop (mkF m 143 #[.val (.int sel), .val (.long le), .second, .val (.long ri), .second, .val (.int mo), .val (.ref b2), .val (.ref b180), .val (.int o), .val (.long rt), .second, .val (.int (mo &&& (3 : Int32))), .unset, .unset] [(.long le)])) _
        refine XS.lload X329.here hx rfl (hb hby at_143) rfl ?_
        show Steps p.tables e below (T329.setTop (mkF m 145 #[.val (.int sel), .val (.long le), .second, .val (.long ri), .second, .val (.int mo), .val (.ref b2), .val (.ref b180), .val (.int o), .val (.long rt), .second, .val (.int (mo &&& (3 : Int32))), .unset, .unset] [(.long rt), (.long le)])) _
        refine XS.lcmp X329.here hx rfl (hb hby at_145) rfl ?_
        exact kk_)
      by_cases c380 : le = rt
      · have P381 := own_step (C := T329.setTop (mkF m 149 #[.val (.int sel), .val (.long le), .second, .val (.long ri), .second, .val (.int mo), .val (.ref b2), .val (.ref b180), .val (.int o), .val (.long rt), .second, .val (.int (mo &&& (3 : Int32))), .unset, .unset] [])) P379 (by
          intro tt_ kk_
          refine XS.ifNo X329.here hx rfl (hb hby at_146) rfl ((if0 _ _).trans (teq ((lw_eq _ _).mpr c380)).2) ?_
          exact kk_)
        have P382 := own_step (C := T329.setTop (mkF m 158 #[.val (.int sel), .val (.long le), .second, .val (.long ri), .second, .val (.int mo), .val (.ref b2), .val (.ref b180), .val (.int o), .val (.long rt), .second, .val (.int (mo &&& (3 : Int32))), .val (.int (2 : Int32)), .unset] [])) P381 (by
          intro tt_ kk_
          refine XS.iconst X329.here hx rfl (hb hby at_149) ?_
          show Steps p.tables e below (T329.setTop (mkF m 150 #[.val (.int sel), .val (.long le), .second, .val (.long ri), .second, .val (.int mo), .val (.ref b2), .val (.ref b180), .val (.int o), .val (.long rt), .second, .val (.int (mo &&& (3 : Int32))), .unset, .unset] [(.int (2 : Int32))])) _
          refine XS.istore X329.here hx rfl (hb hby at_150) rfl (l' := #[.val (.int sel), .val (.long le), .second, .val (.long ri), .second, .val (.int mo), .val (.ref b2), .val (.ref b180), .val (.int o), .val (.long rt), .second, .val (.int (mo &&& (3 : Int32))), .val (.int (2 : Int32)), .unset]) rfl ?_
          show Steps p.tables e below (T329.setTop (mkF m 152 #[.val (.int sel), .val (.long le), .second, .val (.long ri), .second, .val (.int mo), .val (.ref b2), .val (.ref b180), .val (.int o), .val (.long rt), .second, .val (.int (mo &&& (3 : Int32))), .val (.int (2 : Int32)), .unset] [])) _
          refine XS.goto X329.here hx rfl (pc0 := 152) (pc' := 158) rfl (hb hby at_152) (by decide) (by decide) ?_
          exact kk_)
        exact ⟨(2 : Int32), Or.inr (Or.inl ⟨c375, c380, rfl⟩), P382⟩
      · have P383 := own_step (C := T329.setTop (mkF m 155 #[.val (.int sel), .val (.long le), .second, .val (.long ri), .second, .val (.int mo), .val (.ref b2), .val (.ref b180), .val (.int o), .val (.long rt), .second, .val (.int (mo &&& (3 : Int32))), .unset, .unset] [])) P379 (by
          intro tt_ kk_
          refine XS.ifYes X329.here hx rfl (pc0 := 146) (pc' := 155) rfl (hb hby at_146) rfl ((if0 _ _).trans (feq (fun q => c380 ((lw_eq _ _).mp q))).2) (by decide) (by decide) ?_
          exact kk_)
        have P384 := own_step (C := T329.setTop (mkF m 158 #[.val (.int sel), .val (.long le), .second, .val (.long ri), .second, .val (.int mo), .val (.ref b2), .val (.ref b180), .val (.int o), .val (.long rt), .second, .val (.int (mo &&& (3 : Int32))), .val (.int (4 : Int32)), .unset] [])) P383 (by
          intro tt_ kk_
          refine XS.iconst X329.here hx rfl (hb hby at_155) ?_
          show Steps p.tables e below (T329.setTop (mkF m 156 #[.val (.int sel), .val (.long le), .second, .val (.long ri), .second, .val (.int mo), .val (.ref b2), .val (.ref b180), .val (.int o), .val (.long rt), .second, .val (.int (mo &&& (3 : Int32))), .unset, .unset] [(.int (4 : Int32))])) _
          refine XS.istore X329.here hx rfl (hb hby at_156) rfl (l' := #[.val (.int sel), .val (.long le), .second, .val (.long ri), .second, .val (.int mo), .val (.ref b2), .val (.ref b180), .val (.int o), .val (.long rt), .second, .val (.int (mo &&& (3 : Int32))), .val (.int (4 : Int32)), .unset]) rfl ?_
          exact kk_)
        exact ⟨(4 : Int32), Or.inr (Or.inr (⟨c375, c380, rfl⟩)), P384⟩
  have P385 := own_step P371 J372
  have P386 := own_step (C := T329.setTop (mkF m 162 #[.val (.int sel), .val (.long le), .second, .val (.long ri), .second, .val (.int mo), .val (.ref b2), .val (.ref b180), .val (.int o), .val (.long rt), .second, .val (.int (mo &&& (3 : Int32))), .val (.int oc), .unset] [(.int o), (.ref b180)])) P385 (by
    intro tt_ kk_
    refine XS.aload X329.here hx rfl (hb hby at_158) rfl rfl ?_
    show Steps p.tables e below (T329.setTop (mkF m 160 #[.val (.int sel), .val (.long le), .second, .val (.long ri), .second, .val (.int mo), .val (.ref b2), .val (.ref b180), .val (.int o), .val (.long rt), .second, .val (.int (mo &&& (3 : Int32))), .val (.int oc), .unset] [(.ref b180)])) _
    refine XS.iload X329.here hx rfl (hb hby at_160) rfl ?_
    exact kk_)
  obtain ⟨cl387, Ar387, q387, S387, M387, H387, G387⟩ := id V329
  have hin387 := inb_of S387 (own_inb ho)
  have hat387 := Has.at H387 hin387 (own_u1 ho)
  have P388 := own_step (C := T329.setTop (mkF m 163 #[.val (.int sel), .val (.long le), .second, .val (.long ri), .second, .val (.int mo), .val (.ref b2), .val (.ref b180), .val (.int o), .val (.long rt), .second, .val (.int (mo &&& (3 : Int32))), .val (.int oc), .unset] [(.int (own_ad o))])) P386 (by
    intro tt_ kk_
    refine X329.iaload hx (j := o) (v := (.int (own_ad o))) (by rw [e329]; exact Ar387.1) (State.isArrayOf_alike hZ.alike Ar387.2.1) Ar387.2.2 hin387 hat387 (g := (mkF m 162 #[.val (.int sel), .val (.long le), .second, .val (.long ri), .second, .val (.int mo), .val (.ref b2), .val (.ref b180), .val (.int o), .val (.long rt), .second, .val (.int (mo &&& (3 : Int32))), .val (.int oc), .unset] [(.int o), (.ref b180)])) rfl rfl (hb hby at_162) _ ?_
    exact kk_)
  have P389 := own_step (C := T329.setTop (mkF m 166 #[.val (.int sel), .val (.long le), .second, .val (.long ri), .second, .val (.int mo), .val (.ref b2), .val (.ref b180), .val (.int o), .val (.long rt), .second, .val (.int (mo &&& (3 : Int32))), .val (.int oc), .unset] [(.int ((own_ad o) &&& oc))])) P388 (by
    intro tt_ kk_
    refine XS.iload X329.here hx rfl (hb hby at_163) rfl ?_
    show Steps p.tables e below (T329.setTop (mkF m 165 #[.val (.int sel), .val (.long le), .second, .val (.long ri), .second, .val (.int mo), .val (.ref b2), .val (.ref b180), .val (.int o), .val (.long rt), .second, .val (.int (mo &&& (3 : Int32))), .val (.int oc), .unset] [(.int oc), (.int (own_ad o))])) _
    refine XS.iand X329.here hx rfl (hb hby at_165) rfl ?_
    exact kk_)
  obtain ⟨ve, hv390, J390⟩ : ∃ (ve : Int32), ((((own_ad o) &&& oc) = (0 : Int32) ∧ ve = (0 : Int32)) ∨ (¬ (((own_ad o) &&& oc) = (0 : Int32)) ∧ ve = (1 : Int32))) ∧ own_Go p e below (T329.setTop (mkF m 166 #[.val (.int sel), .val (.long le), .second, .val (.long ri), .second, .val (.int mo), .val (.ref b2), .val (.ref b180), .val (.int o), .val (.long rt), .second, .val (.int (mo &&& (3 : Int32))), .val (.int oc), .unset] [(.int ((own_ad o) &&& oc))])) (T329.setTop (mkF m 174 #[.val (.int sel), .val (.long le), .second, .val (.long ri), .second, .val (.int mo), .val (.ref b2), .val (.ref b180), .val (.int o), .val (.long rt), .second, .val (.int (mo &&& (3 : Int32))), .val (.int oc), .unset] [(.int ve)])) := by
    have P391 : own_Go p e below (T329.setTop (mkF m 166 #[.val (.int sel), .val (.long le), .second, .val (.long ri), .second, .val (.int mo), .val (.ref b2), .val (.ref b180), .val (.int o), .val (.long rt), .second, .val (.int (mo &&& (3 : Int32))), .val (.int oc), .unset] [(.int ((own_ad o) &&& oc))])) (T329.setTop (mkF m 166 #[.val (.int sel), .val (.long le), .second, .val (.long ri), .second, .val (.int mo), .val (.ref b2), .val (.ref b180), .val (.int o), .val (.long rt), .second, .val (.int (mo &&& (3 : Int32))), .val (.int oc), .unset] [(.int ((own_ad o) &&& oc))])) := fun t_ k_ => k_
    by_cases c392 : ((own_ad o) &&& oc) = (0 : Int32)
    · have P393 := own_step (C := T329.setTop (mkF m 173 #[.val (.int sel), .val (.long le), .second, .val (.long ri), .second, .val (.int mo), .val (.ref b2), .val (.ref b180), .val (.int o), .val (.long rt), .second, .val (.int (mo &&& (3 : Int32))), .val (.int oc), .unset] [])) P391 (by
        intro tt_ kk_
        refine XS.ifYes X329.here hx rfl (pc0 := 166) (pc' := 173) rfl (hb hby at_166) rfl ((if0 _ _).trans (teq c392).1) (by decide) (by decide) ?_
        exact kk_)
      have P394 := own_step (C := T329.setTop (mkF m 174 #[.val (.int sel), .val (.long le), .second, .val (.long ri), .second, .val (.int mo), .val (.ref b2), .val (.ref b180), .val (.int o), .val (.long rt), .second, .val (.int (mo &&& (3 : Int32))), .val (.int oc), .unset] [(.int (0 : Int32))])) P393 (by
        intro tt_ kk_
        refine XS.iconst X329.here hx rfl (hb hby at_173) ?_
        exact kk_)
      exact ⟨(0 : Int32), Or.inl ⟨c392, rfl⟩, P394⟩
    · have P395 := own_step (C := T329.setTop (mkF m 169 #[.val (.int sel), .val (.long le), .second, .val (.long ri), .second, .val (.int mo), .val (.ref b2), .val (.ref b180), .val (.int o), .val (.long rt), .second, .val (.int (mo &&& (3 : Int32))), .val (.int oc), .unset] [])) P391 (by
        intro tt_ kk_
        refine XS.ifNo X329.here hx rfl (hb hby at_166) rfl ((if0 _ _).trans (feq c392).1) ?_
        exact kk_)
      have P396 := own_step (C := T329.setTop (mkF m 174 #[.val (.int sel), .val (.long le), .second, .val (.long ri), .second, .val (.int mo), .val (.ref b2), .val (.ref b180), .val (.int o), .val (.long rt), .second, .val (.int (mo &&& (3 : Int32))), .val (.int oc), .unset] [(.int (1 : Int32))])) P395 (by
        intro tt_ kk_
        refine XS.iconst X329.here hx rfl (hb hby at_169) ?_
        show Steps p.tables e below (T329.setTop (mkF m 170 #[.val (.int sel), .val (.long le), .second, .val (.long ri), .second, .val (.int mo), .val (.ref b2), .val (.ref b180), .val (.int o), .val (.long rt), .second, .val (.int (mo &&& (3 : Int32))), .val (.int oc), .unset] [(.int (1 : Int32))])) _
        refine XS.goto X329.here hx rfl (pc0 := 170) (pc' := 174) rfl (hb hby at_170) (by decide) (by decide) ?_
        exact kk_)
      exact ⟨(1 : Int32), Or.inr (⟨c392, rfl⟩), P396⟩
  have P397 := own_step P389 J390
  have P398 := own_step (C := T329.setTop (mkF m 180 #[.val (.int sel), .val (.long le), .second, .val (.long ri), .second, .val (.int mo), .val (.ref b2), .val (.ref b180), .val (.int o), .val (.long rt), .second, .val (.int (mo &&& (3 : Int32))), .val (.int oc), .val (.int ve)] [(.int o), (.ref b2)])) P397 (by
    intro tt_ kk_
    refine XS.istore X329.here hx rfl (hb hby at_174) rfl (l' := #[.val (.int sel), .val (.long le), .second, .val (.long ri), .second, .val (.int mo), .val (.ref b2), .val (.ref b180), .val (.int o), .val (.long rt), .second, .val (.int (mo &&& (3 : Int32))), .val (.int oc), .val (.int ve)]) rfl ?_
    show Steps p.tables e below (T329.setTop (mkF m 176 #[.val (.int sel), .val (.long le), .second, .val (.long ri), .second, .val (.int mo), .val (.ref b2), .val (.ref b180), .val (.int o), .val (.long rt), .second, .val (.int (mo &&& (3 : Int32))), .val (.int oc), .val (.int ve)] [])) _
    refine XS.aload X329.here hx rfl (hb hby at_176) rfl rfl ?_
    show Steps p.tables e below (T329.setTop (mkF m 178 #[.val (.int sel), .val (.long le), .second, .val (.long ri), .second, .val (.int mo), .val (.ref b2), .val (.ref b180), .val (.int o), .val (.long rt), .second, .val (.int (mo &&& (3 : Int32))), .val (.int oc), .val (.int ve)] [(.ref b2)])) _
    refine XS.iload X329.here hx rfl (hb hby at_178) rfl ?_
    exact kk_)
  obtain ⟨cl399, Ar399, q399, S399, M399, H399, G399⟩ := id f348
  have hin399 := inb_of S399 (own_inb ho)
  have hat399 := Has.at H399 hin399 (own_u2 ho)
  have P400 := own_step (C := T329.setTop (mkF m 181 #[.val (.int sel), .val (.long le), .second, .val (.long ri), .second, .val (.int mo), .val (.ref b2), .val (.ref b180), .val (.int o), .val (.long rt), .second, .val (.int (mo &&& (3 : Int32))), .val (.int oc), .val (.int ve)] [(.ref (own_r o r0 r1 r2 r3 r4 r5))])) P398 (by
    intro tt_ kk_
    refine X329.aaload hx (j := o) (v := (.ref (own_r o r0 r1 r2 r3 r4 r5))) (by rw [e329]; exact Ar399.1) (State.isArrayOf_alike hZ.alike Ar399.2.1) rfl Ar399.2.2 hin399 hat399 (g := (mkF m 180 #[.val (.int sel), .val (.long le), .second, .val (.long ri), .second, .val (.int mo), .val (.ref b2), .val (.ref b180), .val (.int o), .val (.long rt), .second, .val (.int (mo &&& (3 : Int32))), .val (.int oc), .val (.int ve)] [(.int o), (.ref b2)])) rfl rfl (hb hby at_180) _ ?_
    exact kk_)
  have P401 := own_step (C := T329.setTop (mkF m 184 #[.val (.int sel), .val (.long le), .second, .val (.long ri), .second, .val (.int mo), .val (.ref b2), .val (.ref b180), .val (.int o), .val (.long rt), .second, .val (.int (mo &&& (3 : Int32))), .val (.int oc), .val (.int ve)] [(.long rt), (.long le), (.ref (own_r o r0 r1 r2 r3 r4 r5))])) P400 (by
    intro tt_ kk_
    refine XS.lloadN X329.here hx rfl (hb hby at_181) rfl ?_
    show Steps p.tables e below (T329.setTop (mkF m 182 #[.val (.int sel), .val (.long le), .second, .val (.long ri), .second, .val (.int mo), .val (.ref b2), .val (.ref b180), .val (.int o), .val (.long rt), .second, .val (.int (mo &&& (3 : Int32))), .val (.int oc), .val (.int ve)] [(.long le), (.ref (own_r o r0 r1 r2 r3 r4 r5))])) _
    refine XS.lload X329.here hx rfl (hb hby at_182) rfl ?_
    exact kk_)
  have Ea := own_rE ho f331 f334 f337 f340 f343 f346
  have Fa := own_rF ho f332 f335 f338 f341 f344 f347
  obtain ⟨cq402, kq402, q402a, q402b, q402c⟩ := isOf hZ e329 Ea
  obtain ⟨_, _, ⟨T402, L402, k402, n402⟩, -, X402, ⟨Lc402, hQ402, l402, y402, z402⟩, st402⟩ := X329.virtualBack hx (y := (⟨"com/example/uhrwerk/uhrwerk/model/Relation", "test", "(JJ)Z"⟩ : MethodName)) (z := (⟨"com/example/uhrwerk/uhrwerk/model/Relation", "test", "(JJ)Z"⟩ : MethodName)) hown (mvT hZ (hw _ (List.mem_of_getElem? (i := 18) rfl))) (mvT hZ (hw _ (List.mem_of_getElem? (i := 19) rfl))) (notFace_of_selects (args := #[]) (mvT hZ (hw _ (List.mem_of_getElem? (i := 21) rfl)))) (mvT hZ (hw _ (List.mem_of_getElem? (i := 21) rfl))) (mvT hZ (hw _ (List.mem_of_getElem? (i := 20) rfl))) (by decide) (backOf (W := 0) (rm_test l Z a0 hw [] (own_r o r0 r1 r2 r3 r4 r5) o le rt h329 n0 Z350 ho Ea Fa) hZ (hw _ (List.mem_of_getElem? (i := 22) rfl)) (hw _ (List.mem_of_getElem? (i := 3) rfl)) (by decide) (by decide)) q402a q402c (g := (mkF m 184 #[.val (.int sel), .val (.long le), .second, .val (.long ri), .second, .val (.int mo), .val (.ref b2), .val (.ref b180), .val (.int o), .val (.long rt), .second, .val (.int (mo &&& (3 : Int32))), .val (.int oc), .val (.int ve)] [(.long rt), (.long le), (.ref (own_r o r0 r1 r2 r3 r4 r5))])) rfl (by rw [hml]; rfl) (Steps.refl _) (argsL := [(.long le), (.long rt)]) (rest := []) (lenOf pd1 rfl) rfl (by show 2 * 0 + _ ≤ _; exact Nat.le_of_eq rfl) (hb hby at_184) (fun _ _ => ⟨rfl, e329, (by decide : 2 + 0 ≤ _), (by decide : 12 + 0 ≤ _)⟩)
  dsimp only [Pt.U, Pt.locs, Pt.cells, Pt.slots] at X402 l402 y402 z402 st402 hQ402
  subst l402 y402 z402
  obtain ⟨rfl, N402q, e402⟩ := hQ402
  have N402 := Fr.app N329 N402q
  have P403 := own_step (C := T402.setTop (mkF m 187 #[.val (.int sel), .val (.long le), .second, .val (.long ri), .second, .val (.int mo), .val (.ref b2), .val (.ref b180), .val (.int o), .val (.long rt), .second, .val (.int (mo &&& (3 : Int32))), .val (.int oc), .val (.int ve)] [(.int (own_test o le rt))])) P401 (fun t_ k_ => st402.trans k_)
  have P404 := own_step (C := T402.setTop (mkF m 189 #[.val (.int sel), .val (.long le), .second, .val (.long ri), .second, .val (.int mo), .val (.ref b2), .val (.ref b180), .val (.int o), .val (.long rt), .second, .val (.int (mo &&& (3 : Int32))), .val (.int oc), .val (.int ve)] [(.int ve), (.int (own_test o le rt))])) P403 (by
    intro tt_ kk_
    refine XS.iload X402.here hx rfl (hb hby at_187) rfl ?_
    exact kk_)
  have P405 := own_step (C := T402.setTop (mkF m 192 #[.val (.int sel), .val (.long le), .second, .val (.long ri), .second, .val (.int mo), .val (.ref b2), .val (.ref b180), .val (.int o), .val (.long rt), .second, .val (.int (mo &&& (3 : Int32))), .val (.int oc), .val (.int ve)] [])) P404 (by
    intro tt_ kk_
    refine XS.icmpNo X402.here hx rfl (hb hby at_189) rfl (teq (own_fin ho hv372 hv390)).2 ?_
    exact kk_)
  have P406 := own_step (C := T402.setTop (mkF m 197 #[.val (.int sel), .val (.long le), .second, .val (.long ri), .second, .val (.int mo), .val (.ref b2), .val (.ref b180), .val (.int o), .val (.long rt), .second, .val (.int (mo &&& (3 : Int32))), .val (.int oc), .val (.int ve)] [(.int (1 : Int32))])) P405 (by
    intro tt_ kk_
    refine XS.iconst X402.here hx rfl (hb hby at_192) ?_
    show Steps p.tables e below (T402.setTop (mkF m 193 #[.val (.int sel), .val (.long le), .second, .val (.long ri), .second, .val (.int mo), .val (.ref b2), .val (.ref b180), .val (.int o), .val (.long rt), .second, .val (.int (mo &&& (3 : Int32))), .val (.int oc), .val (.int ve)] [(.int (1 : Int32))])) _
    refine XS.goto X402.here hx rfl (pc0 := 193) (pc' := 197) rfl (hb hby at_193) (by decide) (by decide) ?_
    exact kk_)
  obtain ⟨fs, hr, hrun, hended, hW, hsame⟩ := X402.leave (v := some (.int (1 : Int32))) (fun h => by rw [Bd.returns] at h; cases h)
  refine ⟨_, _, P406 _ ?_, hrun, hended, _, _, rfl, ?_, ⟨_, rfl⟩, hW, hsame.mono (by decide) (by decide)⟩
  · exact retN X402 hx (t := .boolean) Bd.returns (by simp) (hb hby at_197) hr
  · show Q0 Z _ _ _ _ _ _ _ _ _ _ h0 n0 _ T402.heap _
    rw [e402]
    exact ⟨rfl, N402⟩
set_option maxRecDepth 65536 in
set_option maxHeartbeats 40000000 in
theorem comes_1 {Post : Tables → Env → Array Value → State → Outcome → State → Prop} (hpost : ∀ tb e args s v u, (limb_1_1.after args s (.returned v) u = true ∧ limb_1_2.after args s (.returned v) u = true ∧ True) → FrameEnd s (.returned v) u (Jvm.fieldLocs frame_1_writes args s ++ Jvm.arrayLocs frame_1_arrays args s ++ Jvm.staticLocs frame_1_statics s) 16 128 → Post tb e args s (.returned v) u) :
    ArmFor flags0 classFile x code maxLocals ret World_1 tables_1 room_1 Calls_1 rest_1 Pre_1 Post := by
  intro l hfl _ _ p e ha hc hk s m args below hf hA hF happ hP
  obtain ⟨hcalls, hrest, hpre⟩ := hP
  obtain ⟨-, -, -, hnamed, -, -, -, hat⟩ := (Spec.applies_iff hf).mp happ
  obtain ⟨hg, hn⟩ := and_e (Cond.before_iff.mp (show (Jvm.Cond.and given_1 narrow_1).before args s = true from hpre))
  obtain ⟨hgc, hg0⟩ := and_e hg
  obtain ⟨ha0, hg1⟩ := and_e hg0
  obtain ⟨ha1, hg2⟩ := and_e hg1
  obtain ⟨ha2, hg3⟩ := and_e hg2
  have ha3 := hg3
  obtain ⟨w0, w1, w2, w3, rfl⟩ : ∃ w0 w1 w2 w3 : Value, args = #[w0, w1, w2, w3] := by
    have hs : args.size = 4 := by simpa [Cond.value, given_1] using hgc
    obtain ⟨L⟩ := args
    match L, hs with
    | [w0, w1, w2, w3], _ => exact ⟨w0, w1, w2, w3, rfl⟩
  have hw := fun d (hd : d ∈ tables_1) => atoms_spec (ws := Jvm.Cond.code x code maxLocals ret :: tables_1) hat d (List.mem_cons_of_mem _ hd)
  have hfit : Fit s := fun {y c} hc i hi => by
    obtain ⟨ha, rfl⟩ := Array.getElem?_eq_some_iff.mp hc
    have q := List.all_eq_true.mp ((Array.all_eq_true_iff_forall_mem.mp hF) _ (Array.getElem_mem ha)) i (List.mem_range.mpr hi)
    simpa [Array.getElem?_eq_getElem hi] using q
  obtain ⟨i0, ei0⟩ := is_v ha0
  obtain rfl : w0 = (.int i0) := Option.some.inj ei0
  obtain ⟨i1, ei1⟩ := isL_v ha1
  obtain rfl : w1 = (.long i1) := Option.some.inj ei1
  obtain ⟨i2, ei2⟩ := isL_v ha2
  obtain rfl : w2 = (.long i2) := Option.some.inj ei2
  obtain ⟨i3, ei3⟩ := is_v ha3
  obtain rfl : w3 = (.int i3) := Option.some.inj ei3
  obtain ⟨hn_E0, hn0⟩ := and_e hn
  obtain ⟨hn_E1, hn1⟩ := and_e hn0
  obtain ⟨hn_E2, hn2⟩ := and_e hn1
  obtain ⟨hn_E3, hn3⟩ := and_e hn2
  obtain ⟨hn_E4, hn4⟩ := and_e hn3
  obtain ⟨hn_E5, hn5⟩ := and_e hn4
  obtain ⟨hn_F0, hn6⟩ := and_e hn5
  obtain ⟨hn_F4, hn7⟩ := and_e hn6
  obtain ⟨hn_F5, hn8⟩ := and_e hn7
  obtain ⟨hn_F1, hn9⟩ := and_e hn8
  obtain ⟨hn_F2, hn10⟩ := and_e hn9
  have hn_F3 := hn10
  obtain ⟨r0, ev0⟩ := exa_v hn_E0
  have RE0 := Exa.start ev0 hn_E0
  have RF0 := Fld.start ((fld_at ev0).symm.trans (Jvm.RoadKit.eqv_i rfl hn_F0))
  obtain ⟨r1, ev1⟩ := exa_v hn_E1
  have RE1 := Exa.start ev1 hn_E1
  have RF1 := Fld.start ((fld_at ev1).symm.trans (Jvm.RoadKit.eqv_i rfl hn_F1))
  obtain ⟨r2, ev2⟩ := exa_v hn_E2
  have RE2 := Exa.start ev2 hn_E2
  have RF2 := Fld.start ((fld_at ev2).symm.trans (Jvm.RoadKit.eqv_i rfl hn_F2))
  obtain ⟨r3, ev3⟩ := exa_v hn_E3
  have RE3 := Exa.start ev3 hn_E3
  have RF3 := Fld.start ((fld_at ev3).symm.trans (Jvm.RoadKit.eqv_i rfl hn_F3))
  obtain ⟨r4, ev4⟩ := exa_v hn_E4
  have RE4 := Exa.start ev4 hn_E4
  have RF4 := Fld.start ((fld_at ev4).symm.trans (Jvm.RoadKit.eqv_i rfl hn_F4))
  obtain ⟨r5, ev5⟩ := exa_v hn_E5
  have RE5 := Exa.start ev5 hn_E5
  have RF5 := Fld.start ((fld_at ev5).symm.trans (Jvm.RoadKit.eqv_i rfl hn_F5))
  have RS0 := Sta.start ev0 (Or.inr ⟨(hw _ (List.mem_of_getElem? (i := 3) rfl)), (hw _ (List.mem_of_getElem? (i := 4) rfl))⟩)
  have RS1 := Sta.start ev1 (Or.inr ⟨(hw _ (List.mem_of_getElem? (i := 3) rfl)), (hw _ (List.mem_of_getElem? (i := 7) rfl))⟩)
  have RS2 := Sta.start ev2 (Or.inr ⟨(hw _ (List.mem_of_getElem? (i := 3) rfl)), (hw _ (List.mem_of_getElem? (i := 9) rfl))⟩)
  have RS3 := Sta.start ev3 (Or.inr ⟨(hw _ (List.mem_of_getElem? (i := 3) rfl)), (hw _ (List.mem_of_getElem? (i := 11) rfl))⟩)
  have RS4 := Sta.start ev4 (Or.inr ⟨(hw _ (List.mem_of_getElem? (i := 3) rfl)), (hw _ (List.mem_of_getElem? (i := 13) rfl))⟩)
  have RS5 := Sta.start ev5 (Or.inr ⟨(hw _ (List.mem_of_getElem? (i := 3) rfl)), (hw _ (List.mem_of_getElem? (i := 15) rfl))⟩)
  obtain ⟨n, o, h1, h2, h3, _, L, rfl, ⟨rfl, N⟩, hq⟩ := rm0 l s _ hw tables_1 i0 i1 i2 i3 r0 r1 r2 r3 r4 r5 s.heap s.heap.size (Nat.le_refl _) RS0 RS1 RS2 RS3 RS4 RS5 RE0 RE1 RE2 RE3 RE4 RE5 RF0 RF1 RF2 RF3 RF4 RF5 p e ha hc hk s m _ below hf ((Spec.applies_iff_loose hf).mp happ).1 ⟨rfl, State.Warmed39.refl s, rfl⟩ trivial
  exact ⟨n, _, h1, h2, h3, hpost _ _ _ _ _ _ ⟨Cond.after_iff.mpr rfl, Cond.after_iff.mpr (eq_i res_at (Term.int_eval (1)) rfl), trivial⟩ ⟨hq.1, hq.2.1, (hq.2.2.sift fun y hy => Or.inr (N y hy)).mono (by decide) (by decide)⟩⟩
theorem main_1_1 : Claimed_1_1 := comes_1 fun _ _ _ _ _ _ h hF => ⟨h.1, hF⟩
theorem main_1_2 : Claimed_1_2 := comes_1 fun _ _ _ _ _ _ h hF => ⟨h.2.1, hF⟩
end Jvm.Pilot.@@N@@
namespace Jvm.Pilot.@@N@@
open Jvm Jvm.ClassFile Sem Op Lib Jvm.Free Jvm.Stand Jvm.Pilot.@@N@@.Jvm.D
/-! MADE BY PROGRAM (witnessworld.py) out of the Statement's table words and the real class files: 13 classes; the members and pool entries that the words name. The judged class is class 1, her method 1. -/
namespace start1
open Jvm.ClassFile
def u (s : String) : CpInfo := .utf8 (stringToUtf16 s)
/-- a pool by its gaps: so many unusable entries, then the entry; so many at the end -/
def gap : Nat → List CpInfo → List CpInfo
  | 0, r => r
  | n + 1, r => .unusable :: gap n r
def poolList (es : List (Nat × CpInfo)) (last : Nat) : List CpInfo := es.foldr (fun e r => gap e.1 (e.2 :: r)) (gap last [])
def pool (es : List (Nat × CpInfo)) (last : Nat) : Array CpInfo := ⟨poolList es last⟩
def fileOf (pool : Array CpInfo) (this : Nat) (attrs : Array Attribute := #[]) (ms : Array MethodInfo := #[]) (fl : Nat := 33) (sup : Nat := 0) (ifs : Array Nat := #[]) (fds : Array FieldInfo := #[]) : ClassFile where
  minorVersion := 0
  majorVersion := 65
  constantPool := pool
  accessFlags := fl
  thisClass := this
  superClass := sup
  interfaces := ifs
  fields := fds
  methods := ms
  attributes := attrs
def plain (name : String) (sup : Option ClassId) : Class where
  name := name
  kind := .ordinary
  loader := none
  accessFlags := 33
  super := sup
  interfaces := #[]
  cf := none
  fields := #[]
  methods := #[]
  instanceTypes := #[]
  staticTypes := #[]
  resolved := #[]
  callSites := []
  init := .initialized
  statics := none
  mirror := none

def pool0 : Array CpInfo := pool [(5, u "<init>"), (0, u "()V"), (1, .class_ 10), (1, u "java/lang/Object")] 113

def k0m0 : Method := { name := "<init>", desc := "()V", sig := { parameters := [], returnType := none }, accessFlags := 1, code := none }
/-- java/lang/Object -/
def k0 : Class := { plain "java/lang/Object" none with
  accessFlags := 33
  interfaces := #[]
  cf := some (fileOf pool0 8 #[] #[{ accessFlags := 1, nameIndex := 5, descriptorIndex := 6, attributes := #[] }] 33 0 #[] #[])
  fields := #[]
  methods := #[k0m0]
  instanceTypes := #[]
  staticTypes := #[]
  resolved := Array.replicate 124 none
  statics := none }

def pool1 : Array CpInfo := pool [(2, .class_ 4), (1, u "java/lang/Object"), (0, u "<init>"), (0, u "()V"), (0, .class_ 8), (0, u "com/example/uhrwerk/uhrwerk/model/Relation"), (0, .fieldref 7 10), (0, .nameAndType 11 12), (0, u "LESS"), (0, u "Lcom/example/uhrwerk/uhrwerk/model/Relation;"), (0, .fieldref 7 14), (0, .nameAndType 15 12), (0, u "LESS_OR_EQUAL"), (0, .fieldref 7 17), (0, .nameAndType 18 12), (0, u "EQUAL"), (0, .fieldref 7 20), (0, .nameAndType 21 12), (0, u "NOT_EQUAL"), (0, .fieldref 7 23), (0, .nameAndType 24 12), (0, u "GREATER_OR_EQUAL"), (0, .fieldref 7 26), (0, .nameAndType 27 12), (0, u "GREATER"), (0, .integer 2147483647), (0, .methodref 7 30), (0, .nameAndType 31 32), (0, u "test"), (0, u "(JJ)Z"), (0, .class_ 34), (0, u "com/example/uhrwerk/uhrwerk/model/RelationTestPinLaw"), (2, u "law"), (0, u "(IJJI)Z")] 7

def k1m0 : Method := { name := "<init>", desc := "()V", sig := { parameters := [], returnType := none }, accessFlags := 1, code := none }
def k1c1 : Code := { maxStack := 5, maxLocals := 14, code := code, exceptionTable := #[], attributes := #[] }
def k1m1 : Method := { name := "law", desc := "(IJJI)Z", sig := { parameters := [.int, .long, .long, .int], returnType := some .boolean }, accessFlags := 9, code := some k1c1 }
/-- com/example/uhrwerk/uhrwerk/model/RelationTestPinLaw -/
def k1 : Class := { plain "com/example/uhrwerk/uhrwerk/model/RelationTestPinLaw" (some 0) with
  accessFlags := 49
  interfaces := #[]
  cf := some (fileOf pool1 33 #[] #[{ accessFlags := 1, nameIndex := 5, descriptorIndex := 6, attributes := #[] }, { accessFlags := 9, nameIndex := 37, descriptorIndex := 38, attributes := #[] }] 49 2 #[] #[])
  fields := #[]
  methods := #[k1m0, k1m1]
  instanceTypes := #[]
  staticTypes := #[]
  resolved := Array.replicate 46 none
  statics := none }

def pool2 : Array CpInfo := pool [(1, .class_ 2), (0, u "java/lang/constant/Constable"), (0, .class_ 4), (0, u "java/lang/Object")] 6

/-- java/lang/constant/Constable -/
def k2 : Class := { plain "java/lang/constant/Constable" (some 0) with
  accessFlags := 1537
  interfaces := #[]
  cf := some (fileOf pool2 1 #[] #[] 1537 3 #[] #[])
  fields := #[]
  methods := #[]
  instanceTypes := #[]
  staticTypes := #[]
  resolved := Array.replicate 11 none
  statics := none }

def pool3 : Array CpInfo := pool [(1, .class_ 2), (0, u "java/lang/Comparable"), (0, .class_ 4), (0, u "java/lang/Object")] 7

/-- java/lang/Comparable -/
def k3 : Class := { plain "java/lang/Comparable" (some 0) with
  accessFlags := 1537
  interfaces := #[]
  cf := some (fileOf pool3 1 #[] #[] 1537 3 #[] #[])
  fields := #[]
  methods := #[]
  instanceTypes := #[]
  staticTypes := #[]
  resolved := Array.replicate 12 none
  statics := none }

def pool4 : Array CpInfo := pool [(1, .class_ 2), (0, u "java/io/Serializable"), (0, .class_ 4), (0, u "java/lang/Object")] 2

/-- java/io/Serializable -/
def k4 : Class := { plain "java/io/Serializable" (some 0) with
  accessFlags := 1537
  interfaces := #[]
  cf := some (fileOf pool4 1 #[] #[] 1537 3 #[] #[])
  fields := #[]
  methods := #[]
  instanceTypes := #[]
  staticTypes := #[]
  resolved := Array.replicate 7 none
  statics := none }

def pool5 : Array CpInfo := pool [(2, .class_ 4), (1, u "java/lang/Enum"), (0, u "name"), (0, u "Ljava/lang/String;"), (0, .fieldref 2 8), (0, .nameAndType 9 10), (0, u "ordinal"), (0, u "I"), (1, .class_ 14), (1, u "java/lang/Object"), (4, u "hash"), (86, .class_ 108), (1, u "java/lang/Enum$EnumDesc"), (2, .class_ 112), (0, u "java/lang/constant/Constable"), (0, .class_ 114), (0, u "java/lang/Comparable"), (0, .class_ 116), (0, u "java/io/Serializable"), (9, u "()I")] 77

def k5c0 : Code := { maxStack := 1, maxLocals := 1, code := jdk_37_method_2_code, exceptionTable := #[], attributes := #[] }
def k5m0 : Method := { name := "ordinal", desc := "()I", sig := { parameters := [], returnType := some .int }, accessFlags := 17, code := some k5c0 }
/-- java/lang/Enum -/
def k5 : Class := { plain "java/lang/Enum" (some 0) with
  accessFlags := 1057
  interfaces := #[2, 3, 4]
  cf := some (fileOf pool5 2 #[.nestMembers #[106]] #[{ accessFlags := 17, nameIndex := 9, descriptorIndex := 126, attributes := #[] }] 1057 12 #[111, 113, 115] #[{ accessFlags := 18, nameIndex := 5, descriptorIndex := 6, attributes := #[] }, { accessFlags := 18, nameIndex := 9, descriptorIndex := 10, attributes := #[] }, { accessFlags := 2, nameIndex := 19, descriptorIndex := 10, attributes := #[] }])
  fields := #[{ name := "name", type := (.object "java/lang/String"), accessFlags := 18, slot := 0, constantValue := 0 }, { name := "ordinal", type := .int, accessFlags := 18, slot := 1, constantValue := 0 }, { name := "hash", type := .int, accessFlags := 2, slot := 2, constantValue := 0 }]
  methods := #[k5m0]
  instanceTypes := #[(.object "java/lang/String"), .int, .int]
  staticTypes := #[]
  resolved := Array.replicate 204 none
  statics := none }

def pool6 : Array CpInfo := pool [(1, .class_ 2), (0, u "com/example/uhrwerk/uhrwerk/model/Relation"), (2, u "LESS"), (0, u "Lcom/example/uhrwerk/uhrwerk/model/Relation;"), (2, u "LESS_OR_EQUAL"), (2, u "EQUAL"), (2, u "NOT_EQUAL"), (2, u "GREATER_OR_EQUAL"), (2, u "GREATER"), (2, u "$VALUES"), (0, u "[Lcom/example/uhrwerk/uhrwerk/model/Relation;"), (6, .class_ 34), (1, u "java/lang/Enum"), (8, u "symbol"), (0, u "Ljava/lang/String;"), (10, .methodref 1 56), (0, .nameAndType 57 58), (0, u "ordinal"), (0, u "()I"), (38, u "test"), (0, u "(JJ)Z")] 8

def k6c0 : Code := { maxStack := 4, maxLocals := 5, code := prog_84_method_6_code, exceptionTable := #[], attributes := #[] }
def k6m0 : Method := { name := "test", desc := "(JJ)Z", sig := { parameters := [.long, .long], returnType := some .boolean }, accessFlags := 1, code := some k6c0 }
/-- com/example/uhrwerk/uhrwerk/model/Relation -/
def k6 : Class := { plain "com/example/uhrwerk/uhrwerk/model/Relation" (some 5) with
  accessFlags := 16433
  interfaces := #[]
  cf := some (fileOf pool6 1 #[] #[{ accessFlags := 1, nameIndex := 97, descriptorIndex := 98, attributes := #[] }] 16433 32 #[] #[{ accessFlags := 16409, nameIndex := 5, descriptorIndex := 6, attributes := #[] }, { accessFlags := 16409, nameIndex := 9, descriptorIndex := 6, attributes := #[] }, { accessFlags := 16409, nameIndex := 12, descriptorIndex := 6, attributes := #[] }, { accessFlags := 16409, nameIndex := 15, descriptorIndex := 6, attributes := #[] }, { accessFlags := 16409, nameIndex := 18, descriptorIndex := 6, attributes := #[] }, { accessFlags := 16409, nameIndex := 21, descriptorIndex := 6, attributes := #[] }, { accessFlags := 18, nameIndex := 43, descriptorIndex := 44, attributes := #[] }, { accessFlags := 4122, nameIndex := 24, descriptorIndex := 25, attributes := #[] }])
  fields := #[{ name := "LESS", type := (.object "com/example/uhrwerk/uhrwerk/model/Relation"), accessFlags := 16409, slot := 0, constantValue := 0 }, { name := "LESS_OR_EQUAL", type := (.object "com/example/uhrwerk/uhrwerk/model/Relation"), accessFlags := 16409, slot := 1, constantValue := 0 }, { name := "EQUAL", type := (.object "com/example/uhrwerk/uhrwerk/model/Relation"), accessFlags := 16409, slot := 2, constantValue := 0 }, { name := "NOT_EQUAL", type := (.object "com/example/uhrwerk/uhrwerk/model/Relation"), accessFlags := 16409, slot := 3, constantValue := 0 }, { name := "GREATER_OR_EQUAL", type := (.object "com/example/uhrwerk/uhrwerk/model/Relation"), accessFlags := 16409, slot := 4, constantValue := 0 }, { name := "GREATER", type := (.object "com/example/uhrwerk/uhrwerk/model/Relation"), accessFlags := 16409, slot := 5, constantValue := 0 }, { name := "symbol", type := (.object "java/lang/String"), accessFlags := 18, slot := 3, constantValue := 0 }, { name := "$VALUES", type := (.array (.object "com/example/uhrwerk/uhrwerk/model/Relation")), accessFlags := 4122, slot := 6, constantValue := 0 }]
  methods := #[k6m0]
  instanceTypes := #[(.object "java/lang/String"), .int, .int, (.object "java/lang/String")]
  staticTypes := #[(.object "com/example/uhrwerk/uhrwerk/model/Relation"), (.object "com/example/uhrwerk/uhrwerk/model/Relation"), (.object "com/example/uhrwerk/uhrwerk/model/Relation"), (.object "com/example/uhrwerk/uhrwerk/model/Relation"), (.object "com/example/uhrwerk/uhrwerk/model/Relation"), (.object "com/example/uhrwerk/uhrwerk/model/Relation"), (.array (.object "com/example/uhrwerk/uhrwerk/model/Relation"))]
  resolved := Array.replicate 107 none
  statics := some 0 }

def pool7 : Array CpInfo := pool [(1, u "java/lang/Cloneable"), (0, .class_ 1), (0, u "java/lang/Object"), (0, .class_ 3)] 3

/-- java/lang/Cloneable -/
def k7 : Class := { plain "java/lang/Cloneable" (some 0) with
  accessFlags := 1537
  interfaces := #[]
  cf := some (fileOf pool7 2 #[] #[] 1537 4 #[] #[])
  fields := #[]
  methods := #[]
  instanceTypes := #[]
  staticTypes := #[]
  resolved := Array.replicate 8 none
  statics := none }

/-- the primitive byte -/
def k8 : Class := { plain "byte" none with kind := .primitive 'B', accessFlags := 0x411 }
/-- [B -/
def k9 : Class := { plain "[B" (some 0) with kind := .array 8 .byte, interfaces := #[7, 4], accessFlags := 1041 }

/-- the primitive int -/
def k10 : Class := { plain "int" none with kind := .primitive 'I', accessFlags := 0x411 }
/-- [I -/
def k11 : Class := { plain "[I" (some 0) with kind := .array 10 .int, interfaces := #[7, 4], accessFlags := 1041 }

/-- [Lcom/example/uhrwerk/uhrwerk/model/Relation; -/
def k12 : Class := { plain "[Lcom/example/uhrwerk/uhrwerk/model/Relation;" (some 0) with kind := .array 6 (.object "com/example/uhrwerk/uhrwerk/model/Relation"), interfaces := #[7, 4], accessFlags := 1041 }

def heap : Heap := #[{ cls := 6, slots := #[.ref 1, .ref 2, .ref 3, .ref 4, .ref 5, .ref 6, .null], vm := .statics 6 },
  { cls := 6, slots := #[.null, .int 0, .int 0, .null], vm := .none },
  { cls := 6, slots := #[.null, .int 1, .int 0, .null], vm := .none },
  { cls := 6, slots := #[.null, .int 2, .int 0, .null], vm := .none },
  { cls := 6, slots := #[.null, .int 3, .int 0, .null], vm := .none },
  { cls := 6, slots := #[.null, .int 4, .int 0, .null], vm := .none },
  { cls := 6, slots := #[.null, .int 5, .int 0, .null], vm := .none }]
def classes : Array Class := #[k0, k1, k2, k3, k4, k5, k6, k7, k8, k9, k10, k11, k12]
def interned : List (Array UInt16 × Addr) := []
def slotsUsed : Nat := 31
def theMethod : MethodId := ⟨1, 1⟩
def args0 : Array Value := #[.int 1, .long 5, .long 7, .int 0]
def aboutOver (below : List Frame) : State where
  vm := { classes := classes, interned := interned.toArray }
  heap := heap
  slotsUsed := slotsUsed
  threads := #[{ frames := .invoking theMethod args0 :: below }]
def below0 : List Frame := [.native { method := ⟨0, 0⟩, args := #[] }]
def about1 : State := aboutOver below0
def p0 : Program := .bare "" "" ""
def e0 : Env := launch0.env 0 0 0
theorem w_frames : about1.frames = Frame.invoking theMethod args0 :: below0 := rfl
set_option maxRecDepth 65536 in
theorem w_args : argsFit about1.vm theMethod args0 = true := by decide +kernel
set_option maxRecDepth 65536 in
theorem w_heap : heapFits about1 = true := by decide +kernel
set_option maxRecDepth 65536 in
theorem w_runnable : about1.curStatus? = some .runnable := by decide +kernel
set_option maxRecDepth 65536 in
theorem w_alone : about1.alone = true := by decide +kernel
set_option maxRecDepth 65536 in
theorem w_named : about1.methodNamed? x = some theMethod := by decide +kernel
set_option maxRecDepth 65536 in
theorem w_hears : about1.hears theMethod below0 = true := by decide +kernel
set_option maxRecDepth 65536 in
theorem w_ripe : about1.ripe theMethod args0 below0 = true := by decide +kernel
theorem w_running : about1.status = .running := rfl
set_option maxRecDepth 65536 in
theorem w_room : about1.hasRoom e0.platform room_1 = true :=
  launch0.hasRoom_least _ room_1 (by decide +kernel) (by decide +kernel) (by decide +kernel) (by decide +kernel) (by decide +kernel) (by decide +kernel)
theorem allAtoms_all (ts : List Jvm.Cond) (a : Array Jvm.Value) (st : Jvm.State) : (allAtoms ts).before a st = ts.all (fun c => c.before a st) := by
  induction ts with
  | nil => rfl
  | cons c t ih =>
    show (Jvm.Cond.and c (allAtoms t)).before a st = _
    rw [Jvm.Cond.before_and, ih, List.all_cons]
def words1 : List Jvm.Cond := Jvm.Cond.code x code maxLocals ret :: tables_1
/-- a 'code' word, met by the world's own term for the bytes: nothing is compared byte by byte -/
theorem code_word {y : MethodName} {bytes : ByteArray} {mx : Nat} {rt : Option FieldType} {a : Array Value} {s : State} {m : MethodId} {meth : Method} {c : Code} (h1 : s.methodNamed? y = some m) (h2 : s.vm.method? m = some meth) (h3 : meth.code = some c) (h4 : c.code = bytes)
    (h5 : (c.maxLocals == mx && c.exceptionTable.isEmpty && decide (c.maxStack ≤ mostOperands) && decide (meth.sig.returnType = rt) && !meth.locks && decide (parseMethodDescriptor y.desc = some meth.sig)) = true) : (Jvm.Cond.code y bytes mx rt).before a s = true := by
  simp only [Bool.and_eq_true, beq_iff_eq, Bool.not_eq_true', decide_eq_true_eq] at h5
  obtain ⟨⟨⟨⟨⟨g1, g2⟩, g3⟩, g4⟩, g5⟩, g6⟩ := h5
  simp [Cond.before, Cond.holds, Cond.value, h1, h2, h3, h4, g1, g2, g3, g4, g5, g6]
def isCode : Jvm.Cond → Bool
  | .code _ _ _ _ => true
  | _ => false
theorem all_split {L : List Jvm.Cond} {P : Jvm.Cond → Bool} (h1 : L.all (fun c => isCode c || P c) = true) (h2 : ∀ c ∈ L.filter isCode, P c = true) : L.all P = true := by
  refine List.all_eq_true.mpr fun c hc => ?_
  have h := List.all_eq_true.mp h1 c hc
  rcases Bool.eq_false_or_eq_true (isCode c) with hi | hi
  · exact h2 c (List.mem_filter.mpr ⟨hc, hi⟩)
  · simpa [hi] using h
set_option maxRecDepth 65536 in
theorem w_c0 : (Jvm.Cond.code x code maxLocals ret).before args0 about1 = true := code_word (m := ⟨1, 1⟩) (meth := k1m1) (c := k1c1) (by decide +kernel) rfl rfl rfl (by decide +kernel)
set_option maxRecDepth 65536 in
theorem w_c1 : (Jvm.Cond.code ({ cls := "com/example/uhrwerk/uhrwerk/model/Relation", name := "test", desc := "(JJ)Z" } : Jvm.MethodName) prog_84_method_6_code (5 : Nat) (Option.some Jvm.ClassFile.FieldType.boolean)).before args0 about1 = true := code_word (m := ⟨6, 0⟩) (meth := k6m0) (c := k6c0) (by decide +kernel) rfl rfl rfl (by decide +kernel)
set_option maxRecDepth 65536 in
theorem w_c2 : (Jvm.Cond.code ({ cls := "java/lang/Enum", name := "ordinal", desc := "()I" } : Jvm.MethodName) jdk_37_method_2_code (1 : Nat) (Option.some Jvm.ClassFile.FieldType.int)).before args0 about1 = true := code_word (m := ⟨5, 0⟩) (meth := k5m0) (c := k5c0) (by decide +kernel) rfl rfl rfl (by decide +kernel)
def codes1 : List Jvm.Cond := [Jvm.Cond.code x code maxLocals ret, Jvm.Cond.code ({ cls := "com/example/uhrwerk/uhrwerk/model/Relation", name := "test", desc := "(JJ)Z" } : Jvm.MethodName) prog_84_method_6_code (5 : Nat) (Option.some Jvm.ClassFile.FieldType.boolean), Jvm.Cond.code ({ cls := "java/lang/Enum", name := "ordinal", desc := "()I" } : Jvm.MethodName) jdk_37_method_2_code (1 : Nat) (Option.some Jvm.ClassFile.FieldType.int)]
set_option maxRecDepth 65536 in
theorem codes_eq : words1.filter isCode = codes1 := rfl
theorem w_codes : ∀ c ∈ words1.filter isCode, c.before args0 about1 = true := by
  rw [codes_eq]
  intro c hc
  simp only [codes1, List.mem_cons, List.not_mem_nil, or_false] at hc
  rcases hc with rfl | rfl | rfl
  · exact w_c0
  · exact w_c1
  · exact w_c2
set_option maxRecDepth 65536 in
theorem w_t1 : (words1.take 24).all (fun c => isCode c || c.before args0 about1) = true := by decide +kernel
set_option maxRecDepth 65536 in
theorem w_t2 : (words1.drop 24).all (fun c => isCode c || c.before args0 about1) = true := by decide +kernel
theorem w_tables : (allAtoms (Jvm.Cond.code x code maxLocals ret :: tables_1)).before args0 about1 = true := by
  rw [allAtoms_all]
  show words1.all (fun c => c.before args0 about1) = true
  refine all_split ?_ w_codes
  rw [← List.take_append_drop 24 words1, List.all_append, w_t1, w_t2]
  rfl
set_option maxRecDepth 65536 in
theorem w_case : (Jvm.Cond.and given_1 narrow_1).before args0 about1 = true := by decide +kernel
theorem w_applies : (headSpec (Jvm.Cond.code x code maxLocals ret :: tables_1) room_1).applies x e0.platform about1 = true :=
  (Spec.applies_iff w_frames).mpr ⟨w_running, w_runnable, w_alone, w_named, w_hears, w_ripe, w_room, w_tables⟩
theorem atStart : AtStart classFile x code maxLocals ret World_1 tables_1 room_1 Calls_1 rest_1 Pre_1 launch0 p0 e0 about1 theMethod args0 below0 :=
  ⟨lists_1, trivial, launch0.admits_env _ _ _, launch0.least_env, fairChoices_fair.cas, fairChoices_fair.clock, w_frames, w_args, w_heap, w_applies, trivial, trivial, w_case⟩
end start1
theorem witness_1 : WitnessClaimed_1 := ⟨start1.p0, start1.e0, start1.about1, start1.theMethod, start1.args0, start1.below0, start1.atStart⟩
end Jvm.Pilot.@@N@@
