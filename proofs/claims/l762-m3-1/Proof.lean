import JvmDerived
import JvmDerived.Pilot.@@N@@Statement
import JvmDerived.Pilot.@@N@@Code
set_option linter.unusedVariables false
set_option linter.unusedSimpArgs false
namespace Jvm.RoadKit
open Sem ClassFile Op Lib Jvm.Stand Jvm.Free Jvm.LawKit
abbrev own_Go (p : Program) (e : Env) (below : List Frame) (A B : State) : Prop := ∀ t, Steps p.tables e below B t → Steps p.tables e below A t
theorem own_name {p : Program} {e : Env} {below : List Frame} {A : State} {α : Type} {F : α → State} (x : α) (P : own_Go p e below A (F x)) : ∃ z, z = x ∧ own_Go p e below A (F z) := ⟨x, rfl, P⟩
theorem own_step {p : Program} {e : Env} {below : List Frame} {A B C : State} (P : own_Go p e below A B) (q : own_Go p e below B C) : own_Go p e below A C := fun t_ k_ => P t_ (q t_ k_)
theorem own_IB {Z s U : State} {Ts : List String} (I : IB Z s.vm Ts) (w : s.WarmedH U.vm) : IB Z U.vm Ts := by
  obtain ⟨more, e, hm⟩ := I
  exact ⟨more, w.interned_eq.trans e, hm⟩
theorem own_backI {p : Program} {l : Launch} {e : Env} {R : Room} {s Z : State} {args a0 : Array Value} {below : List Frame} {h : Heap} {y : MethodName} {bytes : ByteArray} {maxL : Nat} {ret : Option FieldType} {rm : Room} {len W : Nat} {as' : Array Value} {Ts : List String} {Q : Option Value → Heap → List Loc → Prop}
    (hM : MetFree l y (head1 [Cond.code y bytes maxL ret] rm) (fun a U => a = as' ∧ Z.Warmed39 U.vm ∧ U.heap = h ∧ IB Z U.vm Ts) (fun _ _ _ _ _ => True) (fun _ U o U' => ∃ v L, o = .returned v ∧ Q v U'.heap L ∧ ReturnedEndW U o U' L rm.cells rm.slots))
    (hZ : Z.Warmed39 s.vm) (hI : IB Z s.vm Ts) (wc : (Cond.code y bytes maxL ret).before a0 Z = true) (wz : (Cond.initialized y.cls).before a0 Z = true) (hf : rm.frames + 1 ≤ R.frames) (hl : W + (maxL + 11) + rm.locals ≤ R.locals) :
    BackS l R p e below s args y len W (fun A a => a = as' ∧ A.U.heap = h ∧ A.cells + rm.cells ≤ R.cells ∧ A.slots + rm.slots ≤ R.slots) (fun A _ v B => ∃ L, Q v B.U.heap L ∧ B.locs = A.locs ++ L ∧ B.cells = A.cells + rm.cells ∧ B.slots = A.slots + rm.slots) := by
  refine BackS.of_freeW (bytes := bytes) (maxL := maxL) (ret := ret) (E := fun _ _ o t L k n => k = rm.cells ∧ n = rm.slots ∧ ∃ v, o = .returned v ∧ Q v t.heap L) hM hf hl ?_ ?_ (fun _ _ _ _ _ _ _ _ _ => trivial) ?_ ?_
  · intro m meth c A a Y hp
    have hU : Z.Warmed39 A.U.vm := wtrans hZ Y.warmed
    refine ⟨?_, mv hU wc, mv hU wz, hp.2.2.1, hp.2.2.2⟩
    show (Cond.and _ .tt).before a A.U = true
    rw [Cond.before_and, mv hU wc]; rfl
  · intro m meth c A a g mk Y hp
    exact ⟨hp.1, wtrans hZ Y.warmed, hp.2.1, own_IB hI Y.warmed⟩
  · rintro _ _ _ _ ⟨v, L, h1, h2, h3⟩
    exact ⟨L, _, _, h3, rfl, rfl, v, h1, h2⟩
  · intro m meth c A a g mk v t L k n Y hp _ _ q
    obtain ⟨e1, e2, v', e3, e4⟩ := q
    cases e3; subst e1 e2; exact ⟨L, e4, rfl, rfl, rfl⟩
section New
variable {p : Program} {l : Launch} {e : Env} {R : Room} {s : State} {m : MethodId} {args : Array Value} {below : List Frame} {meth : Method} {c : Code} {T : State} {locs : List Loc} {cells slots : Nat}
theorem retI (X : Stand p l e R s m args below meth c T locs cells slots) (hx : p.tables.exec = Jvm.exec) {pc : Nat} {Ls : Array Slot} {z : Int32} {rest : List Value} (hret : meth.sig.returnType = some .int) (hd : decode c.code pc = .ok (.ireturn, 1)) {fs : List Frame}
    (hl : ∀ (f : JFrame) (acts : List Action), f.method = m → f.locked = none → f.entered = [] → (doReturn e (T.setTop f) acts (some (.int z))).1 = T.setFrames fs) : Steps p.tables e below (T.setTop (mkF m pc Ls (.int z :: rest))) (T.setFrames fs) := by
  have hm' : T.vm.method? m = some meth := X.method'
  have hn : narrow .int (.int z) = .int z := rfl
  show Steps p.tables e below (T.setTop { method := m, pc := pc, locals := Ls, stack := _ :: rest, locked := none }) _
  jvm_step X.here [X.here.top, hx, hd, hm', hret, hn]
  first | (intro acts; rw [hl _ acts rfl rfl rfl]) | rw [hl _ _ rfl rfl rfl]
  exact Steps.refl _
end New
end Jvm.RoadKit
namespace Jvm.Pilot.@@N@@
open Jvm Jvm.ClassFile Sem Op Lib Jvm.Free Jvm.Stand Jvm.LawKit Jvm.RoadKit Bundle Jvm.Pilot.@@N@@.Jvm.D
def own_r (o : Int32) (r0 r1 r2 r3 r4 r5 : Addr) : Addr := if o = (0 : Int32) then r0 else if o = (1 : Int32) then r1 else if o = (2 : Int32) then r2 else if o = (3 : Int32) then r3 else if o = (4 : Int32) then r4 else r5
def own_neg (o : Int32) : Int32 := if o = (0 : Int32) then 4 else if o = (1 : Int32) then 5 else if o = (2 : Int32) then 3 else if o = (3 : Int32) then 2 else if o = (4 : Int32) then 0 else 1
def own_O (o : Int32) : Prop := o = (0 : Int32) ∨ o = (1 : Int32) ∨ o = (2 : Int32) ∨ o = (3 : Int32) ∨ o = (4 : Int32) ∨ o = (5 : Int32)
theorem own_neg_O {o : Int32} (h : own_O o) : own_O (own_neg o) := by unfold own_O at *; rcases h with rfl | rfl | rfl | rfl | rfl | rfl <;> decide
theorem own_neg_neg {o : Int32} (h : own_O o) : own_neg (own_neg o) = o := by unfold own_O at *; rcases h with rfl | rfl | rfl | rfl | rfl | rfl <;> decide
def own_test (o : Int32) (l r : Int64) : Int32 := if o = (0 : Int32) then (if l < r then 1 else 0) else if o = (1 : Int32) then (if r < l then 0 else 1) else if o = (2 : Int32) then (if l = r then 1 else 0) else if o = (3 : Int32) then (if l = r then 0 else 1) else if o = (4 : Int32) then (if l < r then 0 else 1) else (if r < l then 1 else 0)
theorem own_rE {Z : State} {h : Heap} {C : String} {o : Int32} {r0 r1 r2 r3 r4 r5 : Addr} (H : own_O o) (E0 : Exa Z h r0 C) (E1 : Exa Z h r1 C) (E2 : Exa Z h r2 C) (E3 : Exa Z h r3 C) (E4 : Exa Z h r4 C) (E5 : Exa Z h r5 C) : Exa Z h (own_r o r0 r1 r2 r3 r4 r5) C := by
  unfold own_O at H; rcases H with rfl | rfl | rfl | rfl | rfl | rfl
  · exact E0
  · exact E1
  · exact E2
  · exact E3
  · exact E4
  · exact E5
theorem own_rF {Z : State} {h : Heap} {C n d : String} {o : Int32} {r0 r1 r2 r3 r4 r5 : Addr} (H : own_O o) (E0 : Fld Z h r0 C n d (.int 0)) (E1 : Fld Z h r1 C n d (.int 1)) (E2 : Fld Z h r2 C n d (.int 2)) (E3 : Fld Z h r3 C n d (.int 3)) (E4 : Fld Z h r4 C n d (.int 4)) (E5 : Fld Z h r5 C n d (.int 5)) : Fld Z h (own_r o r0 r1 r2 r3 r4 r5) C n d (.int o) := by
  unfold own_O at H; rcases H with rfl | rfl | rfl | rfl | rfl | rfl
  · exact E0
  · exact E1
  · exact E2
  · exact E3
  · exact E4
  · exact E5
def own_ord (oo : Int32) : Int32 := oo
theorem d3_0 : decode jdk_37_method_2_code 0 = .ok (.aload_n 0, 1) := by decide +kernel
theorem d3_1 : decode jdk_37_method_2_code 1 = .ok (.getfield 7, 3) := by decide +kernel
theorem d3_4 : decode jdk_37_method_2_code 4 = .ok (.ireturn, 1) := by decide +kernel
theorem ef__own_ord (m : MethodId) (x0 : Addr) : entryFrame m #[(.ref x0)] 1 = mkF m 0 #[.val (.ref x0)] [] := by first | (simp [entryFrame, mkF, argsToLocals, Value.category]; done) | rfl
def Q_own_ord (Z : State) (a : Addr) (oo : Int32) (h0 : Heap) (n0 : Nat) (v_ : Option Value) (h : Heap) (L_ : List Loc) : Prop := v_ = some (.int (own_ord oo)) ∧ Fr n0 L_ ∧ h = h0
theorem pn0 : plainName "java/lang/Enum" = true := by first | (simp [plainName, overriddenIn]; done) | decide +kernel
set_option maxRecDepth 65536 in
set_option maxHeartbeats 40000000 in
theorem rm_own_ord (l : Launch) (Z : State) (a0 : Array Value) (hw : ∀ d ∈ tables_1, d.before a0 Z = true) (ws : List Jvm.Cond) (a : Addr) (oo : Int32) (h0 : Heap) (n0 : Nat) (Z0 : n0 ≤ h0.size) (Fa : Fld Z h0 a "java/lang/Enum" "ordinal" "I" (.int oo)) :
    MetFree l (⟨"java/lang/Enum", "ordinal", "()I"⟩ : MethodName) (head1 (Jvm.Cond.code (⟨"java/lang/Enum", "ordinal", "()I"⟩ : MethodName) jdk_37_method_2_code 1 (some .int) :: ws) ({ frames := 0, cells := 0, slots := 0, locals := 0 } : Room)) (fun a_ U_ => a_ = #[(.ref a)] ∧ Z.Warmed39 U_.vm ∧ U_.heap = h0) (fun _ _ _ _ _ => True) (fun _ U_ o_ V_ => ∃ v_ L_, o_ = .returned v_ ∧ Q_own_ord Z a oo h0 n0 v_ V_.heap L_ ∧ FrameEnd U_ o_ V_ L_ ({ frames := 0, cells := 0, slots := 0, locals := 0 } : Room).cells ({ frames := 0, cells := 0, slots := 0, locals := 0 } : Room).slots) := by
  refine MetFree.of_bodySF (plainFor_of_name pn0) hisR ?_
  intro p e s m args below meth c s₁ Bd hml0 hP hK
  obtain ⟨rfl, hZ, hh⟩ := hP
  have hx := Bd.exec
  have hby := Bd.bytes
  have hml : c.maxLocals = 1 := hml0
  have hown : s.vm.findClass "java/lang/Enum" = some m.cls := findClass_of_methodNamed Bd.named
  have hnm := (name_of_methodNamed Bd.named Bd.method).1
  have X0 : Stand p l e ({ frames := 0, cells := 0, slots := 0, locals := 0 } : Room) s m #[(.ref a)] below meth c s₁ [] 0 0 := Stand.of_body Bd
  have e0 : s₁.heap = h0 := by rw [← hh, Bd.state]; rfl
  have N0 := Fr.nil n0
  have pre0 : own_Go p e below (s₁.setTop (entryFrame m #[(.ref a)] 1)) (s₁.setTop (mkF m 0 #[.val (.ref a)] [])) := fun t_ k_ => castTop (ef__own_ord m a) k_
  have P1 := own_step (C := s₁.setTop (mkF m 1 #[.val (.ref a)] [(.ref a)])) pre0 (by
    intro tt_ kk_
    refine XS.aloadN X0.here hx rfl (hb hby d3_0) rfl rfl ?_
    exact kk_)
  obtain ⟨T2, X2, e2, st2⟩ := getF X0 hx hZ hown (host := "") (Or.inl (hw _ (List.mem_of_getElem? (i := 20) rfl))) Via.refl e0 Fa (g := (mkF m 1 #[.val (.ref a)] [(.ref a)])) rfl rfl (hb hby d3_1)
  have P3 := own_step (C := T2.setTop (mkF m 4 #[.val (.ref a)] [(.int oo)])) P1 (fun t_ k_ => st2 t_ k_)
  obtain ⟨fs, hr, hrun, hended, hW, hsame⟩ := X2.leave (v := some (.int oo)) (fun h => by rw [Bd.returns] at h; cases h)
  refine ⟨_, _, P3 _ ?_, hrun, hended, _, _, rfl, ?_, ⟨_, rfl⟩, hW, hsame.mono (by decide) (by decide)⟩
  · exact retI X2 hx Bd.returns (hb hby d3_4) hr
  · show Q_own_ord Z _ _ h0 n0 _ T2.heap _
    rw [e2]
    exact ⟨rfl, N0, rfl⟩
theorem pd0 : parseMethodDescriptor "()I" = some ⟨[], some .int⟩ := by decide +kernel
theorem d4_0 : decode prog_84_method_6_code 0 = .ok (.aload_n 0, 1) := by decide +kernel
theorem d4_1 : decode prog_84_method_6_code 1 = .ok (.invokevirtual 55, 3) := by decide +kernel
theorem d4_4 : decode prog_84_method_6_code 4 = .ok (.tableswitch 40 0 5 #[50, 64, 78, 92, 106, 120], 40) := by decide +kernel
theorem d4_54 : decode prog_84_method_6_code 54 = .ok (.lload_n 1, 1) := by decide +kernel
theorem d4_55 : decode prog_84_method_6_code 55 = .ok (.lload_n 3, 1) := by decide +kernel
theorem d4_56 : decode prog_84_method_6_code 56 = .ok (.lcmp, 1) := by decide +kernel
theorem d4_57 : decode prog_84_method_6_code 57 = .ok (.ifCond .ge 7, 3) := by decide +kernel
theorem d4_60 : decode prog_84_method_6_code 60 = .ok (.iconst 1, 1) := by decide +kernel
theorem d4_61 : decode prog_84_method_6_code 61 = .ok (.goto 74, 3) := by decide +kernel
theorem d4_64 : decode prog_84_method_6_code 64 = .ok (.iconst 0, 1) := by decide +kernel
theorem d4_65 : decode prog_84_method_6_code 65 = .ok (.goto 70, 3) := by decide +kernel
theorem d4_68 : decode prog_84_method_6_code 68 = .ok (.lload_n 1, 1) := by decide +kernel
theorem d4_69 : decode prog_84_method_6_code 69 = .ok (.lload_n 3, 1) := by decide +kernel
theorem d4_70 : decode prog_84_method_6_code 70 = .ok (.lcmp, 1) := by decide +kernel
theorem d4_71 : decode prog_84_method_6_code 71 = .ok (.ifCond .gt 7, 3) := by decide +kernel
theorem d4_74 : decode prog_84_method_6_code 74 = .ok (.iconst 1, 1) := by decide +kernel
theorem d4_75 : decode prog_84_method_6_code 75 = .ok (.goto 60, 3) := by decide +kernel
theorem d4_78 : decode prog_84_method_6_code 78 = .ok (.iconst 0, 1) := by decide +kernel
theorem d4_79 : decode prog_84_method_6_code 79 = .ok (.goto 56, 3) := by decide +kernel
theorem d4_82 : decode prog_84_method_6_code 82 = .ok (.lload_n 1, 1) := by decide +kernel
theorem d4_83 : decode prog_84_method_6_code 83 = .ok (.lload_n 3, 1) := by decide +kernel
theorem d4_84 : decode prog_84_method_6_code 84 = .ok (.lcmp, 1) := by decide +kernel
theorem d4_85 : decode prog_84_method_6_code 85 = .ok (.ifCond .ne 7, 3) := by decide +kernel
theorem d4_88 : decode prog_84_method_6_code 88 = .ok (.iconst 1, 1) := by decide +kernel
theorem d4_89 : decode prog_84_method_6_code 89 = .ok (.goto 46, 3) := by decide +kernel
theorem d4_92 : decode prog_84_method_6_code 92 = .ok (.iconst 0, 1) := by decide +kernel
theorem d4_93 : decode prog_84_method_6_code 93 = .ok (.goto 42, 3) := by decide +kernel
theorem d4_96 : decode prog_84_method_6_code 96 = .ok (.lload_n 1, 1) := by decide +kernel
theorem d4_97 : decode prog_84_method_6_code 97 = .ok (.lload_n 3, 1) := by decide +kernel
theorem d4_98 : decode prog_84_method_6_code 98 = .ok (.lcmp, 1) := by decide +kernel
theorem d4_99 : decode prog_84_method_6_code 99 = .ok (.ifCond .eq 7, 3) := by decide +kernel
theorem d4_102 : decode prog_84_method_6_code 102 = .ok (.iconst 1, 1) := by decide +kernel
theorem d4_103 : decode prog_84_method_6_code 103 = .ok (.goto 32, 3) := by decide +kernel
theorem d4_106 : decode prog_84_method_6_code 106 = .ok (.iconst 0, 1) := by decide +kernel
theorem d4_107 : decode prog_84_method_6_code 107 = .ok (.goto 28, 3) := by decide +kernel
theorem d4_110 : decode prog_84_method_6_code 110 = .ok (.lload_n 1, 1) := by decide +kernel
theorem d4_111 : decode prog_84_method_6_code 111 = .ok (.lload_n 3, 1) := by decide +kernel
theorem d4_112 : decode prog_84_method_6_code 112 = .ok (.lcmp, 1) := by decide +kernel
theorem d4_113 : decode prog_84_method_6_code 113 = .ok (.ifCond .lt 7, 3) := by decide +kernel
theorem d4_116 : decode prog_84_method_6_code 116 = .ok (.iconst 1, 1) := by decide +kernel
theorem d4_117 : decode prog_84_method_6_code 117 = .ok (.goto 18, 3) := by decide +kernel
theorem d4_120 : decode prog_84_method_6_code 120 = .ok (.iconst 0, 1) := by decide +kernel
theorem d4_121 : decode prog_84_method_6_code 121 = .ok (.goto 14, 3) := by decide +kernel
theorem d4_124 : decode prog_84_method_6_code 124 = .ok (.lload_n 1, 1) := by decide +kernel
theorem d4_125 : decode prog_84_method_6_code 125 = .ok (.lload_n 3, 1) := by decide +kernel
theorem d4_126 : decode prog_84_method_6_code 126 = .ok (.lcmp, 1) := by decide +kernel
theorem d4_127 : decode prog_84_method_6_code 127 = .ok (.ifCond .le 7, 3) := by decide +kernel
theorem d4_130 : decode prog_84_method_6_code 130 = .ok (.iconst 1, 1) := by decide +kernel
theorem d4_131 : decode prog_84_method_6_code 131 = .ok (.goto 4, 3) := by decide +kernel
theorem d4_134 : decode prog_84_method_6_code 134 = .ok (.iconst 0, 1) := by decide +kernel
theorem d4_135 : decode prog_84_method_6_code 135 = .ok (.ireturn, 1) := by decide +kernel
theorem ef__test (m : MethodId) (x0 : Addr) (x1 : Int64) (x2 : Int64) : entryFrame m #[(.ref x0), (.long x1), (.long x2)] 5 = mkF m 0 #[.val (.ref x0), .val (.long x1), .second, .val (.long x2), .second] [] := by first | (simp [entryFrame, mkF, argsToLocals, Value.category]; done) | rfl
def Q_test (Z : State) (a : Addr) (oo : Int32) (lx : Int64) (rx : Int64) (h0 : Heap) (n0 : Nat) (v_ : Option Value) (h : Heap) (L_ : List Loc) : Prop := v_ = some (.int (own_test oo lx rx)) ∧ Fr n0 L_ ∧ h = h0
theorem pn1 : plainName "com/example/uhrwerk/uhrwerk/model/Relation" = true := by first | (simp [plainName, overriddenIn]; done) | decide +kernel
set_option maxRecDepth 65536 in
set_option maxHeartbeats 40000000 in
theorem rm_test (l : Launch) (Z : State) (a0 : Array Value) (hw : ∀ d ∈ tables_1, d.before a0 Z = true) (ws : List Jvm.Cond) (a : Addr) (oo : Int32) (lx : Int64) (rx : Int64) (h0 : Heap) (n0 : Nat) (Z0 : n0 ≤ h0.size) (ho : own_O oo) (Ea : Exa Z h0 a "com/example/uhrwerk/uhrwerk/model/Relation") (Fa : Fld Z h0 a "java/lang/Enum" "ordinal" "I" (.int oo)) :
    MetFree l (⟨"com/example/uhrwerk/uhrwerk/model/Relation", "test", "(JJ)Z"⟩ : MethodName) (head1 (Jvm.Cond.code (⟨"com/example/uhrwerk/uhrwerk/model/Relation", "test", "(JJ)Z"⟩ : MethodName) prog_84_method_6_code 5 (some .boolean) :: ws) ({ frames := 1, cells := 0, slots := 0, locals := 12 } : Room)) (fun a_ U_ => a_ = #[(.ref a), (.long lx), (.long rx)] ∧ Z.Warmed39 U_.vm ∧ U_.heap = h0) (fun _ _ _ _ _ => True) (fun _ U_ o_ V_ => ∃ v_ L_, o_ = .returned v_ ∧ Q_test Z a oo lx rx h0 n0 v_ V_.heap L_ ∧ FrameEnd U_ o_ V_ L_ ({ frames := 1, cells := 0, slots := 0, locals := 12 } : Room).cells ({ frames := 1, cells := 0, slots := 0, locals := 12 } : Room).slots) := by
  refine MetFree.of_bodySF (plainFor_of_name pn1) hisR ?_
  intro p e s m args below meth c s₁ Bd hml0 hP hK
  obtain ⟨rfl, hZ, hh⟩ := hP
  have hx := Bd.exec
  have hby := Bd.bytes
  have hml : c.maxLocals = 5 := hml0
  have hown : s.vm.findClass "com/example/uhrwerk/uhrwerk/model/Relation" = some m.cls := findClass_of_methodNamed Bd.named
  have hnm := (name_of_methodNamed Bd.named Bd.method).1
  have X0 : Stand p l e ({ frames := 1, cells := 0, slots := 0, locals := 12 } : Room) s m #[(.ref a), (.long lx), (.long rx)] below meth c s₁ [] 0 0 := Stand.of_body Bd
  have e0 : s₁.heap = h0 := by rw [← hh, Bd.state]; rfl
  have N0 := Fr.nil n0
  have pre0 : own_Go p e below (s₁.setTop (entryFrame m #[(.ref a), (.long lx), (.long rx)] 5)) (s₁.setTop (mkF m 0 #[.val (.ref a), .val (.long lx), .second, .val (.long rx), .second] [])) := fun t_ k_ => castTop (ef__test m a lx rx) k_
  unfold own_O at ho
  rcases ho with rfl | rfl | rfl | rfl | rfl | rfl
  · have P1 := own_step (C := s₁.setTop (mkF m 1 #[.val (.ref a), .val (.long lx), .second, .val (.long rx), .second] [(.ref a)])) pre0 (by
      intro tt_ kk_
      refine XS.aloadN X0.here hx rfl (hb hby d4_0) rfl rfl ?_
      exact kk_)
    obtain ⟨cq2, kq2, q2a, q2b, q2c⟩ := isOf hZ e0 Ea
    obtain ⟨_, _, ⟨T2, L2, k2, n2⟩, -, X2, ⟨Lc2, hQ2, l2, y2, z2⟩, st2⟩ := X0.virtualBackUp hx (C := "com/example/uhrwerk/uhrwerk/model/Relation") (owner := "java/lang/Enum") (x := (⟨"com/example/uhrwerk/uhrwerk/model/Relation", "ordinal", "()I"⟩ : MethodName)) (y := (⟨"java/lang/Enum", "ordinal", "()I"⟩ : MethodName)) hown (mvT hZ (hw _ (List.mem_of_getElem? (i := 13) rfl))) (mvT hZ (hw _ (List.mem_of_getElem? (i := 14) rfl))) (mvT hZ (hw _ (List.mem_of_getElem? (i := 15) rfl))) (by decide) (mvT hZ (hw _ (List.mem_of_getElem? (i := 17) rfl))) (mvT hZ (hw _ (List.mem_of_getElem? (i := 16) rfl))) (backOf (W := 0) (rm_own_ord l Z a0 hw [] a (0 : Int32) h0 n0 Z0 Fa) hZ (hw _ (List.mem_of_getElem? (i := 19) rfl)) (hw _ (List.mem_of_getElem? (i := 18) rfl)) (by decide) (by decide)) q2a q2c (g := (mkF m 1 #[.val (.ref a), .val (.long lx), .second, .val (.long rx), .second] [(.ref a)])) rfl (by rw [hml]; rfl) (Steps.refl _) (argsL := []) (rest := []) (lenOf pd0 rfl) rfl (by show 2 * 0 + _ ≤ _; exact Nat.le_of_eq rfl) (hb hby d4_1) (fun _ _ => ⟨rfl, e0, (by decide : 0 + 0 ≤ _), (by decide : 0 + 0 ≤ _)⟩)
    dsimp only [Pt.U, Pt.locs, Pt.cells, Pt.slots] at X2 l2 y2 z2 st2 hQ2
    subst l2 y2 z2
    obtain ⟨rfl, N2q, e2⟩ := hQ2
    have N2 := Fr.app N0 N2q
    have P3 := own_step (C := T2.setTop (mkF m 4 #[.val (.ref a), .val (.long lx), .second, .val (.long rx), .second] [(.int (0 : Int32))])) P1 (fun t_ k_ => st2.trans k_)
    have P4 := own_step (C := T2.setTop (mkF m 54 #[.val (.ref a), .val (.long lx), .second, .val (.long rx), .second] [])) P3 (by
      intro tt_ kk_
      refine XS.tswIn X2.here hx rfl (pc0 := 4) (pc' := 54) rfl (hb hby d4_4) rfl (by decide) rfl (by decide) (by decide) ?_
      exact kk_)
    have P5 := own_step (C := T2.setTop (mkF m 57 #[.val (.ref a), .val (.long lx), .second, .val (.long rx), .second] [(.int (lcmpW lx rx))])) P4 (by
      intro tt_ kk_
      refine XS.lloadN X2.here hx rfl (hb hby d4_54) rfl ?_
      show Steps p.tables e below (T2.setTop (mkF m 55 #[.val (.ref a), .val (.long lx), .second, .val (.long rx), .second] [(.long lx)])) _
      refine XS.lloadN X2.here hx rfl (hb hby d4_55) rfl ?_
      show Steps p.tables e below (T2.setTop (mkF m 56 #[.val (.ref a), .val (.long lx), .second, .val (.long rx), .second] [(.long rx), (.long lx)])) _
      refine XS.lcmp X2.here hx rfl (hb hby d4_56) rfl ?_
      exact kk_)
    by_cases c6 : lx < rx
    · have P7 := own_step (C := T2.setTop (mkF m 60 #[.val (.ref a), .val (.long lx), .second, .val (.long rx), .second] [])) P5 (by
        intro tt_ kk_
        refine XS.ifNo X2.here hx rfl (hb hby d4_57) rfl ((if0 _ _).trans (tlt ((lw_lt _ _).mpr c6)).2.1) ?_
        exact kk_)
      have P8 := own_step (C := T2.setTop (mkF m 135 #[.val (.ref a), .val (.long lx), .second, .val (.long rx), .second] [(.int (1 : Int32))])) P7 (by
        intro tt_ kk_
        refine XS.iconst X2.here hx rfl (hb hby d4_60) ?_
        show Steps p.tables e below (T2.setTop (mkF m 61 #[.val (.ref a), .val (.long lx), .second, .val (.long rx), .second] [(.int (1 : Int32))])) _
        refine XS.goto X2.here hx rfl (pc0 := 61) (pc' := 135) rfl (hb hby d4_61) (by decide) (by decide) ?_
        exact kk_)
      obtain ⟨fs, hr, hrun, hended, hW, hsame⟩ := X2.leave (v := some (.int (1 : Int32))) (fun h => by rw [Bd.returns] at h; cases h)
      refine ⟨_, _, P8 _ ?_, hrun, hended, _, _, rfl, ?_, ⟨_, rfl⟩, hW, hsame.mono (by decide) (by decide)⟩
      · exact retN X2 hx (t := .boolean) Bd.returns (by simp) (hb hby d4_135) hr
      · show Q_test Z _ _ _ _ h0 n0 _ T2.heap _
        rw [e2]
        exact ⟨by simp +decide [own_test, c6], N2, rfl⟩
    · have P9 := own_step (C := T2.setTop (mkF m 64 #[.val (.ref a), .val (.long lx), .second, .val (.long rx), .second] [])) P5 (by
        intro tt_ kk_
        refine XS.ifYes X2.here hx rfl (pc0 := 57) (pc' := 64) rfl (hb hby d4_57) rfl ((if0 _ _).trans (flt (fun q => c6 ((lw_lt _ _).mp q))).2.1) (by decide) (by decide) ?_
        exact kk_)
      have P10 := own_step (C := T2.setTop (mkF m 135 #[.val (.ref a), .val (.long lx), .second, .val (.long rx), .second] [(.int (0 : Int32))])) P9 (by
        intro tt_ kk_
        refine XS.iconst X2.here hx rfl (hb hby d4_64) ?_
        show Steps p.tables e below (T2.setTop (mkF m 65 #[.val (.ref a), .val (.long lx), .second, .val (.long rx), .second] [(.int (0 : Int32))])) _
        refine XS.goto X2.here hx rfl (pc0 := 65) (pc' := 135) rfl (hb hby d4_65) (by decide) (by decide) ?_
        exact kk_)
      obtain ⟨fs, hr, hrun, hended, hW, hsame⟩ := X2.leave (v := some (.int (0 : Int32))) (fun h => by rw [Bd.returns] at h; cases h)
      refine ⟨_, _, P10 _ ?_, hrun, hended, _, _, rfl, ?_, ⟨_, rfl⟩, hW, hsame.mono (by decide) (by decide)⟩
      · exact retN X2 hx (t := .boolean) Bd.returns (by simp) (hb hby d4_135) hr
      · show Q_test Z _ _ _ _ h0 n0 _ T2.heap _
        rw [e2]
        exact ⟨by simp +decide [own_test, c6], N2, rfl⟩
  · have P11 := own_step (C := s₁.setTop (mkF m 1 #[.val (.ref a), .val (.long lx), .second, .val (.long rx), .second] [(.ref a)])) pre0 (by
      intro tt_ kk_
      refine XS.aloadN X0.here hx rfl (hb hby d4_0) rfl rfl ?_
      exact kk_)
    obtain ⟨cq12, kq12, q12a, q12b, q12c⟩ := isOf hZ e0 Ea
    obtain ⟨_, _, ⟨T12, L12, k12, n12⟩, -, X12, ⟨Lc12, hQ12, l12, y12, z12⟩, st12⟩ := X0.virtualBackUp hx (C := "com/example/uhrwerk/uhrwerk/model/Relation") (owner := "java/lang/Enum") (x := (⟨"com/example/uhrwerk/uhrwerk/model/Relation", "ordinal", "()I"⟩ : MethodName)) (y := (⟨"java/lang/Enum", "ordinal", "()I"⟩ : MethodName)) hown (mvT hZ (hw _ (List.mem_of_getElem? (i := 13) rfl))) (mvT hZ (hw _ (List.mem_of_getElem? (i := 14) rfl))) (mvT hZ (hw _ (List.mem_of_getElem? (i := 15) rfl))) (by decide) (mvT hZ (hw _ (List.mem_of_getElem? (i := 17) rfl))) (mvT hZ (hw _ (List.mem_of_getElem? (i := 16) rfl))) (backOf (W := 0) (rm_own_ord l Z a0 hw [] a (1 : Int32) h0 n0 Z0 Fa) hZ (hw _ (List.mem_of_getElem? (i := 19) rfl)) (hw _ (List.mem_of_getElem? (i := 18) rfl)) (by decide) (by decide)) q12a q12c (g := (mkF m 1 #[.val (.ref a), .val (.long lx), .second, .val (.long rx), .second] [(.ref a)])) rfl (by rw [hml]; rfl) (Steps.refl _) (argsL := []) (rest := []) (lenOf pd0 rfl) rfl (by show 2 * 0 + _ ≤ _; exact Nat.le_of_eq rfl) (hb hby d4_1) (fun _ _ => ⟨rfl, e0, (by decide : 0 + 0 ≤ _), (by decide : 0 + 0 ≤ _)⟩)
    dsimp only [Pt.U, Pt.locs, Pt.cells, Pt.slots] at X12 l12 y12 z12 st12 hQ12
    subst l12 y12 z12
    obtain ⟨rfl, N12q, e12⟩ := hQ12
    have N12 := Fr.app N0 N12q
    have P13 := own_step (C := T12.setTop (mkF m 4 #[.val (.ref a), .val (.long lx), .second, .val (.long rx), .second] [(.int (1 : Int32))])) P11 (fun t_ k_ => st12.trans k_)
    have P14 := own_step (C := T12.setTop (mkF m 68 #[.val (.ref a), .val (.long lx), .second, .val (.long rx), .second] [])) P13 (by
      intro tt_ kk_
      refine XS.tswIn X12.here hx rfl (pc0 := 4) (pc' := 68) rfl (hb hby d4_4) rfl (by decide) rfl (by decide) (by decide) ?_
      exact kk_)
    have P15 := own_step (C := T12.setTop (mkF m 71 #[.val (.ref a), .val (.long lx), .second, .val (.long rx), .second] [(.int (lcmpW lx rx))])) P14 (by
      intro tt_ kk_
      refine XS.lloadN X12.here hx rfl (hb hby d4_68) rfl ?_
      show Steps p.tables e below (T12.setTop (mkF m 69 #[.val (.ref a), .val (.long lx), .second, .val (.long rx), .second] [(.long lx)])) _
      refine XS.lloadN X12.here hx rfl (hb hby d4_69) rfl ?_
      show Steps p.tables e below (T12.setTop (mkF m 70 #[.val (.ref a), .val (.long lx), .second, .val (.long rx), .second] [(.long rx), (.long lx)])) _
      refine XS.lcmp X12.here hx rfl (hb hby d4_70) rfl ?_
      exact kk_)
    by_cases c16 : rx < lx
    · have P17 := own_step (C := T12.setTop (mkF m 78 #[.val (.ref a), .val (.long lx), .second, .val (.long rx), .second] [])) P15 (by
        intro tt_ kk_
        refine XS.ifYes X12.here hx rfl (pc0 := 71) (pc' := 78) rfl (hb hby d4_71) rfl ((if0 _ _).trans (tlt ((lw_gt _ _).mpr c16)).2.2.1) (by decide) (by decide) ?_
        exact kk_)
      have P18 := own_step (C := T12.setTop (mkF m 135 #[.val (.ref a), .val (.long lx), .second, .val (.long rx), .second] [(.int (0 : Int32))])) P17 (by
        intro tt_ kk_
        refine XS.iconst X12.here hx rfl (hb hby d4_78) ?_
        show Steps p.tables e below (T12.setTop (mkF m 79 #[.val (.ref a), .val (.long lx), .second, .val (.long rx), .second] [(.int (0 : Int32))])) _
        refine XS.goto X12.here hx rfl (pc0 := 79) (pc' := 135) rfl (hb hby d4_79) (by decide) (by decide) ?_
        exact kk_)
      obtain ⟨fs, hr, hrun, hended, hW, hsame⟩ := X12.leave (v := some (.int (0 : Int32))) (fun h => by rw [Bd.returns] at h; cases h)
      refine ⟨_, _, P18 _ ?_, hrun, hended, _, _, rfl, ?_, ⟨_, rfl⟩, hW, hsame.mono (by decide) (by decide)⟩
      · exact retN X12 hx (t := .boolean) Bd.returns (by simp) (hb hby d4_135) hr
      · show Q_test Z _ _ _ _ h0 n0 _ T12.heap _
        rw [e12]
        exact ⟨by simp +decide [own_test, c16], N12, rfl⟩
    · have P19 := own_step (C := T12.setTop (mkF m 74 #[.val (.ref a), .val (.long lx), .second, .val (.long rx), .second] [])) P15 (by
        intro tt_ kk_
        refine XS.ifNo X12.here hx rfl (hb hby d4_71) rfl ((if0 _ _).trans (flt (fun q => c16 ((lw_gt _ _).mp q))).2.2.1) ?_
        exact kk_)
      have P20 := own_step (C := T12.setTop (mkF m 135 #[.val (.ref a), .val (.long lx), .second, .val (.long rx), .second] [(.int (1 : Int32))])) P19 (by
        intro tt_ kk_
        refine XS.iconst X12.here hx rfl (hb hby d4_74) ?_
        show Steps p.tables e below (T12.setTop (mkF m 75 #[.val (.ref a), .val (.long lx), .second, .val (.long rx), .second] [(.int (1 : Int32))])) _
        refine XS.goto X12.here hx rfl (pc0 := 75) (pc' := 135) rfl (hb hby d4_75) (by decide) (by decide) ?_
        exact kk_)
      obtain ⟨fs, hr, hrun, hended, hW, hsame⟩ := X12.leave (v := some (.int (1 : Int32))) (fun h => by rw [Bd.returns] at h; cases h)
      refine ⟨_, _, P20 _ ?_, hrun, hended, _, _, rfl, ?_, ⟨_, rfl⟩, hW, hsame.mono (by decide) (by decide)⟩
      · exact retN X12 hx (t := .boolean) Bd.returns (by simp) (hb hby d4_135) hr
      · show Q_test Z _ _ _ _ h0 n0 _ T12.heap _
        rw [e12]
        exact ⟨by simp +decide [own_test, c16], N12, rfl⟩
  · have P21 := own_step (C := s₁.setTop (mkF m 1 #[.val (.ref a), .val (.long lx), .second, .val (.long rx), .second] [(.ref a)])) pre0 (by
      intro tt_ kk_
      refine XS.aloadN X0.here hx rfl (hb hby d4_0) rfl rfl ?_
      exact kk_)
    obtain ⟨cq22, kq22, q22a, q22b, q22c⟩ := isOf hZ e0 Ea
    obtain ⟨_, _, ⟨T22, L22, k22, n22⟩, -, X22, ⟨Lc22, hQ22, l22, y22, z22⟩, st22⟩ := X0.virtualBackUp hx (C := "com/example/uhrwerk/uhrwerk/model/Relation") (owner := "java/lang/Enum") (x := (⟨"com/example/uhrwerk/uhrwerk/model/Relation", "ordinal", "()I"⟩ : MethodName)) (y := (⟨"java/lang/Enum", "ordinal", "()I"⟩ : MethodName)) hown (mvT hZ (hw _ (List.mem_of_getElem? (i := 13) rfl))) (mvT hZ (hw _ (List.mem_of_getElem? (i := 14) rfl))) (mvT hZ (hw _ (List.mem_of_getElem? (i := 15) rfl))) (by decide) (mvT hZ (hw _ (List.mem_of_getElem? (i := 17) rfl))) (mvT hZ (hw _ (List.mem_of_getElem? (i := 16) rfl))) (backOf (W := 0) (rm_own_ord l Z a0 hw [] a (2 : Int32) h0 n0 Z0 Fa) hZ (hw _ (List.mem_of_getElem? (i := 19) rfl)) (hw _ (List.mem_of_getElem? (i := 18) rfl)) (by decide) (by decide)) q22a q22c (g := (mkF m 1 #[.val (.ref a), .val (.long lx), .second, .val (.long rx), .second] [(.ref a)])) rfl (by rw [hml]; rfl) (Steps.refl _) (argsL := []) (rest := []) (lenOf pd0 rfl) rfl (by show 2 * 0 + _ ≤ _; exact Nat.le_of_eq rfl) (hb hby d4_1) (fun _ _ => ⟨rfl, e0, (by decide : 0 + 0 ≤ _), (by decide : 0 + 0 ≤ _)⟩)
    dsimp only [Pt.U, Pt.locs, Pt.cells, Pt.slots] at X22 l22 y22 z22 st22 hQ22
    subst l22 y22 z22
    obtain ⟨rfl, N22q, e22⟩ := hQ22
    have N22 := Fr.app N0 N22q
    have P23 := own_step (C := T22.setTop (mkF m 4 #[.val (.ref a), .val (.long lx), .second, .val (.long rx), .second] [(.int (2 : Int32))])) P21 (fun t_ k_ => st22.trans k_)
    have P24 := own_step (C := T22.setTop (mkF m 82 #[.val (.ref a), .val (.long lx), .second, .val (.long rx), .second] [])) P23 (by
      intro tt_ kk_
      refine XS.tswIn X22.here hx rfl (pc0 := 4) (pc' := 82) rfl (hb hby d4_4) rfl (by decide) rfl (by decide) (by decide) ?_
      exact kk_)
    have P25 := own_step (C := T22.setTop (mkF m 85 #[.val (.ref a), .val (.long lx), .second, .val (.long rx), .second] [(.int (lcmpW lx rx))])) P24 (by
      intro tt_ kk_
      refine XS.lloadN X22.here hx rfl (hb hby d4_82) rfl ?_
      show Steps p.tables e below (T22.setTop (mkF m 83 #[.val (.ref a), .val (.long lx), .second, .val (.long rx), .second] [(.long lx)])) _
      refine XS.lloadN X22.here hx rfl (hb hby d4_83) rfl ?_
      show Steps p.tables e below (T22.setTop (mkF m 84 #[.val (.ref a), .val (.long lx), .second, .val (.long rx), .second] [(.long rx), (.long lx)])) _
      refine XS.lcmp X22.here hx rfl (hb hby d4_84) rfl ?_
      exact kk_)
    by_cases c26 : lx = rx
    · have P27 := own_step (C := T22.setTop (mkF m 88 #[.val (.ref a), .val (.long lx), .second, .val (.long rx), .second] [])) P25 (by
        intro tt_ kk_
        refine XS.ifNo X22.here hx rfl (hb hby d4_85) rfl ((if0 _ _).trans (teq ((lw_eq _ _).mpr c26)).2) ?_
        exact kk_)
      have P28 := own_step (C := T22.setTop (mkF m 135 #[.val (.ref a), .val (.long lx), .second, .val (.long rx), .second] [(.int (1 : Int32))])) P27 (by
        intro tt_ kk_
        refine XS.iconst X22.here hx rfl (hb hby d4_88) ?_
        show Steps p.tables e below (T22.setTop (mkF m 89 #[.val (.ref a), .val (.long lx), .second, .val (.long rx), .second] [(.int (1 : Int32))])) _
        refine XS.goto X22.here hx rfl (pc0 := 89) (pc' := 135) rfl (hb hby d4_89) (by decide) (by decide) ?_
        exact kk_)
      obtain ⟨fs, hr, hrun, hended, hW, hsame⟩ := X22.leave (v := some (.int (1 : Int32))) (fun h => by rw [Bd.returns] at h; cases h)
      refine ⟨_, _, P28 _ ?_, hrun, hended, _, _, rfl, ?_, ⟨_, rfl⟩, hW, hsame.mono (by decide) (by decide)⟩
      · exact retN X22 hx (t := .boolean) Bd.returns (by simp) (hb hby d4_135) hr
      · show Q_test Z _ _ _ _ h0 n0 _ T22.heap _
        rw [e22]
        exact ⟨by simp +decide [own_test, c26], N22, rfl⟩
    · have P29 := own_step (C := T22.setTop (mkF m 92 #[.val (.ref a), .val (.long lx), .second, .val (.long rx), .second] [])) P25 (by
        intro tt_ kk_
        refine XS.ifYes X22.here hx rfl (pc0 := 85) (pc' := 92) rfl (hb hby d4_85) rfl ((if0 _ _).trans (feq (fun q => c26 ((lw_eq _ _).mp q))).2) (by decide) (by decide) ?_
        exact kk_)
      have P30 := own_step (C := T22.setTop (mkF m 135 #[.val (.ref a), .val (.long lx), .second, .val (.long rx), .second] [(.int (0 : Int32))])) P29 (by
        intro tt_ kk_
        refine XS.iconst X22.here hx rfl (hb hby d4_92) ?_
        show Steps p.tables e below (T22.setTop (mkF m 93 #[.val (.ref a), .val (.long lx), .second, .val (.long rx), .second] [(.int (0 : Int32))])) _
        refine XS.goto X22.here hx rfl (pc0 := 93) (pc' := 135) rfl (hb hby d4_93) (by decide) (by decide) ?_
        exact kk_)
      obtain ⟨fs, hr, hrun, hended, hW, hsame⟩ := X22.leave (v := some (.int (0 : Int32))) (fun h => by rw [Bd.returns] at h; cases h)
      refine ⟨_, _, P30 _ ?_, hrun, hended, _, _, rfl, ?_, ⟨_, rfl⟩, hW, hsame.mono (by decide) (by decide)⟩
      · exact retN X22 hx (t := .boolean) Bd.returns (by simp) (hb hby d4_135) hr
      · show Q_test Z _ _ _ _ h0 n0 _ T22.heap _
        rw [e22]
        exact ⟨by simp +decide [own_test, c26], N22, rfl⟩
  · have P31 := own_step (C := s₁.setTop (mkF m 1 #[.val (.ref a), .val (.long lx), .second, .val (.long rx), .second] [(.ref a)])) pre0 (by
      intro tt_ kk_
      refine XS.aloadN X0.here hx rfl (hb hby d4_0) rfl rfl ?_
      exact kk_)
    obtain ⟨cq32, kq32, q32a, q32b, q32c⟩ := isOf hZ e0 Ea
    obtain ⟨_, _, ⟨T32, L32, k32, n32⟩, -, X32, ⟨Lc32, hQ32, l32, y32, z32⟩, st32⟩ := X0.virtualBackUp hx (C := "com/example/uhrwerk/uhrwerk/model/Relation") (owner := "java/lang/Enum") (x := (⟨"com/example/uhrwerk/uhrwerk/model/Relation", "ordinal", "()I"⟩ : MethodName)) (y := (⟨"java/lang/Enum", "ordinal", "()I"⟩ : MethodName)) hown (mvT hZ (hw _ (List.mem_of_getElem? (i := 13) rfl))) (mvT hZ (hw _ (List.mem_of_getElem? (i := 14) rfl))) (mvT hZ (hw _ (List.mem_of_getElem? (i := 15) rfl))) (by decide) (mvT hZ (hw _ (List.mem_of_getElem? (i := 17) rfl))) (mvT hZ (hw _ (List.mem_of_getElem? (i := 16) rfl))) (backOf (W := 0) (rm_own_ord l Z a0 hw [] a (3 : Int32) h0 n0 Z0 Fa) hZ (hw _ (List.mem_of_getElem? (i := 19) rfl)) (hw _ (List.mem_of_getElem? (i := 18) rfl)) (by decide) (by decide)) q32a q32c (g := (mkF m 1 #[.val (.ref a), .val (.long lx), .second, .val (.long rx), .second] [(.ref a)])) rfl (by rw [hml]; rfl) (Steps.refl _) (argsL := []) (rest := []) (lenOf pd0 rfl) rfl (by show 2 * 0 + _ ≤ _; exact Nat.le_of_eq rfl) (hb hby d4_1) (fun _ _ => ⟨rfl, e0, (by decide : 0 + 0 ≤ _), (by decide : 0 + 0 ≤ _)⟩)
    dsimp only [Pt.U, Pt.locs, Pt.cells, Pt.slots] at X32 l32 y32 z32 st32 hQ32
    subst l32 y32 z32
    obtain ⟨rfl, N32q, e32⟩ := hQ32
    have N32 := Fr.app N0 N32q
    have P33 := own_step (C := T32.setTop (mkF m 4 #[.val (.ref a), .val (.long lx), .second, .val (.long rx), .second] [(.int (3 : Int32))])) P31 (fun t_ k_ => st32.trans k_)
    have P34 := own_step (C := T32.setTop (mkF m 96 #[.val (.ref a), .val (.long lx), .second, .val (.long rx), .second] [])) P33 (by
      intro tt_ kk_
      refine XS.tswIn X32.here hx rfl (pc0 := 4) (pc' := 96) rfl (hb hby d4_4) rfl (by decide) rfl (by decide) (by decide) ?_
      exact kk_)
    have P35 := own_step (C := T32.setTop (mkF m 99 #[.val (.ref a), .val (.long lx), .second, .val (.long rx), .second] [(.int (lcmpW lx rx))])) P34 (by
      intro tt_ kk_
      refine XS.lloadN X32.here hx rfl (hb hby d4_96) rfl ?_
      show Steps p.tables e below (T32.setTop (mkF m 97 #[.val (.ref a), .val (.long lx), .second, .val (.long rx), .second] [(.long lx)])) _
      refine XS.lloadN X32.here hx rfl (hb hby d4_97) rfl ?_
      show Steps p.tables e below (T32.setTop (mkF m 98 #[.val (.ref a), .val (.long lx), .second, .val (.long rx), .second] [(.long rx), (.long lx)])) _
      refine XS.lcmp X32.here hx rfl (hb hby d4_98) rfl ?_
      exact kk_)
    by_cases c36 : lx = rx
    · have P37 := own_step (C := T32.setTop (mkF m 106 #[.val (.ref a), .val (.long lx), .second, .val (.long rx), .second] [])) P35 (by
        intro tt_ kk_
        refine XS.ifYes X32.here hx rfl (pc0 := 99) (pc' := 106) rfl (hb hby d4_99) rfl ((if0 _ _).trans (teq ((lw_eq _ _).mpr c36)).1) (by decide) (by decide) ?_
        exact kk_)
      have P38 := own_step (C := T32.setTop (mkF m 135 #[.val (.ref a), .val (.long lx), .second, .val (.long rx), .second] [(.int (0 : Int32))])) P37 (by
        intro tt_ kk_
        refine XS.iconst X32.here hx rfl (hb hby d4_106) ?_
        show Steps p.tables e below (T32.setTop (mkF m 107 #[.val (.ref a), .val (.long lx), .second, .val (.long rx), .second] [(.int (0 : Int32))])) _
        refine XS.goto X32.here hx rfl (pc0 := 107) (pc' := 135) rfl (hb hby d4_107) (by decide) (by decide) ?_
        exact kk_)
      obtain ⟨fs, hr, hrun, hended, hW, hsame⟩ := X32.leave (v := some (.int (0 : Int32))) (fun h => by rw [Bd.returns] at h; cases h)
      refine ⟨_, _, P38 _ ?_, hrun, hended, _, _, rfl, ?_, ⟨_, rfl⟩, hW, hsame.mono (by decide) (by decide)⟩
      · exact retN X32 hx (t := .boolean) Bd.returns (by simp) (hb hby d4_135) hr
      · show Q_test Z _ _ _ _ h0 n0 _ T32.heap _
        rw [e32]
        exact ⟨by simp +decide [own_test, c36], N32, rfl⟩
    · have P39 := own_step (C := T32.setTop (mkF m 102 #[.val (.ref a), .val (.long lx), .second, .val (.long rx), .second] [])) P35 (by
        intro tt_ kk_
        refine XS.ifNo X32.here hx rfl (hb hby d4_99) rfl ((if0 _ _).trans (feq (fun q => c36 ((lw_eq _ _).mp q))).1) ?_
        exact kk_)
      have P40 := own_step (C := T32.setTop (mkF m 135 #[.val (.ref a), .val (.long lx), .second, .val (.long rx), .second] [(.int (1 : Int32))])) P39 (by
        intro tt_ kk_
        refine XS.iconst X32.here hx rfl (hb hby d4_102) ?_
        show Steps p.tables e below (T32.setTop (mkF m 103 #[.val (.ref a), .val (.long lx), .second, .val (.long rx), .second] [(.int (1 : Int32))])) _
        refine XS.goto X32.here hx rfl (pc0 := 103) (pc' := 135) rfl (hb hby d4_103) (by decide) (by decide) ?_
        exact kk_)
      obtain ⟨fs, hr, hrun, hended, hW, hsame⟩ := X32.leave (v := some (.int (1 : Int32))) (fun h => by rw [Bd.returns] at h; cases h)
      refine ⟨_, _, P40 _ ?_, hrun, hended, _, _, rfl, ?_, ⟨_, rfl⟩, hW, hsame.mono (by decide) (by decide)⟩
      · exact retN X32 hx (t := .boolean) Bd.returns (by simp) (hb hby d4_135) hr
      · show Q_test Z _ _ _ _ h0 n0 _ T32.heap _
        rw [e32]
        exact ⟨by simp +decide [own_test, c36], N32, rfl⟩
  · have P41 := own_step (C := s₁.setTop (mkF m 1 #[.val (.ref a), .val (.long lx), .second, .val (.long rx), .second] [(.ref a)])) pre0 (by
      intro tt_ kk_
      refine XS.aloadN X0.here hx rfl (hb hby d4_0) rfl rfl ?_
      exact kk_)
    obtain ⟨cq42, kq42, q42a, q42b, q42c⟩ := isOf hZ e0 Ea
    obtain ⟨_, _, ⟨T42, L42, k42, n42⟩, -, X42, ⟨Lc42, hQ42, l42, y42, z42⟩, st42⟩ := X0.virtualBackUp hx (C := "com/example/uhrwerk/uhrwerk/model/Relation") (owner := "java/lang/Enum") (x := (⟨"com/example/uhrwerk/uhrwerk/model/Relation", "ordinal", "()I"⟩ : MethodName)) (y := (⟨"java/lang/Enum", "ordinal", "()I"⟩ : MethodName)) hown (mvT hZ (hw _ (List.mem_of_getElem? (i := 13) rfl))) (mvT hZ (hw _ (List.mem_of_getElem? (i := 14) rfl))) (mvT hZ (hw _ (List.mem_of_getElem? (i := 15) rfl))) (by decide) (mvT hZ (hw _ (List.mem_of_getElem? (i := 17) rfl))) (mvT hZ (hw _ (List.mem_of_getElem? (i := 16) rfl))) (backOf (W := 0) (rm_own_ord l Z a0 hw [] a (4 : Int32) h0 n0 Z0 Fa) hZ (hw _ (List.mem_of_getElem? (i := 19) rfl)) (hw _ (List.mem_of_getElem? (i := 18) rfl)) (by decide) (by decide)) q42a q42c (g := (mkF m 1 #[.val (.ref a), .val (.long lx), .second, .val (.long rx), .second] [(.ref a)])) rfl (by rw [hml]; rfl) (Steps.refl _) (argsL := []) (rest := []) (lenOf pd0 rfl) rfl (by show 2 * 0 + _ ≤ _; exact Nat.le_of_eq rfl) (hb hby d4_1) (fun _ _ => ⟨rfl, e0, (by decide : 0 + 0 ≤ _), (by decide : 0 + 0 ≤ _)⟩)
    dsimp only [Pt.U, Pt.locs, Pt.cells, Pt.slots] at X42 l42 y42 z42 st42 hQ42
    subst l42 y42 z42
    obtain ⟨rfl, N42q, e42⟩ := hQ42
    have N42 := Fr.app N0 N42q
    have P43 := own_step (C := T42.setTop (mkF m 4 #[.val (.ref a), .val (.long lx), .second, .val (.long rx), .second] [(.int (4 : Int32))])) P41 (fun t_ k_ => st42.trans k_)
    have P44 := own_step (C := T42.setTop (mkF m 110 #[.val (.ref a), .val (.long lx), .second, .val (.long rx), .second] [])) P43 (by
      intro tt_ kk_
      refine XS.tswIn X42.here hx rfl (pc0 := 4) (pc' := 110) rfl (hb hby d4_4) rfl (by decide) rfl (by decide) (by decide) ?_
      exact kk_)
    have P45 := own_step (C := T42.setTop (mkF m 113 #[.val (.ref a), .val (.long lx), .second, .val (.long rx), .second] [(.int (lcmpW lx rx))])) P44 (by
      intro tt_ kk_
      refine XS.lloadN X42.here hx rfl (hb hby d4_110) rfl ?_
      show Steps p.tables e below (T42.setTop (mkF m 111 #[.val (.ref a), .val (.long lx), .second, .val (.long rx), .second] [(.long lx)])) _
      refine XS.lloadN X42.here hx rfl (hb hby d4_111) rfl ?_
      show Steps p.tables e below (T42.setTop (mkF m 112 #[.val (.ref a), .val (.long lx), .second, .val (.long rx), .second] [(.long rx), (.long lx)])) _
      refine XS.lcmp X42.here hx rfl (hb hby d4_112) rfl ?_
      exact kk_)
    by_cases c46 : lx < rx
    · have P47 := own_step (C := T42.setTop (mkF m 120 #[.val (.ref a), .val (.long lx), .second, .val (.long rx), .second] [])) P45 (by
        intro tt_ kk_
        refine XS.ifYes X42.here hx rfl (pc0 := 113) (pc' := 120) rfl (hb hby d4_113) rfl ((if0 _ _).trans (tlt ((lw_lt _ _).mpr c46)).1) (by decide) (by decide) ?_
        exact kk_)
      have P48 := own_step (C := T42.setTop (mkF m 135 #[.val (.ref a), .val (.long lx), .second, .val (.long rx), .second] [(.int (0 : Int32))])) P47 (by
        intro tt_ kk_
        refine XS.iconst X42.here hx rfl (hb hby d4_120) ?_
        show Steps p.tables e below (T42.setTop (mkF m 121 #[.val (.ref a), .val (.long lx), .second, .val (.long rx), .second] [(.int (0 : Int32))])) _
        refine XS.goto X42.here hx rfl (pc0 := 121) (pc' := 135) rfl (hb hby d4_121) (by decide) (by decide) ?_
        exact kk_)
      obtain ⟨fs, hr, hrun, hended, hW, hsame⟩ := X42.leave (v := some (.int (0 : Int32))) (fun h => by rw [Bd.returns] at h; cases h)
      refine ⟨_, _, P48 _ ?_, hrun, hended, _, _, rfl, ?_, ⟨_, rfl⟩, hW, hsame.mono (by decide) (by decide)⟩
      · exact retN X42 hx (t := .boolean) Bd.returns (by simp) (hb hby d4_135) hr
      · show Q_test Z _ _ _ _ h0 n0 _ T42.heap _
        rw [e42]
        exact ⟨by simp +decide [own_test, c46], N42, rfl⟩
    · have P49 := own_step (C := T42.setTop (mkF m 116 #[.val (.ref a), .val (.long lx), .second, .val (.long rx), .second] [])) P45 (by
        intro tt_ kk_
        refine XS.ifNo X42.here hx rfl (hb hby d4_113) rfl ((if0 _ _).trans (flt (fun q => c46 ((lw_lt _ _).mp q))).1) ?_
        exact kk_)
      have P50 := own_step (C := T42.setTop (mkF m 135 #[.val (.ref a), .val (.long lx), .second, .val (.long rx), .second] [(.int (1 : Int32))])) P49 (by
        intro tt_ kk_
        refine XS.iconst X42.here hx rfl (hb hby d4_116) ?_
        show Steps p.tables e below (T42.setTop (mkF m 117 #[.val (.ref a), .val (.long lx), .second, .val (.long rx), .second] [(.int (1 : Int32))])) _
        refine XS.goto X42.here hx rfl (pc0 := 117) (pc' := 135) rfl (hb hby d4_117) (by decide) (by decide) ?_
        exact kk_)
      obtain ⟨fs, hr, hrun, hended, hW, hsame⟩ := X42.leave (v := some (.int (1 : Int32))) (fun h => by rw [Bd.returns] at h; cases h)
      refine ⟨_, _, P50 _ ?_, hrun, hended, _, _, rfl, ?_, ⟨_, rfl⟩, hW, hsame.mono (by decide) (by decide)⟩
      · exact retN X42 hx (t := .boolean) Bd.returns (by simp) (hb hby d4_135) hr
      · show Q_test Z _ _ _ _ h0 n0 _ T42.heap _
        rw [e42]
        exact ⟨by simp +decide [own_test, c46], N42, rfl⟩
  · have P51 := own_step (C := s₁.setTop (mkF m 1 #[.val (.ref a), .val (.long lx), .second, .val (.long rx), .second] [(.ref a)])) pre0 (by
      intro tt_ kk_
      refine XS.aloadN X0.here hx rfl (hb hby d4_0) rfl rfl ?_
      exact kk_)
    obtain ⟨cq52, kq52, q52a, q52b, q52c⟩ := isOf hZ e0 Ea
    obtain ⟨_, _, ⟨T52, L52, k52, n52⟩, -, X52, ⟨Lc52, hQ52, l52, y52, z52⟩, st52⟩ := X0.virtualBackUp hx (C := "com/example/uhrwerk/uhrwerk/model/Relation") (owner := "java/lang/Enum") (x := (⟨"com/example/uhrwerk/uhrwerk/model/Relation", "ordinal", "()I"⟩ : MethodName)) (y := (⟨"java/lang/Enum", "ordinal", "()I"⟩ : MethodName)) hown (mvT hZ (hw _ (List.mem_of_getElem? (i := 13) rfl))) (mvT hZ (hw _ (List.mem_of_getElem? (i := 14) rfl))) (mvT hZ (hw _ (List.mem_of_getElem? (i := 15) rfl))) (by decide) (mvT hZ (hw _ (List.mem_of_getElem? (i := 17) rfl))) (mvT hZ (hw _ (List.mem_of_getElem? (i := 16) rfl))) (backOf (W := 0) (rm_own_ord l Z a0 hw [] a (5 : Int32) h0 n0 Z0 Fa) hZ (hw _ (List.mem_of_getElem? (i := 19) rfl)) (hw _ (List.mem_of_getElem? (i := 18) rfl)) (by decide) (by decide)) q52a q52c (g := (mkF m 1 #[.val (.ref a), .val (.long lx), .second, .val (.long rx), .second] [(.ref a)])) rfl (by rw [hml]; rfl) (Steps.refl _) (argsL := []) (rest := []) (lenOf pd0 rfl) rfl (by show 2 * 0 + _ ≤ _; exact Nat.le_of_eq rfl) (hb hby d4_1) (fun _ _ => ⟨rfl, e0, (by decide : 0 + 0 ≤ _), (by decide : 0 + 0 ≤ _)⟩)
    dsimp only [Pt.U, Pt.locs, Pt.cells, Pt.slots] at X52 l52 y52 z52 st52 hQ52
    subst l52 y52 z52
    obtain ⟨rfl, N52q, e52⟩ := hQ52
    have N52 := Fr.app N0 N52q
    have P53 := own_step (C := T52.setTop (mkF m 4 #[.val (.ref a), .val (.long lx), .second, .val (.long rx), .second] [(.int (5 : Int32))])) P51 (fun t_ k_ => st52.trans k_)
    have P54 := own_step (C := T52.setTop (mkF m 124 #[.val (.ref a), .val (.long lx), .second, .val (.long rx), .second] [])) P53 (by
      intro tt_ kk_
      refine XS.tswIn X52.here hx rfl (pc0 := 4) (pc' := 124) rfl (hb hby d4_4) rfl (by decide) rfl (by decide) (by decide) ?_
      exact kk_)
    have P55 := own_step (C := T52.setTop (mkF m 127 #[.val (.ref a), .val (.long lx), .second, .val (.long rx), .second] [(.int (lcmpW lx rx))])) P54 (by
      intro tt_ kk_
      refine XS.lloadN X52.here hx rfl (hb hby d4_124) rfl ?_
      show Steps p.tables e below (T52.setTop (mkF m 125 #[.val (.ref a), .val (.long lx), .second, .val (.long rx), .second] [(.long lx)])) _
      refine XS.lloadN X52.here hx rfl (hb hby d4_125) rfl ?_
      show Steps p.tables e below (T52.setTop (mkF m 126 #[.val (.ref a), .val (.long lx), .second, .val (.long rx), .second] [(.long rx), (.long lx)])) _
      refine XS.lcmp X52.here hx rfl (hb hby d4_126) rfl ?_
      exact kk_)
    by_cases c56 : rx < lx
    · have P57 := own_step (C := T52.setTop (mkF m 130 #[.val (.ref a), .val (.long lx), .second, .val (.long rx), .second] [])) P55 (by
        intro tt_ kk_
        refine XS.ifNo X52.here hx rfl (hb hby d4_127) rfl ((if0 _ _).trans (tlt ((lw_gt _ _).mpr c56)).2.2.2) ?_
        exact kk_)
      have P58 := own_step (C := T52.setTop (mkF m 135 #[.val (.ref a), .val (.long lx), .second, .val (.long rx), .second] [(.int (1 : Int32))])) P57 (by
        intro tt_ kk_
        refine XS.iconst X52.here hx rfl (hb hby d4_130) ?_
        show Steps p.tables e below (T52.setTop (mkF m 131 #[.val (.ref a), .val (.long lx), .second, .val (.long rx), .second] [(.int (1 : Int32))])) _
        refine XS.goto X52.here hx rfl (pc0 := 131) (pc' := 135) rfl (hb hby d4_131) (by decide) (by decide) ?_
        exact kk_)
      obtain ⟨fs, hr, hrun, hended, hW, hsame⟩ := X52.leave (v := some (.int (1 : Int32))) (fun h => by rw [Bd.returns] at h; cases h)
      refine ⟨_, _, P58 _ ?_, hrun, hended, _, _, rfl, ?_, ⟨_, rfl⟩, hW, hsame.mono (by decide) (by decide)⟩
      · exact retN X52 hx (t := .boolean) Bd.returns (by simp) (hb hby d4_135) hr
      · show Q_test Z _ _ _ _ h0 n0 _ T52.heap _
        rw [e52]
        exact ⟨by simp +decide [own_test, c56], N52, rfl⟩
    · have P59 := own_step (C := T52.setTop (mkF m 134 #[.val (.ref a), .val (.long lx), .second, .val (.long rx), .second] [])) P55 (by
        intro tt_ kk_
        refine XS.ifYes X52.here hx rfl (pc0 := 127) (pc' := 134) rfl (hb hby d4_127) rfl ((if0 _ _).trans (flt (fun q => c56 ((lw_gt _ _).mp q))).2.2.2) (by decide) (by decide) ?_
        exact kk_)
      have P60 := own_step (C := T52.setTop (mkF m 135 #[.val (.ref a), .val (.long lx), .second, .val (.long rx), .second] [(.int (0 : Int32))])) P59 (by
        intro tt_ kk_
        refine XS.iconst X52.here hx rfl (hb hby d4_134) ?_
        exact kk_)
      obtain ⟨fs, hr, hrun, hended, hW, hsame⟩ := X52.leave (v := some (.int (0 : Int32))) (fun h => by rw [Bd.returns] at h; cases h)
      refine ⟨_, _, P60 _ ?_, hrun, hended, _, _, rfl, ?_, ⟨_, rfl⟩, hW, hsame.mono (by decide) (by decide)⟩
      · exact retN X52 hx (t := .boolean) Bd.returns (by simp) (hb hby d4_135) hr
      · show Q_test Z _ _ _ _ h0 n0 _ T52.heap _
        rw [e52]
        exact ⟨by simp +decide [own_test, c56], N52, rfl⟩
theorem d2_0 : decode prog_84_method_7_code 0 = .ok (.aload_n 0, 1) := by decide +kernel
theorem d2_1 : decode prog_84_method_7_code 1 = .ok (.invokevirtual 55, 3) := by decide +kernel
theorem d2_4 : decode prog_84_method_7_code 4 = .ok (.tableswitch 40 0 5 #[50, 56, 62, 68, 74, 80], 40) := by decide +kernel
theorem d2_54 : decode prog_84_method_7_code 54 = .ok (.getstatic 16, 3) := by decide +kernel
theorem d2_57 : decode prog_84_method_7_code 57 = .ok (.goto 30, 3) := by decide +kernel
theorem d2_60 : decode prog_84_method_7_code 60 = .ok (.getstatic 19, 3) := by decide +kernel
theorem d2_63 : decode prog_84_method_7_code 63 = .ok (.goto 24, 3) := by decide +kernel
theorem d2_66 : decode prog_84_method_7_code 66 = .ok (.getstatic 13, 3) := by decide +kernel
theorem d2_69 : decode prog_84_method_7_code 69 = .ok (.goto 18, 3) := by decide +kernel
theorem d2_72 : decode prog_84_method_7_code 72 = .ok (.getstatic 10, 3) := by decide +kernel
theorem d2_75 : decode prog_84_method_7_code 75 = .ok (.goto 12, 3) := by decide +kernel
theorem d2_78 : decode prog_84_method_7_code 78 = .ok (.getstatic 3, 3) := by decide +kernel
theorem d2_81 : decode prog_84_method_7_code 81 = .ok (.goto 6, 3) := by decide +kernel
theorem d2_84 : decode prog_84_method_7_code 84 = .ok (.getstatic 7, 3) := by decide +kernel
theorem d2_87 : decode prog_84_method_7_code 87 = .ok (.areturn, 1) := by decide +kernel
theorem ef__neg (m : MethodId) (x0 : Addr) : entryFrame m #[(.ref x0)] 1 = mkF m 0 #[.val (.ref x0)] [] := by first | (simp [entryFrame, mkF, argsToLocals, Value.category]; done) | rfl
def Q_neg (Z : State) (a : Addr) (oo : Int32) (r0 : Addr) (r1 : Addr) (r2 : Addr) (r3 : Addr) (r4 : Addr) (r5 : Addr) (h0 : Heap) (n0 : Nat) (v_ : Option Value) (h : Heap) (L_ : List Loc) : Prop := v_ = some (.ref (own_r (own_neg oo) r0 r1 r2 r3 r4 r5)) ∧ Fr n0 L_ ∧ h = h0
set_option maxRecDepth 65536 in
set_option maxHeartbeats 40000000 in
theorem rm_neg (l : Launch) (Z : State) (a0 : Array Value) (hw : ∀ d ∈ tables_1, d.before a0 Z = true) (ws : List Jvm.Cond) (a : Addr) (oo : Int32) (r0 : Addr) (r1 : Addr) (r2 : Addr) (r3 : Addr) (r4 : Addr) (r5 : Addr) (h0 : Heap) (n0 : Nat) (Z0 : n0 ≤ h0.size) (ho : own_O oo) (Ea : Exa Z h0 a "com/example/uhrwerk/uhrwerk/model/Relation") (Fa : Fld Z h0 a "java/lang/Enum" "ordinal" "I" (.int oo)) (RS0 : Sta Z h0 "com/example/uhrwerk/uhrwerk/model/Relation" "LESS" "Lcom/example/uhrwerk/uhrwerk/model/Relation;" (.ref r0)) (RS1 : Sta Z h0 "com/example/uhrwerk/uhrwerk/model/Relation" "LESS_OR_EQUAL" "Lcom/example/uhrwerk/uhrwerk/model/Relation;" (.ref r1)) (RS2 : Sta Z h0 "com/example/uhrwerk/uhrwerk/model/Relation" "EQUAL" "Lcom/example/uhrwerk/uhrwerk/model/Relation;" (.ref r2)) (RS3 : Sta Z h0 "com/example/uhrwerk/uhrwerk/model/Relation" "NOT_EQUAL" "Lcom/example/uhrwerk/uhrwerk/model/Relation;" (.ref r3)) (RS4 : Sta Z h0 "com/example/uhrwerk/uhrwerk/model/Relation" "GREATER_OR_EQUAL" "Lcom/example/uhrwerk/uhrwerk/model/Relation;" (.ref r4)) (RS5 : Sta Z h0 "com/example/uhrwerk/uhrwerk/model/Relation" "GREATER" "Lcom/example/uhrwerk/uhrwerk/model/Relation;" (.ref r5)) :
    MetFree l (⟨"com/example/uhrwerk/uhrwerk/model/Relation", "negated", "()Lcom/example/uhrwerk/uhrwerk/model/Relation;"⟩ : MethodName) (head1 (Jvm.Cond.code (⟨"com/example/uhrwerk/uhrwerk/model/Relation", "negated", "()Lcom/example/uhrwerk/uhrwerk/model/Relation;"⟩ : MethodName) prog_84_method_7_code 1 (some (.object "com/example/uhrwerk/uhrwerk/model/Relation")) :: ws) ({ frames := 1, cells := 0, slots := 0, locals := 12 } : Room)) (fun a_ U_ => a_ = #[(.ref a)] ∧ Z.Warmed39 U_.vm ∧ U_.heap = h0) (fun _ _ _ _ _ => True) (fun _ U_ o_ V_ => ∃ v_ L_, o_ = .returned v_ ∧ Q_neg Z a oo r0 r1 r2 r3 r4 r5 h0 n0 v_ V_.heap L_ ∧ FrameEnd U_ o_ V_ L_ ({ frames := 1, cells := 0, slots := 0, locals := 12 } : Room).cells ({ frames := 1, cells := 0, slots := 0, locals := 12 } : Room).slots) := by
  refine MetFree.of_bodySF (plainFor_of_name pn1) hisR ?_
  intro p e s m args below meth c s₁ Bd hml0 hP hK
  obtain ⟨rfl, hZ, hh⟩ := hP
  have hx := Bd.exec
  have hby := Bd.bytes
  have hml : c.maxLocals = 1 := hml0
  have hown : s.vm.findClass "com/example/uhrwerk/uhrwerk/model/Relation" = some m.cls := findClass_of_methodNamed Bd.named
  have hnm := (name_of_methodNamed Bd.named Bd.method).1
  have X0 : Stand p l e ({ frames := 1, cells := 0, slots := 0, locals := 12 } : Room) s m #[(.ref a)] below meth c s₁ [] 0 0 := Stand.of_body Bd
  have e0 : s₁.heap = h0 := by rw [← hh, Bd.state]; rfl
  have N0 := Fr.nil n0
  have pre0 : own_Go p e below (s₁.setTop (entryFrame m #[(.ref a)] 1)) (s₁.setTop (mkF m 0 #[.val (.ref a)] [])) := fun t_ k_ => castTop (ef__neg m a) k_
  unfold own_O at ho
  rcases ho with rfl | rfl | rfl | rfl | rfl | rfl
  · have P1 := own_step (C := s₁.setTop (mkF m 1 #[.val (.ref a)] [(.ref a)])) pre0 (by
      intro tt_ kk_
      refine XS.aloadN X0.here hx rfl (hb hby d2_0) rfl rfl ?_
      exact kk_)
    obtain ⟨cq2, kq2, q2a, q2b, q2c⟩ := isOf hZ e0 Ea
    obtain ⟨_, _, ⟨T2, L2, k2, n2⟩, -, X2, ⟨Lc2, hQ2, l2, y2, z2⟩, st2⟩ := X0.virtualBackUp hx (C := "com/example/uhrwerk/uhrwerk/model/Relation") (owner := "java/lang/Enum") (x := (⟨"com/example/uhrwerk/uhrwerk/model/Relation", "ordinal", "()I"⟩ : MethodName)) (y := (⟨"java/lang/Enum", "ordinal", "()I"⟩ : MethodName)) hown (mvT hZ (hw _ (List.mem_of_getElem? (i := 13) rfl))) (mvT hZ (hw _ (List.mem_of_getElem? (i := 14) rfl))) (mvT hZ (hw _ (List.mem_of_getElem? (i := 15) rfl))) (by decide) (mvT hZ (hw _ (List.mem_of_getElem? (i := 17) rfl))) (mvT hZ (hw _ (List.mem_of_getElem? (i := 16) rfl))) (backOf (W := 0) (rm_own_ord l Z a0 hw [] a (0 : Int32) h0 n0 Z0 Fa) hZ (hw _ (List.mem_of_getElem? (i := 19) rfl)) (hw _ (List.mem_of_getElem? (i := 18) rfl)) (by decide) (by decide)) q2a q2c (g := (mkF m 1 #[.val (.ref a)] [(.ref a)])) rfl (by rw [hml]; rfl) (Steps.refl _) (argsL := []) (rest := []) (lenOf pd0 rfl) rfl (by show 2 * 0 + _ ≤ _; exact Nat.le_of_eq rfl) (hb hby d2_1) (fun _ _ => ⟨rfl, e0, (by decide : 0 + 0 ≤ _), (by decide : 0 + 0 ≤ _)⟩)
    dsimp only [Pt.U, Pt.locs, Pt.cells, Pt.slots] at X2 l2 y2 z2 st2 hQ2
    subst l2 y2 z2
    obtain ⟨rfl, N2q, e2⟩ := hQ2
    have N2 := Fr.app N0 N2q
    have P3 := own_step (C := T2.setTop (mkF m 4 #[.val (.ref a)] [(.int (0 : Int32))])) P1 (fun t_ k_ => st2.trans k_)
    have P4 := own_step (C := T2.setTop (mkF m 54 #[.val (.ref a)] [])) P3 (by
      intro tt_ kk_
      refine XS.tswIn X2.here hx rfl (pc0 := 4) (pc' := 54) rfl (hb hby d2_4) rfl (by decide) rfl (by decide) (by decide) ?_
      exact kk_)
    obtain ⟨T5, X5, e5, st5⟩ := getS2 X2 hx hZ hown (host := "") (Or.inl (hw _ (List.mem_of_getElem? (i := 22) rfl))) Via.refl e2 RS4 (g := (mkF m 54 #[.val (.ref a)] [])) rfl (hb hby d2_54)
    have P6 := own_step (C := T5.setTop (mkF m 57 #[.val (.ref a)] [(.ref r4)])) P4 (fun t_ k_ => st5 t_ k_)
    have P7 := own_step (C := T5.setTop (mkF m 87 #[.val (.ref a)] [(.ref r4)])) P6 (by
      intro tt_ kk_
      refine XS.goto X5.here hx rfl (pc0 := 57) (pc' := 87) rfl (hb hby d2_57) (by decide) (by decide) ?_
      exact kk_)
    obtain ⟨fs, hr, hrun, hended, hW, hsame⟩ := X5.leave (v := some (.ref r4)) (fun h => by rw [Bd.returns] at h; cases h)
    refine ⟨_, _, P7 _ ?_, hrun, hended, _, _, rfl, ?_, ⟨_, rfl⟩, hW, hsame.mono (by decide) (by decide)⟩
    · jvm_step X5.here [X5.here.top, hx, (hb hby d2_87), X5.method', Bd.returns, Value.isRef, FieldType.isReference]
      first | (intro acts; rw [hr _ acts rfl rfl rfl]) | rw [hr _ _ rfl rfl rfl]
      exact Steps.refl _
    · show Q_neg Z _ _ _ _ _ _ _ _ h0 n0 _ T5.heap _
      rw [e5]
      exact ⟨rfl, N2, rfl⟩
  · have P8 := own_step (C := s₁.setTop (mkF m 1 #[.val (.ref a)] [(.ref a)])) pre0 (by
      intro tt_ kk_
      refine XS.aloadN X0.here hx rfl (hb hby d2_0) rfl rfl ?_
      exact kk_)
    obtain ⟨cq9, kq9, q9a, q9b, q9c⟩ := isOf hZ e0 Ea
    obtain ⟨_, _, ⟨T9, L9, k9, n9⟩, -, X9, ⟨Lc9, hQ9, l9, y9, z9⟩, st9⟩ := X0.virtualBackUp hx (C := "com/example/uhrwerk/uhrwerk/model/Relation") (owner := "java/lang/Enum") (x := (⟨"com/example/uhrwerk/uhrwerk/model/Relation", "ordinal", "()I"⟩ : MethodName)) (y := (⟨"java/lang/Enum", "ordinal", "()I"⟩ : MethodName)) hown (mvT hZ (hw _ (List.mem_of_getElem? (i := 13) rfl))) (mvT hZ (hw _ (List.mem_of_getElem? (i := 14) rfl))) (mvT hZ (hw _ (List.mem_of_getElem? (i := 15) rfl))) (by decide) (mvT hZ (hw _ (List.mem_of_getElem? (i := 17) rfl))) (mvT hZ (hw _ (List.mem_of_getElem? (i := 16) rfl))) (backOf (W := 0) (rm_own_ord l Z a0 hw [] a (1 : Int32) h0 n0 Z0 Fa) hZ (hw _ (List.mem_of_getElem? (i := 19) rfl)) (hw _ (List.mem_of_getElem? (i := 18) rfl)) (by decide) (by decide)) q9a q9c (g := (mkF m 1 #[.val (.ref a)] [(.ref a)])) rfl (by rw [hml]; rfl) (Steps.refl _) (argsL := []) (rest := []) (lenOf pd0 rfl) rfl (by show 2 * 0 + _ ≤ _; exact Nat.le_of_eq rfl) (hb hby d2_1) (fun _ _ => ⟨rfl, e0, (by decide : 0 + 0 ≤ _), (by decide : 0 + 0 ≤ _)⟩)
    dsimp only [Pt.U, Pt.locs, Pt.cells, Pt.slots] at X9 l9 y9 z9 st9 hQ9
    subst l9 y9 z9
    obtain ⟨rfl, N9q, e9⟩ := hQ9
    have N9 := Fr.app N0 N9q
    have P10 := own_step (C := T9.setTop (mkF m 4 #[.val (.ref a)] [(.int (1 : Int32))])) P8 (fun t_ k_ => st9.trans k_)
    have P11 := own_step (C := T9.setTop (mkF m 60 #[.val (.ref a)] [])) P10 (by
      intro tt_ kk_
      refine XS.tswIn X9.here hx rfl (pc0 := 4) (pc' := 60) rfl (hb hby d2_4) rfl (by decide) rfl (by decide) (by decide) ?_
      exact kk_)
    obtain ⟨T12, X12, e12, st12⟩ := getS2 X9 hx hZ hown (host := "") (Or.inl (hw _ (List.mem_of_getElem? (i := 39) rfl))) Via.refl e9 RS5 (g := (mkF m 60 #[.val (.ref a)] [])) rfl (hb hby d2_60)
    have P13 := own_step (C := T12.setTop (mkF m 63 #[.val (.ref a)] [(.ref r5)])) P11 (fun t_ k_ => st12 t_ k_)
    have P14 := own_step (C := T12.setTop (mkF m 87 #[.val (.ref a)] [(.ref r5)])) P13 (by
      intro tt_ kk_
      refine XS.goto X12.here hx rfl (pc0 := 63) (pc' := 87) rfl (hb hby d2_63) (by decide) (by decide) ?_
      exact kk_)
    obtain ⟨fs, hr, hrun, hended, hW, hsame⟩ := X12.leave (v := some (.ref r5)) (fun h => by rw [Bd.returns] at h; cases h)
    refine ⟨_, _, P14 _ ?_, hrun, hended, _, _, rfl, ?_, ⟨_, rfl⟩, hW, hsame.mono (by decide) (by decide)⟩
    · jvm_step X12.here [X12.here.top, hx, (hb hby d2_87), X12.method', Bd.returns, Value.isRef, FieldType.isReference]
      first | (intro acts; rw [hr _ acts rfl rfl rfl]) | rw [hr _ _ rfl rfl rfl]
      exact Steps.refl _
    · show Q_neg Z _ _ _ _ _ _ _ _ h0 n0 _ T12.heap _
      rw [e12]
      exact ⟨rfl, N9, rfl⟩
  · have P15 := own_step (C := s₁.setTop (mkF m 1 #[.val (.ref a)] [(.ref a)])) pre0 (by
      intro tt_ kk_
      refine XS.aloadN X0.here hx rfl (hb hby d2_0) rfl rfl ?_
      exact kk_)
    obtain ⟨cq16, kq16, q16a, q16b, q16c⟩ := isOf hZ e0 Ea
    obtain ⟨_, _, ⟨T16, L16, k16, n16⟩, -, X16, ⟨Lc16, hQ16, l16, y16, z16⟩, st16⟩ := X0.virtualBackUp hx (C := "com/example/uhrwerk/uhrwerk/model/Relation") (owner := "java/lang/Enum") (x := (⟨"com/example/uhrwerk/uhrwerk/model/Relation", "ordinal", "()I"⟩ : MethodName)) (y := (⟨"java/lang/Enum", "ordinal", "()I"⟩ : MethodName)) hown (mvT hZ (hw _ (List.mem_of_getElem? (i := 13) rfl))) (mvT hZ (hw _ (List.mem_of_getElem? (i := 14) rfl))) (mvT hZ (hw _ (List.mem_of_getElem? (i := 15) rfl))) (by decide) (mvT hZ (hw _ (List.mem_of_getElem? (i := 17) rfl))) (mvT hZ (hw _ (List.mem_of_getElem? (i := 16) rfl))) (backOf (W := 0) (rm_own_ord l Z a0 hw [] a (2 : Int32) h0 n0 Z0 Fa) hZ (hw _ (List.mem_of_getElem? (i := 19) rfl)) (hw _ (List.mem_of_getElem? (i := 18) rfl)) (by decide) (by decide)) q16a q16c (g := (mkF m 1 #[.val (.ref a)] [(.ref a)])) rfl (by rw [hml]; rfl) (Steps.refl _) (argsL := []) (rest := []) (lenOf pd0 rfl) rfl (by show 2 * 0 + _ ≤ _; exact Nat.le_of_eq rfl) (hb hby d2_1) (fun _ _ => ⟨rfl, e0, (by decide : 0 + 0 ≤ _), (by decide : 0 + 0 ≤ _)⟩)
    dsimp only [Pt.U, Pt.locs, Pt.cells, Pt.slots] at X16 l16 y16 z16 st16 hQ16
    subst l16 y16 z16
    obtain ⟨rfl, N16q, e16⟩ := hQ16
    have N16 := Fr.app N0 N16q
    have P17 := own_step (C := T16.setTop (mkF m 4 #[.val (.ref a)] [(.int (2 : Int32))])) P15 (fun t_ k_ => st16.trans k_)
    have P18 := own_step (C := T16.setTop (mkF m 66 #[.val (.ref a)] [])) P17 (by
      intro tt_ kk_
      refine XS.tswIn X16.here hx rfl (pc0 := 4) (pc' := 66) rfl (hb hby d2_4) rfl (by decide) rfl (by decide) (by decide) ?_
      exact kk_)
    obtain ⟨T19, X19, e19, st19⟩ := getS2 X16 hx hZ hown (host := "") (Or.inl (hw _ (List.mem_of_getElem? (i := 35) rfl))) Via.refl e16 RS3 (g := (mkF m 66 #[.val (.ref a)] [])) rfl (hb hby d2_66)
    have P20 := own_step (C := T19.setTop (mkF m 69 #[.val (.ref a)] [(.ref r3)])) P18 (fun t_ k_ => st19 t_ k_)
    have P21 := own_step (C := T19.setTop (mkF m 87 #[.val (.ref a)] [(.ref r3)])) P20 (by
      intro tt_ kk_
      refine XS.goto X19.here hx rfl (pc0 := 69) (pc' := 87) rfl (hb hby d2_69) (by decide) (by decide) ?_
      exact kk_)
    obtain ⟨fs, hr, hrun, hended, hW, hsame⟩ := X19.leave (v := some (.ref r3)) (fun h => by rw [Bd.returns] at h; cases h)
    refine ⟨_, _, P21 _ ?_, hrun, hended, _, _, rfl, ?_, ⟨_, rfl⟩, hW, hsame.mono (by decide) (by decide)⟩
    · jvm_step X19.here [X19.here.top, hx, (hb hby d2_87), X19.method', Bd.returns, Value.isRef, FieldType.isReference]
      first | (intro acts; rw [hr _ acts rfl rfl rfl]) | rw [hr _ _ rfl rfl rfl]
      exact Steps.refl _
    · show Q_neg Z _ _ _ _ _ _ _ _ h0 n0 _ T19.heap _
      rw [e19]
      exact ⟨rfl, N16, rfl⟩
  · have P22 := own_step (C := s₁.setTop (mkF m 1 #[.val (.ref a)] [(.ref a)])) pre0 (by
      intro tt_ kk_
      refine XS.aloadN X0.here hx rfl (hb hby d2_0) rfl rfl ?_
      exact kk_)
    obtain ⟨cq23, kq23, q23a, q23b, q23c⟩ := isOf hZ e0 Ea
    obtain ⟨_, _, ⟨T23, L23, k23, n23⟩, -, X23, ⟨Lc23, hQ23, l23, y23, z23⟩, st23⟩ := X0.virtualBackUp hx (C := "com/example/uhrwerk/uhrwerk/model/Relation") (owner := "java/lang/Enum") (x := (⟨"com/example/uhrwerk/uhrwerk/model/Relation", "ordinal", "()I"⟩ : MethodName)) (y := (⟨"java/lang/Enum", "ordinal", "()I"⟩ : MethodName)) hown (mvT hZ (hw _ (List.mem_of_getElem? (i := 13) rfl))) (mvT hZ (hw _ (List.mem_of_getElem? (i := 14) rfl))) (mvT hZ (hw _ (List.mem_of_getElem? (i := 15) rfl))) (by decide) (mvT hZ (hw _ (List.mem_of_getElem? (i := 17) rfl))) (mvT hZ (hw _ (List.mem_of_getElem? (i := 16) rfl))) (backOf (W := 0) (rm_own_ord l Z a0 hw [] a (3 : Int32) h0 n0 Z0 Fa) hZ (hw _ (List.mem_of_getElem? (i := 19) rfl)) (hw _ (List.mem_of_getElem? (i := 18) rfl)) (by decide) (by decide)) q23a q23c (g := (mkF m 1 #[.val (.ref a)] [(.ref a)])) rfl (by rw [hml]; rfl) (Steps.refl _) (argsL := []) (rest := []) (lenOf pd0 rfl) rfl (by show 2 * 0 + _ ≤ _; exact Nat.le_of_eq rfl) (hb hby d2_1) (fun _ _ => ⟨rfl, e0, (by decide : 0 + 0 ≤ _), (by decide : 0 + 0 ≤ _)⟩)
    dsimp only [Pt.U, Pt.locs, Pt.cells, Pt.slots] at X23 l23 y23 z23 st23 hQ23
    subst l23 y23 z23
    obtain ⟨rfl, N23q, e23⟩ := hQ23
    have N23 := Fr.app N0 N23q
    have P24 := own_step (C := T23.setTop (mkF m 4 #[.val (.ref a)] [(.int (3 : Int32))])) P22 (fun t_ k_ => st23.trans k_)
    have P25 := own_step (C := T23.setTop (mkF m 72 #[.val (.ref a)] [])) P24 (by
      intro tt_ kk_
      refine XS.tswIn X23.here hx rfl (pc0 := 4) (pc' := 72) rfl (hb hby d2_4) rfl (by decide) rfl (by decide) (by decide) ?_
      exact kk_)
    obtain ⟨T26, X26, e26, st26⟩ := getS2 X23 hx hZ hown (host := "") (Or.inl (hw _ (List.mem_of_getElem? (i := 33) rfl))) Via.refl e23 RS2 (g := (mkF m 72 #[.val (.ref a)] [])) rfl (hb hby d2_72)
    have P27 := own_step (C := T26.setTop (mkF m 75 #[.val (.ref a)] [(.ref r2)])) P25 (fun t_ k_ => st26 t_ k_)
    have P28 := own_step (C := T26.setTop (mkF m 87 #[.val (.ref a)] [(.ref r2)])) P27 (by
      intro tt_ kk_
      refine XS.goto X26.here hx rfl (pc0 := 75) (pc' := 87) rfl (hb hby d2_75) (by decide) (by decide) ?_
      exact kk_)
    obtain ⟨fs, hr, hrun, hended, hW, hsame⟩ := X26.leave (v := some (.ref r2)) (fun h => by rw [Bd.returns] at h; cases h)
    refine ⟨_, _, P28 _ ?_, hrun, hended, _, _, rfl, ?_, ⟨_, rfl⟩, hW, hsame.mono (by decide) (by decide)⟩
    · jvm_step X26.here [X26.here.top, hx, (hb hby d2_87), X26.method', Bd.returns, Value.isRef, FieldType.isReference]
      first | (intro acts; rw [hr _ acts rfl rfl rfl]) | rw [hr _ _ rfl rfl rfl]
      exact Steps.refl _
    · show Q_neg Z _ _ _ _ _ _ _ _ h0 n0 _ T26.heap _
      rw [e26]
      exact ⟨rfl, N23, rfl⟩
  · have P29 := own_step (C := s₁.setTop (mkF m 1 #[.val (.ref a)] [(.ref a)])) pre0 (by
      intro tt_ kk_
      refine XS.aloadN X0.here hx rfl (hb hby d2_0) rfl rfl ?_
      exact kk_)
    obtain ⟨cq30, kq30, q30a, q30b, q30c⟩ := isOf hZ e0 Ea
    obtain ⟨_, _, ⟨T30, L30, k30, n30⟩, -, X30, ⟨Lc30, hQ30, l30, y30, z30⟩, st30⟩ := X0.virtualBackUp hx (C := "com/example/uhrwerk/uhrwerk/model/Relation") (owner := "java/lang/Enum") (x := (⟨"com/example/uhrwerk/uhrwerk/model/Relation", "ordinal", "()I"⟩ : MethodName)) (y := (⟨"java/lang/Enum", "ordinal", "()I"⟩ : MethodName)) hown (mvT hZ (hw _ (List.mem_of_getElem? (i := 13) rfl))) (mvT hZ (hw _ (List.mem_of_getElem? (i := 14) rfl))) (mvT hZ (hw _ (List.mem_of_getElem? (i := 15) rfl))) (by decide) (mvT hZ (hw _ (List.mem_of_getElem? (i := 17) rfl))) (mvT hZ (hw _ (List.mem_of_getElem? (i := 16) rfl))) (backOf (W := 0) (rm_own_ord l Z a0 hw [] a (4 : Int32) h0 n0 Z0 Fa) hZ (hw _ (List.mem_of_getElem? (i := 19) rfl)) (hw _ (List.mem_of_getElem? (i := 18) rfl)) (by decide) (by decide)) q30a q30c (g := (mkF m 1 #[.val (.ref a)] [(.ref a)])) rfl (by rw [hml]; rfl) (Steps.refl _) (argsL := []) (rest := []) (lenOf pd0 rfl) rfl (by show 2 * 0 + _ ≤ _; exact Nat.le_of_eq rfl) (hb hby d2_1) (fun _ _ => ⟨rfl, e0, (by decide : 0 + 0 ≤ _), (by decide : 0 + 0 ≤ _)⟩)
    dsimp only [Pt.U, Pt.locs, Pt.cells, Pt.slots] at X30 l30 y30 z30 st30 hQ30
    subst l30 y30 z30
    obtain ⟨rfl, N30q, e30⟩ := hQ30
    have N30 := Fr.app N0 N30q
    have P31 := own_step (C := T30.setTop (mkF m 4 #[.val (.ref a)] [(.int (4 : Int32))])) P29 (fun t_ k_ => st30.trans k_)
    have P32 := own_step (C := T30.setTop (mkF m 78 #[.val (.ref a)] [])) P31 (by
      intro tt_ kk_
      refine XS.tswIn X30.here hx rfl (pc0 := 4) (pc' := 78) rfl (hb hby d2_4) rfl (by decide) rfl (by decide) (by decide) ?_
      exact kk_)
    obtain ⟨T33, X33, e33, st33⟩ := getS2 X30 hx hZ hown (host := "") (Or.inl (hw _ (List.mem_of_getElem? (i := 29) rfl))) Via.refl e30 RS0 (g := (mkF m 78 #[.val (.ref a)] [])) rfl (hb hby d2_78)
    have P34 := own_step (C := T33.setTop (mkF m 81 #[.val (.ref a)] [(.ref r0)])) P32 (fun t_ k_ => st33 t_ k_)
    have P35 := own_step (C := T33.setTop (mkF m 87 #[.val (.ref a)] [(.ref r0)])) P34 (by
      intro tt_ kk_
      refine XS.goto X33.here hx rfl (pc0 := 81) (pc' := 87) rfl (hb hby d2_81) (by decide) (by decide) ?_
      exact kk_)
    obtain ⟨fs, hr, hrun, hended, hW, hsame⟩ := X33.leave (v := some (.ref r0)) (fun h => by rw [Bd.returns] at h; cases h)
    refine ⟨_, _, P35 _ ?_, hrun, hended, _, _, rfl, ?_, ⟨_, rfl⟩, hW, hsame.mono (by decide) (by decide)⟩
    · jvm_step X33.here [X33.here.top, hx, (hb hby d2_87), X33.method', Bd.returns, Value.isRef, FieldType.isReference]
      first | (intro acts; rw [hr _ acts rfl rfl rfl]) | rw [hr _ _ rfl rfl rfl]
      exact Steps.refl _
    · show Q_neg Z _ _ _ _ _ _ _ _ h0 n0 _ T33.heap _
      rw [e33]
      exact ⟨rfl, N30, rfl⟩
  · have P36 := own_step (C := s₁.setTop (mkF m 1 #[.val (.ref a)] [(.ref a)])) pre0 (by
      intro tt_ kk_
      refine XS.aloadN X0.here hx rfl (hb hby d2_0) rfl rfl ?_
      exact kk_)
    obtain ⟨cq37, kq37, q37a, q37b, q37c⟩ := isOf hZ e0 Ea
    obtain ⟨_, _, ⟨T37, L37, k37, n37⟩, -, X37, ⟨Lc37, hQ37, l37, y37, z37⟩, st37⟩ := X0.virtualBackUp hx (C := "com/example/uhrwerk/uhrwerk/model/Relation") (owner := "java/lang/Enum") (x := (⟨"com/example/uhrwerk/uhrwerk/model/Relation", "ordinal", "()I"⟩ : MethodName)) (y := (⟨"java/lang/Enum", "ordinal", "()I"⟩ : MethodName)) hown (mvT hZ (hw _ (List.mem_of_getElem? (i := 13) rfl))) (mvT hZ (hw _ (List.mem_of_getElem? (i := 14) rfl))) (mvT hZ (hw _ (List.mem_of_getElem? (i := 15) rfl))) (by decide) (mvT hZ (hw _ (List.mem_of_getElem? (i := 17) rfl))) (mvT hZ (hw _ (List.mem_of_getElem? (i := 16) rfl))) (backOf (W := 0) (rm_own_ord l Z a0 hw [] a (5 : Int32) h0 n0 Z0 Fa) hZ (hw _ (List.mem_of_getElem? (i := 19) rfl)) (hw _ (List.mem_of_getElem? (i := 18) rfl)) (by decide) (by decide)) q37a q37c (g := (mkF m 1 #[.val (.ref a)] [(.ref a)])) rfl (by rw [hml]; rfl) (Steps.refl _) (argsL := []) (rest := []) (lenOf pd0 rfl) rfl (by show 2 * 0 + _ ≤ _; exact Nat.le_of_eq rfl) (hb hby d2_1) (fun _ _ => ⟨rfl, e0, (by decide : 0 + 0 ≤ _), (by decide : 0 + 0 ≤ _)⟩)
    dsimp only [Pt.U, Pt.locs, Pt.cells, Pt.slots] at X37 l37 y37 z37 st37 hQ37
    subst l37 y37 z37
    obtain ⟨rfl, N37q, e37⟩ := hQ37
    have N37 := Fr.app N0 N37q
    have P38 := own_step (C := T37.setTop (mkF m 4 #[.val (.ref a)] [(.int (5 : Int32))])) P36 (fun t_ k_ => st37.trans k_)
    have P39 := own_step (C := T37.setTop (mkF m 84 #[.val (.ref a)] [])) P38 (by
      intro tt_ kk_
      refine XS.tswIn X37.here hx rfl (pc0 := 4) (pc' := 84) rfl (hb hby d2_4) rfl (by decide) rfl (by decide) (by decide) ?_
      exact kk_)
    obtain ⟨T40, X40, e40, st40⟩ := getS2 X37 hx hZ hown (host := "") (Or.inl (hw _ (List.mem_of_getElem? (i := 41) rfl))) Via.refl e37 RS1 (g := (mkF m 84 #[.val (.ref a)] [])) rfl (hb hby d2_84)
    have P41 := own_step (C := T40.setTop (mkF m 87 #[.val (.ref a)] [(.ref r1)])) P39 (fun t_ k_ => st40 t_ k_)
    obtain ⟨fs, hr, hrun, hended, hW, hsame⟩ := X40.leave (v := some (.ref r1)) (fun h => by rw [Bd.returns] at h; cases h)
    refine ⟨_, _, P41 _ ?_, hrun, hended, _, _, rfl, ?_, ⟨_, rfl⟩, hW, hsame.mono (by decide) (by decide)⟩
    · jvm_step X40.here [X40.here.top, hx, (hb hby d2_87), X40.method', Bd.returns, Value.isRef, FieldType.isReference]
      first | (intro acts; rw [hr _ acts rfl rfl rfl]) | rw [hr _ _ rfl rfl rfl]
      exact Steps.refl _
    · show Q_neg Z _ _ _ _ _ _ _ _ h0 n0 _ T40.heap _
      rw [e40]
      exact ⟨rfl, N37, rfl⟩
theorem d1_0 : decode method_2_code 0 = .ok (.iload_n 0, 1) := by decide +kernel
theorem d1_1 : decode method_2_code 1 = .ok (.ldc 7, 2) := by decide +kernel
theorem d1_3 : decode method_2_code 3 = .ok (.iand, 1) := by decide +kernel
theorem d1_4 : decode method_2_code 4 = .ok (.bipush 6, 2) := by decide +kernel
theorem d1_6 : decode method_2_code 6 = .ok (.irem, 1) := by decide +kernel
theorem d1_7 : decode method_2_code 7 = .ok (.istore_n 1, 1) := by decide +kernel
theorem d1_8 : decode method_2_code 8 = .ok (.iload_n 1, 1) := by decide +kernel
theorem d1_9 : decode method_2_code 9 = .ok (.ifCond .ne 7, 3) := by decide +kernel
theorem d1_12 : decode method_2_code 12 = .ok (.getstatic 8, 3) := by decide +kernel
theorem d1_15 : decode method_2_code 15 = .ok (.areturn, 1) := by decide +kernel
theorem d1_16 : decode method_2_code 16 = .ok (.iload_n 1, 1) := by decide +kernel
theorem d1_17 : decode method_2_code 17 = .ok (.iconst 1, 1) := by decide +kernel
theorem d1_18 : decode method_2_code 18 = .ok (.if_icmp .ne 7, 3) := by decide +kernel
theorem d1_21 : decode method_2_code 21 = .ok (.getstatic 14, 3) := by decide +kernel
theorem d1_24 : decode method_2_code 24 = .ok (.areturn, 1) := by decide +kernel
theorem d1_25 : decode method_2_code 25 = .ok (.iload_n 1, 1) := by decide +kernel
theorem d1_26 : decode method_2_code 26 = .ok (.iconst 2, 1) := by decide +kernel
theorem d1_27 : decode method_2_code 27 = .ok (.if_icmp .ne 7, 3) := by decide +kernel
theorem d1_30 : decode method_2_code 30 = .ok (.getstatic 17, 3) := by decide +kernel
theorem d1_33 : decode method_2_code 33 = .ok (.areturn, 1) := by decide +kernel
theorem d1_34 : decode method_2_code 34 = .ok (.iload_n 1, 1) := by decide +kernel
theorem d1_35 : decode method_2_code 35 = .ok (.iconst 3, 1) := by decide +kernel
theorem d1_36 : decode method_2_code 36 = .ok (.if_icmp .ne 7, 3) := by decide +kernel
theorem d1_39 : decode method_2_code 39 = .ok (.getstatic 20, 3) := by decide +kernel
theorem d1_42 : decode method_2_code 42 = .ok (.areturn, 1) := by decide +kernel
theorem d1_43 : decode method_2_code 43 = .ok (.iload_n 1, 1) := by decide +kernel
theorem d1_44 : decode method_2_code 44 = .ok (.iconst 4, 1) := by decide +kernel
theorem d1_45 : decode method_2_code 45 = .ok (.if_icmp .ne 7, 3) := by decide +kernel
theorem d1_48 : decode method_2_code 48 = .ok (.getstatic 23, 3) := by decide +kernel
theorem d1_51 : decode method_2_code 51 = .ok (.areturn, 1) := by decide +kernel
theorem d1_52 : decode method_2_code 52 = .ok (.getstatic 26, 3) := by decide +kernel
theorem d1_55 : decode method_2_code 55 = .ok (.areturn, 1) := by decide +kernel
theorem ef__pick (m : MethodId) (x0 : Int32) : entryFrame m #[(.int x0)] 2 = mkF m 0 #[.val (.int x0), .unset] [] := by first | (simp [entryFrame, mkF, argsToLocals, Value.category]; done) | rfl
def Q_pick (Z : State) (kx : Int32) (r0 : Addr) (r1 : Addr) (r2 : Addr) (r3 : Addr) (r4 : Addr) (r5 : Addr) (h0 : Heap) (n0 : Nat) (v_ : Option Value) (h : Heap) (L_ : List Loc) : Prop := v_ = some (.ref (own_r ((kx &&& (2147483647 : Int32)) % (6 : Int32)) r0 r1 r2 r3 r4 r5)) ∧ Fr n0 L_ ∧ h = h0
theorem pn2 : plainName "com/example/uhrwerk/uhrwerk/model/RelationNegatedPinLaw" = true := by first | (simp [plainName, overriddenIn]; done) | decide +kernel
set_option maxRecDepth 65536 in
set_option maxHeartbeats 40000000 in
theorem rm_pick (l : Launch) (Z : State) (a0 : Array Value) (hw : ∀ d ∈ tables_1, d.before a0 Z = true) (ws : List Jvm.Cond) (kx : Int32) (r0 : Addr) (r1 : Addr) (r2 : Addr) (r3 : Addr) (r4 : Addr) (r5 : Addr) (h0 : Heap) (n0 : Nat) (Z0 : n0 ≤ h0.size) (RS0 : Sta Z h0 "com/example/uhrwerk/uhrwerk/model/Relation" "LESS" "Lcom/example/uhrwerk/uhrwerk/model/Relation;" (.ref r0)) (RS1 : Sta Z h0 "com/example/uhrwerk/uhrwerk/model/Relation" "LESS_OR_EQUAL" "Lcom/example/uhrwerk/uhrwerk/model/Relation;" (.ref r1)) (RS2 : Sta Z h0 "com/example/uhrwerk/uhrwerk/model/Relation" "EQUAL" "Lcom/example/uhrwerk/uhrwerk/model/Relation;" (.ref r2)) (RS3 : Sta Z h0 "com/example/uhrwerk/uhrwerk/model/Relation" "NOT_EQUAL" "Lcom/example/uhrwerk/uhrwerk/model/Relation;" (.ref r3)) (RS4 : Sta Z h0 "com/example/uhrwerk/uhrwerk/model/Relation" "GREATER_OR_EQUAL" "Lcom/example/uhrwerk/uhrwerk/model/Relation;" (.ref r4)) (RS5 : Sta Z h0 "com/example/uhrwerk/uhrwerk/model/Relation" "GREATER" "Lcom/example/uhrwerk/uhrwerk/model/Relation;" (.ref r5)) :
    MetFree l (⟨"com/example/uhrwerk/uhrwerk/model/RelationNegatedPinLaw", "pick", "(I)Lcom/example/uhrwerk/uhrwerk/model/Relation;"⟩ : MethodName) (head1 (Jvm.Cond.code (⟨"com/example/uhrwerk/uhrwerk/model/RelationNegatedPinLaw", "pick", "(I)Lcom/example/uhrwerk/uhrwerk/model/Relation;"⟩ : MethodName) method_2_code 2 (some (.object "com/example/uhrwerk/uhrwerk/model/Relation")) :: ws) ({ frames := 0, cells := 0, slots := 0, locals := 0 } : Room)) (fun a_ U_ => a_ = #[(.int kx)] ∧ Z.Warmed39 U_.vm ∧ U_.heap = h0) (fun _ _ _ _ _ => True) (fun _ U_ o_ V_ => ∃ v_ L_, o_ = .returned v_ ∧ Q_pick Z kx r0 r1 r2 r3 r4 r5 h0 n0 v_ V_.heap L_ ∧ FrameEnd U_ o_ V_ L_ ({ frames := 0, cells := 0, slots := 0, locals := 0 } : Room).cells ({ frames := 0, cells := 0, slots := 0, locals := 0 } : Room).slots) := by
  refine MetFree.of_bodySF (plainFor_of_name pn2) hisR ?_
  intro p e s m args below meth c s₁ Bd hml0 hP hK
  obtain ⟨rfl, hZ, hh⟩ := hP
  have hx := Bd.exec
  have hby := Bd.bytes
  have hml : c.maxLocals = 2 := hml0
  have hown : s.vm.findClass "com/example/uhrwerk/uhrwerk/model/RelationNegatedPinLaw" = some m.cls := findClass_of_methodNamed Bd.named
  have hnm := (name_of_methodNamed Bd.named Bd.method).1
  have X0 : Stand p l e ({ frames := 0, cells := 0, slots := 0, locals := 0 } : Room) s m #[(.int kx)] below meth c s₁ [] 0 0 := Stand.of_body Bd
  have e0 : s₁.heap = h0 := by rw [← hh, Bd.state]; rfl
  have N0 := Fr.nil n0
  have pre0 : own_Go p e below (s₁.setTop (entryFrame m #[(.int kx)] 2)) (s₁.setTop (mkF m 0 #[.val (.int kx), .unset] [])) := fun t_ k_ => castTop (ef__pick m kx) k_
  have P1 := own_step (C := s₁.setTop (mkF m 9 #[.val (.int kx), .val (.int ((kx &&& (2147483647 : Int32)) % (6 : Int32)))] [(.int ((kx &&& (2147483647 : Int32)) % (6 : Int32)))])) pre0 (by
    intro tt_ kk_
    refine XS.iloadN X0.here hx rfl (hb hby d1_0) rfl ?_
    show Steps p.tables e below (s₁.setTop (mkF m 1 #[.val (.int kx), .unset] [(.int kx)])) _
    refine X0.ldcInt hx hown (mvT hZ (hw _ (List.mem_of_getElem? (i := 4) rfl))) (g := (mkF m 1 #[.val (.int kx), .unset] [(.int kx)])) rfl (hb hby d1_1) _ ?_
    show Steps p.tables e below (s₁.setTop (mkF m 3 #[.val (.int kx), .unset] [(.int (2147483647 : Int32)), (.int kx)])) _
    refine XS.iand X0.here hx rfl (hb hby d1_3) rfl ?_
    show Steps p.tables e below (s₁.setTop (mkF m 4 #[.val (.int kx), .unset] [(.int (kx &&& (2147483647 : Int32)))])) _
    refine XS.bipush X0.here hx rfl (hb hby d1_4) ?_
    show Steps p.tables e below (s₁.setTop (mkF m 6 #[.val (.int kx), .unset] [(.int (6 : Int32)), (.int (kx &&& (2147483647 : Int32)))])) _
    refine iremM X0 hx rfl (hb hby d1_6) rfl (by decide) ?_
    show Steps p.tables e below (s₁.setTop (mkF m 7 #[.val (.int kx), .unset] [(.int ((kx &&& (2147483647 : Int32)) % (6 : Int32)))])) _
    refine XS.istoreN X0.here hx rfl (hb hby d1_7) rfl (l' := #[.val (.int kx), .val (.int ((kx &&& (2147483647 : Int32)) % (6 : Int32)))]) rfl ?_
    show Steps p.tables e below (s₁.setTop (mkF m 8 #[.val (.int kx), .val (.int ((kx &&& (2147483647 : Int32)) % (6 : Int32)))] [])) _
    refine XS.iloadN X0.here hx rfl (hb hby d1_8) rfl ?_
    exact kk_)
  by_cases c2 : ((kx &&& (2147483647 : Int32)) % (6 : Int32)) = (0 : Int32)
  · have P3 := own_step (C := s₁.setTop (mkF m 12 #[.val (.int kx), .val (.int ((kx &&& (2147483647 : Int32)) % (6 : Int32)))] [])) P1 (by
      intro tt_ kk_
      refine XS.ifNo X0.here hx rfl (hb hby d1_9) rfl ((if0 _ _).trans (teq c2).2) ?_
      exact kk_)
    obtain ⟨T4, X4, e4, st4⟩ := getS2 X0 hx hZ hown (host := "") (Or.inl (hw _ (List.mem_of_getElem? (i := 5) rfl))) Via.refl e0 RS0 (g := (mkF m 12 #[.val (.int kx), .val (.int ((kx &&& (2147483647 : Int32)) % (6 : Int32)))] [])) rfl (hb hby d1_12)
    have P5 := own_step (C := T4.setTop (mkF m 15 #[.val (.int kx), .val (.int ((kx &&& (2147483647 : Int32)) % (6 : Int32)))] [(.ref r0)])) P3 (fun t_ k_ => st4 t_ k_)
    obtain ⟨fs, hr, hrun, hended, hW, hsame⟩ := X4.leave (v := some (.ref r0)) (fun h => by rw [Bd.returns] at h; cases h)
    refine ⟨_, _, P5 _ ?_, hrun, hended, _, _, rfl, ?_, ⟨_, rfl⟩, hW, hsame.mono (by decide) (by decide)⟩
    · jvm_step X4.here [X4.here.top, hx, (hb hby d1_15), X4.method', Bd.returns, Value.isRef, FieldType.isReference]
      first | (intro acts; rw [hr _ acts rfl rfl rfl]) | rw [hr _ _ rfl rfl rfl]
      exact Steps.refl _
    · show Q_pick Z _ _ _ _ _ _ _ h0 n0 _ T4.heap _
      rw [e4]
      exact ⟨by unfold own_r; rw [if_pos c2], N0, rfl⟩
  · have P6 := own_step (C := s₁.setTop (mkF m 16 #[.val (.int kx), .val (.int ((kx &&& (2147483647 : Int32)) % (6 : Int32)))] [])) P1 (by
      intro tt_ kk_
      refine XS.ifYes X0.here hx rfl (pc0 := 9) (pc' := 16) rfl (hb hby d1_9) rfl ((if0 _ _).trans (feq c2).2) (by decide) (by decide) ?_
      exact kk_)
    have P7 := own_step (C := s₁.setTop (mkF m 18 #[.val (.int kx), .val (.int ((kx &&& (2147483647 : Int32)) % (6 : Int32)))] [(.int (1 : Int32)), (.int ((kx &&& (2147483647 : Int32)) % (6 : Int32)))])) P6 (by
      intro tt_ kk_
      refine XS.iloadN X0.here hx rfl (hb hby d1_16) rfl ?_
      show Steps p.tables e below (s₁.setTop (mkF m 17 #[.val (.int kx), .val (.int ((kx &&& (2147483647 : Int32)) % (6 : Int32)))] [(.int ((kx &&& (2147483647 : Int32)) % (6 : Int32)))])) _
      refine XS.iconst X0.here hx rfl (hb hby d1_17) ?_
      exact kk_)
    by_cases c8 : ((kx &&& (2147483647 : Int32)) % (6 : Int32)) = (1 : Int32)
    · have P9 := own_step (C := s₁.setTop (mkF m 21 #[.val (.int kx), .val (.int ((kx &&& (2147483647 : Int32)) % (6 : Int32)))] [])) P7 (by
        intro tt_ kk_
        refine XS.icmpNo X0.here hx rfl (hb hby d1_18) rfl (teq c8).2 ?_
        exact kk_)
      obtain ⟨T10, X10, e10, st10⟩ := getS2 X0 hx hZ hown (host := "") (Or.inl (hw _ (List.mem_of_getElem? (i := 37) rfl))) Via.refl e0 RS1 (g := (mkF m 21 #[.val (.int kx), .val (.int ((kx &&& (2147483647 : Int32)) % (6 : Int32)))] [])) rfl (hb hby d1_21)
      have P11 := own_step (C := T10.setTop (mkF m 24 #[.val (.int kx), .val (.int ((kx &&& (2147483647 : Int32)) % (6 : Int32)))] [(.ref r1)])) P9 (fun t_ k_ => st10 t_ k_)
      obtain ⟨fs, hr, hrun, hended, hW, hsame⟩ := X10.leave (v := some (.ref r1)) (fun h => by rw [Bd.returns] at h; cases h)
      refine ⟨_, _, P11 _ ?_, hrun, hended, _, _, rfl, ?_, ⟨_, rfl⟩, hW, hsame.mono (by decide) (by decide)⟩
      · jvm_step X10.here [X10.here.top, hx, (hb hby d1_24), X10.method', Bd.returns, Value.isRef, FieldType.isReference]
        first | (intro acts; rw [hr _ acts rfl rfl rfl]) | rw [hr _ _ rfl rfl rfl]
        exact Steps.refl _
      · show Q_pick Z _ _ _ _ _ _ _ h0 n0 _ T10.heap _
        rw [e10]
        exact ⟨by unfold own_r; rw [if_neg c2, if_pos c8], N0, rfl⟩
    · have P12 := own_step (C := s₁.setTop (mkF m 25 #[.val (.int kx), .val (.int ((kx &&& (2147483647 : Int32)) % (6 : Int32)))] [])) P7 (by
        intro tt_ kk_
        refine XS.icmpYes X0.here hx rfl (pc0 := 18) (pc' := 25) rfl (hb hby d1_18) rfl (feq c8).2 (by decide) (by decide) ?_
        exact kk_)
      have P13 := own_step (C := s₁.setTop (mkF m 27 #[.val (.int kx), .val (.int ((kx &&& (2147483647 : Int32)) % (6 : Int32)))] [(.int (2 : Int32)), (.int ((kx &&& (2147483647 : Int32)) % (6 : Int32)))])) P12 (by
        intro tt_ kk_
        refine XS.iloadN X0.here hx rfl (hb hby d1_25) rfl ?_
        show Steps p.tables e below (s₁.setTop (mkF m 26 #[.val (.int kx), .val (.int ((kx &&& (2147483647 : Int32)) % (6 : Int32)))] [(.int ((kx &&& (2147483647 : Int32)) % (6 : Int32)))])) _
        refine XS.iconst X0.here hx rfl (hb hby d1_26) ?_
        exact kk_)
      by_cases c14 : ((kx &&& (2147483647 : Int32)) % (6 : Int32)) = (2 : Int32)
      · have P15 := own_step (C := s₁.setTop (mkF m 30 #[.val (.int kx), .val (.int ((kx &&& (2147483647 : Int32)) % (6 : Int32)))] [])) P13 (by
          intro tt_ kk_
          refine XS.icmpNo X0.here hx rfl (hb hby d1_27) rfl (teq c14).2 ?_
          exact kk_)
        obtain ⟨T16, X16, e16, st16⟩ := getS2 X0 hx hZ hown (host := "") (Or.inl (hw _ (List.mem_of_getElem? (i := 36) rfl))) Via.refl e0 RS2 (g := (mkF m 30 #[.val (.int kx), .val (.int ((kx &&& (2147483647 : Int32)) % (6 : Int32)))] [])) rfl (hb hby d1_30)
        have P17 := own_step (C := T16.setTop (mkF m 33 #[.val (.int kx), .val (.int ((kx &&& (2147483647 : Int32)) % (6 : Int32)))] [(.ref r2)])) P15 (fun t_ k_ => st16 t_ k_)
        obtain ⟨fs, hr, hrun, hended, hW, hsame⟩ := X16.leave (v := some (.ref r2)) (fun h => by rw [Bd.returns] at h; cases h)
        refine ⟨_, _, P17 _ ?_, hrun, hended, _, _, rfl, ?_, ⟨_, rfl⟩, hW, hsame.mono (by decide) (by decide)⟩
        · jvm_step X16.here [X16.here.top, hx, (hb hby d1_33), X16.method', Bd.returns, Value.isRef, FieldType.isReference]
          first | (intro acts; rw [hr _ acts rfl rfl rfl]) | rw [hr _ _ rfl rfl rfl]
          exact Steps.refl _
        · show Q_pick Z _ _ _ _ _ _ _ h0 n0 _ T16.heap _
          rw [e16]
          exact ⟨by unfold own_r; rw [if_neg c2, if_neg c8, if_pos c14], N0, rfl⟩
      · have P18 := own_step (C := s₁.setTop (mkF m 34 #[.val (.int kx), .val (.int ((kx &&& (2147483647 : Int32)) % (6 : Int32)))] [])) P13 (by
          intro tt_ kk_
          refine XS.icmpYes X0.here hx rfl (pc0 := 27) (pc' := 34) rfl (hb hby d1_27) rfl (feq c14).2 (by decide) (by decide) ?_
          exact kk_)
        have P19 := own_step (C := s₁.setTop (mkF m 36 #[.val (.int kx), .val (.int ((kx &&& (2147483647 : Int32)) % (6 : Int32)))] [(.int (3 : Int32)), (.int ((kx &&& (2147483647 : Int32)) % (6 : Int32)))])) P18 (by
          intro tt_ kk_
          refine XS.iloadN X0.here hx rfl (hb hby d1_34) rfl ?_
          show Steps p.tables e below (s₁.setTop (mkF m 35 #[.val (.int kx), .val (.int ((kx &&& (2147483647 : Int32)) % (6 : Int32)))] [(.int ((kx &&& (2147483647 : Int32)) % (6 : Int32)))])) _
          refine XS.iconst X0.here hx rfl (hb hby d1_35) ?_
          exact kk_)
        by_cases c20 : ((kx &&& (2147483647 : Int32)) % (6 : Int32)) = (3 : Int32)
        · have P21 := own_step (C := s₁.setTop (mkF m 39 #[.val (.int kx), .val (.int ((kx &&& (2147483647 : Int32)) % (6 : Int32)))] [])) P19 (by
            intro tt_ kk_
            refine XS.icmpNo X0.here hx rfl (hb hby d1_36) rfl (teq c20).2 ?_
            exact kk_)
          obtain ⟨T22, X22, e22, st22⟩ := getS2 X0 hx hZ hown (host := "") (Or.inl (hw _ (List.mem_of_getElem? (i := 31) rfl))) Via.refl e0 RS3 (g := (mkF m 39 #[.val (.int kx), .val (.int ((kx &&& (2147483647 : Int32)) % (6 : Int32)))] [])) rfl (hb hby d1_39)
          have P23 := own_step (C := T22.setTop (mkF m 42 #[.val (.int kx), .val (.int ((kx &&& (2147483647 : Int32)) % (6 : Int32)))] [(.ref r3)])) P21 (fun t_ k_ => st22 t_ k_)
          obtain ⟨fs, hr, hrun, hended, hW, hsame⟩ := X22.leave (v := some (.ref r3)) (fun h => by rw [Bd.returns] at h; cases h)
          refine ⟨_, _, P23 _ ?_, hrun, hended, _, _, rfl, ?_, ⟨_, rfl⟩, hW, hsame.mono (by decide) (by decide)⟩
          · jvm_step X22.here [X22.here.top, hx, (hb hby d1_42), X22.method', Bd.returns, Value.isRef, FieldType.isReference]
            first | (intro acts; rw [hr _ acts rfl rfl rfl]) | rw [hr _ _ rfl rfl rfl]
            exact Steps.refl _
          · show Q_pick Z _ _ _ _ _ _ _ h0 n0 _ T22.heap _
            rw [e22]
            exact ⟨by unfold own_r; rw [if_neg c2, if_neg c8, if_neg c14, if_pos c20], N0, rfl⟩
        · have P24 := own_step (C := s₁.setTop (mkF m 43 #[.val (.int kx), .val (.int ((kx &&& (2147483647 : Int32)) % (6 : Int32)))] [])) P19 (by
            intro tt_ kk_
            refine XS.icmpYes X0.here hx rfl (pc0 := 36) (pc' := 43) rfl (hb hby d1_36) rfl (feq c20).2 (by decide) (by decide) ?_
            exact kk_)
          have P25 := own_step (C := s₁.setTop (mkF m 45 #[.val (.int kx), .val (.int ((kx &&& (2147483647 : Int32)) % (6 : Int32)))] [(.int (4 : Int32)), (.int ((kx &&& (2147483647 : Int32)) % (6 : Int32)))])) P24 (by
            intro tt_ kk_
            refine XS.iloadN X0.here hx rfl (hb hby d1_43) rfl ?_
            show Steps p.tables e below (s₁.setTop (mkF m 44 #[.val (.int kx), .val (.int ((kx &&& (2147483647 : Int32)) % (6 : Int32)))] [(.int ((kx &&& (2147483647 : Int32)) % (6 : Int32)))])) _
            refine XS.iconst X0.here hx rfl (hb hby d1_44) ?_
            exact kk_)
          by_cases c26 : ((kx &&& (2147483647 : Int32)) % (6 : Int32)) = (4 : Int32)
          · have P27 := own_step (C := s₁.setTop (mkF m 48 #[.val (.int kx), .val (.int ((kx &&& (2147483647 : Int32)) % (6 : Int32)))] [])) P25 (by
              intro tt_ kk_
              refine XS.icmpNo X0.here hx rfl (hb hby d1_45) rfl (teq c26).2 ?_
              exact kk_)
            obtain ⟨T28, X28, e28, st28⟩ := getS2 X0 hx hZ hown (host := "") (Or.inl (hw _ (List.mem_of_getElem? (i := 30) rfl))) Via.refl e0 RS4 (g := (mkF m 48 #[.val (.int kx), .val (.int ((kx &&& (2147483647 : Int32)) % (6 : Int32)))] [])) rfl (hb hby d1_48)
            have P29 := own_step (C := T28.setTop (mkF m 51 #[.val (.int kx), .val (.int ((kx &&& (2147483647 : Int32)) % (6 : Int32)))] [(.ref r4)])) P27 (fun t_ k_ => st28 t_ k_)
            obtain ⟨fs, hr, hrun, hended, hW, hsame⟩ := X28.leave (v := some (.ref r4)) (fun h => by rw [Bd.returns] at h; cases h)
            refine ⟨_, _, P29 _ ?_, hrun, hended, _, _, rfl, ?_, ⟨_, rfl⟩, hW, hsame.mono (by decide) (by decide)⟩
            · jvm_step X28.here [X28.here.top, hx, (hb hby d1_51), X28.method', Bd.returns, Value.isRef, FieldType.isReference]
              first | (intro acts; rw [hr _ acts rfl rfl rfl]) | rw [hr _ _ rfl rfl rfl]
              exact Steps.refl _
            · show Q_pick Z _ _ _ _ _ _ _ h0 n0 _ T28.heap _
              rw [e28]
              exact ⟨by unfold own_r; rw [if_neg c2, if_neg c8, if_neg c14, if_neg c20, if_pos c26], N0, rfl⟩
          · have P30 := own_step (C := s₁.setTop (mkF m 52 #[.val (.int kx), .val (.int ((kx &&& (2147483647 : Int32)) % (6 : Int32)))] [])) P25 (by
              intro tt_ kk_
              refine XS.icmpYes X0.here hx rfl (pc0 := 45) (pc' := 52) rfl (hb hby d1_45) rfl (feq c26).2 (by decide) (by decide) ?_
              exact kk_)
            obtain ⟨T31, X31, e31, st31⟩ := getS2 X0 hx hZ hown (host := "") (Or.inl (hw _ (List.mem_of_getElem? (i := 42) rfl))) Via.refl e0 RS5 (g := (mkF m 52 #[.val (.int kx), .val (.int ((kx &&& (2147483647 : Int32)) % (6 : Int32)))] [])) rfl (hb hby d1_52)
            have P32 := own_step (C := T31.setTop (mkF m 55 #[.val (.int kx), .val (.int ((kx &&& (2147483647 : Int32)) % (6 : Int32)))] [(.ref r5)])) P30 (fun t_ k_ => st31 t_ k_)
            obtain ⟨fs, hr, hrun, hended, hW, hsame⟩ := X31.leave (v := some (.ref r5)) (fun h => by rw [Bd.returns] at h; cases h)
            refine ⟨_, _, P32 _ ?_, hrun, hended, _, _, rfl, ?_, ⟨_, rfl⟩, hW, hsame.mono (by decide) (by decide)⟩
            · jvm_step X31.here [X31.here.top, hx, (hb hby d1_55), X31.method', Bd.returns, Value.isRef, FieldType.isReference]
              first | (intro acts; rw [hr _ acts rfl rfl rfl]) | rw [hr _ _ rfl rfl rfl]
              exact Steps.refl _
            · show Q_pick Z _ _ _ _ _ _ _ h0 n0 _ T31.heap _
              rw [e31]
              exact ⟨by unfold own_r; rw [if_neg c2, if_neg c8, if_neg c14, if_neg c20, if_neg c26], N0, rfl⟩
theorem own_six (k : Int32) : own_O ((k &&& (2147483647 : Int32)) % (6 : Int32)) := by
  have h1 := c_mask k 2147483647 31 (by decide) (by decide +kernel)
  have h2 := (c_irem (k &&& (2147483647 : Int32)) 6 6 rfl).1
  have h3 : 0 ≤ (k &&& (2147483647 : Int32)).toInt := by rw [h1]; omega
  have h4 := h2 h3
  generalize (k &&& (2147483647 : Int32)) % (6 : Int32) = i at *
  generalize (k &&& (2147483647 : Int32)).toInt = z at *
  unfold own_O
  simp only [← Int32.toInt_inj, show (0 : Int32).toInt = 0 from rfl, show (1 : Int32).toInt = 1 from rfl, show (2 : Int32).toInt = 2 from rfl, show (3 : Int32).toInt = 3 from rfl, show (4 : Int32).toInt = 4 from rfl, show (5 : Int32).toInt = 5 from rfl]
  omega
theorem own_back {o : Int32} {r0 r1 r2 r3 r4 r5 : Addr} (h : own_O o) : own_r (own_neg (own_neg o)) r0 r1 r2 r3 r4 r5 = own_r o r0 r1 r2 r3 r4 r5 := by rw [own_neg_neg h]
theorem own_tri (l r : Int64) : (l < r ∧ ¬ (r < l) ∧ ¬ (l = r)) ∨ (¬ (l < r) ∧ ¬ (r < l) ∧ l = r) ∨ (¬ (l < r) ∧ r < l ∧ ¬ (l = r)) := by
  rw [Int64.lt_iff_toInt_lt, Int64.lt_iff_toInt_lt, ← Int64.toInt_inj]; omega
theorem own_compl {o : Int32} {a b : Int64} {v : Int32} (h : own_O o) (hv : (own_test o a b = (0 : Int32) ∧ v = (1 : Int32)) ∨ (¬ (own_test o a b = (0 : Int32)) ∧ v = (0 : Int32))) : own_test (own_neg o) a b = v := by
  unfold own_O at h
  rcases own_tri a b with ⟨p, q, r⟩ | ⟨p, q, r⟩ | ⟨p, q, r⟩
  · rcases h with rfl | rfl | rfl | rfl | rfl | rfl <;> simp +decide [own_test, own_neg, p, q, r] at hv ⊢ <;> exact hv.symm
  · rcases h with rfl | rfl | rfl | rfl | rfl | rfl <;> simp +decide [own_test, own_neg, p, q, r] at hv ⊢ <;> exact hv.symm
  · rcases h with rfl | rfl | rfl | rfl | rfl | rfl <;> simp +decide [own_test, own_neg, p, q, r] at hv ⊢ <;> exact hv.symm

theorem pd1 : parseMethodDescriptor "(I)Lcom/example/uhrwerk/uhrwerk/model/Relation;" = some ⟨[.int], some (.object "com/example/uhrwerk/uhrwerk/model/Relation")⟩ := by decide +kernel
theorem pd2 : parseMethodDescriptor "()Lcom/example/uhrwerk/uhrwerk/model/Relation;" = some ⟨[], some (.object "com/example/uhrwerk/uhrwerk/model/Relation")⟩ := by decide +kernel
theorem pd3 : parseMethodDescriptor "(JJ)Z" = some ⟨[.long, .long], some .boolean⟩ := by decide +kernel
theorem ef_0 (m : MethodId) (x0 : Int32) (x1 : Int64) (x2 : Int64) : entryFrame m #[(.int x0), (.long x1), (.long x2)] maxLocals = mkF m 0 #[.val (.int x0), .val (.long x1), .second, .val (.long x2), .second, .unset, .unset, .unset, .unset, .unset] [] := by first | (simp [entryFrame, mkF, argsToLocals, Value.category, maxLocals]; done) | rfl
def Q0 (Z : State) (kx : Int32) (ax : Int64) (b0 : Int64) (r0 : Addr) (r1 : Addr) (r2 : Addr) (r3 : Addr) (r4 : Addr) (r5 : Addr) (h0 : Heap) (n0 : Nat) (v_ : Option Value) (h : Heap) (L_ : List Loc) : Prop := v_ = some (.int 1) ∧ Fr n0 L_
set_option maxRecDepth 65536 in
set_option maxHeartbeats 40000000 in
theorem rm0 (l : Launch) (Z : State) (a0 : Array Value) (hw : ∀ d ∈ tables_1, d.before a0 Z = true) (ws : List Jvm.Cond) (kx : Int32) (ax : Int64) (b0 : Int64) (r0 : Addr) (r1 : Addr) (r2 : Addr) (r3 : Addr) (r4 : Addr) (r5 : Addr) (h0 : Heap) (n0 : Nat) (Z0 : n0 ≤ h0.size) (RS0 : Sta Z h0 "com/example/uhrwerk/uhrwerk/model/Relation" "LESS" "Lcom/example/uhrwerk/uhrwerk/model/Relation;" (.ref r0)) (RS1 : Sta Z h0 "com/example/uhrwerk/uhrwerk/model/Relation" "LESS_OR_EQUAL" "Lcom/example/uhrwerk/uhrwerk/model/Relation;" (.ref r1)) (RS2 : Sta Z h0 "com/example/uhrwerk/uhrwerk/model/Relation" "EQUAL" "Lcom/example/uhrwerk/uhrwerk/model/Relation;" (.ref r2)) (RS3 : Sta Z h0 "com/example/uhrwerk/uhrwerk/model/Relation" "NOT_EQUAL" "Lcom/example/uhrwerk/uhrwerk/model/Relation;" (.ref r3)) (RS4 : Sta Z h0 "com/example/uhrwerk/uhrwerk/model/Relation" "GREATER_OR_EQUAL" "Lcom/example/uhrwerk/uhrwerk/model/Relation;" (.ref r4)) (RS5 : Sta Z h0 "com/example/uhrwerk/uhrwerk/model/Relation" "GREATER" "Lcom/example/uhrwerk/uhrwerk/model/Relation;" (.ref r5)) (RE0 : Exa Z h0 r0 "com/example/uhrwerk/uhrwerk/model/Relation") (RE1 : Exa Z h0 r1 "com/example/uhrwerk/uhrwerk/model/Relation") (RE2 : Exa Z h0 r2 "com/example/uhrwerk/uhrwerk/model/Relation") (RE3 : Exa Z h0 r3 "com/example/uhrwerk/uhrwerk/model/Relation") (RE4 : Exa Z h0 r4 "com/example/uhrwerk/uhrwerk/model/Relation") (RE5 : Exa Z h0 r5 "com/example/uhrwerk/uhrwerk/model/Relation") (RF0 : Fld Z h0 r0 "java/lang/Enum" "ordinal" "I" (.int (0 : Int32))) (RF1 : Fld Z h0 r1 "java/lang/Enum" "ordinal" "I" (.int (1 : Int32))) (RF2 : Fld Z h0 r2 "java/lang/Enum" "ordinal" "I" (.int (2 : Int32))) (RF3 : Fld Z h0 r3 "java/lang/Enum" "ordinal" "I" (.int (3 : Int32))) (RF4 : Fld Z h0 r4 "java/lang/Enum" "ordinal" "I" (.int (4 : Int32))) (RF5 : Fld Z h0 r5 "java/lang/Enum" "ordinal" "I" (.int (5 : Int32))) :
    MetFree l x (head1 (Jvm.Cond.code x code maxLocals ret :: ws) room_1) (fun a_ U_ => a_ = #[(.int kx), (.long ax), (.long b0)] ∧ Z.Warmed39 U_.vm ∧ U_.heap = h0) (fun _ _ _ _ _ => True) (fun _ U_ o_ V_ => ∃ v_ L_, o_ = .returned v_ ∧ Q0 Z kx ax b0 r0 r1 r2 r3 r4 r5 h0 n0 v_ V_.heap L_ ∧ FrameEnd U_ o_ V_ L_ room_1.cells room_1.slots) := by
  refine MetFree.of_bodySF (plainFor_of_name pn2) hisR ?_
  intro p e s m args below meth c s₁ Bd hml0 hP hK
  obtain ⟨rfl, hZ, hh⟩ := hP
  have hx := Bd.exec
  have hby := Bd.bytes
  have hml : c.maxLocals = 10 := hml0
  have hown : s.vm.findClass "com/example/uhrwerk/uhrwerk/model/RelationNegatedPinLaw" = some m.cls := findClass_of_methodNamed Bd.named
  have hnm := (name_of_methodNamed Bd.named Bd.method).1
  have X0 : Stand p l e room_1 s m #[(.int kx), (.long ax), (.long b0)] below meth c s₁ [] 0 0 := Stand.of_body Bd
  have e0 : s₁.heap = h0 := by rw [← hh, Bd.state]; rfl
  have N0 := Fr.nil n0
  have pre0 : own_Go p e below (s₁.setTop (entryFrame m #[(.int kx), (.long ax), (.long b0)] maxLocals)) (s₁.setTop (mkF m 0 #[.val (.int kx), .val (.long ax), .second, .val (.long b0), .second, .unset, .unset, .unset, .unset, .unset] [])) := fun t_ k_ => castTop (ef_0 m kx ax b0) k_
  have P1 := own_step (C := s₁.setTop (mkF m 1 #[.val (.int kx), .val (.long ax), .second, .val (.long b0), .second, .unset, .unset, .unset, .unset, .unset] [(.int kx)])) pre0 (by
    intro tt_ kk_
    refine XS.iloadN X0.here hx rfl (hb hby at_0) rfl ?_
    exact kk_)
  obtain ⟨_, _, ⟨T2, L2, k2, n2⟩, -, X2, ⟨Lc2, hQ2, l2, y2, z2⟩, st2⟩ := Jvm.LawKit.callS X0 hx (y := (⟨"com/example/uhrwerk/uhrwerk/model/RelationNegatedPinLaw", "pick", "(I)Lcom/example/uhrwerk/uhrwerk/model/Relation;"⟩ : MethodName)) hown (mvT hZ (hw _ (List.mem_of_getElem? (i := 0) rfl))) (mvT hZ (hw _ (List.mem_of_getElem? (i := 1) rfl))) (mvT hZ (hw _ (List.mem_of_getElem? (i := 2) rfl))) (mvT hZ (hw _ (List.mem_of_getElem? (i := 3) rfl))) (by decide) (backOf (W := 0) (rm_pick l Z a0 hw [] kx r0 r1 r2 r3 r4 r5 h0 n0 Z0 RS0 RS1 RS2 RS3 RS4 RS5) hZ (hw _ (List.mem_of_getElem? (i := 3) rfl)) (hw _ (List.mem_of_getElem? (i := 2) rfl)) (by decide) (by decide)) (g := (mkF m 1 #[.val (.int kx), .val (.long ax), .second, .val (.long b0), .second, .unset, .unset, .unset, .unset, .unset] [(.int kx)])) rfl (by rw [hml]; rfl) (argsL := [(.int kx)]) (rest := []) (lenOf pd1 rfl) rfl (by show 2 * 0 + _ ≤ _; exact Nat.le_of_eq rfl) (hb hby at_1) (fun _ _ => ⟨rfl, e0, (by decide : 0 + 0 ≤ _), (by decide : 0 + 0 ≤ _)⟩)
  dsimp only [Pt.U, Pt.locs, Pt.cells, Pt.slots] at X2 l2 y2 z2 st2 hQ2
  subst l2 y2 z2
  obtain ⟨rfl, N2q, e2⟩ := hQ2
  have N2 := Fr.app N0 N2q
  have P3 := own_step (C := T2.setTop (mkF m 4 #[.val (.int kx), .val (.long ax), .second, .val (.long b0), .second, .unset, .unset, .unset, .unset, .unset] [(.ref (own_r ((kx &&& (2147483647 : Int32)) % (6 : Int32)) r0 r1 r2 r3 r4 r5))])) P1 (fun t_ k_ => st2 t_ k_)
  have ho : own_O ((kx &&& (2147483647 : Int32)) % (6 : Int32)) := own_six kx
  obtain ⟨o, hoo⟩ : ∃ z, z = ((kx &&& (2147483647 : Int32)) % (6 : Int32)) := ⟨_, rfl⟩
  rw [← hoo] at ho
  have P4 := P3
  rw [← hoo] at P4
  have Ea := own_rE ho RE0 RE1 RE2 RE3 RE4 RE5
  have Fa := own_rF ho RF0 RF1 RF2 RF3 RF4 RF5
  have hn := own_neg_O ho
  have En := own_rE hn RE0 RE1 RE2 RE3 RE4 RE5
  have Fn := own_rF hn RF0 RF1 RF2 RF3 RF4 RF5
  have P5 := own_step (C := T2.setTop (mkF m 12 #[.val (.int kx), .val (.long ax), .second, .val (.long b0), .second, .val (.ref (own_r o r0 r1 r2 r3 r4 r5)), .unset, .unset, .unset, .unset] [(.int (((kx.toUInt32 >>> ((8 : Int32) &&& 31).toUInt32).toInt32) &&& (3 : Int32)))])) P4 (by
    intro tt_ kk_
    refine XS.astore X2.here hx rfl (hb hby at_4) rfl rfl (l' := #[.val (.int kx), .val (.long ax), .second, .val (.long b0), .second, .val (.ref (own_r o r0 r1 r2 r3 r4 r5)), .unset, .unset, .unset, .unset]) rfl ?_
    show Steps p.tables e below (T2.setTop (mkF m 6 #[.val (.int kx), .val (.long ax), .second, .val (.long b0), .second, .val (.ref (own_r o r0 r1 r2 r3 r4 r5)), .unset, .unset, .unset, .unset] [])) _
    refine XS.iloadN X2.here hx rfl (hb hby at_6) rfl ?_
    show Steps p.tables e below (T2.setTop (mkF m 7 #[.val (.int kx), .val (.long ax), .second, .val (.long b0), .second, .val (.ref (own_r o r0 r1 r2 r3 r4 r5)), .unset, .unset, .unset, .unset] [(.int kx)])) _
    refine XS.bipush X2.here hx rfl (hb hby at_7) ?_
    show Steps p.tables e below (T2.setTop (mkF m 9 #[.val (.int kx), .val (.long ax), .second, .val (.long b0), .second, .val (.ref (own_r o r0 r1 r2 r3 r4 r5)), .unset, .unset, .unset, .unset] [(.int (8 : Int32)), (.int kx)])) _
    refine XS.iushr X2.here hx rfl (hb hby at_9) rfl ?_
    show Steps p.tables e below (T2.setTop (mkF m 10 #[.val (.int kx), .val (.long ax), .second, .val (.long b0), .second, .val (.ref (own_r o r0 r1 r2 r3 r4 r5)), .unset, .unset, .unset, .unset] [(.int ((kx.toUInt32 >>> ((8 : Int32) &&& 31).toUInt32).toInt32))])) _
    refine XS.iconst X2.here hx rfl (hb hby at_10) ?_
    show Steps p.tables e below (T2.setTop (mkF m 11 #[.val (.int kx), .val (.long ax), .second, .val (.long b0), .second, .val (.ref (own_r o r0 r1 r2 r3 r4 r5)), .unset, .unset, .unset, .unset] [(.int (3 : Int32)), (.int ((kx.toUInt32 >>> ((8 : Int32) &&& 31).toUInt32).toInt32))])) _
    refine XS.iand X2.here hx rfl (hb hby at_11) rfl ?_
    exact kk_)
  obtain ⟨bb, hv6, J6⟩ : ∃ (bb : Int64), (((((kx.toUInt32 >>> ((8 : Int32) &&& 31).toUInt32).toInt32) &&& (3 : Int32)) = (0 : Int32) ∧ bb = ax) ∨ (¬ ((((kx.toUInt32 >>> ((8 : Int32) &&& 31).toUInt32).toInt32) &&& (3 : Int32)) = (0 : Int32)) ∧ bb = b0)) ∧ own_Go p e below (T2.setTop (mkF m 12 #[.val (.int kx), .val (.long ax), .second, .val (.long b0), .second, .val (.ref (own_r o r0 r1 r2 r3 r4 r5)), .unset, .unset, .unset, .unset] [(.int (((kx.toUInt32 >>> ((8 : Int32) &&& 31).toUInt32).toInt32) &&& (3 : Int32)))])) (T2.setTop (mkF m 20 #[.val (.int kx), .val (.long ax), .second, .val (.long b0), .second, .val (.ref (own_r o r0 r1 r2 r3 r4 r5)), .unset, .unset, .unset, .unset] [(.long bb)])) := by
    have P7 : own_Go p e below (T2.setTop (mkF m 12 #[.val (.int kx), .val (.long ax), .second, .val (.long b0), .second, .val (.ref (own_r o r0 r1 r2 r3 r4 r5)), .unset, .unset, .unset, .unset] [(.int (((kx.toUInt32 >>> ((8 : Int32) &&& 31).toUInt32).toInt32) &&& (3 : Int32)))])) (T2.setTop (mkF m 12 #[.val (.int kx), .val (.long ax), .second, .val (.long b0), .second, .val (.ref (own_r o r0 r1 r2 r3 r4 r5)), .unset, .unset, .unset, .unset] [(.int (((kx.toUInt32 >>> ((8 : Int32) &&& 31).toUInt32).toInt32) &&& (3 : Int32)))])) := fun t_ k_ => k_
    by_cases c8 : (((kx.toUInt32 >>> ((8 : Int32) &&& 31).toUInt32).toInt32) &&& (3 : Int32)) = (0 : Int32)
    · have P9 := own_step (C := T2.setTop (mkF m 15 #[.val (.int kx), .val (.long ax), .second, .val (.long b0), .second, .val (.ref (own_r o r0 r1 r2 r3 r4 r5)), .unset, .unset, .unset, .unset] [])) P7 (by
        intro tt_ kk_
        refine XS.ifNo X2.here hx rfl (hb hby at_12) rfl ((if0 _ _).trans (teq c8).2) ?_
        exact kk_)
      have P10 := own_step (C := T2.setTop (mkF m 20 #[.val (.int kx), .val (.long ax), .second, .val (.long b0), .second, .val (.ref (own_r o r0 r1 r2 r3 r4 r5)), .unset, .unset, .unset, .unset] [(.long ax)])) P9 (by
        intro tt_ kk_
        refine XS.lloadN X2.here hx rfl (hb hby at_15) rfl ?_
        show Steps p.tables e below (T2.setTop (mkF m 16 #[.val (.int kx), .val (.long ax), .second, .val (.long b0), .second, .val (.ref (own_r o r0 r1 r2 r3 r4 r5)), .unset, .unset, .unset, .unset] [(.long ax)])) _
        refine XS.goto X2.here hx rfl (pc0 := 16) (pc' := 20) rfl (hb hby at_16) (by decide) (by decide) ?_
        exact kk_)
      exact ⟨ax, Or.inl ⟨c8, rfl⟩, P10⟩
    · have P11 := own_step (C := T2.setTop (mkF m 19 #[.val (.int kx), .val (.long ax), .second, .val (.long b0), .second, .val (.ref (own_r o r0 r1 r2 r3 r4 r5)), .unset, .unset, .unset, .unset] [])) P7 (by
        intro tt_ kk_
        refine XS.ifYes X2.here hx rfl (pc0 := 12) (pc' := 19) rfl (hb hby at_12) rfl ((if0 _ _).trans (feq c8).2) (by decide) (by decide) ?_
        exact kk_)
      have P12 := own_step (C := T2.setTop (mkF m 20 #[.val (.int kx), .val (.long ax), .second, .val (.long b0), .second, .val (.ref (own_r o r0 r1 r2 r3 r4 r5)), .unset, .unset, .unset, .unset] [(.long b0)])) P11 (by
        intro tt_ kk_
        refine XS.lloadN X2.here hx rfl (hb hby at_19) rfl ?_
        exact kk_)
      exact ⟨b0, Or.inr (⟨c8, rfl⟩), P12⟩
  have P13 := own_step P5 J6
  have P14 := own_step (C := T2.setTop (mkF m 24 #[.val (.int kx), .val (.long ax), .second, .val (.long b0), .second, .val (.ref (own_r o r0 r1 r2 r3 r4 r5)), .val (.long bb), .second, .unset, .unset] [(.ref (own_r o r0 r1 r2 r3 r4 r5))])) P13 (by
    intro tt_ kk_
    refine XS.lstore X2.here hx rfl (hb hby at_20) rfl (l' := #[.val (.int kx), .val (.long ax), .second, .val (.long b0), .second, .val (.ref (own_r o r0 r1 r2 r3 r4 r5)), .val (.long bb), .second, .unset, .unset]) rfl ?_
    show Steps p.tables e below (T2.setTop (mkF m 22 #[.val (.int kx), .val (.long ax), .second, .val (.long b0), .second, .val (.ref (own_r o r0 r1 r2 r3 r4 r5)), .val (.long bb), .second, .unset, .unset] [])) _
    refine XS.aload X2.here hx rfl (hb hby at_22) rfl rfl ?_
    exact kk_)
  obtain ⟨cq15, kq15, q15a, q15b, q15c⟩ := isOf hZ e2 Ea
  obtain ⟨_, _, ⟨T15, L15, k15, n15⟩, -, X15, ⟨Lc15, hQ15, l15, y15, z15⟩, st15⟩ := X2.virtualBack hx (y := (⟨"com/example/uhrwerk/uhrwerk/model/Relation", "negated", "()Lcom/example/uhrwerk/uhrwerk/model/Relation;"⟩ : MethodName)) (z := (⟨"com/example/uhrwerk/uhrwerk/model/Relation", "negated", "()Lcom/example/uhrwerk/uhrwerk/model/Relation;"⟩ : MethodName)) hown (mvT hZ (hw _ (List.mem_of_getElem? (i := 8) rfl))) (mvT hZ (hw _ (List.mem_of_getElem? (i := 9) rfl))) (notFace_of_selects (args := #[]) (mvT hZ (hw _ (List.mem_of_getElem? (i := 11) rfl)))) (mvT hZ (hw _ (List.mem_of_getElem? (i := 11) rfl))) (mvT hZ (hw _ (List.mem_of_getElem? (i := 10) rfl))) (by decide) (backOf (W := 0) (rm_neg l Z a0 hw [] (own_r o r0 r1 r2 r3 r4 r5) o r0 r1 r2 r3 r4 r5 h0 n0 Z0 ho Ea Fa RS0 RS1 RS2 RS3 RS4 RS5) hZ (hw _ (List.mem_of_getElem? (i := 12) rfl)) (hw _ (List.mem_of_getElem? (i := 6) rfl)) (by decide) (by decide)) q15a q15c (g := (mkF m 24 #[.val (.int kx), .val (.long ax), .second, .val (.long b0), .second, .val (.ref (own_r o r0 r1 r2 r3 r4 r5)), .val (.long bb), .second, .unset, .unset] [(.ref (own_r o r0 r1 r2 r3 r4 r5))])) rfl (by rw [hml]; rfl) (Steps.refl _) (argsL := []) (rest := []) (lenOf pd2 rfl) rfl (by show 2 * 0 + _ ≤ _; exact Nat.le_of_eq rfl) (hb hby at_24) (fun _ _ => ⟨rfl, e2, (by decide : 0 + 0 ≤ _), (by decide : 0 + 0 ≤ _)⟩)
  dsimp only [Pt.U, Pt.locs, Pt.cells, Pt.slots] at X15 l15 y15 z15 st15 hQ15
  subst l15 y15 z15
  obtain ⟨rfl, N15q, e15⟩ := hQ15
  have N15 := Fr.app N2 N15q
  have P16 := own_step (C := T15.setTop (mkF m 27 #[.val (.int kx), .val (.long ax), .second, .val (.long b0), .second, .val (.ref (own_r o r0 r1 r2 r3 r4 r5)), .val (.long bb), .second, .unset, .unset] [(.ref (own_r (own_neg o) r0 r1 r2 r3 r4 r5))])) P14 (fun t_ k_ => st15.trans k_)
  have P17 := own_step (C := T15.setTop (mkF m 31 #[.val (.int kx), .val (.long ax), .second, .val (.long b0), .second, .val (.ref (own_r o r0 r1 r2 r3 r4 r5)), .val (.long bb), .second, .val (.ref (own_r (own_neg o) r0 r1 r2 r3 r4 r5)), .unset] [(.ref (own_r (own_neg o) r0 r1 r2 r3 r4 r5))])) P16 (by
    intro tt_ kk_
    refine XS.astore X15.here hx rfl (hb hby at_27) rfl rfl (l' := #[.val (.int kx), .val (.long ax), .second, .val (.long b0), .second, .val (.ref (own_r o r0 r1 r2 r3 r4 r5)), .val (.long bb), .second, .val (.ref (own_r (own_neg o) r0 r1 r2 r3 r4 r5)), .unset]) rfl ?_
    show Steps p.tables e below (T15.setTop (mkF m 29 #[.val (.int kx), .val (.long ax), .second, .val (.long b0), .second, .val (.ref (own_r o r0 r1 r2 r3 r4 r5)), .val (.long bb), .second, .val (.ref (own_r (own_neg o) r0 r1 r2 r3 r4 r5)), .unset] [])) _
    refine XS.aload X15.here hx rfl (hb hby at_29) rfl rfl ?_
    exact kk_)
  have P18 := own_step (C := T15.setTop (mkF m 36 #[.val (.int kx), .val (.long ax), .second, .val (.long b0), .second, .val (.ref (own_r o r0 r1 r2 r3 r4 r5)), .val (.long bb), .second, .val (.ref (own_r (own_neg o) r0 r1 r2 r3 r4 r5)), .unset] [])) P17 (by
    intro tt_ kk_
    refine XS.ifnonnullYes X15.here hx rfl (pc0 := 31) (pc' := 36) rfl (hb hby at_31) rfl (by decide) (by decide) ?_
    exact kk_)
  have P19 := own_step (C := T15.setTop (mkF m 41 #[.val (.int kx), .val (.long ax), .second, .val (.long b0), .second, .val (.ref (own_r o r0 r1 r2 r3 r4 r5)), .val (.long bb), .second, .val (.ref (own_r (own_neg o) r0 r1 r2 r3 r4 r5)), .unset] [(.long bb), (.long ax), (.ref (own_r (own_neg o) r0 r1 r2 r3 r4 r5))])) P18 (by
    intro tt_ kk_
    refine XS.aload X15.here hx rfl (hb hby at_36) rfl rfl ?_
    show Steps p.tables e below (T15.setTop (mkF m 38 #[.val (.int kx), .val (.long ax), .second, .val (.long b0), .second, .val (.ref (own_r o r0 r1 r2 r3 r4 r5)), .val (.long bb), .second, .val (.ref (own_r (own_neg o) r0 r1 r2 r3 r4 r5)), .unset] [(.ref (own_r (own_neg o) r0 r1 r2 r3 r4 r5))])) _
    refine XS.lloadN X15.here hx rfl (hb hby at_38) rfl ?_
    show Steps p.tables e below (T15.setTop (mkF m 39 #[.val (.int kx), .val (.long ax), .second, .val (.long b0), .second, .val (.ref (own_r o r0 r1 r2 r3 r4 r5)), .val (.long bb), .second, .val (.ref (own_r (own_neg o) r0 r1 r2 r3 r4 r5)), .unset] [(.long ax), (.ref (own_r (own_neg o) r0 r1 r2 r3 r4 r5))])) _
    refine XS.lload X15.here hx rfl (hb hby at_39) rfl ?_
    exact kk_)
  obtain ⟨cq20, kq20, q20a, q20b, q20c⟩ := isOf hZ e15 En
  obtain ⟨_, _, ⟨T20, L20, k20, n20⟩, -, X20, ⟨Lc20, hQ20, l20, y20, z20⟩, st20⟩ := X15.virtualBack hx (y := (⟨"com/example/uhrwerk/uhrwerk/model/Relation", "test", "(JJ)Z"⟩ : MethodName)) (z := (⟨"com/example/uhrwerk/uhrwerk/model/Relation", "test", "(JJ)Z"⟩ : MethodName)) hown (mvT hZ (hw _ (List.mem_of_getElem? (i := 24) rfl))) (mvT hZ (hw _ (List.mem_of_getElem? (i := 25) rfl))) (notFace_of_selects (args := #[]) (mvT hZ (hw _ (List.mem_of_getElem? (i := 27) rfl)))) (mvT hZ (hw _ (List.mem_of_getElem? (i := 27) rfl))) (mvT hZ (hw _ (List.mem_of_getElem? (i := 26) rfl))) (by decide) (backOf (W := 0) (rm_test l Z a0 hw [] (own_r (own_neg o) r0 r1 r2 r3 r4 r5) (own_neg o) ax bb h0 n0 Z0 hn En Fn) hZ (hw _ (List.mem_of_getElem? (i := 28) rfl)) (hw _ (List.mem_of_getElem? (i := 6) rfl)) (by decide) (by decide)) q20a q20c (g := (mkF m 41 #[.val (.int kx), .val (.long ax), .second, .val (.long b0), .second, .val (.ref (own_r o r0 r1 r2 r3 r4 r5)), .val (.long bb), .second, .val (.ref (own_r (own_neg o) r0 r1 r2 r3 r4 r5)), .unset] [(.long bb), (.long ax), (.ref (own_r (own_neg o) r0 r1 r2 r3 r4 r5))])) rfl (by rw [hml]; rfl) (Steps.refl _) (argsL := [(.long ax), (.long bb)]) (rest := []) (lenOf pd3 rfl) rfl (by show 2 * 0 + _ ≤ _; exact Nat.le_of_eq rfl) (hb hby at_41) (fun _ _ => ⟨rfl, e15, (by decide : 0 + 0 ≤ _), (by decide : 0 + 0 ≤ _)⟩)
  dsimp only [Pt.U, Pt.locs, Pt.cells, Pt.slots] at X20 l20 y20 z20 st20 hQ20
  subst l20 y20 z20
  obtain ⟨rfl, N20q, e20⟩ := hQ20
  have N20 := Fr.app N15 N20q
  have P21 := own_step (C := T20.setTop (mkF m 44 #[.val (.int kx), .val (.long ax), .second, .val (.long b0), .second, .val (.ref (own_r o r0 r1 r2 r3 r4 r5)), .val (.long bb), .second, .val (.ref (own_r (own_neg o) r0 r1 r2 r3 r4 r5)), .unset] [(.int (own_test (own_neg o) ax bb))])) P19 (fun t_ k_ => st20.trans k_)
  have P22 := own_step (C := T20.setTop (mkF m 49 #[.val (.int kx), .val (.long ax), .second, .val (.long b0), .second, .val (.ref (own_r o r0 r1 r2 r3 r4 r5)), .val (.long bb), .second, .val (.ref (own_r (own_neg o) r0 r1 r2 r3 r4 r5)), .unset] [(.long bb), (.long ax), (.ref (own_r o r0 r1 r2 r3 r4 r5)), (.int (own_test (own_neg o) ax bb))])) P21 (by
    intro tt_ kk_
    refine XS.aload X20.here hx rfl (hb hby at_44) rfl rfl ?_
    show Steps p.tables e below (T20.setTop (mkF m 46 #[.val (.int kx), .val (.long ax), .second, .val (.long b0), .second, .val (.ref (own_r o r0 r1 r2 r3 r4 r5)), .val (.long bb), .second, .val (.ref (own_r (own_neg o) r0 r1 r2 r3 r4 r5)), .unset] [(.ref (own_r o r0 r1 r2 r3 r4 r5)), (.int (own_test (own_neg o) ax bb))])) _
    refine XS.lloadN X20.here hx rfl (hb hby at_46) rfl ?_
    show Steps p.tables e below (T20.setTop (mkF m 47 #[.val (.int kx), .val (.long ax), .second, .val (.long b0), .second, .val (.ref (own_r o r0 r1 r2 r3 r4 r5)), .val (.long bb), .second, .val (.ref (own_r (own_neg o) r0 r1 r2 r3 r4 r5)), .unset] [(.long ax), (.ref (own_r o r0 r1 r2 r3 r4 r5)), (.int (own_test (own_neg o) ax bb))])) _
    refine XS.lload X20.here hx rfl (hb hby at_47) rfl ?_
    exact kk_)
  obtain ⟨cq23, kq23, q23a, q23b, q23c⟩ := isOf hZ e20 Ea
  obtain ⟨_, _, ⟨T23, L23, k23, n23⟩, -, X23, ⟨Lc23, hQ23, l23, y23, z23⟩, st23⟩ := X20.virtualBack hx (y := (⟨"com/example/uhrwerk/uhrwerk/model/Relation", "test", "(JJ)Z"⟩ : MethodName)) (z := (⟨"com/example/uhrwerk/uhrwerk/model/Relation", "test", "(JJ)Z"⟩ : MethodName)) hown (mvT hZ (hw _ (List.mem_of_getElem? (i := 24) rfl))) (mvT hZ (hw _ (List.mem_of_getElem? (i := 25) rfl))) (notFace_of_selects (args := #[]) (mvT hZ (hw _ (List.mem_of_getElem? (i := 27) rfl)))) (mvT hZ (hw _ (List.mem_of_getElem? (i := 27) rfl))) (mvT hZ (hw _ (List.mem_of_getElem? (i := 26) rfl))) (by decide) (backOf (W := 1) (rm_test l Z a0 hw [] (own_r o r0 r1 r2 r3 r4 r5) o ax bb h0 n0 Z0 ho Ea Fa) hZ (hw _ (List.mem_of_getElem? (i := 28) rfl)) (hw _ (List.mem_of_getElem? (i := 6) rfl)) (by decide) (by decide)) q23a q23c (g := (mkF m 49 #[.val (.int kx), .val (.long ax), .second, .val (.long b0), .second, .val (.ref (own_r o r0 r1 r2 r3 r4 r5)), .val (.long bb), .second, .val (.ref (own_r (own_neg o) r0 r1 r2 r3 r4 r5)), .unset] [(.long bb), (.long ax), (.ref (own_r o r0 r1 r2 r3 r4 r5)), (.int (own_test (own_neg o) ax bb))])) rfl (by rw [hml]; rfl) (Steps.refl _) (argsL := [(.long ax), (.long bb)]) (rest := [(.int (own_test (own_neg o) ax bb))]) (lenOf pd3 rfl) rfl (by show 2 * 0 + _ ≤ _; exact Nat.le_of_eq rfl) (hb hby at_49) (fun _ _ => ⟨rfl, e20, (by decide : 0 + 0 ≤ _), (by decide : 0 + 0 ≤ _)⟩)
  dsimp only [Pt.U, Pt.locs, Pt.cells, Pt.slots] at X23 l23 y23 z23 st23 hQ23
  subst l23 y23 z23
  obtain ⟨rfl, N23q, e23⟩ := hQ23
  have N23 := Fr.app N20 N23q
  have P24 := own_step (C := T23.setTop (mkF m 52 #[.val (.int kx), .val (.long ax), .second, .val (.long b0), .second, .val (.ref (own_r o r0 r1 r2 r3 r4 r5)), .val (.long bb), .second, .val (.ref (own_r (own_neg o) r0 r1 r2 r3 r4 r5)), .unset] [(.int (own_test o ax bb)), (.int (own_test (own_neg o) ax bb))])) P22 (fun t_ k_ => st23.trans k_)
  obtain ⟨vt, hv25, J25⟩ : ∃ (vt : Int32), (((own_test o ax bb) = (0 : Int32) ∧ vt = (1 : Int32)) ∨ (¬ ((own_test o ax bb) = (0 : Int32)) ∧ vt = (0 : Int32))) ∧ own_Go p e below (T23.setTop (mkF m 52 #[.val (.int kx), .val (.long ax), .second, .val (.long b0), .second, .val (.ref (own_r o r0 r1 r2 r3 r4 r5)), .val (.long bb), .second, .val (.ref (own_r (own_neg o) r0 r1 r2 r3 r4 r5)), .unset] [(.int (own_test o ax bb)), (.int (own_test (own_neg o) ax bb))])) (T23.setTop (mkF m 60 #[.val (.int kx), .val (.long ax), .second, .val (.long b0), .second, .val (.ref (own_r o r0 r1 r2 r3 r4 r5)), .val (.long bb), .second, .val (.ref (own_r (own_neg o) r0 r1 r2 r3 r4 r5)), .unset] [(.int vt), (.int (own_test (own_neg o) ax bb))])) := by
    have P26 : own_Go p e below (T23.setTop (mkF m 52 #[.val (.int kx), .val (.long ax), .second, .val (.long b0), .second, .val (.ref (own_r o r0 r1 r2 r3 r4 r5)), .val (.long bb), .second, .val (.ref (own_r (own_neg o) r0 r1 r2 r3 r4 r5)), .unset] [(.int (own_test o ax bb)), (.int (own_test (own_neg o) ax bb))])) (T23.setTop (mkF m 52 #[.val (.int kx), .val (.long ax), .second, .val (.long b0), .second, .val (.ref (own_r o r0 r1 r2 r3 r4 r5)), .val (.long bb), .second, .val (.ref (own_r (own_neg o) r0 r1 r2 r3 r4 r5)), .unset] [(.int (own_test o ax bb)), (.int (own_test (own_neg o) ax bb))])) := fun t_ k_ => k_
    by_cases c27 : (own_test o ax bb) = (0 : Int32)
    · have P28 := own_step (C := T23.setTop (mkF m 55 #[.val (.int kx), .val (.long ax), .second, .val (.long b0), .second, .val (.ref (own_r o r0 r1 r2 r3 r4 r5)), .val (.long bb), .second, .val (.ref (own_r (own_neg o) r0 r1 r2 r3 r4 r5)), .unset] [(.int (own_test (own_neg o) ax bb))])) P26 (by
        intro tt_ kk_
        refine XS.ifNo X23.here hx rfl (hb hby at_52) rfl ((if0 _ _).trans (teq c27).2) ?_
        exact kk_)
      have P29 := own_step (C := T23.setTop (mkF m 60 #[.val (.int kx), .val (.long ax), .second, .val (.long b0), .second, .val (.ref (own_r o r0 r1 r2 r3 r4 r5)), .val (.long bb), .second, .val (.ref (own_r (own_neg o) r0 r1 r2 r3 r4 r5)), .unset] [(.int (1 : Int32)), (.int (own_test (own_neg o) ax bb))])) P28 (by
        intro tt_ kk_
        refine XS.iconst X23.here hx rfl (hb hby at_55) ?_
        show Steps p.tables e below (T23.setTop (mkF m 56 #[.val (.int kx), .val (.long ax), .second, .val (.long b0), .second, .val (.ref (own_r o r0 r1 r2 r3 r4 r5)), .val (.long bb), .second, .val (.ref (own_r (own_neg o) r0 r1 r2 r3 r4 r5)), .unset] [(.int (1 : Int32)), (.int (own_test (own_neg o) ax bb))])) _
        refine XS.goto X23.here hx rfl (pc0 := 56) (pc' := 60) rfl (hb hby at_56) (by decide) (by decide) ?_
        exact kk_)
      exact ⟨(1 : Int32), Or.inl ⟨c27, rfl⟩, P29⟩
    · have P30 := own_step (C := T23.setTop (mkF m 59 #[.val (.int kx), .val (.long ax), .second, .val (.long b0), .second, .val (.ref (own_r o r0 r1 r2 r3 r4 r5)), .val (.long bb), .second, .val (.ref (own_r (own_neg o) r0 r1 r2 r3 r4 r5)), .unset] [(.int (own_test (own_neg o) ax bb))])) P26 (by
        intro tt_ kk_
        refine XS.ifYes X23.here hx rfl (pc0 := 52) (pc' := 59) rfl (hb hby at_52) rfl ((if0 _ _).trans (feq c27).2) (by decide) (by decide) ?_
        exact kk_)
      have P31 := own_step (C := T23.setTop (mkF m 60 #[.val (.int kx), .val (.long ax), .second, .val (.long b0), .second, .val (.ref (own_r o r0 r1 r2 r3 r4 r5)), .val (.long bb), .second, .val (.ref (own_r (own_neg o) r0 r1 r2 r3 r4 r5)), .unset] [(.int (0 : Int32)), (.int (own_test (own_neg o) ax bb))])) P30 (by
        intro tt_ kk_
        refine XS.iconst X23.here hx rfl (hb hby at_59) ?_
        exact kk_)
      exact ⟨(0 : Int32), Or.inr (⟨c27, rfl⟩), P31⟩
  have P32 := own_step P24 J25
  have P33 := own_step (C := T23.setTop (mkF m 63 #[.val (.int kx), .val (.long ax), .second, .val (.long b0), .second, .val (.ref (own_r o r0 r1 r2 r3 r4 r5)), .val (.long bb), .second, .val (.ref (own_r (own_neg o) r0 r1 r2 r3 r4 r5)), .unset] [])) P32 (by
    intro tt_ kk_
    refine XS.icmpNo X23.here hx rfl (hb hby at_60) rfl (teq (own_compl ho hv25)).2 ?_
    exact kk_)
  have P34 := own_step (C := T23.setTop (mkF m 72 #[.val (.int kx), .val (.long ax), .second, .val (.long b0), .second, .val (.ref (own_r o r0 r1 r2 r3 r4 r5)), .val (.long bb), .second, .val (.ref (own_r (own_neg o) r0 r1 r2 r3 r4 r5)), .val (.int (1 : Int32))] [(.int (1 : Int32))])) P33 (by
    intro tt_ kk_
    refine XS.iconst X23.here hx rfl (hb hby at_63) ?_
    show Steps p.tables e below (T23.setTop (mkF m 64 #[.val (.int kx), .val (.long ax), .second, .val (.long b0), .second, .val (.ref (own_r o r0 r1 r2 r3 r4 r5)), .val (.long bb), .second, .val (.ref (own_r (own_neg o) r0 r1 r2 r3 r4 r5)), .unset] [(.int (1 : Int32))])) _
    refine XS.goto X23.here hx rfl (pc0 := 64) (pc' := 68) rfl (hb hby at_64) (by decide) (by decide) ?_
    show Steps p.tables e below (T23.setTop (mkF m 68 #[.val (.int kx), .val (.long ax), .second, .val (.long b0), .second, .val (.ref (own_r o r0 r1 r2 r3 r4 r5)), .val (.long bb), .second, .val (.ref (own_r (own_neg o) r0 r1 r2 r3 r4 r5)), .unset] [(.int (1 : Int32))])) _
    refine XS.istore X23.here hx rfl (hb hby at_68) rfl (l' := #[.val (.int kx), .val (.long ax), .second, .val (.long b0), .second, .val (.ref (own_r o r0 r1 r2 r3 r4 r5)), .val (.long bb), .second, .val (.ref (own_r (own_neg o) r0 r1 r2 r3 r4 r5)), .val (.int (1 : Int32))]) rfl ?_
    show Steps p.tables e below (T23.setTop (mkF m 70 #[.val (.int kx), .val (.long ax), .second, .val (.long b0), .second, .val (.ref (own_r o r0 r1 r2 r3 r4 r5)), .val (.long bb), .second, .val (.ref (own_r (own_neg o) r0 r1 r2 r3 r4 r5)), .val (.int (1 : Int32))] [])) _
    refine XS.iload X23.here hx rfl (hb hby at_70) rfl ?_
    exact kk_)
  have P35 := own_step (C := T23.setTop (mkF m 75 #[.val (.int kx), .val (.long ax), .second, .val (.long b0), .second, .val (.ref (own_r o r0 r1 r2 r3 r4 r5)), .val (.long bb), .second, .val (.ref (own_r (own_neg o) r0 r1 r2 r3 r4 r5)), .val (.int (1 : Int32))] [])) P34 (by
    intro tt_ kk_
    refine XS.ifNo X23.here hx rfl (hb hby at_72) rfl ((if0 _ _).trans (feq (by decide : ¬ ((1 : Int32) = (0 : Int32)))).1) ?_
    exact kk_)
  have P36 := own_step (C := T23.setTop (mkF m 77 #[.val (.int kx), .val (.long ax), .second, .val (.long b0), .second, .val (.ref (own_r o r0 r1 r2 r3 r4 r5)), .val (.long bb), .second, .val (.ref (own_r (own_neg o) r0 r1 r2 r3 r4 r5)), .val (.int (1 : Int32))] [(.ref (own_r (own_neg o) r0 r1 r2 r3 r4 r5))])) P35 (by
    intro tt_ kk_
    refine XS.aload X23.here hx rfl (hb hby at_75) rfl rfl ?_
    exact kk_)
  obtain ⟨cq37, kq37, q37a, q37b, q37c⟩ := isOf hZ e23 En
  obtain ⟨_, _, ⟨T37, L37, k37, n37⟩, -, X37, ⟨Lc37, hQ37, l37, y37, z37⟩, st37⟩ := X23.virtualBack hx (y := (⟨"com/example/uhrwerk/uhrwerk/model/Relation", "negated", "()Lcom/example/uhrwerk/uhrwerk/model/Relation;"⟩ : MethodName)) (z := (⟨"com/example/uhrwerk/uhrwerk/model/Relation", "negated", "()Lcom/example/uhrwerk/uhrwerk/model/Relation;"⟩ : MethodName)) hown (mvT hZ (hw _ (List.mem_of_getElem? (i := 8) rfl))) (mvT hZ (hw _ (List.mem_of_getElem? (i := 9) rfl))) (notFace_of_selects (args := #[]) (mvT hZ (hw _ (List.mem_of_getElem? (i := 11) rfl)))) (mvT hZ (hw _ (List.mem_of_getElem? (i := 11) rfl))) (mvT hZ (hw _ (List.mem_of_getElem? (i := 10) rfl))) (by decide) (backOf (W := 0) (rm_neg l Z a0 hw [] (own_r (own_neg o) r0 r1 r2 r3 r4 r5) (own_neg o) r0 r1 r2 r3 r4 r5 h0 n0 Z0 hn En Fn RS0 RS1 RS2 RS3 RS4 RS5) hZ (hw _ (List.mem_of_getElem? (i := 12) rfl)) (hw _ (List.mem_of_getElem? (i := 6) rfl)) (by decide) (by decide)) q37a q37c (g := (mkF m 77 #[.val (.int kx), .val (.long ax), .second, .val (.long b0), .second, .val (.ref (own_r o r0 r1 r2 r3 r4 r5)), .val (.long bb), .second, .val (.ref (own_r (own_neg o) r0 r1 r2 r3 r4 r5)), .val (.int (1 : Int32))] [(.ref (own_r (own_neg o) r0 r1 r2 r3 r4 r5))])) rfl (by rw [hml]; rfl) (Steps.refl _) (argsL := []) (rest := []) (lenOf pd2 rfl) rfl (by show 2 * 0 + _ ≤ _; exact Nat.le_of_eq rfl) (hb hby at_77) (fun _ _ => ⟨rfl, e23, (by decide : 0 + 0 ≤ _), (by decide : 0 + 0 ≤ _)⟩)
  dsimp only [Pt.U, Pt.locs, Pt.cells, Pt.slots] at X37 l37 y37 z37 st37 hQ37
  subst l37 y37 z37
  obtain ⟨rfl, N37q, e37⟩ := hQ37
  have N37 := Fr.app N23 N37q
  have P38 := own_step (C := T37.setTop (mkF m 80 #[.val (.int kx), .val (.long ax), .second, .val (.long b0), .second, .val (.ref (own_r o r0 r1 r2 r3 r4 r5)), .val (.long bb), .second, .val (.ref (own_r (own_neg o) r0 r1 r2 r3 r4 r5)), .val (.int (1 : Int32))] [(.ref (own_r (own_neg (own_neg o)) r0 r1 r2 r3 r4 r5))])) P36 (fun t_ k_ => st37.trans k_)
  have P39 := own_step (C := T37.setTop (mkF m 82 #[.val (.int kx), .val (.long ax), .second, .val (.long b0), .second, .val (.ref (own_r o r0 r1 r2 r3 r4 r5)), .val (.long bb), .second, .val (.ref (own_r (own_neg o) r0 r1 r2 r3 r4 r5)), .val (.int (1 : Int32))] [(.ref (own_r o r0 r1 r2 r3 r4 r5)), (.ref (own_r (own_neg (own_neg o)) r0 r1 r2 r3 r4 r5))])) P38 (by
    intro tt_ kk_
    refine XS.aload X37.here hx rfl (hb hby at_80) rfl rfl ?_
    exact kk_)
  have P40 := own_step (C := T37.setTop (mkF m 85 #[.val (.int kx), .val (.long ax), .second, .val (.long b0), .second, .val (.ref (own_r o r0 r1 r2 r3 r4 r5)), .val (.long bb), .second, .val (.ref (own_r (own_neg o) r0 r1 r2 r3 r4 r5)), .val (.int (1 : Int32))] [])) P39 (by
    intro tt_ kk_
    refine Jvm.RoadKit.acmp (g := (mkF m 82 #[.val (.int kx), .val (.long ax), .second, .val (.long b0), .second, .val (.ref (own_r o r0 r1 r2 r3 r4 r5)), .val (.long bb), .second, .val (.ref (own_r (own_neg o) r0 r1 r2 r3 r4 r5)), .val (.int (1 : Int32))] [(.ref (own_r o r0 r1 r2 r3 r4 r5)), (.ref (own_r (own_neg (own_neg o)) r0 r1 r2 r3 r4 r5))])) X37 hx rfl rfl rfl (pc0 := 82) (pc' := 85) (same := true) rfl (hb hby at_82) rfl (decide_eq_true (congrArg Value.ref (own_back ho))) (by decide) (by decide) ?_
    exact kk_)
  have P41 := own_step (C := T37.setTop (mkF m 90 #[.val (.int kx), .val (.long ax), .second, .val (.long b0), .second, .val (.ref (own_r o r0 r1 r2 r3 r4 r5)), .val (.long bb), .second, .val (.ref (own_r (own_neg o) r0 r1 r2 r3 r4 r5)), .val (.int (1 : Int32))] [(.int (1 : Int32))])) P40 (by
    intro tt_ kk_
    refine XS.iconst X37.here hx rfl (hb hby at_85) ?_
    show Steps p.tables e below (T37.setTop (mkF m 86 #[.val (.int kx), .val (.long ax), .second, .val (.long b0), .second, .val (.ref (own_r o r0 r1 r2 r3 r4 r5)), .val (.long bb), .second, .val (.ref (own_r (own_neg o) r0 r1 r2 r3 r4 r5)), .val (.int (1 : Int32))] [(.int (1 : Int32))])) _
    refine XS.goto X37.here hx rfl (pc0 := 86) (pc' := 90) rfl (hb hby at_86) (by decide) (by decide) ?_
    exact kk_)
  obtain ⟨fs, hr, hrun, hended, hW, hsame⟩ := X37.leave (v := some (.int (1 : Int32))) (fun h => by rw [Bd.returns] at h; cases h)
  refine ⟨_, _, P41 _ ?_, hrun, hended, _, _, rfl, ?_, ⟨_, rfl⟩, hW, hsame.mono (by decide) (by decide)⟩
  · exact retN X37 hx (t := .boolean) Bd.returns (by simp) (hb hby at_90) hr
  · show Q0 Z _ _ _ _ _ _ _ _ _ h0 n0 _ T37.heap _
    rw [e37]
    exact ⟨rfl, N37⟩
set_option maxRecDepth 65536 in
set_option maxHeartbeats 40000000 in
theorem comes_1 {Post : Tables → Env → Array Value → State → Outcome → State → Prop} (hpost : ∀ tb e args s v u, (limb_1_1.after args s (.returned v) u = true ∧ limb_1_2.after args s (.returned v) u = true ∧ True) → FrameEnd s (.returned v) u (Jvm.fieldLocs frame_1_writes args s ++ Jvm.arrayLocs frame_1_arrays args s ++ Jvm.staticLocs frame_1_statics s) 0 0 → Post tb e args s (.returned v) u) :
    ArmFor flags0 classFile x code maxLocals ret World_1 tables_1 room_1 Calls_1 rest_1 Pre_1 Post := by
  intro l hfl _ _ p e ha hc hk s m args below hf hA hF happ hP
  obtain ⟨hcalls, hrest, hpre⟩ := hP
  obtain ⟨-, -, -, hnamed, -, -, -, hat⟩ := (Spec.applies_iff hf).mp happ
  obtain ⟨hg, hn⟩ := and_e (Cond.before_iff.mp (show (Jvm.Cond.and given_1 narrow_1).before args s = true from hpre))
  obtain ⟨hgc, hg0⟩ := and_e hg
  obtain ⟨ha0, hg1⟩ := and_e hg0
  obtain ⟨ha1, hg2⟩ := and_e hg1
  have ha2 := hg2
  obtain ⟨w0, w1, w2, rfl⟩ : ∃ w0 w1 w2 : Value, args = #[w0, w1, w2] := by
    have hs : args.size = 3 := by simpa [Cond.value, given_1] using hgc
    obtain ⟨L⟩ := args
    match L, hs with
    | [w0, w1, w2], _ => exact ⟨w0, w1, w2, rfl⟩
  have hw := fun d (hd : d ∈ tables_1) => atoms_spec (ws := Jvm.Cond.code x code maxLocals ret :: tables_1) hat d (List.mem_cons_of_mem _ hd)
  have hfit : Fit s := fun {y c} hc i hi => by
    obtain ⟨ha, rfl⟩ := Array.getElem?_eq_some_iff.mp hc
    have q := List.all_eq_true.mp ((Array.all_eq_true_iff_forall_mem.mp hF) _ (Array.getElem_mem ha)) i (List.mem_range.mpr hi)
    simpa [Array.getElem?_eq_getElem hi] using q
  obtain ⟨i0, ei0⟩ := is_v ha0
  obtain rfl : w0 = (.int i0) := Option.some.inj ei0
  obtain ⟨i1, ei1⟩ := isL_v ha1
  obtain rfl : w1 = (.long i1) := Option.some.inj ei1
  obtain ⟨i2, ei2⟩ := isL_v ha2
  obtain rfl : w2 = (.long i2) := Option.some.inj ei2
  obtain ⟨hn_E0, hn0⟩ := and_e hn
  obtain ⟨hn_F0, hn1⟩ := and_e hn0
  obtain ⟨hn_E4, hn2⟩ := and_e hn1
  obtain ⟨hn_F4, hn3⟩ := and_e hn2
  obtain ⟨hn_E3, hn4⟩ := and_e hn3
  obtain ⟨hn_F3, hn5⟩ := and_e hn4
  obtain ⟨hn_E2, hn6⟩ := and_e hn5
  obtain ⟨hn_F2, hn7⟩ := and_e hn6
  obtain ⟨hn_E1, hn8⟩ := and_e hn7
  obtain ⟨hn_F1, hn9⟩ := and_e hn8
  obtain ⟨hn_E5, hn10⟩ := and_e hn9
  have hn_F5 := hn10
  obtain ⟨r0, ev0⟩ := exa_v hn_E0
  have RE0 := Exa.start ev0 hn_E0
  have RF0 := Fld.start ((fld_at ev0).symm.trans (Jvm.RoadKit.eqv_i rfl hn_F0))
  obtain ⟨r1, ev1⟩ := exa_v hn_E1
  have RE1 := Exa.start ev1 hn_E1
  have RF1 := Fld.start ((fld_at ev1).symm.trans (Jvm.RoadKit.eqv_i rfl hn_F1))
  obtain ⟨r2, ev2⟩ := exa_v hn_E2
  have RE2 := Exa.start ev2 hn_E2
  have RF2 := Fld.start ((fld_at ev2).symm.trans (Jvm.RoadKit.eqv_i rfl hn_F2))
  obtain ⟨r3, ev3⟩ := exa_v hn_E3
  have RE3 := Exa.start ev3 hn_E3
  have RF3 := Fld.start ((fld_at ev3).symm.trans (Jvm.RoadKit.eqv_i rfl hn_F3))
  obtain ⟨r4, ev4⟩ := exa_v hn_E4
  have RE4 := Exa.start ev4 hn_E4
  have RF4 := Fld.start ((fld_at ev4).symm.trans (Jvm.RoadKit.eqv_i rfl hn_F4))
  obtain ⟨r5, ev5⟩ := exa_v hn_E5
  have RE5 := Exa.start ev5 hn_E5
  have RF5 := Fld.start ((fld_at ev5).symm.trans (Jvm.RoadKit.eqv_i rfl hn_F5))
  have RS0 := Sta.start ev0 (Or.inr ⟨(hw _ (List.mem_of_getElem? (i := 6) rfl)), (hw _ (List.mem_of_getElem? (i := 7) rfl))⟩)
  have RS1 := Sta.start ev1 (Or.inr ⟨(hw _ (List.mem_of_getElem? (i := 6) rfl)), (hw _ (List.mem_of_getElem? (i := 38) rfl))⟩)
  have RS2 := Sta.start ev2 (Or.inr ⟨(hw _ (List.mem_of_getElem? (i := 6) rfl)), (hw _ (List.mem_of_getElem? (i := 34) rfl))⟩)
  have RS3 := Sta.start ev3 (Or.inr ⟨(hw _ (List.mem_of_getElem? (i := 6) rfl)), (hw _ (List.mem_of_getElem? (i := 32) rfl))⟩)
  have RS4 := Sta.start ev4 (Or.inr ⟨(hw _ (List.mem_of_getElem? (i := 6) rfl)), (hw _ (List.mem_of_getElem? (i := 23) rfl))⟩)
  have RS5 := Sta.start ev5 (Or.inr ⟨(hw _ (List.mem_of_getElem? (i := 6) rfl)), (hw _ (List.mem_of_getElem? (i := 40) rfl))⟩)
  obtain ⟨n, o, h1, h2, h3, _, L, rfl, ⟨rfl, N⟩, hq⟩ := rm0 l s _ hw tables_1 i0 i1 i2 r0 r1 r2 r3 r4 r5 s.heap s.heap.size (Nat.le_refl _) RS0 RS1 RS2 RS3 RS4 RS5 RE0 RE1 RE2 RE3 RE4 RE5 RF0 RF1 RF2 RF3 RF4 RF5 p e ha hc hk s m _ below hf ((Spec.applies_iff_loose hf).mp happ).1 ⟨rfl, State.Warmed39.refl s, rfl⟩ trivial
  exact ⟨n, _, h1, h2, h3, hpost _ _ _ _ _ _ ⟨Cond.after_iff.mpr rfl, Cond.after_iff.mpr (eq_i res_at (Term.int_eval (1)) rfl), trivial⟩ ⟨hq.1, hq.2.1, (hq.2.2.sift fun y hy => Or.inr (N y hy)).mono (by decide) (by decide)⟩⟩
theorem main_1_1 : Claimed_1_1 := comes_1 fun _ _ _ _ _ _ h hF => ⟨h.1, hF⟩
theorem main_1_2 : Claimed_1_2 := comes_1 fun _ _ _ _ _ _ h hF => ⟨h.2.1, hF⟩
end Jvm.Pilot.@@N@@
namespace Jvm.Pilot.@@N@@
open Jvm Jvm.ClassFile Sem Op Lib Jvm.Free Jvm.Stand Jvm.Pilot.@@N@@.Jvm.D
/-! MADE BY PROGRAM (witnessworld.py) out of the Statement's table words and the real class files: 12 classes; the members and pool entries that the words name. The judged class is class 1, her method 2. -/
namespace start1
open Jvm.ClassFile
def u (s : String) : CpInfo := .utf8 (stringToUtf16 s)
/-- a pool by its gaps: so many unusable entries, then the entry; so many at the end -/
def gap : Nat → List CpInfo → List CpInfo
  | 0, r => r
  | n + 1, r => .unusable :: gap n r
def poolList (es : List (Nat × CpInfo)) (last : Nat) : List CpInfo := es.foldr (fun e r => gap e.1 (e.2 :: r)) (gap last [])
def pool (es : List (Nat × CpInfo)) (last : Nat) : Array CpInfo := ⟨poolList es last⟩
def fileOf (pool : Array CpInfo) (this : Nat) (attrs : Array Attribute := #[]) (ms : Array MethodInfo := #[]) (fl : Nat := 33) (sup : Nat := 0) (ifs : Array Nat := #[]) (fds : Array FieldInfo := #[]) : ClassFile where
  minorVersion := 0
  majorVersion := 65
  constantPool := pool
  accessFlags := fl
  thisClass := this
  superClass := sup
  interfaces := ifs
  fields := fds
  methods := ms
  attributes := attrs
def plain (name : String) (sup : Option ClassId) : Class where
  name := name
  kind := .ordinary
  loader := none
  accessFlags := 33
  super := sup
  interfaces := #[]
  cf := none
  fields := #[]
  methods := #[]
  instanceTypes := #[]
  staticTypes := #[]
  resolved := #[]
  callSites := []
  init := .initialized
  statics := none
  mirror := none

def pool0 : Array CpInfo := pool [(5, u "<init>"), (0, u "()V"), (1, .class_ 10), (1, u "java/lang/Object")] 113

def k0m0 : Method := { name := "<init>", desc := "()V", sig := { parameters := [], returnType := none }, accessFlags := 1, code := none }
/-- java/lang/Object -/
def k0 : Class := { plain "java/lang/Object" none with
  accessFlags := 33
  interfaces := #[]
  cf := some (fileOf pool0 8 #[] #[{ accessFlags := 1, nameIndex := 5, descriptorIndex := 6, attributes := #[] }] 33 0 #[] #[])
  fields := #[]
  methods := #[k0m0]
  instanceTypes := #[]
  staticTypes := #[]
  resolved := Array.replicate 124 none
  statics := none }

def pool1 : Array CpInfo := pool [(2, .class_ 4), (1, u "java/lang/Object"), (0, u "<init>"), (0, u "()V"), (0, .integer 2147483647), (0, .fieldref 9 10), (0, .class_ 11), (0, .nameAndType 12 13), (0, u "com/example/uhrwerk/uhrwerk/model/Relation"), (0, u "LESS"), (0, u "Lcom/example/uhrwerk/uhrwerk/model/Relation;"), (0, .fieldref 9 15), (0, .nameAndType 16 13), (0, u "LESS_OR_EQUAL"), (0, .fieldref 9 18), (0, .nameAndType 19 13), (0, u "EQUAL"), (0, .fieldref 9 21), (0, .nameAndType 22 13), (0, u "NOT_EQUAL"), (0, .fieldref 9 24), (0, .nameAndType 25 13), (0, u "GREATER_OR_EQUAL"), (0, .fieldref 9 27), (0, .nameAndType 28 13), (0, u "GREATER"), (0, .methodref 30 31), (0, .class_ 32), (0, .nameAndType 33 34), (0, u "com/example/uhrwerk/uhrwerk/model/RelationNegatedPinLaw"), (0, u "pick"), (0, u "(I)Lcom/example/uhrwerk/uhrwerk/model/Relation;"), (0, .methodref 9 36), (0, .nameAndType 37 38), (0, u "negated"), (0, u "()Lcom/example/uhrwerk/uhrwerk/model/Relation;"), (0, .methodref 9 40), (0, .nameAndType 41 42), (0, u "test"), (0, u "(JJ)Z"), (3, u "law"), (0, u "(IJJ)Z")] 2

def k1m0 : Method := { name := "<init>", desc := "()V", sig := { parameters := [], returnType := none }, accessFlags := 1, code := none }
def k1c1 : Code := { maxStack := 2, maxLocals := 2, code := method_2_code, exceptionTable := #[], attributes := #[] }
def k1m1 : Method := { name := "pick", desc := "(I)Lcom/example/uhrwerk/uhrwerk/model/Relation;", sig := { parameters := [.int], returnType := some (.object "com/example/uhrwerk/uhrwerk/model/Relation") }, accessFlags := 10, code := some k1c1 }
def k1c2 : Code := { maxStack := 6, maxLocals := 10, code := code, exceptionTable := #[], attributes := #[] }
def k1m2 : Method := { name := "law", desc := "(IJJ)Z", sig := { parameters := [.int, .long, .long], returnType := some .boolean }, accessFlags := 9, code := some k1c2 }
/-- com/example/uhrwerk/uhrwerk/model/RelationNegatedPinLaw -/
def k1 : Class := { plain "com/example/uhrwerk/uhrwerk/model/RelationNegatedPinLaw" (some 0) with
  accessFlags := 49
  interfaces := #[]
  cf := some (fileOf pool1 30 #[] #[{ accessFlags := 1, nameIndex := 5, descriptorIndex := 6, attributes := #[] }, { accessFlags := 10, nameIndex := 33, descriptorIndex := 34, attributes := #[] }, { accessFlags := 9, nameIndex := 46, descriptorIndex := 47, attributes := #[] }] 49 2 #[] #[])
  fields := #[]
  methods := #[k1m0, k1m1, k1m2]
  instanceTypes := #[]
  staticTypes := #[]
  resolved := Array.replicate 50 none
  statics := none }

def pool2 : Array CpInfo := pool [(1, .class_ 2), (0, u "java/lang/constant/Constable"), (0, .class_ 4), (0, u "java/lang/Object")] 6

/-- java/lang/constant/Constable -/
def k2 : Class := { plain "java/lang/constant/Constable" (some 0) with
  accessFlags := 1537
  interfaces := #[]
  cf := some (fileOf pool2 1 #[] #[] 1537 3 #[] #[])
  fields := #[]
  methods := #[]
  instanceTypes := #[]
  staticTypes := #[]
  resolved := Array.replicate 11 none
  statics := none }

def pool3 : Array CpInfo := pool [(1, .class_ 2), (0, u "java/lang/Comparable"), (0, .class_ 4), (0, u "java/lang/Object")] 7

/-- java/lang/Comparable -/
def k3 : Class := { plain "java/lang/Comparable" (some 0) with
  accessFlags := 1537
  interfaces := #[]
  cf := some (fileOf pool3 1 #[] #[] 1537 3 #[] #[])
  fields := #[]
  methods := #[]
  instanceTypes := #[]
  staticTypes := #[]
  resolved := Array.replicate 12 none
  statics := none }

def pool4 : Array CpInfo := pool [(1, .class_ 2), (0, u "java/io/Serializable"), (0, .class_ 4), (0, u "java/lang/Object")] 2

/-- java/io/Serializable -/
def k4 : Class := { plain "java/io/Serializable" (some 0) with
  accessFlags := 1537
  interfaces := #[]
  cf := some (fileOf pool4 1 #[] #[] 1537 3 #[] #[])
  fields := #[]
  methods := #[]
  instanceTypes := #[]
  staticTypes := #[]
  resolved := Array.replicate 7 none
  statics := none }

def pool5 : Array CpInfo := pool [(2, .class_ 4), (1, u "java/lang/Enum"), (0, u "name"), (0, u "Ljava/lang/String;"), (0, .fieldref 2 8), (0, .nameAndType 9 10), (0, u "ordinal"), (0, u "I"), (1, .class_ 14), (1, u "java/lang/Object"), (4, u "hash"), (86, .class_ 108), (1, u "java/lang/Enum$EnumDesc"), (2, .class_ 112), (0, u "java/lang/constant/Constable"), (0, .class_ 114), (0, u "java/lang/Comparable"), (0, .class_ 116), (0, u "java/io/Serializable"), (9, u "()I")] 77

def k5c0 : Code := { maxStack := 1, maxLocals := 1, code := jdk_37_method_2_code, exceptionTable := #[], attributes := #[] }
def k5m0 : Method := { name := "ordinal", desc := "()I", sig := { parameters := [], returnType := some .int }, accessFlags := 17, code := some k5c0 }
/-- java/lang/Enum -/
def k5 : Class := { plain "java/lang/Enum" (some 0) with
  accessFlags := 1057
  interfaces := #[2, 3, 4]
  cf := some (fileOf pool5 2 #[.nestMembers #[106]] #[{ accessFlags := 17, nameIndex := 9, descriptorIndex := 126, attributes := #[] }] 1057 12 #[111, 113, 115] #[{ accessFlags := 18, nameIndex := 5, descriptorIndex := 6, attributes := #[] }, { accessFlags := 18, nameIndex := 9, descriptorIndex := 10, attributes := #[] }, { accessFlags := 2, nameIndex := 19, descriptorIndex := 10, attributes := #[] }])
  fields := #[{ name := "name", type := (.object "java/lang/String"), accessFlags := 18, slot := 0, constantValue := 0 }, { name := "ordinal", type := .int, accessFlags := 18, slot := 1, constantValue := 0 }, { name := "hash", type := .int, accessFlags := 2, slot := 2, constantValue := 0 }]
  methods := #[k5m0]
  instanceTypes := #[(.object "java/lang/String"), .int, .int]
  staticTypes := #[]
  resolved := Array.replicate 204 none
  statics := none }

def pool6 : Array CpInfo := pool [(1, .class_ 2), (0, u "com/example/uhrwerk/uhrwerk/model/Relation"), (0, .fieldref 1 4), (0, .nameAndType 5 6), (0, u "LESS"), (0, u "Lcom/example/uhrwerk/uhrwerk/model/Relation;"), (0, .fieldref 1 8), (0, .nameAndType 9 6), (0, u "LESS_OR_EQUAL"), (0, .fieldref 1 11), (0, .nameAndType 12 6), (0, u "EQUAL"), (0, .fieldref 1 14), (0, .nameAndType 15 6), (0, u "NOT_EQUAL"), (0, .fieldref 1 17), (0, .nameAndType 18 6), (0, u "GREATER_OR_EQUAL"), (0, .fieldref 1 20), (0, .nameAndType 21 6), (0, u "GREATER"), (2, u "$VALUES"), (0, u "[Lcom/example/uhrwerk/uhrwerk/model/Relation;"), (6, .class_ 34), (1, u "java/lang/Enum"), (8, u "symbol"), (0, u "Ljava/lang/String;"), (10, .methodref 1 56), (0, .nameAndType 57 58), (0, u "ordinal"), (0, u "()I"), (38, u "test"), (0, u "(JJ)Z"), (0, u "negated"), (0, u "()Lcom/example/uhrwerk/uhrwerk/model/Relation;")] 6

def k6c0 : Code := { maxStack := 4, maxLocals := 5, code := prog_84_method_6_code, exceptionTable := #[], attributes := #[] }
def k6m0 : Method := { name := "test", desc := "(JJ)Z", sig := { parameters := [.long, .long], returnType := some .boolean }, accessFlags := 1, code := some k6c0 }
def k6c1 : Code := { maxStack := 4, maxLocals := 1, code := prog_84_method_7_code, exceptionTable := #[], attributes := #[] }
def k6m1 : Method := { name := "negated", desc := "()Lcom/example/uhrwerk/uhrwerk/model/Relation;", sig := { parameters := [], returnType := some (.object "com/example/uhrwerk/uhrwerk/model/Relation") }, accessFlags := 1, code := some k6c1 }
/-- com/example/uhrwerk/uhrwerk/model/Relation -/
def k6 : Class := { plain "com/example/uhrwerk/uhrwerk/model/Relation" (some 5) with
  accessFlags := 16433
  interfaces := #[]
  cf := some (fileOf pool6 1 #[] #[{ accessFlags := 1, nameIndex := 97, descriptorIndex := 98, attributes := #[] }, { accessFlags := 1, nameIndex := 99, descriptorIndex := 100, attributes := #[] }] 16433 32 #[] #[{ accessFlags := 16409, nameIndex := 5, descriptorIndex := 6, attributes := #[] }, { accessFlags := 16409, nameIndex := 9, descriptorIndex := 6, attributes := #[] }, { accessFlags := 16409, nameIndex := 12, descriptorIndex := 6, attributes := #[] }, { accessFlags := 16409, nameIndex := 15, descriptorIndex := 6, attributes := #[] }, { accessFlags := 16409, nameIndex := 18, descriptorIndex := 6, attributes := #[] }, { accessFlags := 16409, nameIndex := 21, descriptorIndex := 6, attributes := #[] }, { accessFlags := 18, nameIndex := 43, descriptorIndex := 44, attributes := #[] }, { accessFlags := 4122, nameIndex := 24, descriptorIndex := 25, attributes := #[] }])
  fields := #[{ name := "LESS", type := (.object "com/example/uhrwerk/uhrwerk/model/Relation"), accessFlags := 16409, slot := 0, constantValue := 0 }, { name := "LESS_OR_EQUAL", type := (.object "com/example/uhrwerk/uhrwerk/model/Relation"), accessFlags := 16409, slot := 1, constantValue := 0 }, { name := "EQUAL", type := (.object "com/example/uhrwerk/uhrwerk/model/Relation"), accessFlags := 16409, slot := 2, constantValue := 0 }, { name := "NOT_EQUAL", type := (.object "com/example/uhrwerk/uhrwerk/model/Relation"), accessFlags := 16409, slot := 3, constantValue := 0 }, { name := "GREATER_OR_EQUAL", type := (.object "com/example/uhrwerk/uhrwerk/model/Relation"), accessFlags := 16409, slot := 4, constantValue := 0 }, { name := "GREATER", type := (.object "com/example/uhrwerk/uhrwerk/model/Relation"), accessFlags := 16409, slot := 5, constantValue := 0 }, { name := "symbol", type := (.object "java/lang/String"), accessFlags := 18, slot := 3, constantValue := 0 }, { name := "$VALUES", type := (.array (.object "com/example/uhrwerk/uhrwerk/model/Relation")), accessFlags := 4122, slot := 6, constantValue := 0 }]
  methods := #[k6m0, k6m1]
  instanceTypes := #[(.object "java/lang/String"), .int, .int, (.object "java/lang/String")]
  staticTypes := #[(.object "com/example/uhrwerk/uhrwerk/model/Relation"), (.object "com/example/uhrwerk/uhrwerk/model/Relation"), (.object "com/example/uhrwerk/uhrwerk/model/Relation"), (.object "com/example/uhrwerk/uhrwerk/model/Relation"), (.object "com/example/uhrwerk/uhrwerk/model/Relation"), (.object "com/example/uhrwerk/uhrwerk/model/Relation"), (.array (.object "com/example/uhrwerk/uhrwerk/model/Relation"))]
  resolved := Array.replicate 107 none
  statics := some 0 }

def pool7 : Array CpInfo := pool [(1, u "java/lang/Cloneable"), (0, .class_ 1), (0, u "java/lang/Object"), (0, .class_ 3)] 3

/-- java/lang/Cloneable -/
def k7 : Class := { plain "java/lang/Cloneable" (some 0) with
  accessFlags := 1537
  interfaces := #[]
  cf := some (fileOf pool7 2 #[] #[] 1537 4 #[] #[])
  fields := #[]
  methods := #[]
  instanceTypes := #[]
  staticTypes := #[]
  resolved := Array.replicate 8 none
  statics := none }

/-- the primitive byte -/
def k8 : Class := { plain "byte" none with kind := .primitive 'B', accessFlags := 0x411 }
/-- [B -/
def k9 : Class := { plain "[B" (some 0) with kind := .array 8 .byte, interfaces := #[7, 4], accessFlags := 1041 }

/-- the primitive int -/
def k10 : Class := { plain "int" none with kind := .primitive 'I', accessFlags := 0x411 }
/-- [I -/
def k11 : Class := { plain "[I" (some 0) with kind := .array 10 .int, interfaces := #[7, 4], accessFlags := 1041 }

def heap : Heap := #[{ cls := 6, slots := #[.ref 1, .ref 2, .ref 3, .ref 4, .ref 5, .ref 6, .null], vm := .statics 6 },
  { cls := 6, slots := #[.null, .int 0, .int 0, .null], vm := .none },
  { cls := 6, slots := #[.null, .int 1, .int 0, .null], vm := .none },
  { cls := 6, slots := #[.null, .int 2, .int 0, .null], vm := .none },
  { cls := 6, slots := #[.null, .int 3, .int 0, .null], vm := .none },
  { cls := 6, slots := #[.null, .int 4, .int 0, .null], vm := .none },
  { cls := 6, slots := #[.null, .int 5, .int 0, .null], vm := .none }]
def classes : Array Class := #[k0, k1, k2, k3, k4, k5, k6, k7, k8, k9, k10, k11]
def interned : List (Array UInt16 × Addr) := []
def slotsUsed : Nat := 31
def theMethod : MethodId := ⟨1, 2⟩
def args0 : Array Value := #[.int 1, .long 5, .long 7]
def aboutOver (below : List Frame) : State where
  vm := { classes := classes, interned := interned.toArray }
  heap := heap
  slotsUsed := slotsUsed
  threads := #[{ frames := .invoking theMethod args0 :: below }]
def below0 : List Frame := [.native { method := ⟨0, 0⟩, args := #[] }]
def about1 : State := aboutOver below0
def p0 : Program := .bare "" "" ""
def e0 : Env := launch0.env 0 0 0
theorem w_frames : about1.frames = Frame.invoking theMethod args0 :: below0 := rfl
set_option maxRecDepth 65536 in
theorem w_args : argsFit about1.vm theMethod args0 = true := by decide +kernel
set_option maxRecDepth 65536 in
theorem w_heap : heapFits about1 = true := by decide +kernel
set_option maxRecDepth 65536 in
theorem w_runnable : about1.curStatus? = some .runnable := by decide +kernel
set_option maxRecDepth 65536 in
theorem w_alone : about1.alone = true := by decide +kernel
set_option maxRecDepth 65536 in
theorem w_named : about1.methodNamed? x = some theMethod := by decide +kernel
set_option maxRecDepth 65536 in
theorem w_hears : about1.hears theMethod below0 = true := by decide +kernel
set_option maxRecDepth 65536 in
theorem w_ripe : about1.ripe theMethod args0 below0 = true := by decide +kernel
theorem w_running : about1.status = .running := rfl
set_option maxRecDepth 65536 in
theorem w_room : about1.hasRoom e0.platform room_1 = true :=
  launch0.hasRoom_least _ room_1 (by decide +kernel) (by decide +kernel) (by decide +kernel) (by decide +kernel) (by decide +kernel) (by decide +kernel)
theorem allAtoms_all (ts : List Jvm.Cond) (a : Array Jvm.Value) (st : Jvm.State) : (allAtoms ts).before a st = ts.all (fun c => c.before a st) := by
  induction ts with
  | nil => rfl
  | cons c t ih =>
    show (Jvm.Cond.and c (allAtoms t)).before a st = _
    rw [Jvm.Cond.before_and, ih, List.all_cons]
def words1 : List Jvm.Cond := Jvm.Cond.code x code maxLocals ret :: tables_1
/-- a 'code' word, met by the world's own term for the bytes: nothing is compared byte by byte -/
theorem code_word {y : MethodName} {bytes : ByteArray} {mx : Nat} {rt : Option FieldType} {a : Array Value} {s : State} {m : MethodId} {meth : Method} {c : Code} (h1 : s.methodNamed? y = some m) (h2 : s.vm.method? m = some meth) (h3 : meth.code = some c) (h4 : c.code = bytes)
    (h5 : (c.maxLocals == mx && c.exceptionTable.isEmpty && decide (c.maxStack ≤ mostOperands) && decide (meth.sig.returnType = rt) && !meth.locks && decide (parseMethodDescriptor y.desc = some meth.sig)) = true) : (Jvm.Cond.code y bytes mx rt).before a s = true := by
  simp only [Bool.and_eq_true, beq_iff_eq, Bool.not_eq_true', decide_eq_true_eq] at h5
  obtain ⟨⟨⟨⟨⟨g1, g2⟩, g3⟩, g4⟩, g5⟩, g6⟩ := h5
  simp [Cond.before, Cond.holds, Cond.value, h1, h2, h3, h4, g1, g2, g3, g4, g5, g6]
def isCode : Jvm.Cond → Bool
  | .code _ _ _ _ => true
  | _ => false
theorem all_split {L : List Jvm.Cond} {P : Jvm.Cond → Bool} (h1 : L.all (fun c => isCode c || P c) = true) (h2 : ∀ c ∈ L.filter isCode, P c = true) : L.all P = true := by
  refine List.all_eq_true.mpr fun c hc => ?_
  have h := List.all_eq_true.mp h1 c hc
  rcases Bool.eq_false_or_eq_true (isCode c) with hi | hi
  · exact h2 c (List.mem_filter.mpr ⟨hc, hi⟩)
  · simpa [hi] using h
set_option maxRecDepth 65536 in
theorem w_c0 : (Jvm.Cond.code x code maxLocals ret).before args0 about1 = true := code_word (m := ⟨1, 2⟩) (meth := k1m2) (c := k1c2) (by decide +kernel) rfl rfl rfl (by decide +kernel)
set_option maxRecDepth 65536 in
theorem w_c1 : (Jvm.Cond.code ({ cls := "com/example/uhrwerk/uhrwerk/model/RelationNegatedPinLaw", name := "pick", desc := "(I)Lcom/example/uhrwerk/uhrwerk/model/Relation;" } : Jvm.MethodName) method_2_code (2 : Nat) (Option.some (Jvm.ClassFile.FieldType.object "com/example/uhrwerk/uhrwerk/model/Relation"))).before args0 about1 = true := code_word (m := ⟨1, 1⟩) (meth := k1m1) (c := k1c1) (by decide +kernel) rfl rfl rfl (by decide +kernel)
set_option maxRecDepth 65536 in
theorem w_c2 : (Jvm.Cond.code ({ cls := "com/example/uhrwerk/uhrwerk/model/Relation", name := "negated", desc := "()Lcom/example/uhrwerk/uhrwerk/model/Relation;" } : Jvm.MethodName) prog_84_method_7_code (1 : Nat) (Option.some (Jvm.ClassFile.FieldType.object "com/example/uhrwerk/uhrwerk/model/Relation"))).before args0 about1 = true := code_word (m := ⟨6, 1⟩) (meth := k6m1) (c := k6c1) (by decide +kernel) rfl rfl rfl (by decide +kernel)
set_option maxRecDepth 65536 in
theorem w_c3 : (Jvm.Cond.code ({ cls := "java/lang/Enum", name := "ordinal", desc := "()I" } : Jvm.MethodName) jdk_37_method_2_code (1 : Nat) (Option.some Jvm.ClassFile.FieldType.int)).before args0 about1 = true := code_word (m := ⟨5, 0⟩) (meth := k5m0) (c := k5c0) (by decide +kernel) rfl rfl rfl (by decide +kernel)
set_option maxRecDepth 65536 in
theorem w_c4 : (Jvm.Cond.code ({ cls := "com/example/uhrwerk/uhrwerk/model/Relation", name := "test", desc := "(JJ)Z" } : Jvm.MethodName) prog_84_method_6_code (5 : Nat) (Option.some Jvm.ClassFile.FieldType.boolean)).before args0 about1 = true := code_word (m := ⟨6, 0⟩) (meth := k6m0) (c := k6c0) (by decide +kernel) rfl rfl rfl (by decide +kernel)
def codes1 : List Jvm.Cond := [Jvm.Cond.code x code maxLocals ret, Jvm.Cond.code ({ cls := "com/example/uhrwerk/uhrwerk/model/RelationNegatedPinLaw", name := "pick", desc := "(I)Lcom/example/uhrwerk/uhrwerk/model/Relation;" } : Jvm.MethodName) method_2_code (2 : Nat) (Option.some (Jvm.ClassFile.FieldType.object "com/example/uhrwerk/uhrwerk/model/Relation")), Jvm.Cond.code ({ cls := "com/example/uhrwerk/uhrwerk/model/Relation", name := "negated", desc := "()Lcom/example/uhrwerk/uhrwerk/model/Relation;" } : Jvm.MethodName) prog_84_method_7_code (1 : Nat) (Option.some (Jvm.ClassFile.FieldType.object "com/example/uhrwerk/uhrwerk/model/Relation")), Jvm.Cond.code ({ cls := "java/lang/Enum", name := "ordinal", desc := "()I" } : Jvm.MethodName) jdk_37_method_2_code (1 : Nat) (Option.some Jvm.ClassFile.FieldType.int), Jvm.Cond.code ({ cls := "com/example/uhrwerk/uhrwerk/model/Relation", name := "test", desc := "(JJ)Z" } : Jvm.MethodName) prog_84_method_6_code (5 : Nat) (Option.some Jvm.ClassFile.FieldType.boolean)]
set_option maxRecDepth 65536 in
theorem codes_eq : words1.filter isCode = codes1 := rfl
theorem w_codes : ∀ c ∈ words1.filter isCode, c.before args0 about1 = true := by
  rw [codes_eq]
  intro c hc
  simp only [codes1, List.mem_cons, List.not_mem_nil, or_false] at hc
  rcases hc with rfl | rfl | rfl | rfl | rfl
  · exact w_c0
  · exact w_c1
  · exact w_c2
  · exact w_c3
  · exact w_c4
set_option maxRecDepth 65536 in
theorem w_t1 : (words1.take 24).all (fun c => isCode c || c.before args0 about1) = true := by decide +kernel
set_option maxRecDepth 65536 in
theorem w_t2 : (words1.drop 24).all (fun c => isCode c || c.before args0 about1) = true := by decide +kernel
theorem w_tables : (allAtoms (Jvm.Cond.code x code maxLocals ret :: tables_1)).before args0 about1 = true := by
  rw [allAtoms_all]
  show words1.all (fun c => c.before args0 about1) = true
  refine all_split ?_ w_codes
  rw [← List.take_append_drop 24 words1, List.all_append, w_t1, w_t2]
  rfl
set_option maxRecDepth 65536 in
theorem w_case : (Jvm.Cond.and given_1 narrow_1).before args0 about1 = true := by decide +kernel
theorem w_applies : (headSpec (Jvm.Cond.code x code maxLocals ret :: tables_1) room_1).applies x e0.platform about1 = true :=
  (Spec.applies_iff w_frames).mpr ⟨w_running, w_runnable, w_alone, w_named, w_hears, w_ripe, w_room, w_tables⟩
theorem atStart : AtStart classFile x code maxLocals ret World_1 tables_1 room_1 Calls_1 rest_1 Pre_1 launch0 p0 e0 about1 theMethod args0 below0 :=
  ⟨lists_1, trivial, launch0.admits_env _ _ _, launch0.least_env, fairChoices_fair.cas, fairChoices_fair.clock, w_frames, w_args, w_heap, w_applies, trivial, trivial, w_case⟩
end start1
theorem witness_1 : WitnessClaimed_1 := ⟨start1.p0, start1.e0, start1.about1, start1.theMethod, start1.args0, start1.below0, start1.atStart⟩
end Jvm.Pilot.@@N@@
