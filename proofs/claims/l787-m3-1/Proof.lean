import JvmDerived
import JvmDerived.Pilot.@@N@@Statement
import JvmDerived.Pilot.@@N@@Code
set_option linter.unusedVariables false
set_option linter.unusedSimpArgs false
namespace Jvm.RoadKit
open Sem ClassFile Op Lib Jvm.Stand Jvm.Free Jvm.LawKit
abbrev own_Go (p : Program) (e : Env) (below : List Frame) (A B : State) : Prop := ∀ t, Steps p.tables e below B t → Steps p.tables e below A t
theorem own_name {p : Program} {e : Env} {below : List Frame} {A : State} {α : Type} {F : α → State} (x : α) (P : own_Go p e below A (F x)) : ∃ z, z = x ∧ own_Go p e below A (F z) := ⟨x, rfl, P⟩
theorem own_step {p : Program} {e : Env} {below : List Frame} {A B C : State} (P : own_Go p e below A B) (q : own_Go p e below B C) : own_Go p e below A C := fun t_ k_ => P t_ (q t_ k_)
theorem own_IB {Z s U : State} {Ts : List String} (I : IB Z s.vm Ts) (w : s.WarmedH U.vm) : IB Z U.vm Ts := by
  obtain ⟨more, e, hm⟩ := I
  exact ⟨more, w.interned_eq.trans e, hm⟩
theorem own_backI {p : Program} {l : Launch} {e : Env} {R : Room} {s Z : State} {args a0 : Array Value} {below : List Frame} {h : Heap} {y : MethodName} {bytes : ByteArray} {maxL : Nat} {ret : Option FieldType} {rm : Room} {len W : Nat} {as' : Array Value} {Ts : List String} {Q : Option Value → Heap → List Loc → Prop}
    (hM : MetFree l y (head1 [Cond.code y bytes maxL ret] rm) (fun a U => a = as' ∧ Z.Warmed39 U.vm ∧ U.heap = h ∧ IB Z U.vm Ts) (fun _ _ _ _ _ => True) (fun _ U o U' => ∃ v L, o = .returned v ∧ Q v U'.heap L ∧ ReturnedEndW U o U' L rm.cells rm.slots))
    (hZ : Z.Warmed39 s.vm) (hI : IB Z s.vm Ts) (wc : (Cond.code y bytes maxL ret).before a0 Z = true) (wz : (Cond.initialized y.cls).before a0 Z = true) (hf : rm.frames + 1 ≤ R.frames) (hl : W + (maxL + 11) + rm.locals ≤ R.locals) :
    BackS l R p e below s args y len W (fun A a => a = as' ∧ A.U.heap = h ∧ A.cells + rm.cells ≤ R.cells ∧ A.slots + rm.slots ≤ R.slots) (fun A _ v B => ∃ L, Q v B.U.heap L ∧ B.locs = A.locs ++ L ∧ B.cells = A.cells + rm.cells ∧ B.slots = A.slots + rm.slots) := by
  refine BackS.of_freeW (bytes := bytes) (maxL := maxL) (ret := ret) (E := fun _ _ o t L k n => k = rm.cells ∧ n = rm.slots ∧ ∃ v, o = .returned v ∧ Q v t.heap L) hM hf hl ?_ ?_ (fun _ _ _ _ _ _ _ _ _ => trivial) ?_ ?_
  · intro m meth c A a Y hp
    have hU : Z.Warmed39 A.U.vm := wtrans hZ Y.warmed
    refine ⟨?_, mv hU wc, mv hU wz, hp.2.2.1, hp.2.2.2⟩
    show (Cond.and _ .tt).before a A.U = true
    rw [Cond.before_and, mv hU wc]; rfl
  · intro m meth c A a g mk Y hp
    exact ⟨hp.1, wtrans hZ Y.warmed, hp.2.1, own_IB hI Y.warmed⟩
  · rintro _ _ _ _ ⟨v, L, h1, h2, h3⟩
    exact ⟨L, _, _, h3, rfl, rfl, v, h1, h2⟩
  · intro m meth c A a g mk v t L k n Y hp _ _ q
    obtain ⟨e1, e2, v', e3, e4⟩ := q
    cases e3; subst e1 e2; exact ⟨L, e4, rfl, rfl, rfl⟩
section New
variable {p : Program} {l : Launch} {e : Env} {R : Room} {s : State} {m : MethodId} {args : Array Value} {below : List Frame} {meth : Method} {c : Code} {T : State} {locs : List Loc} {cells slots : Nat}
theorem retI (X : Stand p l e R s m args below meth c T locs cells slots) (hx : p.tables.exec = Jvm.exec) {pc : Nat} {Ls : Array Slot} {z : Int32} {rest : List Value} (hret : meth.sig.returnType = some .int) (hd : decode c.code pc = .ok (.ireturn, 1)) {fs : List Frame}
    (hl : ∀ (f : JFrame) (acts : List Action), f.method = m → f.locked = none → f.entered = [] → (doReturn e (T.setTop f) acts (some (.int z))).1 = T.setFrames fs) : Steps p.tables e below (T.setTop (mkF m pc Ls (.int z :: rest))) (T.setFrames fs) := by
  have hm' : T.vm.method? m = some meth := X.method'
  have hn : narrow .int (.int z) = .int z := rfl
  show Steps p.tables e below (T.setTop { method := m, pc := pc, locals := Ls, stack := _ :: rest, locked := none }) _
  jvm_step X.here [X.here.top, hx, hd, hm', hret, hn]
  first | (intro acts; rw [hl _ acts rfl rfl rfl]) | rw [hl _ _ rfl rfl rfl]
  exact Steps.refl _
end New
end Jvm.RoadKit
namespace Jvm.Pilot.@@N@@
open Jvm Jvm.ClassFile Sem Op Lib Jvm.Free Jvm.Stand Jvm.LawKit Jvm.RoadKit Bundle Jvm.Pilot.@@N@@.Jvm.D
theorem own_wS : ∀ d ∈ Bundle.stringAtoms, d ∈ tables_1 := by
  intro d hd
  simp only [Bundle.stringAtoms, Bundle.sN, List.mem_cons, List.not_mem_nil, or_false] at hd
  rcases hd with rfl | rfl | rfl | rfl | rfl | rfl | rfl
  all_goals (simp only [tables_1, List.mem_cons, List.not_mem_nil, or_false]; simp)

theorem own_shr0 (z : Int32) : z >>> ((0 : Int32) &&& 31) = z := by
  rw [← Int32.toInt_inj, c_ishr z 0 0 (by decide)]; simp
theorem own_nc (x : Int32) : nar .char ((x &&& (255 : Int32)).toUInt32.toUInt16.toUInt32.toInt32) = x &&& (255 : Int32) := by
  show (((x &&& (255 : Int32)).toUInt32.toUInt16.toUInt32.toInt32).toUInt32.toUInt16.toUInt32.toInt32) = _
  rw [i2c_mask, i2c_mask]
theorem own_nc1 (x : Int32) : nar .char (x &&& (255 : Int32)) = x &&& (255 : Int32) := i2c_mask x
def own_C (c : Int32) : Prop := 0 ≤ c.toInt ∧ c.toInt < 65536
def own_b0 (c : Int32) : Int32 := ((c >>> ((0 : Int32) &&& 31)).toInt8.toInt32).toInt8.toInt32
def own_b1 (c : Int32) : Int32 := ((c >>> ((8 : Int32) &&& 31)).toInt8.toInt32).toInt8.toInt32
def own_gc (y0 y1 : Int32) : Int32 := nar .char ((((y0 &&& (255 : Int32)) <<< ((0 : Int32) &&& 31)) ||| ((y1 &&& (255 : Int32)) <<< ((8 : Int32) &&& 31))).toUInt32.toUInt16.toUInt32.toInt32)
def own_lb (c : Int32) : Int32 := (c.toInt8.toInt32).toInt8.toInt32
def own_ub : List Int32 → List Value
  | [] => []
  | c :: cs => .int (own_b0 c) :: .int (own_b1 c) :: own_ub cs
def own_S (Z : State) (h : Heap) (a : Addr) (n : Int32) (cs : List Int32) : Prop := ∃ (x : Addr) (kk : ClassId), Exa Z h a "java/lang/String" ∧ Fld Z h a "java/lang/String" "value" "[B" (.ref x) ∧ (((∀ c ∈ cs, ¬ ((255 : Int32) < c)) ∧ Fld Z h a "java/lang/String" "coder" "B" (.int (0 : Int32)) ∧ Arv Z h x kk .byte n (cs.map fun c => .int (own_lb c)) (.int 0)) ∨ (Fld Z h a "java/lang/String" "coder" "B" (.int (1 : Int32)) ∧ Arv Z h x kk .byte (n + n) (own_ub cs) (.int 0)))
theorem own_nC {c : Int32} (g : own_C c) : nar .char c = c := by
  have a := c_i2c c; unfold own_C at g
  rw [← Int32.toInt_inj]; show (c.toUInt32.toUInt16.toUInt32.toInt32).toInt = _; omega
theorem own_CN {c : Int32} (g : own_C c) : own_C (nar .char c) := by rw [own_nC g]; exact g
theorem own_i2c (x : Int32) : own_C (x.toUInt32.toUInt16.toUInt32.toInt32) := by have a := c_i2c x; exact ⟨a.2.1, a.2.2⟩
theorem own_tn {x : Int32} (h : 0 ≤ x.toInt) : (x.toBitVec.toNat : Int) = x.toInt := by
  have e : x.toInt = x.toBitVec.toInt := rfl
  have l := x.toBitVec.isLt
  rw [e] at h ⊢; rw [BitVec.toInt_eq_toNat_cond] at h ⊢; split at h <;> split <;> omega
theorem own_or8 (u v : Int32) (hu : 0 ≤ u.toInt ∧ u.toInt < 256) (hv : 0 ≤ v.toInt ∧ v.toInt < 256) : (u ||| (v <<< ((8 : Int32) &&& 31))).toInt = u.toInt + 256 * v.toInt := by
  have s := c_ishl v 8 8 (by decide); have r := rng32 (v <<< ((8 : Int32) &&& 31))
  have hw : (v <<< ((8 : Int32) &&& 31)).toInt = 256 * v.toInt := by omega
  have a := own_tn (x := u) (by omega); have b := own_tn (x := v <<< ((8 : Int32) &&& 31)) (by omega)
  generalize v <<< ((8 : Int32) &&& 31) = w at *
  have e : (u ||| w).toBitVec.toNat = u.toBitVec.toNat ||| w.toBitVec.toNat := by rw [Int32.toBitVec_or, BitVec.toNat_or]
  obtain ⟨k, hk⟩ : ∃ k : Nat, w.toBitVec.toNat = k <<< 8 := ⟨v.toInt.toNat, by rw [Nat.shiftLeft_eq]; omega⟩
  have l : u.toBitVec.toNat < 2 ^ 8 := by omega
  rw [hk, Nat.or_comm, ← Nat.shiftLeft_add_eq_or_of_lt l] at e
  have q : (u ||| w).toInt = (u ||| w).toBitVec.toInt := rfl
  rw [q, BitVec.toInt_eq_toNat_cond, e]; rw [hk] at b
  split <;> omega
theorem own_gcE {c : Int32} (g : own_C c) : own_gc (own_b0 c) (own_b1 c) = c := by
  have g' := g; unfold own_C at g
  have a0 := c_ishr c 0 0 (by decide); have a1 := c_ishr c 8 8 (by decide)
  have m0 := c_mask (own_b0 c) 255 8 (by decide) (by decide +kernel); have m1 := c_mask (own_b1 c) 255 8 (by decide) (by decide +kernel)
  have e0 : (own_b0 c &&& (255 : Int32)).toInt = c.toInt % 256 := by
    have x1 := c_i2b (c >>> ((0 : Int32) &&& 31)); have x2 := c_i2b ((c >>> ((0 : Int32) &&& 31)).toInt8.toInt32)
    rw [m0]; unfold own_b0; omega
  have e1 : (own_b1 c &&& (255 : Int32)).toInt = c.toInt / 256 := by
    have x1 := c_i2b (c >>> ((8 : Int32) &&& 31)); have x2 := c_i2b ((c >>> ((8 : Int32) &&& 31)).toInt8.toInt32)
    rw [m1]; unfold own_b1; omega
  have s0 : (own_b0 c &&& (255 : Int32)) <<< ((0 : Int32) &&& 31) = own_b0 c &&& (255 : Int32) := by
    have q := c_ishl (own_b0 c &&& (255 : Int32)) 0 0 (by decide); have r := rng32 ((own_b0 c &&& (255 : Int32)) <<< ((0 : Int32) &&& 31)); have r2 := rng32 (own_b0 c &&& (255 : Int32))
    rw [← Int32.toInt_inj]; omega
  unfold own_gc; rw [s0]
  have o := own_or8 (own_b0 c &&& (255 : Int32)) (own_b1 c &&& (255 : Int32)) (by omega) (by omega)
  generalize (own_b0 c &&& (255 : Int32)) ||| ((own_b1 c &&& (255 : Int32)) <<< ((8 : Int32) &&& 31)) = w at *
  have i1 := c_i2c w; have wc : own_C w := by unfold own_C; omega
  have e : w = c := by rw [← Int32.toInt_inj]; omega
  subst e
  rw [show w.toUInt32.toUInt16.toUInt32.toInt32 = w from own_nC wc, own_nC wc]
theorem own_big {c : Int32} (g : own_C c) (h : (255 : Int32) < c) : (255 : Int32) < own_gc (own_b0 c) (own_b1 c) := by rw [own_gcE g]; exact h
theorem own_lbE {c : Int32} (g : own_C c) (h : ¬ ((255 : Int32) < c)) : (own_lb c &&& (255 : Int32)) = c := by
  unfold own_C at g; rw [Int32.lt_iff_toInt_lt, show (255 : Int32).toInt = 255 from rfl] at h
  have a := c_i2b c; have b := c_i2b (c.toInt8.toInt32)
  rw [← Int32.toInt_inj, c_mask _ 255 8 (by decide) (by decide +kernel)]; unfold own_lb; omega
theorem own_cs {args : Array Value} {s : State} {cs : Int32} (e : (Term.static "java/lang/String" "COMPACT_STRINGS" "Z").eval args s none [] s = some (.int cs)) (h : Jvm.Lit.compactW.before args s = true) : ¬ (cs = (0 : Int32)) := by
  have a1 := not_v (Cond.before_iff.mp (show (Cond.not (.eq (.static "java/lang/String" "COMPACT_STRINGS" "Z") (.int 0))).before args s = true from h))
  intro q; subst q
  have b1 := eq_i e (Term.int_eval (0)) rfl
  rw [b1] at a1; cases a1
theorem own_nz {n : Int32} (h : 0 < n.toInt) : ¬ (n = (0 : Int32)) := by intro q; rw [q] at h; exact absurd h (by decide)
theorem own_dbl {n : Int32} (h0 : 0 ≤ n.toInt) (h1 : n.toInt < 1000) : (n + n).toInt = 2 * n.toInt := by have a := c_iadd n n; have b := rng32 (n + n); omega
theorem own_nz2 {n : Int32} (h0 : 0 < n.toInt) (h1 : n.toInt < 1000) : ¬ (n + n = (0 : Int32)) := own_nz (by rw [own_dbl (by omega) h1]; omega)
theorem own_shr1 {n : Int32} (h0 : 0 < n.toInt) (h1 : n.toInt < 1000) : (n + n) >>> ((1 : Int32) &&& 31) = n := by
  rw [← Int32.toInt_inj, c_ishr _ 1 1 (by decide), own_dbl (by omega) h1]; omega
theorem own_ix {i n : Int32} (h : ¬ (i < (0 : Int32)) ∧ i < n) (h1 : n.toInt < 1000) : (i <<< ((1 : Int32) &&& 31)).toInt = 2 * i.toInt ∧ ((i <<< ((1 : Int32) &&& 31)) + (1 : Int32)).toInt = 2 * i.toInt + 1 ∧ 0 ≤ i.toInt ∧ i.toInt < n.toInt := by
  rw [Int32.lt_iff_toInt_lt, Int32.lt_iff_toInt_lt, show (0 : Int32).toInt = 0 from rfl] at h
  have a := c_ishl i 1 1 (by decide); have b := rng32 (i <<< ((1 : Int32) &&& 31)); have c := c_iadd (i <<< ((1 : Int32) &&& 31)) 1; have d := rng32 ((i <<< ((1 : Int32) &&& 31)) + 1)
  rw [show (1 : Int32).toInt = 1 from rfl] at c; omega
theorem own_in0 {i n : Int32} (h : ¬ (i < (0 : Int32)) ∧ i < n) (h1 : n.toInt < 1000) : ¬ (i <<< ((1 : Int32) &&& 31)) < 0 ∧ (i <<< ((1 : Int32) &&& 31)) < n + n := by
  obtain ⟨a, b, c, d⟩ := own_ix h h1
  rw [Int32.lt_iff_toInt_lt, Int32.lt_iff_toInt_lt, own_dbl (by omega) h1, show (0 : Int32).toInt = 0 from rfl]; omega
theorem own_in1 {i n : Int32} (h : ¬ (i < (0 : Int32)) ∧ i < n) (h1 : n.toInt < 1000) : ¬ ((i <<< ((1 : Int32) &&& 31)) + (1 : Int32)) < 0 ∧ ((i <<< ((1 : Int32) &&& 31)) + (1 : Int32)) < n + n := by
  obtain ⟨a, b, c, d⟩ := own_ix h h1
  rw [Int32.lt_iff_toInt_lt, Int32.lt_iff_toInt_lt, own_dbl (by omega) h1, show (0 : Int32).toInt = 0 from rfl]; omega
theorem own_mapD {cl : List Int32} {k : Nat} {c : Int32} (h : cl[k]? = some c) : (cl.map fun c => Value.int (own_lb c)).getD k (.int 0) = .int (own_lb c) := by
  rw [List.getD_eq_getElem?_getD, List.getElem?_map, h]; rfl
theorem own_ubA : ∀ (cl : List Int32) (k : Nat) (c : Int32), cl[k]? = some c → (own_ub cl).getD (2 * k) (.int 0) = .int (own_b0 c) ∧ (own_ub cl).getD (2 * k + 1) (.int 0) = .int (own_b1 c)
  | [], k, c, h => by simp at h
  | d :: cl, 0, c, h => by simp at h; subst h; exact ⟨rfl, rfl⟩
  | d :: cl, k + 1, c, h => by
    have h' : cl[k]? = some c := by simpa using h
    have q := own_ubA cl k c h'
    exact q
theorem own_cn {j : Int32} {k : Nat} (h : j.toInt = k) : j.toNatClampNeg = k := by
  have q := nat_of (j := j) (by rw [Int32.lt_iff_toInt_lt, show (0 : Int32).toInt = 0 from rfl]; omega)
  omega
theorem own_ubD0 {cl : List Int32} {i n c : Int32} (h : ¬ (i < (0 : Int32)) ∧ i < n) (h1 : n.toInt < 1000) (hc : cl[i.toNatClampNeg]? = some c) : (own_ub cl).getD (i <<< ((1 : Int32) &&& 31)).toNatClampNeg (.int 0) = .int (own_b0 c) := by
  obtain ⟨a, b, d, e⟩ := own_ix h h1
  have q := nat_of (j := i) h.1
  rw [own_cn (k := 2 * i.toNatClampNeg) (by omega)]; exact (own_ubA cl _ c hc).1
theorem own_ubD1 {cl : List Int32} {i n c : Int32} (h : ¬ (i < (0 : Int32)) ∧ i < n) (h1 : n.toInt < 1000) (hc : cl[i.toNatClampNeg]? = some c) : (own_ub cl).getD ((i <<< ((1 : Int32) &&& 31)) + (1 : Int32)).toNatClampNeg (.int 0) = .int (own_b1 c) := by
  obtain ⟨a, b, d, e⟩ := own_ix h h1
  have q := nat_of (j := i) h.1
  rw [own_cn (k := 2 * i.toNatClampNeg + 1) (by omega)]; exact (own_ubA cl _ c hc).2

def own_ok (p0 : Int32) : Int32 := (if p0 < (32 : Int32) then (0 : Int32) else (if (126 : Int32) < p0 then (0 : Int32) else (if p0 = (32 : Int32) then (0 : Int32) else (if p0 = (34 : Int32) then (0 : Int32) else (if p0 = (92 : Int32) then (0 : Int32) else (1 : Int32))))))
theorem d9_0 : decode method_2_code 0 = .ok (.iload_n 0, 1) := by decide +kernel
theorem d9_1 : decode method_2_code 1 = .ok (.bipush 32, 2) := by decide +kernel
theorem d9_3 : decode method_2_code 3 = .ok (.if_icmp .lt 13, 3) := by decide +kernel
theorem d9_6 : decode method_2_code 6 = .ok (.iload_n 0, 1) := by decide +kernel
theorem d9_7 : decode method_2_code 7 = .ok (.bipush 126, 2) := by decide +kernel
theorem d9_9 : decode method_2_code 9 = .ok (.if_icmp .gt 7, 3) := by decide +kernel
theorem d9_12 : decode method_2_code 12 = .ok (.iconst 1, 1) := by decide +kernel
theorem d9_13 : decode method_2_code 13 = .ok (.goto 4, 3) := by decide +kernel
theorem d9_16 : decode method_2_code 16 = .ok (.iconst 0, 1) := by decide +kernel
theorem d9_17 : decode method_2_code 17 = .ok (.istore_n 1, 1) := by decide +kernel
theorem d9_18 : decode method_2_code 18 = .ok (.iload_n 1, 1) := by decide +kernel
theorem d9_19 : decode method_2_code 19 = .ok (.ifCond .eq 25, 3) := by decide +kernel
theorem d9_22 : decode method_2_code 22 = .ok (.iload_n 0, 1) := by decide +kernel
theorem d9_23 : decode method_2_code 23 = .ok (.bipush 32, 2) := by decide +kernel
theorem d9_25 : decode method_2_code 25 = .ok (.if_icmp .eq 19, 3) := by decide +kernel
theorem d9_28 : decode method_2_code 28 = .ok (.iload_n 0, 1) := by decide +kernel
theorem d9_29 : decode method_2_code 29 = .ok (.bipush 34, 2) := by decide +kernel
theorem d9_31 : decode method_2_code 31 = .ok (.if_icmp .eq 13, 3) := by decide +kernel
theorem d9_34 : decode method_2_code 34 = .ok (.iload_n 0, 1) := by decide +kernel
theorem d9_35 : decode method_2_code 35 = .ok (.bipush 92, 2) := by decide +kernel
theorem d9_37 : decode method_2_code 37 = .ok (.if_icmp .eq 7, 3) := by decide +kernel
theorem d9_40 : decode method_2_code 40 = .ok (.iconst 1, 1) := by decide +kernel
theorem d9_41 : decode method_2_code 41 = .ok (.goto 4, 3) := by decide +kernel
theorem d9_44 : decode method_2_code 44 = .ok (.iconst 0, 1) := by decide +kernel
theorem d9_45 : decode method_2_code 45 = .ok (.ireturn, 1) := by decide +kernel
theorem ef__own_ok (m : MethodId) (x0 : Int32) : entryFrame m #[(.int x0)] 2 = mkF m 0 #[.val (.int x0), .unset] [] := by first | (simp [entryFrame, mkF, argsToLocals, Value.category]; done) | rfl
def Q_own_ok (Z : State) (p0 : Int32) (h0 : Heap) (n0 : Nat) (v_ : Option Value) (h : Heap) (L_ : List Loc) : Prop := v_ = some (.int (own_ok p0)) ∧ Fr n0 L_ ∧ h = h0
theorem pn0 : plainName "com/example/issuant/issuant/config/ScopesIsTokenPinLaw" = true := by first | (simp [plainName, overriddenIn]; done) | decide +kernel
set_option maxRecDepth 65536 in
set_option maxHeartbeats 40000000 in
theorem rm_own_ok (l : Launch) (Z : State) (a0 : Array Value) (hw : ∀ d ∈ tables_1, d.before a0 Z = true) (ws : List Jvm.Cond) (p0 : Int32) (h0 : Heap) (n0 : Nat) (Z0 : n0 ≤ h0.size) :
    MetFree l (⟨"com/example/issuant/issuant/config/ScopesIsTokenPinLaw", "ok", "(C)Z"⟩ : MethodName) (head1 (Jvm.Cond.code (⟨"com/example/issuant/issuant/config/ScopesIsTokenPinLaw", "ok", "(C)Z"⟩ : MethodName) method_2_code 2 (some .boolean) :: ws) ({ frames := 0, cells := 0, slots := 0, locals := 0 } : Room)) (fun a_ U_ => a_ = #[(.int p0)] ∧ Z.Warmed39 U_.vm ∧ U_.heap = h0) (fun _ _ _ _ _ => True) (fun _ U_ o_ V_ => ∃ v_ L_, o_ = .returned v_ ∧ Q_own_ok Z p0 h0 n0 v_ V_.heap L_ ∧ FrameEnd U_ o_ V_ L_ ({ frames := 0, cells := 0, slots := 0, locals := 0 } : Room).cells ({ frames := 0, cells := 0, slots := 0, locals := 0 } : Room).slots) := by
  refine MetFree.of_bodySF (plainFor_of_name pn0) hisR ?_
  intro p e s m args below meth c s₁ Bd hml0 hP hK
  obtain ⟨rfl, hZ, hh⟩ := hP
  have hx := Bd.exec
  have hby := Bd.bytes
  have hml : c.maxLocals = 2 := hml0
  have hown : s.vm.findClass "com/example/issuant/issuant/config/ScopesIsTokenPinLaw" = some m.cls := findClass_of_methodNamed Bd.named
  have hnm := (name_of_methodNamed Bd.named Bd.method).1
  have X0 : Stand p l e ({ frames := 0, cells := 0, slots := 0, locals := 0 } : Room) s m #[(.int p0)] below meth c s₁ [] 0 0 := Stand.of_body Bd
  have e0 : s₁.heap = h0 := by rw [← hh, Bd.state]; rfl
  have N0 := Fr.nil n0
  have pre0 : own_Go p e below (s₁.setTop (entryFrame m #[(.int p0)] 2)) (s₁.setTop (mkF m 0 #[.val (.int p0), .unset] [])) := fun t_ k_ => castTop (ef__own_ok m p0) k_
  have P1 := own_step (C := s₁.setTop (mkF m 3 #[.val (.int p0), .unset] [(.int (32 : Int32)), (.int p0)])) pre0 (by
    intro tt_ kk_
    refine XS.iloadN X0.here hx rfl (hb hby d9_0) rfl ?_
    refine XS.bipush X0.here hx rfl (hb hby d9_1) ?_
    exact kk_)
  by_cases c2 : p0 < (32 : Int32)
  · have P3 := own_step (C := s₁.setTop (mkF m 19 #[.val (.int p0), .val (.int (0 : Int32))] [(.int (0 : Int32))])) P1 (by
      intro tt_ kk_
      refine XS.icmpYes X0.here hx rfl (pc0 := 3) (pc' := 16) rfl (hb hby d9_3) rfl (tlt c2).1 (by decide) (by decide) ?_
      refine XS.iconst X0.here hx rfl (hb hby d9_16) ?_
      refine XS.istoreN X0.here hx rfl (hb hby d9_17) rfl (l' := #[.val (.int p0), .val (.int (0 : Int32))]) rfl ?_
      refine XS.iloadN X0.here hx rfl (hb hby d9_18) rfl ?_
      exact kk_)
    have P4 := own_step (C := s₁.setTop (mkF m 45 #[.val (.int p0), .val (.int (0 : Int32))] [(.int (0 : Int32))])) P3 (by
      intro tt_ kk_
      refine XS.ifYes X0.here hx rfl (pc0 := 19) (pc' := 44) rfl (hb hby d9_19) rfl ((if0 _ _).trans (teq (by decide : (0 : Int32) = (0 : Int32))).1) (by decide) (by decide) ?_
      refine XS.iconst X0.here hx rfl (hb hby d9_44) ?_
      exact kk_)
    obtain ⟨fs, hr, hrun, hended, hW, hsame⟩ := X0.leave (v := some (.int (0 : Int32))) (fun h => by rw [Bd.returns] at h; cases h)
    refine ⟨_, _, P4 _ ?_, hrun, hended, _, _, rfl, ?_, ⟨_, rfl⟩, hW, hsame.mono (by decide) (by decide)⟩
    · exact retN X0 hx (t := .boolean) Bd.returns (by simp) (hb hby d9_45) hr
    · show Q_own_ok Z _ h0 n0 _ s₁.heap _
      rw [e0]
      exact ⟨by unfold own_ok; rw [if_pos c2], N0, rfl⟩
  · have P5 := own_step (C := s₁.setTop (mkF m 9 #[.val (.int p0), .unset] [(.int (126 : Int32)), (.int p0)])) P1 (by
      intro tt_ kk_
      refine XS.icmpNo X0.here hx rfl (hb hby d9_3) rfl (flt c2).1 ?_
      refine XS.iloadN X0.here hx rfl (hb hby d9_6) rfl ?_
      refine XS.bipush X0.here hx rfl (hb hby d9_7) ?_
      exact kk_)
    by_cases c6 : (126 : Int32) < p0
    · have P7 := own_step (C := s₁.setTop (mkF m 19 #[.val (.int p0), .val (.int (0 : Int32))] [(.int (0 : Int32))])) P5 (by
        intro tt_ kk_
        refine XS.icmpYes X0.here hx rfl (pc0 := 9) (pc' := 16) rfl (hb hby d9_9) rfl (tlt c6).2.2.1 (by decide) (by decide) ?_
        refine XS.iconst X0.here hx rfl (hb hby d9_16) ?_
        refine XS.istoreN X0.here hx rfl (hb hby d9_17) rfl (l' := #[.val (.int p0), .val (.int (0 : Int32))]) rfl ?_
        refine XS.iloadN X0.here hx rfl (hb hby d9_18) rfl ?_
        exact kk_)
      have P8 := own_step (C := s₁.setTop (mkF m 45 #[.val (.int p0), .val (.int (0 : Int32))] [(.int (0 : Int32))])) P7 (by
        intro tt_ kk_
        refine XS.ifYes X0.here hx rfl (pc0 := 19) (pc' := 44) rfl (hb hby d9_19) rfl ((if0 _ _).trans (teq (by decide : (0 : Int32) = (0 : Int32))).1) (by decide) (by decide) ?_
        refine XS.iconst X0.here hx rfl (hb hby d9_44) ?_
        exact kk_)
      obtain ⟨fs, hr, hrun, hended, hW, hsame⟩ := X0.leave (v := some (.int (0 : Int32))) (fun h => by rw [Bd.returns] at h; cases h)
      refine ⟨_, _, P8 _ ?_, hrun, hended, _, _, rfl, ?_, ⟨_, rfl⟩, hW, hsame.mono (by decide) (by decide)⟩
      · exact retN X0 hx (t := .boolean) Bd.returns (by simp) (hb hby d9_45) hr
      · show Q_own_ok Z _ h0 n0 _ s₁.heap _
        rw [e0]
        exact ⟨by unfold own_ok; rw [if_neg c2, if_pos c6], N0, rfl⟩
    · have P9 := own_step (C := s₁.setTop (mkF m 19 #[.val (.int p0), .val (.int (1 : Int32))] [(.int (1 : Int32))])) P5 (by
        intro tt_ kk_
        refine XS.icmpNo X0.here hx rfl (hb hby d9_9) rfl (flt c6).2.2.1 ?_
        refine XS.iconst X0.here hx rfl (hb hby d9_12) ?_
        refine XS.goto X0.here hx rfl (pc0 := 13) (pc' := 17) rfl (hb hby d9_13) (by decide) (by decide) ?_
        refine XS.istoreN X0.here hx rfl (hb hby d9_17) rfl (l' := #[.val (.int p0), .val (.int (1 : Int32))]) rfl ?_
        refine XS.iloadN X0.here hx rfl (hb hby d9_18) rfl ?_
        exact kk_)
      have P10 := own_step (C := s₁.setTop (mkF m 25 #[.val (.int p0), .val (.int (1 : Int32))] [(.int (32 : Int32)), (.int p0)])) P9 (by
        intro tt_ kk_
        refine XS.ifNo X0.here hx rfl (hb hby d9_19) rfl ((if0 _ _).trans (feq (by decide : ¬ ((1 : Int32) = (0 : Int32)))).1) ?_
        refine XS.iloadN X0.here hx rfl (hb hby d9_22) rfl ?_
        refine XS.bipush X0.here hx rfl (hb hby d9_23) ?_
        exact kk_)
      by_cases c11 : p0 = (32 : Int32)
      · have P12 := own_step (C := s₁.setTop (mkF m 45 #[.val (.int p0), .val (.int (1 : Int32))] [(.int (0 : Int32))])) P10 (by
          intro tt_ kk_
          refine XS.icmpYes X0.here hx rfl (pc0 := 25) (pc' := 44) rfl (hb hby d9_25) rfl (teq c11).1 (by decide) (by decide) ?_
          refine XS.iconst X0.here hx rfl (hb hby d9_44) ?_
          exact kk_)
        obtain ⟨fs, hr, hrun, hended, hW, hsame⟩ := X0.leave (v := some (.int (0 : Int32))) (fun h => by rw [Bd.returns] at h; cases h)
        refine ⟨_, _, P12 _ ?_, hrun, hended, _, _, rfl, ?_, ⟨_, rfl⟩, hW, hsame.mono (by decide) (by decide)⟩
        · exact retN X0 hx (t := .boolean) Bd.returns (by simp) (hb hby d9_45) hr
        · show Q_own_ok Z _ h0 n0 _ s₁.heap _
          rw [e0]
          exact ⟨by unfold own_ok; rw [if_neg c2, if_neg c6, if_pos c11], N0, rfl⟩
      · have P13 := own_step (C := s₁.setTop (mkF m 31 #[.val (.int p0), .val (.int (1 : Int32))] [(.int (34 : Int32)), (.int p0)])) P10 (by
          intro tt_ kk_
          refine XS.icmpNo X0.here hx rfl (hb hby d9_25) rfl (feq c11).1 ?_
          refine XS.iloadN X0.here hx rfl (hb hby d9_28) rfl ?_
          refine XS.bipush X0.here hx rfl (hb hby d9_29) ?_
          exact kk_)
        by_cases c14 : p0 = (34 : Int32)
        · have P15 := own_step (C := s₁.setTop (mkF m 45 #[.val (.int p0), .val (.int (1 : Int32))] [(.int (0 : Int32))])) P13 (by
            intro tt_ kk_
            refine XS.icmpYes X0.here hx rfl (pc0 := 31) (pc' := 44) rfl (hb hby d9_31) rfl (teq c14).1 (by decide) (by decide) ?_
            refine XS.iconst X0.here hx rfl (hb hby d9_44) ?_
            exact kk_)
          obtain ⟨fs, hr, hrun, hended, hW, hsame⟩ := X0.leave (v := some (.int (0 : Int32))) (fun h => by rw [Bd.returns] at h; cases h)
          refine ⟨_, _, P15 _ ?_, hrun, hended, _, _, rfl, ?_, ⟨_, rfl⟩, hW, hsame.mono (by decide) (by decide)⟩
          · exact retN X0 hx (t := .boolean) Bd.returns (by simp) (hb hby d9_45) hr
          · show Q_own_ok Z _ h0 n0 _ s₁.heap _
            rw [e0]
            exact ⟨by unfold own_ok; rw [if_neg c2, if_neg c6, if_neg c11, if_pos c14], N0, rfl⟩
        · have P16 := own_step (C := s₁.setTop (mkF m 37 #[.val (.int p0), .val (.int (1 : Int32))] [(.int (92 : Int32)), (.int p0)])) P13 (by
            intro tt_ kk_
            refine XS.icmpNo X0.here hx rfl (hb hby d9_31) rfl (feq c14).1 ?_
            refine XS.iloadN X0.here hx rfl (hb hby d9_34) rfl ?_
            refine XS.bipush X0.here hx rfl (hb hby d9_35) ?_
            exact kk_)
          by_cases c17 : p0 = (92 : Int32)
          · have P18 := own_step (C := s₁.setTop (mkF m 45 #[.val (.int p0), .val (.int (1 : Int32))] [(.int (0 : Int32))])) P16 (by
              intro tt_ kk_
              refine XS.icmpYes X0.here hx rfl (pc0 := 37) (pc' := 44) rfl (hb hby d9_37) rfl (teq c17).1 (by decide) (by decide) ?_
              refine XS.iconst X0.here hx rfl (hb hby d9_44) ?_
              exact kk_)
            obtain ⟨fs, hr, hrun, hended, hW, hsame⟩ := X0.leave (v := some (.int (0 : Int32))) (fun h => by rw [Bd.returns] at h; cases h)
            refine ⟨_, _, P18 _ ?_, hrun, hended, _, _, rfl, ?_, ⟨_, rfl⟩, hW, hsame.mono (by decide) (by decide)⟩
            · exact retN X0 hx (t := .boolean) Bd.returns (by simp) (hb hby d9_45) hr
            · show Q_own_ok Z _ h0 n0 _ s₁.heap _
              rw [e0]
              exact ⟨by unfold own_ok; rw [if_neg c2, if_neg c6, if_neg c11, if_neg c14, if_pos c17], N0, rfl⟩
          · have P19 := own_step (C := s₁.setTop (mkF m 45 #[.val (.int p0), .val (.int (1 : Int32))] [(.int (1 : Int32))])) P16 (by
              intro tt_ kk_
              refine XS.icmpNo X0.here hx rfl (hb hby d9_37) rfl (feq c17).1 ?_
              refine XS.iconst X0.here hx rfl (hb hby d9_40) ?_
              refine XS.goto X0.here hx rfl (pc0 := 41) (pc' := 45) rfl (hb hby d9_41) (by decide) (by decide) ?_
              exact kk_)
            obtain ⟨fs, hr, hrun, hended, hW, hsame⟩ := X0.leave (v := some (.int (1 : Int32))) (fun h => by rw [Bd.returns] at h; cases h)
            refine ⟨_, _, P19 _ ?_, hrun, hended, _, _, rfl, ?_, ⟨_, rfl⟩, hW, hsame.mono (by decide) (by decide)⟩
            · exact retN X0 hx (t := .boolean) Bd.returns (by simp) (hb hby d9_45) hr
            · show Q_own_ok Z _ h0 n0 _ s₁.heap _
              rw [e0]
              exact ⟨by unfold own_ok; rw [if_neg c2, if_neg c6, if_neg c11, if_neg c14, if_neg c17], N0, rfl⟩
theorem d5_0 : decode jdk_42_method_55_code 0 = .ok (.aload_n 0, 1) := by decide +kernel
theorem d5_1 : decode jdk_42_method_55_code 1 = .ok (.getfield 9, 3) := by decide +kernel
theorem d5_4 : decode jdk_42_method_55_code 4 = .ok (.arraylength, 1) := by decide +kernel
theorem d5_5 : decode jdk_42_method_55_code 5 = .ok (.ifCond .ne 7, 3) := by decide +kernel
theorem d5_8 : decode jdk_42_method_55_code 8 = .ok (.iconst 1, 1) := by decide +kernel
theorem d5_9 : decode jdk_42_method_55_code 9 = .ok (.goto 4, 3) := by decide +kernel
theorem d5_13 : decode jdk_42_method_55_code 13 = .ok (.ireturn, 1) := by decide +kernel
theorem ef__emp0 (m : MethodId) (x0 : Addr) : entryFrame m #[(.ref x0)] 1 = mkF m 0 #[.val (.ref x0)] [] := by first | (simp [entryFrame, mkF, argsToLocals, Value.category]; done) | rfl
def Q_emp0 (Z : State) (a : Addr) (b : Addr) (k : ClassId) (vs : List Value) (h0 : Heap) (n0 : Nat) (v_ : Option Value) (h : Heap) (L_ : List Loc) : Prop := v_ = some (.int (1 : Int32)) ∧ Fr n0 L_ ∧ h = h0
theorem pn1 : plainName "java/lang/String" = true := by first | (simp [plainName, overriddenIn]; done) | decide +kernel
set_option maxRecDepth 65536 in
set_option maxHeartbeats 40000000 in
theorem rm_emp0 (l : Launch) (Z : State) (a0 : Array Value) (hw : ∀ d ∈ tables_1, d.before a0 Z = true) (ws : List Jvm.Cond) (a : Addr) (b : Addr) (k : ClassId) (vs : List Value) (h0 : Heap) (n0 : Nat) (Z0 : n0 ≤ h0.size) (Fv : Fld Z h0 a "java/lang/String" "value" "[B" (.ref b)) (Vb : Arv Z h0 b k .byte (0 : Int32) vs (.int 0)) :
    MetFree l (⟨"java/lang/String", "isEmpty", "()Z"⟩ : MethodName) (head1 (Jvm.Cond.code (⟨"java/lang/String", "isEmpty", "()Z"⟩ : MethodName) jdk_42_method_55_code 1 (some .boolean) :: ws) ({ frames := 0, cells := 0, slots := 0, locals := 0 } : Room)) (fun a_ U_ => a_ = #[(.ref a)] ∧ Z.Warmed39 U_.vm ∧ U_.heap = h0) (fun _ _ _ _ _ => True) (fun _ U_ o_ V_ => ∃ v_ L_, o_ = .returned v_ ∧ Q_emp0 Z a b k vs h0 n0 v_ V_.heap L_ ∧ FrameEnd U_ o_ V_ L_ ({ frames := 0, cells := 0, slots := 0, locals := 0 } : Room).cells ({ frames := 0, cells := 0, slots := 0, locals := 0 } : Room).slots) := by
  refine MetFree.of_bodySF (plainFor_of_name pn1) hisR ?_
  intro p e s m args below meth c s₁ Bd hml0 hP hK
  obtain ⟨rfl, hZ, hh⟩ := hP
  have hx := Bd.exec
  have hby := Bd.bytes
  have hml : c.maxLocals = 1 := hml0
  have hown : s.vm.findClass "java/lang/String" = some m.cls := findClass_of_methodNamed Bd.named
  have hnm := (name_of_methodNamed Bd.named Bd.method).1
  have X0 : Stand p l e ({ frames := 0, cells := 0, slots := 0, locals := 0 } : Room) s m #[(.ref a)] below meth c s₁ [] 0 0 := Stand.of_body Bd
  have e0 : s₁.heap = h0 := by rw [← hh, Bd.state]; rfl
  have N0 := Fr.nil n0
  have pre0 : own_Go p e below (s₁.setTop (entryFrame m #[(.ref a)] 1)) (s₁.setTop (mkF m 0 #[.val (.ref a)] [])) := fun t_ k_ => castTop (ef__emp0 m a) k_
  have P1 := own_step (C := s₁.setTop (mkF m 1 #[.val (.ref a)] [(.ref a)])) pre0 (by
    intro tt_ kk_
    refine XS.aloadN X0.here hx rfl (hb hby d5_0) rfl rfl ?_
    exact kk_)
  obtain ⟨T2, X2, e2, st2⟩ := getF X0 hx hZ hown (host := "") (Or.inl (hw _ (List.mem_of_getElem? (i := 20) rfl))) Via.refl e0 Fv (g := (mkF m 1 #[.val (.ref a)] [(.ref a)])) rfl rfl (hb hby d5_1)
  have P3 := own_step (C := T2.setTop (mkF m 4 #[.val (.ref a)] [(.ref b)])) P1 (fun t_ k_ => st2 t_ k_)
  obtain ⟨cl4, Ar4, q4, S4, M4, H4, G4⟩ := id Vb
  have P5 := own_step (C := T2.setTop (mkF m 5 #[.val (.ref a)] [(.int (0 : Int32))])) P3 (by
    intro tt_ kk_
    refine X2.arraylength hx (by rw [e2]; exact Ar4.1) (State.isArrayOf_alike hZ.alike Ar4.2.1) (g := (mkF m 4 #[.val (.ref a)] [(.ref b)])) rfl rfl (hb hby d5_4) _ ?_
    rw [len_of S4 M4]
    exact kk_)
  have P6 := own_step (C := T2.setTop (mkF m 13 #[.val (.ref a)] [(.int (1 : Int32))])) P5 (by
    intro tt_ kk_
    refine XS.ifNo X2.here hx rfl (hb hby d5_5) rfl ((if0 _ _).trans (teq (by decide : (0 : Int32) = (0 : Int32))).2) ?_
    refine XS.iconst X2.here hx rfl (hb hby d5_8) ?_
    refine XS.goto X2.here hx rfl (pc0 := 9) (pc' := 13) rfl (hb hby d5_9) (by decide) (by decide) ?_
    exact kk_)
  obtain ⟨fs, hr, hrun, hended, hW, hsame⟩ := X2.leave (v := some (.int (1 : Int32))) (fun h => by rw [Bd.returns] at h; cases h)
  refine ⟨_, _, P6 _ ?_, hrun, hended, _, _, rfl, ?_, ⟨_, rfl⟩, hW, hsame.mono (by decide) (by decide)⟩
  · exact retN X2 hx (t := .boolean) Bd.returns (by simp) (hb hby d5_13) hr
  · show Q_emp0 Z _ _ _ _ h0 n0 _ T2.heap _
    rw [e2]
    exact ⟨rfl, N0, rfl⟩
theorem pd0 : parseMethodDescriptor "()Z" = some ⟨[], some .boolean⟩ := by decide +kernel
theorem d4_0 : decode prog_5_method_2_code 0 = .ok (.aload_n 0, 1) := by decide +kernel
theorem d4_1 : decode prog_5_method_2_code 1 = .ok (.invokevirtual 7, 3) := by decide +kernel
theorem d4_4 : decode prog_5_method_2_code 4 = .ok (.ifCond .eq 5, 3) := by decide +kernel
theorem d4_7 : decode prog_5_method_2_code 7 = .ok (.iconst 0, 1) := by decide +kernel
theorem d4_8 : decode prog_5_method_2_code 8 = .ok (.ireturn, 1) := by decide +kernel
theorem ef__tok0 (m : MethodId) (x0 : Addr) : entryFrame m #[(.ref x0)] 3 = mkF m 0 #[.val (.ref x0), .unset, .unset] [] := by first | (simp [entryFrame, mkF, argsToLocals, Value.category]; done) | rfl
def Q_tok0 (Z : State) (a : Addr) (xb : Addr) (kk : ClassId) (fm : Value) (cs : Int32) (h0 : Heap) (n0 : Nat) (v_ : Option Value) (h : Heap) (L_ : List Loc) : Prop := v_ = some (.int (0 : Int32)) ∧ Fr n0 L_ ∧ h = h0
theorem pn2 : plainName "com/example/issuant/issuant/config/Scopes" = true := by first | (simp [plainName, overriddenIn]; done) | decide +kernel
set_option maxRecDepth 65536 in
set_option maxHeartbeats 40000000 in
theorem rm_tok0 (l : Launch) (Z : State) (a0 : Array Value) (hw : ∀ d ∈ tables_1, d.before a0 Z = true) (ws : List Jvm.Cond) (a : Addr) (xb : Addr) (kk : ClassId) (fm : Value) (cs : Int32) (h0 : Heap) (n0 : Nat) (Z0 : n0 ≤ h0.size) (O : Old Z n0 h0) (Scs : Sta Z Z.heap "java/lang/String" "COMPACT_STRINGS" "Z" (.int cs)) (hcs : ¬ (cs = (0 : Int32))) (Sad : Sta Z Z.heap "java/lang/StringUTF16" "$assertionsDisabled" "Z" (.int (1 : Int32))) (Shi : Sta Z Z.heap "java/lang/StringUTF16" "HI_BYTE_SHIFT" "I" (.int (0 : Int32))) (Slo : Sta Z Z.heap "java/lang/StringUTF16" "LO_BYTE_SHIFT" "I" (.int (8 : Int32))) (Sfm : Sta Z Z.heap "jdk/internal/util/Preconditions" "SIOOBE_FORMATTER" "Ljava/util/function/BiFunction;" fm) (hfm : fm.category = 1) (Fv : Fld Z h0 a "java/lang/String" "value" "[B" (.ref xb)) (Vb : Arv Z h0 xb kk .byte (0 : Int32) [] (.int 0)) (Ea : Exa Z h0 a "java/lang/String") :
    MetFree l (⟨"com/example/issuant/issuant/config/Scopes", "isToken", "(Ljava/lang/String;)Z"⟩ : MethodName) (head1 (Jvm.Cond.code (⟨"com/example/issuant/issuant/config/Scopes", "isToken", "(Ljava/lang/String;)Z"⟩ : MethodName) prog_5_method_2_code 3 (some .boolean) :: ws) ({ frames := 1, cells := 0, slots := 0, locals := 12 } : Room)) (fun a_ U_ => a_ = #[(.ref a)] ∧ Z.Warmed39 U_.vm ∧ U_.heap = h0) (fun _ _ _ _ _ => True) (fun _ U_ o_ V_ => ∃ v_ L_, o_ = .returned v_ ∧ Q_tok0 Z a xb kk fm cs h0 n0 v_ V_.heap L_ ∧ FrameEnd U_ o_ V_ L_ ({ frames := 1, cells := 0, slots := 0, locals := 12 } : Room).cells ({ frames := 1, cells := 0, slots := 0, locals := 12 } : Room).slots) := by
  refine MetFree.of_bodySF (plainFor_of_name pn2) hisR ?_
  intro p e s m args below meth c s₁ Bd hml0 hP hK
  obtain ⟨rfl, hZ, hh⟩ := hP
  have hx := Bd.exec
  have hby := Bd.bytes
  have hml : c.maxLocals = 3 := hml0
  have hown : s.vm.findClass "com/example/issuant/issuant/config/Scopes" = some m.cls := findClass_of_methodNamed Bd.named
  have hnm := (name_of_methodNamed Bd.named Bd.method).1
  have X0 : Stand p l e ({ frames := 1, cells := 0, slots := 0, locals := 12 } : Room) s m #[(.ref a)] below meth c s₁ [] 0 0 := Stand.of_body Bd
  have e0 : s₁.heap = h0 := by rw [← hh, Bd.state]; rfl
  have N0 := Fr.nil n0
  have pre0 : own_Go p e below (s₁.setTop (entryFrame m #[(.ref a)] 3)) (s₁.setTop (mkF m 0 #[.val (.ref a), .unset, .unset] [])) := fun t_ k_ => castTop (ef__tok0 m a) k_
  have P1 := own_step (C := s₁.setTop (mkF m 1 #[.val (.ref a), .unset, .unset] [(.ref a)])) pre0 (by
    intro tt_ kk_
    refine XS.aloadN X0.here hx rfl (hb hby d4_0) rfl rfl ?_
    exact kk_)
  obtain ⟨cq2, kq2, q2a, q2b, q2c⟩ := isOf hZ e0 Ea
  obtain ⟨_, _, ⟨T2, L2, k2, n2⟩, -, X2, ⟨Lc2, hQ2, l2, y2, z2⟩, st2⟩ := X0.virtualBack hx (y := (⟨"java/lang/String", "isEmpty", "()Z"⟩ : MethodName)) (z := (⟨"java/lang/String", "isEmpty", "()Z"⟩ : MethodName)) hown (mvT hZ (hw _ (List.mem_of_getElem? (i := 26) rfl))) (mvT hZ (hw _ (List.mem_of_getElem? (i := 27) rfl))) (notFace_of_selects (args := #[]) (mvT hZ (hw _ (List.mem_of_getElem? (i := 29) rfl)))) (mvT hZ (hw _ (List.mem_of_getElem? (i := 29) rfl))) (mvT hZ (hw _ (List.mem_of_getElem? (i := 28) rfl))) (by decide) (backOf (W := 0) (rm_emp0 l Z a0 hw [] a xb kk _ h0 n0 Z0 Fv Vb) hZ (hw _ (List.mem_of_getElem? (i := 30) rfl)) (hw _ (List.mem_of_getElem? (i := 2) rfl)) (by decide) (by decide)) q2a q2c (g := (mkF m 1 #[.val (.ref a), .unset, .unset] [(.ref a)])) rfl (by rw [hml]; rfl) (Steps.refl _) (argsL := []) (rest := []) (lenOf pd0 rfl) rfl (by show 2 * 0 + _ ≤ _; exact Nat.le_of_eq rfl) (hb hby d4_1) (fun _ _ => ⟨rfl, e0, (by decide : 0 + 0 ≤ _), (by decide : 0 + 0 ≤ _)⟩)
  dsimp only [Pt.U, Pt.locs, Pt.cells, Pt.slots] at X2 l2 y2 z2 st2 hQ2
  subst l2 y2 z2
  obtain ⟨rfl, N2q, e2⟩ := hQ2
  have N2 := Fr.app N0 N2q
  have P3 := own_step (C := T2.setTop (mkF m 4 #[.val (.ref a), .unset, .unset] [(.int (1 : Int32))])) P1 (fun t_ k_ => st2.trans k_)
  have P4 := own_step (C := T2.setTop (mkF m 8 #[.val (.ref a), .unset, .unset] [(.int (0 : Int32))])) P3 (by
    intro tt_ kk_
    refine XS.ifNo X2.here hx rfl (hb hby d4_4) rfl ((if0 _ _).trans (feq (by decide : ¬ ((1 : Int32) = (0 : Int32)))).1) ?_
    refine XS.iconst X2.here hx rfl (hb hby d4_7) ?_
    exact kk_)
  obtain ⟨fs, hr, hrun, hended, hW, hsame⟩ := X2.leave (v := some (.int (0 : Int32))) (fun h => by rw [Bd.returns] at h; cases h)
  refine ⟨_, _, P4 _ ?_, hrun, hended, _, _, rfl, ?_, ⟨_, rfl⟩, hW, hsame.mono (by decide) (by decide)⟩
  · exact retN X2 hx (t := .boolean) Bd.returns (by simp) (hb hby d4_8) hr
  · show Q_tok0 Z _ _ _ _ _ h0 n0 _ T2.heap _
    rw [e2]
    exact ⟨rfl, N2, rfl⟩
def own_tok1 (c0 : Int32) : Int32 := (if c0 < (33 : Int32) then (0 : Int32) else (if (126 : Int32) < c0 then (0 : Int32) else (if c0 = (34 : Int32) then (0 : Int32) else (if c0 = (92 : Int32) then (0 : Int32) else (1 : Int32)))))
theorem d5_12 : decode jdk_42_method_55_code 12 = .ok (.iconst 0, 1) := by decide +kernel
theorem ef__empS (m : MethodId) (x0 : Addr) : entryFrame m #[(.ref x0)] 1 = mkF m 0 #[.val (.ref x0)] [] := by first | (simp [entryFrame, mkF, argsToLocals, Value.category]; done) | rfl
def Q_empS (Z : State) (a : Addr) (nq : Int32) (cl : List Int32) (h0 : Heap) (n0 : Nat) (v_ : Option Value) (h : Heap) (L_ : List Loc) : Prop := v_ = some (.int (0 : Int32)) ∧ Fr n0 L_ ∧ h = h0
set_option maxRecDepth 65536 in
set_option maxHeartbeats 40000000 in
theorem rm_empS (l : Launch) (Z : State) (a0 : Array Value) (hw : ∀ d ∈ tables_1, d.before a0 Z = true) (ws : List Jvm.Cond) (a : Addr) (nq : Int32) (cl : List Int32) (h0 : Heap) (n0 : Nat) (Z0 : n0 ≤ h0.size) (HS : own_S Z h0 a nq cl) (hn0 : 0 < nq.toInt) (hn1 : nq.toInt < 1000) :
    MetFree l (⟨"java/lang/String", "isEmpty", "()Z"⟩ : MethodName) (head1 (Jvm.Cond.code (⟨"java/lang/String", "isEmpty", "()Z"⟩ : MethodName) jdk_42_method_55_code 1 (some .boolean) :: ws) ({ frames := 0, cells := 0, slots := 0, locals := 0 } : Room)) (fun a_ U_ => a_ = #[(.ref a)] ∧ Z.Warmed39 U_.vm ∧ U_.heap = h0) (fun _ _ _ _ _ => True) (fun _ U_ o_ V_ => ∃ v_ L_, o_ = .returned v_ ∧ Q_empS Z a nq cl h0 n0 v_ V_.heap L_ ∧ FrameEnd U_ o_ V_ L_ ({ frames := 0, cells := 0, slots := 0, locals := 0 } : Room).cells ({ frames := 0, cells := 0, slots := 0, locals := 0 } : Room).slots) := by
  refine MetFree.of_bodySF (plainFor_of_name pn1) hisR ?_
  intro p e s m args below meth c s₁ Bd hml0 hP hK
  obtain ⟨rfl, hZ, hh⟩ := hP
  have hx := Bd.exec
  have hby := Bd.bytes
  have hml : c.maxLocals = 1 := hml0
  have hown : s.vm.findClass "java/lang/String" = some m.cls := findClass_of_methodNamed Bd.named
  have hnm := (name_of_methodNamed Bd.named Bd.method).1
  have X0 : Stand p l e ({ frames := 0, cells := 0, slots := 0, locals := 0 } : Room) s m #[(.ref a)] below meth c s₁ [] 0 0 := Stand.of_body Bd
  have e0 : s₁.heap = h0 := by rw [← hh, Bd.state]; rfl
  have N0 := Fr.nil n0
  have pre0 : own_Go p e below (s₁.setTop (entryFrame m #[(.ref a)] 1)) (s₁.setTop (mkF m 0 #[.val (.ref a)] [])) := fun t_ k_ => castTop (ef__empS m a) k_
  obtain ⟨xb, kk, Ea, Fv, HS'⟩ := HS
  rcases HS' with ⟨hL, Fc, Vb⟩ | ⟨Fc, Vb⟩
  · have P1 := own_step (C := s₁.setTop (mkF m 1 #[.val (.ref a)] [(.ref a)])) pre0 (by
      intro tt_ kk_
      refine XS.aloadN X0.here hx rfl (hb hby d5_0) rfl rfl ?_
      exact kk_)
    obtain ⟨T2, X2, e2, st2⟩ := getF X0 hx hZ hown (host := "") (Or.inl (hw _ (List.mem_of_getElem? (i := 20) rfl))) Via.refl e0 Fv (g := (mkF m 1 #[.val (.ref a)] [(.ref a)])) rfl rfl (hb hby d5_1)
    have P3 := own_step (C := T2.setTop (mkF m 4 #[.val (.ref a)] [(.ref xb)])) P1 (fun t_ k_ => st2 t_ k_)
    obtain ⟨cl4, Ar4, q4, S4, M4, H4, G4⟩ := id Vb
    have P5 := own_step (C := T2.setTop (mkF m 5 #[.val (.ref a)] [(.int nq)])) P3 (by
      intro tt_ kk_
      refine X2.arraylength hx (by rw [e2]; exact Ar4.1) (State.isArrayOf_alike hZ.alike Ar4.2.1) (g := (mkF m 4 #[.val (.ref a)] [(.ref xb)])) rfl rfl (hb hby d5_4) _ ?_
      rw [len_of S4 M4]
      exact kk_)
    have P6 := own_step (C := T2.setTop (mkF m 13 #[.val (.ref a)] [(.int (0 : Int32))])) P5 (by
      intro tt_ kk_
      refine XS.ifYes X2.here hx rfl (pc0 := 5) (pc' := 12) rfl (hb hby d5_5) rfl ((if0 _ _).trans (feq (own_nz hn0)).2) (by decide) (by decide) ?_
      refine XS.iconst X2.here hx rfl (hb hby d5_12) ?_
      exact kk_)
    obtain ⟨fs, hr, hrun, hended, hW, hsame⟩ := X2.leave (v := some (.int (0 : Int32))) (fun h => by rw [Bd.returns] at h; cases h)
    refine ⟨_, _, P6 _ ?_, hrun, hended, _, _, rfl, ?_, ⟨_, rfl⟩, hW, hsame.mono (by decide) (by decide)⟩
    · exact retN X2 hx (t := .boolean) Bd.returns (by simp) (hb hby d5_13) hr
    · show Q_empS Z _ _ _ h0 n0 _ T2.heap _
      rw [e2]
      exact ⟨rfl, N0, rfl⟩
  · have P7 := own_step (C := s₁.setTop (mkF m 1 #[.val (.ref a)] [(.ref a)])) pre0 (by
      intro tt_ kk_
      refine XS.aloadN X0.here hx rfl (hb hby d5_0) rfl rfl ?_
      exact kk_)
    obtain ⟨T8, X8, e8, st8⟩ := getF X0 hx hZ hown (host := "") (Or.inl (hw _ (List.mem_of_getElem? (i := 20) rfl))) Via.refl e0 Fv (g := (mkF m 1 #[.val (.ref a)] [(.ref a)])) rfl rfl (hb hby d5_1)
    have P9 := own_step (C := T8.setTop (mkF m 4 #[.val (.ref a)] [(.ref xb)])) P7 (fun t_ k_ => st8 t_ k_)
    obtain ⟨cl10, Ar10, q10, S10, M10, H10, G10⟩ := id Vb
    have P11 := own_step (C := T8.setTop (mkF m 5 #[.val (.ref a)] [(.int (nq + nq))])) P9 (by
      intro tt_ kk_
      refine X8.arraylength hx (by rw [e8]; exact Ar10.1) (State.isArrayOf_alike hZ.alike Ar10.2.1) (g := (mkF m 4 #[.val (.ref a)] [(.ref xb)])) rfl rfl (hb hby d5_4) _ ?_
      rw [len_of S10 M10]
      exact kk_)
    have P12 := own_step (C := T8.setTop (mkF m 13 #[.val (.ref a)] [(.int (0 : Int32))])) P11 (by
      intro tt_ kk_
      refine XS.ifYes X8.here hx rfl (pc0 := 5) (pc' := 12) rfl (hb hby d5_5) rfl ((if0 _ _).trans (feq (own_nz2 hn0 hn1)).2) (by decide) (by decide) ?_
      refine XS.iconst X8.here hx rfl (hb hby d5_12) ?_
      exact kk_)
    obtain ⟨fs, hr, hrun, hended, hW, hsame⟩ := X8.leave (v := some (.int (0 : Int32))) (fun h => by rw [Bd.returns] at h; cases h)
    refine ⟨_, _, P12 _ ?_, hrun, hended, _, _, rfl, ?_, ⟨_, rfl⟩, hW, hsame.mono (by decide) (by decide)⟩
    · exact retN X8 hx (t := .boolean) Bd.returns (by simp) (hb hby d5_13) hr
    · show Q_empS Z _ _ _ h0 n0 _ T8.heap _
      rw [e8]
      exact ⟨rfl, N0, rfl⟩
theorem d11_0 : decode jdk_42_method_152_code 0 = .ok (.getstatic 38, 3) := by decide +kernel
theorem d11_3 : decode jdk_42_method_152_code 3 = .ok (.ifCond .eq 10, 3) := by decide +kernel
theorem d11_6 : decode jdk_42_method_152_code 6 = .ok (.aload_n 0, 1) := by decide +kernel
theorem d11_7 : decode jdk_42_method_152_code 7 = .ok (.getfield 15, 3) := by decide +kernel
theorem d11_10 : decode jdk_42_method_152_code 10 = .ok (.goto 4, 3) := by decide +kernel
theorem d11_14 : decode jdk_42_method_152_code 14 = .ok (.ireturn, 1) := by decide +kernel
theorem ef__coder0 (m : MethodId) (x0 : Addr) : entryFrame m #[(.ref x0)] 1 = mkF m 0 #[.val (.ref x0)] [] := by first | (simp [entryFrame, mkF, argsToLocals, Value.category]; done) | rfl
def Q_coder0 (Z : State) (a : Addr) (cs : Int32) (h0 : Heap) (n0 : Nat) (v_ : Option Value) (h : Heap) (L_ : List Loc) : Prop := v_ = some (.int (0 : Int32)) ∧ Fr n0 L_ ∧ h = h0
set_option maxRecDepth 65536 in
set_option maxHeartbeats 40000000 in
theorem rm_coder0 (l : Launch) (Z : State) (a0 : Array Value) (hw : ∀ d ∈ tables_1, d.before a0 Z = true) (ws : List Jvm.Cond) (a : Addr) (cs : Int32) (h0 : Heap) (n0 : Nat) (Z0 : n0 ≤ h0.size) (O : Old Z n0 h0) (Scs : Sta Z Z.heap "java/lang/String" "COMPACT_STRINGS" "Z" (.int cs)) (hcs : ¬ (cs = (0 : Int32))) (Fc : Fld Z h0 a "java/lang/String" "coder" "B" (.int (0 : Int32))) :
    MetFree l (⟨"java/lang/String", "coder", "()B"⟩ : MethodName) (head1 (Jvm.Cond.code (⟨"java/lang/String", "coder", "()B"⟩ : MethodName) jdk_42_method_152_code 1 (some .byte) :: ws) ({ frames := 0, cells := 0, slots := 0, locals := 0 } : Room)) (fun a_ U_ => a_ = #[(.ref a)] ∧ Z.Warmed39 U_.vm ∧ U_.heap = h0) (fun _ _ _ _ _ => True) (fun _ U_ o_ V_ => ∃ v_ L_, o_ = .returned v_ ∧ Q_coder0 Z a cs h0 n0 v_ V_.heap L_ ∧ FrameEnd U_ o_ V_ L_ ({ frames := 0, cells := 0, slots := 0, locals := 0 } : Room).cells ({ frames := 0, cells := 0, slots := 0, locals := 0 } : Room).slots) := by
  refine MetFree.of_bodySF (plainFor_of_name pn1) hisR ?_
  intro p e s m args below meth c s₁ Bd hml0 hP hK
  obtain ⟨rfl, hZ, hh⟩ := hP
  have hx := Bd.exec
  have hby := Bd.bytes
  have hml : c.maxLocals = 1 := hml0
  have hown : s.vm.findClass "java/lang/String" = some m.cls := findClass_of_methodNamed Bd.named
  have hnm := (name_of_methodNamed Bd.named Bd.method).1
  have X0 : Stand p l e ({ frames := 0, cells := 0, slots := 0, locals := 0 } : Room) s m #[(.ref a)] below meth c s₁ [] 0 0 := Stand.of_body Bd
  have e0 : s₁.heap = h0 := by rw [← hh, Bd.state]; rfl
  have N0 := Fr.nil n0
  have pre0 : own_Go p e below (s₁.setTop (entryFrame m #[(.ref a)] 1)) (s₁.setTop (mkF m 0 #[.val (.ref a)] [])) := fun t_ k_ => castTop (ef__coder0 m a) k_
  obtain ⟨T1, X1, e1, st1⟩ := getS2 X0 hx hZ hown (host := "") (Or.inl (hw _ (List.mem_of_getElem? (i := 31) rfl))) Via.refl e0 (Scs.ext O.2) (g := (mkF m 0 #[.val (.ref a)] [])) rfl (hb hby d11_0)
  have P2 := own_step (C := T1.setTop (mkF m 3 #[.val (.ref a)] [(.int cs)])) pre0 (fun t_ k_ => st1 t_ k_)
  have P3 := own_step (C := T1.setTop (mkF m 7 #[.val (.ref a)] [(.ref a)])) P2 (by
    intro tt_ kk_
    refine XS.ifNo X1.here hx rfl (hb hby d11_3) rfl ((if0 _ _).trans (feq hcs).1) ?_
    refine XS.aloadN X1.here hx rfl (hb hby d11_6) rfl rfl ?_
    exact kk_)
  obtain ⟨T4, X4, e4, st4⟩ := getF X1 hx hZ hown (host := "") (Or.inl (hw _ (List.mem_of_getElem? (i := 21) rfl))) Via.refl e1 Fc (g := (mkF m 7 #[.val (.ref a)] [(.ref a)])) rfl rfl (hb hby d11_7)
  have P5 := own_step (C := T4.setTop (mkF m 10 #[.val (.ref a)] [(.int (0 : Int32))])) P3 (fun t_ k_ => st4 t_ k_)
  have P6 := own_step (C := T4.setTop (mkF m 14 #[.val (.ref a)] [(.int (0 : Int32))])) P5 (by
    intro tt_ kk_
    refine XS.goto X4.here hx rfl (pc0 := 10) (pc' := 14) rfl (hb hby d11_10) (by decide) (by decide) ?_
    exact kk_)
  obtain ⟨fs, hr, hrun, hended, hW, hsame⟩ := X4.leave (v := some (.int (0 : Int32))) (fun h => by rw [Bd.returns] at h; cases h)
  refine ⟨_, _, P6 _ ?_, hrun, hended, _, _, rfl, ?_, ⟨_, rfl⟩, hW, hsame.mono (by decide) (by decide)⟩
  · exact retN X4 hx (t := .byte) Bd.returns (by simp) (hb hby d11_14) hr
  · show Q_coder0 Z _ _ h0 n0 _ T4.heap _
    rw [e4]
    exact ⟨rfl, N0, rfl⟩
theorem ef__coder1 (m : MethodId) (x0 : Addr) : entryFrame m #[(.ref x0)] 1 = mkF m 0 #[.val (.ref x0)] [] := by first | (simp [entryFrame, mkF, argsToLocals, Value.category]; done) | rfl
def Q_coder1 (Z : State) (a : Addr) (cs : Int32) (h0 : Heap) (n0 : Nat) (v_ : Option Value) (h : Heap) (L_ : List Loc) : Prop := v_ = some (.int (1 : Int32)) ∧ Fr n0 L_ ∧ h = h0
set_option maxRecDepth 65536 in
set_option maxHeartbeats 40000000 in
theorem rm_coder1 (l : Launch) (Z : State) (a0 : Array Value) (hw : ∀ d ∈ tables_1, d.before a0 Z = true) (ws : List Jvm.Cond) (a : Addr) (cs : Int32) (h0 : Heap) (n0 : Nat) (Z0 : n0 ≤ h0.size) (O : Old Z n0 h0) (Scs : Sta Z Z.heap "java/lang/String" "COMPACT_STRINGS" "Z" (.int cs)) (hcs : ¬ (cs = (0 : Int32))) (Fc : Fld Z h0 a "java/lang/String" "coder" "B" (.int (1 : Int32))) :
    MetFree l (⟨"java/lang/String", "coder", "()B"⟩ : MethodName) (head1 (Jvm.Cond.code (⟨"java/lang/String", "coder", "()B"⟩ : MethodName) jdk_42_method_152_code 1 (some .byte) :: ws) ({ frames := 0, cells := 0, slots := 0, locals := 0 } : Room)) (fun a_ U_ => a_ = #[(.ref a)] ∧ Z.Warmed39 U_.vm ∧ U_.heap = h0) (fun _ _ _ _ _ => True) (fun _ U_ o_ V_ => ∃ v_ L_, o_ = .returned v_ ∧ Q_coder1 Z a cs h0 n0 v_ V_.heap L_ ∧ FrameEnd U_ o_ V_ L_ ({ frames := 0, cells := 0, slots := 0, locals := 0 } : Room).cells ({ frames := 0, cells := 0, slots := 0, locals := 0 } : Room).slots) := by
  refine MetFree.of_bodySF (plainFor_of_name pn1) hisR ?_
  intro p e s m args below meth c s₁ Bd hml0 hP hK
  obtain ⟨rfl, hZ, hh⟩ := hP
  have hx := Bd.exec
  have hby := Bd.bytes
  have hml : c.maxLocals = 1 := hml0
  have hown : s.vm.findClass "java/lang/String" = some m.cls := findClass_of_methodNamed Bd.named
  have hnm := (name_of_methodNamed Bd.named Bd.method).1
  have X0 : Stand p l e ({ frames := 0, cells := 0, slots := 0, locals := 0 } : Room) s m #[(.ref a)] below meth c s₁ [] 0 0 := Stand.of_body Bd
  have e0 : s₁.heap = h0 := by rw [← hh, Bd.state]; rfl
  have N0 := Fr.nil n0
  have pre0 : own_Go p e below (s₁.setTop (entryFrame m #[(.ref a)] 1)) (s₁.setTop (mkF m 0 #[.val (.ref a)] [])) := fun t_ k_ => castTop (ef__coder1 m a) k_
  obtain ⟨T1, X1, e1, st1⟩ := getS2 X0 hx hZ hown (host := "") (Or.inl (hw _ (List.mem_of_getElem? (i := 31) rfl))) Via.refl e0 (Scs.ext O.2) (g := (mkF m 0 #[.val (.ref a)] [])) rfl (hb hby d11_0)
  have P2 := own_step (C := T1.setTop (mkF m 3 #[.val (.ref a)] [(.int cs)])) pre0 (fun t_ k_ => st1 t_ k_)
  have P3 := own_step (C := T1.setTop (mkF m 7 #[.val (.ref a)] [(.ref a)])) P2 (by
    intro tt_ kk_
    refine XS.ifNo X1.here hx rfl (hb hby d11_3) rfl ((if0 _ _).trans (feq hcs).1) ?_
    refine XS.aloadN X1.here hx rfl (hb hby d11_6) rfl rfl ?_
    exact kk_)
  obtain ⟨T4, X4, e4, st4⟩ := getF X1 hx hZ hown (host := "") (Or.inl (hw _ (List.mem_of_getElem? (i := 21) rfl))) Via.refl e1 Fc (g := (mkF m 7 #[.val (.ref a)] [(.ref a)])) rfl rfl (hb hby d11_7)
  have P5 := own_step (C := T4.setTop (mkF m 10 #[.val (.ref a)] [(.int (1 : Int32))])) P3 (fun t_ k_ => st4 t_ k_)
  have P6 := own_step (C := T4.setTop (mkF m 14 #[.val (.ref a)] [(.int (1 : Int32))])) P5 (by
    intro tt_ kk_
    refine XS.goto X4.here hx rfl (pc0 := 10) (pc' := 14) rfl (hb hby d11_10) (by decide) (by decide) ?_
    exact kk_)
  obtain ⟨fs, hr, hrun, hended, hW, hsame⟩ := X4.leave (v := some (.int (1 : Int32))) (fun h => by rw [Bd.returns] at h; cases h)
  refine ⟨_, _, P6 _ ?_, hrun, hended, _, _, rfl, ?_, ⟨_, rfl⟩, hW, hsame.mono (by decide) (by decide)⟩
  · exact retN X4 hx (t := .byte) Bd.returns (by simp) (hb hby d11_14) hr
  · show Q_coder1 Z _ _ h0 n0 _ T4.heap _
    rw [e4]
    exact ⟨rfl, N0, rfl⟩
theorem pd1 : parseMethodDescriptor "()B" = some ⟨[], some .byte⟩ := by decide +kernel
theorem d10_0 : decode jdk_42_method_54_code 0 = .ok (.aload_n 0, 1) := by decide +kernel
theorem d10_1 : decode jdk_42_method_54_code 1 = .ok (.getfield 9, 3) := by decide +kernel
theorem d10_4 : decode jdk_42_method_54_code 4 = .ok (.arraylength, 1) := by decide +kernel
theorem d10_5 : decode jdk_42_method_54_code 5 = .ok (.aload_n 0, 1) := by decide +kernel
theorem d10_6 : decode jdk_42_method_54_code 6 = .ok (.invokevirtual 335, 3) := by decide +kernel
theorem d10_9 : decode jdk_42_method_54_code 9 = .ok (.ishr, 1) := by decide +kernel
theorem d10_10 : decode jdk_42_method_54_code 10 = .ok (.ireturn, 1) := by decide +kernel
theorem ef__lenS (m : MethodId) (x0 : Addr) : entryFrame m #[(.ref x0)] 1 = mkF m 0 #[.val (.ref x0)] [] := by first | (simp [entryFrame, mkF, argsToLocals, Value.category]; done) | rfl
def Q_lenS (Z : State) (a : Addr) (nq : Int32) (cl : List Int32) (cs : Int32) (h0 : Heap) (n0 : Nat) (v_ : Option Value) (h : Heap) (L_ : List Loc) : Prop := v_ = some (.int nq) ∧ Fr n0 L_ ∧ h = h0
set_option maxRecDepth 65536 in
set_option maxHeartbeats 40000000 in
theorem rm_lenS (l : Launch) (Z : State) (a0 : Array Value) (hw : ∀ d ∈ tables_1, d.before a0 Z = true) (ws : List Jvm.Cond) (a : Addr) (nq : Int32) (cl : List Int32) (cs : Int32) (h0 : Heap) (n0 : Nat) (Z0 : n0 ≤ h0.size) (O : Old Z n0 h0) (Scs : Sta Z Z.heap "java/lang/String" "COMPACT_STRINGS" "Z" (.int cs)) (hcs : ¬ (cs = (0 : Int32))) (HS : own_S Z h0 a nq cl) (hn0 : 0 < nq.toInt) (hn1 : nq.toInt < 1000) :
    MetFree l (⟨"java/lang/String", "length", "()I"⟩ : MethodName) (head1 (Jvm.Cond.code (⟨"java/lang/String", "length", "()I"⟩ : MethodName) jdk_42_method_54_code 1 (some .int) :: ws) ({ frames := 1, cells := 0, slots := 0, locals := 13 } : Room)) (fun a_ U_ => a_ = #[(.ref a)] ∧ Z.Warmed39 U_.vm ∧ U_.heap = h0) (fun _ _ _ _ _ => True) (fun _ U_ o_ V_ => ∃ v_ L_, o_ = .returned v_ ∧ Q_lenS Z a nq cl cs h0 n0 v_ V_.heap L_ ∧ FrameEnd U_ o_ V_ L_ ({ frames := 1, cells := 0, slots := 0, locals := 13 } : Room).cells ({ frames := 1, cells := 0, slots := 0, locals := 13 } : Room).slots) := by
  refine MetFree.of_bodySF (plainFor_of_name pn1) hisR ?_
  intro p e s m args below meth c s₁ Bd hml0 hP hK
  obtain ⟨rfl, hZ, hh⟩ := hP
  have hx := Bd.exec
  have hby := Bd.bytes
  have hml : c.maxLocals = 1 := hml0
  have hown : s.vm.findClass "java/lang/String" = some m.cls := findClass_of_methodNamed Bd.named
  have hnm := (name_of_methodNamed Bd.named Bd.method).1
  have X0 : Stand p l e ({ frames := 1, cells := 0, slots := 0, locals := 13 } : Room) s m #[(.ref a)] below meth c s₁ [] 0 0 := Stand.of_body Bd
  have e0 : s₁.heap = h0 := by rw [← hh, Bd.state]; rfl
  have N0 := Fr.nil n0
  have pre0 : own_Go p e below (s₁.setTop (entryFrame m #[(.ref a)] 1)) (s₁.setTop (mkF m 0 #[.val (.ref a)] [])) := fun t_ k_ => castTop (ef__lenS m a) k_
  obtain ⟨xb, kk, Ea, Fv, HS'⟩ := HS
  rcases HS' with ⟨hL, Fc, Vb⟩ | ⟨Fc, Vb⟩
  · have P1 := own_step (C := s₁.setTop (mkF m 1 #[.val (.ref a)] [(.ref a)])) pre0 (by
      intro tt_ kk_
      refine XS.aloadN X0.here hx rfl (hb hby d10_0) rfl rfl ?_
      exact kk_)
    obtain ⟨T2, X2, e2, st2⟩ := getF X0 hx hZ hown (host := "") (Or.inl (hw _ (List.mem_of_getElem? (i := 20) rfl))) Via.refl e0 Fv (g := (mkF m 1 #[.val (.ref a)] [(.ref a)])) rfl rfl (hb hby d10_1)
    have P3 := own_step (C := T2.setTop (mkF m 4 #[.val (.ref a)] [(.ref xb)])) P1 (fun t_ k_ => st2 t_ k_)
    obtain ⟨cl4, Ar4, q4, S4, M4, H4, G4⟩ := id Vb
    have P5 := own_step (C := T2.setTop (mkF m 5 #[.val (.ref a)] [(.int nq)])) P3 (by
      intro tt_ kk_
      refine X2.arraylength hx (by rw [e2]; exact Ar4.1) (State.isArrayOf_alike hZ.alike Ar4.2.1) (g := (mkF m 4 #[.val (.ref a)] [(.ref xb)])) rfl rfl (hb hby d10_4) _ ?_
      rw [len_of S4 M4]
      exact kk_)
    have P6 := own_step (C := T2.setTop (mkF m 6 #[.val (.ref a)] [(.ref a), (.int nq)])) P5 (by
      intro tt_ kk_
      refine XS.aloadN X2.here hx rfl (hb hby d10_5) rfl rfl ?_
      exact kk_)
    obtain ⟨cq7, kq7, q7a, q7b, q7c⟩ := isOf hZ e2 Ea
    obtain ⟨_, _, ⟨T7, L7, k7, n7⟩, -, X7, ⟨Lc7, hQ7, l7, y7, z7⟩, st7⟩ := X2.virtualBack hx (y := (⟨"java/lang/String", "coder", "()B"⟩ : MethodName)) (z := (⟨"java/lang/String", "coder", "()B"⟩ : MethodName)) hown (mvT hZ (hw _ (List.mem_of_getElem? (i := 51) rfl))) (mvT hZ (hw _ (List.mem_of_getElem? (i := 52) rfl))) (notFace_of_selects (args := #[]) (mvT hZ (hw _ (List.mem_of_getElem? (i := 54) rfl)))) (mvT hZ (hw _ (List.mem_of_getElem? (i := 54) rfl))) (mvT hZ (hw _ (List.mem_of_getElem? (i := 53) rfl))) (by decide) (backOf (W := 1) (rm_coder0 l Z a0 hw [] a cs h0 n0 Z0 O Scs hcs Fc) hZ (hw _ (List.mem_of_getElem? (i := 55) rfl)) (hw _ (List.mem_of_getElem? (i := 2) rfl)) (by decide) (by decide)) q7a q7c (g := (mkF m 6 #[.val (.ref a)] [(.ref a), (.int nq)])) rfl (by rw [hml]; rfl) (Steps.refl _) (argsL := []) (rest := [(.int nq)]) (lenOf pd1 rfl) rfl (by show 2 * 0 + _ ≤ _; exact Nat.le_of_eq rfl) (hb hby d10_6) (fun _ _ => ⟨rfl, e2, (by decide : 0 + 0 ≤ _), (by decide : 0 + 0 ≤ _)⟩)
    dsimp only [Pt.U, Pt.locs, Pt.cells, Pt.slots] at X7 l7 y7 z7 st7 hQ7
    subst l7 y7 z7
    obtain ⟨rfl, N7q, e7⟩ := hQ7
    have N7 := Fr.app N0 N7q
    have P8 := own_step (C := T7.setTop (mkF m 9 #[.val (.ref a)] [(.int (0 : Int32)), (.int nq)])) P6 (fun t_ k_ => st7.trans k_)
    have P9 := own_step (C := T7.setTop (mkF m 10 #[.val (.ref a)] [(.int (nq >>> ((0 : Int32) &&& 31)))])) P8 (by
      intro tt_ kk_
      refine XS.ishr X7.here hx rfl (hb hby d10_9) rfl ?_
      exact kk_)
    obtain ⟨fs, hr, hrun, hended, hW, hsame⟩ := X7.leave (v := some (.int (nq >>> ((0 : Int32) &&& 31)))) (fun h => by rw [Bd.returns] at h; cases h)
    refine ⟨_, _, P9 _ ?_, hrun, hended, _, _, rfl, ?_, ⟨_, rfl⟩, hW, hsame.mono (by decide) (by decide)⟩
    · exact retI X7 hx Bd.returns (hb hby d10_10) hr
    · show Q_lenS Z _ _ _ _ h0 n0 _ T7.heap _
      rw [e7]
      exact ⟨by rw [own_shr0], N7, rfl⟩
  · have P10 := own_step (C := s₁.setTop (mkF m 1 #[.val (.ref a)] [(.ref a)])) pre0 (by
      intro tt_ kk_
      refine XS.aloadN X0.here hx rfl (hb hby d10_0) rfl rfl ?_
      exact kk_)
    obtain ⟨T11, X11, e11, st11⟩ := getF X0 hx hZ hown (host := "") (Or.inl (hw _ (List.mem_of_getElem? (i := 20) rfl))) Via.refl e0 Fv (g := (mkF m 1 #[.val (.ref a)] [(.ref a)])) rfl rfl (hb hby d10_1)
    have P12 := own_step (C := T11.setTop (mkF m 4 #[.val (.ref a)] [(.ref xb)])) P10 (fun t_ k_ => st11 t_ k_)
    obtain ⟨cl13, Ar13, q13, S13, M13, H13, G13⟩ := id Vb
    have P14 := own_step (C := T11.setTop (mkF m 5 #[.val (.ref a)] [(.int (nq + nq))])) P12 (by
      intro tt_ kk_
      refine X11.arraylength hx (by rw [e11]; exact Ar13.1) (State.isArrayOf_alike hZ.alike Ar13.2.1) (g := (mkF m 4 #[.val (.ref a)] [(.ref xb)])) rfl rfl (hb hby d10_4) _ ?_
      rw [len_of S13 M13]
      exact kk_)
    have P15 := own_step (C := T11.setTop (mkF m 6 #[.val (.ref a)] [(.ref a), (.int (nq + nq))])) P14 (by
      intro tt_ kk_
      refine XS.aloadN X11.here hx rfl (hb hby d10_5) rfl rfl ?_
      exact kk_)
    obtain ⟨cq16, kq16, q16a, q16b, q16c⟩ := isOf hZ e11 Ea
    obtain ⟨_, _, ⟨T16, L16, k16, n16⟩, -, X16, ⟨Lc16, hQ16, l16, y16, z16⟩, st16⟩ := X11.virtualBack hx (y := (⟨"java/lang/String", "coder", "()B"⟩ : MethodName)) (z := (⟨"java/lang/String", "coder", "()B"⟩ : MethodName)) hown (mvT hZ (hw _ (List.mem_of_getElem? (i := 51) rfl))) (mvT hZ (hw _ (List.mem_of_getElem? (i := 52) rfl))) (notFace_of_selects (args := #[]) (mvT hZ (hw _ (List.mem_of_getElem? (i := 54) rfl)))) (mvT hZ (hw _ (List.mem_of_getElem? (i := 54) rfl))) (mvT hZ (hw _ (List.mem_of_getElem? (i := 53) rfl))) (by decide) (backOf (W := 1) (rm_coder1 l Z a0 hw [] a cs h0 n0 Z0 O Scs hcs Fc) hZ (hw _ (List.mem_of_getElem? (i := 55) rfl)) (hw _ (List.mem_of_getElem? (i := 2) rfl)) (by decide) (by decide)) q16a q16c (g := (mkF m 6 #[.val (.ref a)] [(.ref a), (.int (nq + nq))])) rfl (by rw [hml]; rfl) (Steps.refl _) (argsL := []) (rest := [(.int (nq + nq))]) (lenOf pd1 rfl) rfl (by show 2 * 0 + _ ≤ _; exact Nat.le_of_eq rfl) (hb hby d10_6) (fun _ _ => ⟨rfl, e11, (by decide : 0 + 0 ≤ _), (by decide : 0 + 0 ≤ _)⟩)
    dsimp only [Pt.U, Pt.locs, Pt.cells, Pt.slots] at X16 l16 y16 z16 st16 hQ16
    subst l16 y16 z16
    obtain ⟨rfl, N16q, e16⟩ := hQ16
    have N16 := Fr.app N0 N16q
    have P17 := own_step (C := T16.setTop (mkF m 9 #[.val (.ref a)] [(.int (1 : Int32)), (.int (nq + nq))])) P15 (fun t_ k_ => st16.trans k_)
    have P18 := own_step (C := T16.setTop (mkF m 10 #[.val (.ref a)] [(.int ((nq + nq) >>> ((1 : Int32) &&& 31)))])) P17 (by
      intro tt_ kk_
      refine XS.ishr X16.here hx rfl (hb hby d10_9) rfl ?_
      exact kk_)
    obtain ⟨fs, hr, hrun, hended, hW, hsame⟩ := X16.leave (v := some (.int ((nq + nq) >>> ((1 : Int32) &&& 31)))) (fun h => by rw [Bd.returns] at h; cases h)
    refine ⟨_, _, P18 _ ?_, hrun, hended, _, _, rfl, ?_, ⟨_, rfl⟩, hW, hsame.mono (by decide) (by decide)⟩
    · exact retI X16 hx Bd.returns (hb hby d10_10) hr
    · show Q_lenS Z _ _ _ _ h0 n0 _ T16.heap _
      rw [e16]
      exact ⟨by rw [own_shr1 hn0 hn1], N16, rfl⟩
theorem d13_0 : decode jdk_42_method_154_code 0 = .ok (.getstatic 38, 3) := by decide +kernel
theorem d13_3 : decode jdk_42_method_154_code 3 = .ok (.ifCond .eq 14, 3) := by decide +kernel
theorem d13_6 : decode jdk_42_method_154_code 6 = .ok (.aload_n 0, 1) := by decide +kernel
theorem d13_7 : decode jdk_42_method_154_code 7 = .ok (.getfield 15, 3) := by decide +kernel
theorem d13_10 : decode jdk_42_method_154_code 10 = .ok (.ifCond .ne 7, 3) := by decide +kernel
theorem d13_13 : decode jdk_42_method_154_code 13 = .ok (.iconst 1, 1) := by decide +kernel
theorem d13_14 : decode jdk_42_method_154_code 14 = .ok (.goto 4, 3) := by decide +kernel
theorem d13_18 : decode jdk_42_method_154_code 18 = .ok (.ireturn, 1) := by decide +kernel
theorem ef__lat0 (m : MethodId) (x0 : Addr) : entryFrame m #[(.ref x0)] 1 = mkF m 0 #[.val (.ref x0)] [] := by first | (simp [entryFrame, mkF, argsToLocals, Value.category]; done) | rfl
def Q_lat0 (Z : State) (a : Addr) (cs : Int32) (h0 : Heap) (n0 : Nat) (v_ : Option Value) (h : Heap) (L_ : List Loc) : Prop := v_ = some (.int (1 : Int32)) ∧ Fr n0 L_ ∧ h = h0
set_option maxRecDepth 65536 in
set_option maxHeartbeats 40000000 in
theorem rm_lat0 (l : Launch) (Z : State) (a0 : Array Value) (hw : ∀ d ∈ tables_1, d.before a0 Z = true) (ws : List Jvm.Cond) (a : Addr) (cs : Int32) (h0 : Heap) (n0 : Nat) (Z0 : n0 ≤ h0.size) (O : Old Z n0 h0) (Scs : Sta Z Z.heap "java/lang/String" "COMPACT_STRINGS" "Z" (.int cs)) (hcs : ¬ (cs = (0 : Int32))) (Fc : Fld Z h0 a "java/lang/String" "coder" "B" (.int (0 : Int32))) :
    MetFree l (⟨"java/lang/String", "isLatin1", "()Z"⟩ : MethodName) (head1 (Jvm.Cond.code (⟨"java/lang/String", "isLatin1", "()Z"⟩ : MethodName) jdk_42_method_154_code 1 (some .boolean) :: ws) ({ frames := 0, cells := 0, slots := 0, locals := 0 } : Room)) (fun a_ U_ => a_ = #[(.ref a)] ∧ Z.Warmed39 U_.vm ∧ U_.heap = h0) (fun _ _ _ _ _ => True) (fun _ U_ o_ V_ => ∃ v_ L_, o_ = .returned v_ ∧ Q_lat0 Z a cs h0 n0 v_ V_.heap L_ ∧ FrameEnd U_ o_ V_ L_ ({ frames := 0, cells := 0, slots := 0, locals := 0 } : Room).cells ({ frames := 0, cells := 0, slots := 0, locals := 0 } : Room).slots) := by
  refine MetFree.of_bodySF (plainFor_of_name pn1) hisR ?_
  intro p e s m args below meth c s₁ Bd hml0 hP hK
  obtain ⟨rfl, hZ, hh⟩ := hP
  have hx := Bd.exec
  have hby := Bd.bytes
  have hml : c.maxLocals = 1 := hml0
  have hown : s.vm.findClass "java/lang/String" = some m.cls := findClass_of_methodNamed Bd.named
  have hnm := (name_of_methodNamed Bd.named Bd.method).1
  have X0 : Stand p l e ({ frames := 0, cells := 0, slots := 0, locals := 0 } : Room) s m #[(.ref a)] below meth c s₁ [] 0 0 := Stand.of_body Bd
  have e0 : s₁.heap = h0 := by rw [← hh, Bd.state]; rfl
  have N0 := Fr.nil n0
  have pre0 : own_Go p e below (s₁.setTop (entryFrame m #[(.ref a)] 1)) (s₁.setTop (mkF m 0 #[.val (.ref a)] [])) := fun t_ k_ => castTop (ef__lat0 m a) k_
  obtain ⟨T1, X1, e1, st1⟩ := getS2 X0 hx hZ hown (host := "") (Or.inl (hw _ (List.mem_of_getElem? (i := 31) rfl))) Via.refl e0 (Scs.ext O.2) (g := (mkF m 0 #[.val (.ref a)] [])) rfl (hb hby d13_0)
  have P2 := own_step (C := T1.setTop (mkF m 3 #[.val (.ref a)] [(.int cs)])) pre0 (fun t_ k_ => st1 t_ k_)
  have P3 := own_step (C := T1.setTop (mkF m 7 #[.val (.ref a)] [(.ref a)])) P2 (by
    intro tt_ kk_
    refine XS.ifNo X1.here hx rfl (hb hby d13_3) rfl ((if0 _ _).trans (feq hcs).1) ?_
    refine XS.aloadN X1.here hx rfl (hb hby d13_6) rfl rfl ?_
    exact kk_)
  obtain ⟨T4, X4, e4, st4⟩ := getF X1 hx hZ hown (host := "") (Or.inl (hw _ (List.mem_of_getElem? (i := 21) rfl))) Via.refl e1 Fc (g := (mkF m 7 #[.val (.ref a)] [(.ref a)])) rfl rfl (hb hby d13_7)
  have P5 := own_step (C := T4.setTop (mkF m 10 #[.val (.ref a)] [(.int (0 : Int32))])) P3 (fun t_ k_ => st4 t_ k_)
  have P6 := own_step (C := T4.setTop (mkF m 18 #[.val (.ref a)] [(.int (1 : Int32))])) P5 (by
    intro tt_ kk_
    refine XS.ifNo X4.here hx rfl (hb hby d13_10) rfl ((if0 _ _).trans (teq (by decide : (0 : Int32) = (0 : Int32))).2) ?_
    refine XS.iconst X4.here hx rfl (hb hby d13_13) ?_
    refine XS.goto X4.here hx rfl (pc0 := 14) (pc' := 18) rfl (hb hby d13_14) (by decide) (by decide) ?_
    exact kk_)
  obtain ⟨fs, hr, hrun, hended, hW, hsame⟩ := X4.leave (v := some (.int (1 : Int32))) (fun h => by rw [Bd.returns] at h; cases h)
  refine ⟨_, _, P6 _ ?_, hrun, hended, _, _, rfl, ?_, ⟨_, rfl⟩, hW, hsame.mono (by decide) (by decide)⟩
  · exact retN X4 hx (t := .boolean) Bd.returns (by simp) (hb hby d13_18) hr
  · show Q_lat0 Z _ _ h0 n0 _ T4.heap _
    rw [e4]
    exact ⟨rfl, N0, rfl⟩
theorem d13_17 : decode jdk_42_method_154_code 17 = .ok (.iconst 0, 1) := by decide +kernel
theorem ef__lat1 (m : MethodId) (x0 : Addr) : entryFrame m #[(.ref x0)] 1 = mkF m 0 #[.val (.ref x0)] [] := by first | (simp [entryFrame, mkF, argsToLocals, Value.category]; done) | rfl
def Q_lat1 (Z : State) (a : Addr) (cs : Int32) (h0 : Heap) (n0 : Nat) (v_ : Option Value) (h : Heap) (L_ : List Loc) : Prop := v_ = some (.int (0 : Int32)) ∧ Fr n0 L_ ∧ h = h0
set_option maxRecDepth 65536 in
set_option maxHeartbeats 40000000 in
theorem rm_lat1 (l : Launch) (Z : State) (a0 : Array Value) (hw : ∀ d ∈ tables_1, d.before a0 Z = true) (ws : List Jvm.Cond) (a : Addr) (cs : Int32) (h0 : Heap) (n0 : Nat) (Z0 : n0 ≤ h0.size) (O : Old Z n0 h0) (Scs : Sta Z Z.heap "java/lang/String" "COMPACT_STRINGS" "Z" (.int cs)) (hcs : ¬ (cs = (0 : Int32))) (Fc : Fld Z h0 a "java/lang/String" "coder" "B" (.int (1 : Int32))) :
    MetFree l (⟨"java/lang/String", "isLatin1", "()Z"⟩ : MethodName) (head1 (Jvm.Cond.code (⟨"java/lang/String", "isLatin1", "()Z"⟩ : MethodName) jdk_42_method_154_code 1 (some .boolean) :: ws) ({ frames := 0, cells := 0, slots := 0, locals := 0 } : Room)) (fun a_ U_ => a_ = #[(.ref a)] ∧ Z.Warmed39 U_.vm ∧ U_.heap = h0) (fun _ _ _ _ _ => True) (fun _ U_ o_ V_ => ∃ v_ L_, o_ = .returned v_ ∧ Q_lat1 Z a cs h0 n0 v_ V_.heap L_ ∧ FrameEnd U_ o_ V_ L_ ({ frames := 0, cells := 0, slots := 0, locals := 0 } : Room).cells ({ frames := 0, cells := 0, slots := 0, locals := 0 } : Room).slots) := by
  refine MetFree.of_bodySF (plainFor_of_name pn1) hisR ?_
  intro p e s m args below meth c s₁ Bd hml0 hP hK
  obtain ⟨rfl, hZ, hh⟩ := hP
  have hx := Bd.exec
  have hby := Bd.bytes
  have hml : c.maxLocals = 1 := hml0
  have hown : s.vm.findClass "java/lang/String" = some m.cls := findClass_of_methodNamed Bd.named
  have hnm := (name_of_methodNamed Bd.named Bd.method).1
  have X0 : Stand p l e ({ frames := 0, cells := 0, slots := 0, locals := 0 } : Room) s m #[(.ref a)] below meth c s₁ [] 0 0 := Stand.of_body Bd
  have e0 : s₁.heap = h0 := by rw [← hh, Bd.state]; rfl
  have N0 := Fr.nil n0
  have pre0 : own_Go p e below (s₁.setTop (entryFrame m #[(.ref a)] 1)) (s₁.setTop (mkF m 0 #[.val (.ref a)] [])) := fun t_ k_ => castTop (ef__lat1 m a) k_
  obtain ⟨T1, X1, e1, st1⟩ := getS2 X0 hx hZ hown (host := "") (Or.inl (hw _ (List.mem_of_getElem? (i := 31) rfl))) Via.refl e0 (Scs.ext O.2) (g := (mkF m 0 #[.val (.ref a)] [])) rfl (hb hby d13_0)
  have P2 := own_step (C := T1.setTop (mkF m 3 #[.val (.ref a)] [(.int cs)])) pre0 (fun t_ k_ => st1 t_ k_)
  have P3 := own_step (C := T1.setTop (mkF m 7 #[.val (.ref a)] [(.ref a)])) P2 (by
    intro tt_ kk_
    refine XS.ifNo X1.here hx rfl (hb hby d13_3) rfl ((if0 _ _).trans (feq hcs).1) ?_
    refine XS.aloadN X1.here hx rfl (hb hby d13_6) rfl rfl ?_
    exact kk_)
  obtain ⟨T4, X4, e4, st4⟩ := getF X1 hx hZ hown (host := "") (Or.inl (hw _ (List.mem_of_getElem? (i := 21) rfl))) Via.refl e1 Fc (g := (mkF m 7 #[.val (.ref a)] [(.ref a)])) rfl rfl (hb hby d13_7)
  have P5 := own_step (C := T4.setTop (mkF m 10 #[.val (.ref a)] [(.int (1 : Int32))])) P3 (fun t_ k_ => st4 t_ k_)
  have P6 := own_step (C := T4.setTop (mkF m 18 #[.val (.ref a)] [(.int (0 : Int32))])) P5 (by
    intro tt_ kk_
    refine XS.ifYes X4.here hx rfl (pc0 := 10) (pc' := 17) rfl (hb hby d13_10) rfl ((if0 _ _).trans (feq (by decide : ¬ ((1 : Int32) = (0 : Int32)))).2) (by decide) (by decide) ?_
    refine XS.iconst X4.here hx rfl (hb hby d13_17) ?_
    exact kk_)
  obtain ⟨fs, hr, hrun, hended, hW, hsame⟩ := X4.leave (v := some (.int (0 : Int32))) (fun h => by rw [Bd.returns] at h; cases h)
  refine ⟨_, _, P6 _ ?_, hrun, hended, _, _, rfl, ?_, ⟨_, rfl⟩, hW, hsame.mono (by decide) (by decide)⟩
  · exact retN X4 hx (t := .boolean) Bd.returns (by simp) (hb hby d13_18) hr
  · show Q_lat1 Z _ _ h0 n0 _ T4.heap _
    rw [e4]
    exact ⟨rfl, N0, rfl⟩
theorem d16_0 : decode jdk_41_method_11_code 0 = .ok (.iload_n 0, 1) := by decide +kernel
theorem d16_1 : decode jdk_41_method_11_code 1 = .ok (.ifCond .lt 8, 3) := by decide +kernel
theorem d16_4 : decode jdk_41_method_11_code 4 = .ok (.iload_n 0, 1) := by decide +kernel
theorem d16_5 : decode jdk_41_method_11_code 5 = .ok (.iload_n 1, 1) := by decide +kernel
theorem d16_6 : decode jdk_41_method_11_code 6 = .ok (.if_icmp .lt 10, 3) := by decide +kernel
theorem d16_16 : decode jdk_41_method_11_code 16 = .ok (.iload_n 0, 1) := by decide +kernel
theorem d16_17 : decode jdk_41_method_11_code 17 = .ok (.ireturn, 1) := by decide +kernel
theorem ef__chk0 (m : MethodId) (x0 : Int32) (x1 : Int32) (x2 : Value) (hx2 : x2.category = 1) : entryFrame m #[(.int x0), (.int x1), x2] 3 = mkF m 0 #[.val (.int x0), .val (.int x1), .val x2] [] := by cases x2 <;> first | (exfalso; simp [Value.category] at hx2; done) | (first | (simp [entryFrame, mkF, argsToLocals, Value.category]; done) | rfl)
def Q_chk0 (Z : State) (j : Int32) (n : Int32) (fm : Value) (h0 : Heap) (n0 : Nat) (v_ : Option Value) (h : Heap) (L_ : List Loc) : Prop := v_ = some (.int j) ∧ Fr n0 L_ ∧ h = h0
theorem pn3 : plainName "jdk/internal/util/Preconditions" = true := by first | (simp [plainName, overriddenIn]; done) | decide +kernel
set_option maxRecDepth 65536 in
set_option maxHeartbeats 40000000 in
theorem rm_chk0 (l : Launch) (Z : State) (a0 : Array Value) (hw : ∀ d ∈ tables_1, d.before a0 Z = true) (ws : List Jvm.Cond) (j : Int32) (n : Int32) (fm : Value) (h0 : Heap) (n0 : Nat) (Z0 : n0 ≤ h0.size) (hfm : fm.category = 1) (hj0 : ¬ (j < (0 : Int32))) (hjn : j < n) :
    MetFree l (⟨"jdk/internal/util/Preconditions", "checkIndex", "(IILjava/util/function/BiFunction;)I"⟩ : MethodName) (head1 (Jvm.Cond.code (⟨"jdk/internal/util/Preconditions", "checkIndex", "(IILjava/util/function/BiFunction;)I"⟩ : MethodName) jdk_41_method_11_code 3 (some .int) :: ws) ({ frames := 0, cells := 0, slots := 0, locals := 0 } : Room)) (fun a_ U_ => a_ = #[(.int j), (.int n), fm] ∧ Z.Warmed39 U_.vm ∧ U_.heap = h0) (fun _ _ _ _ _ => True) (fun _ U_ o_ V_ => ∃ v_ L_, o_ = .returned v_ ∧ Q_chk0 Z j n fm h0 n0 v_ V_.heap L_ ∧ FrameEnd U_ o_ V_ L_ ({ frames := 0, cells := 0, slots := 0, locals := 0 } : Room).cells ({ frames := 0, cells := 0, slots := 0, locals := 0 } : Room).slots) := by
  refine MetFree.of_bodySF (plainFor_of_name pn3) hisR ?_
  intro p e s m args below meth c s₁ Bd hml0 hP hK
  obtain ⟨rfl, hZ, hh⟩ := hP
  have hx := Bd.exec
  have hby := Bd.bytes
  have hml : c.maxLocals = 3 := hml0
  have hown : s.vm.findClass "jdk/internal/util/Preconditions" = some m.cls := findClass_of_methodNamed Bd.named
  have hnm := (name_of_methodNamed Bd.named Bd.method).1
  have X0 : Stand p l e ({ frames := 0, cells := 0, slots := 0, locals := 0 } : Room) s m #[(.int j), (.int n), fm] below meth c s₁ [] 0 0 := Stand.of_body Bd
  have e0 : s₁.heap = h0 := by rw [← hh, Bd.state]; rfl
  have N0 := Fr.nil n0
  have pre0 : own_Go p e below (s₁.setTop (entryFrame m #[(.int j), (.int n), fm] 3)) (s₁.setTop (mkF m 0 #[.val (.int j), .val (.int n), .val fm] [])) := fun t_ k_ => castTop (ef__chk0 m j n fm hfm) k_
  have P1 := own_step (C := s₁.setTop (mkF m 1 #[.val (.int j), .val (.int n), .val fm] [(.int j)])) pre0 (by
    intro tt_ kk_
    refine XS.iloadN X0.here hx rfl (hb hby d16_0) rfl ?_
    exact kk_)
  have P2 := own_step (C := s₁.setTop (mkF m 6 #[.val (.int j), .val (.int n), .val fm] [(.int n), (.int j)])) P1 (by
    intro tt_ kk_
    refine XS.ifNo X0.here hx rfl (hb hby d16_1) rfl ((if0 _ _).trans (flt hj0).1) ?_
    refine XS.iloadN X0.here hx rfl (hb hby d16_4) rfl ?_
    refine XS.iloadN X0.here hx rfl (hb hby d16_5) rfl ?_
    exact kk_)
  have P3 := own_step (C := s₁.setTop (mkF m 17 #[.val (.int j), .val (.int n), .val fm] [(.int j)])) P2 (by
    intro tt_ kk_
    refine XS.icmpYes X0.here hx rfl (pc0 := 6) (pc' := 16) rfl (hb hby d16_6) rfl (tlt hjn).1 (by decide) (by decide) ?_
    refine XS.iloadN X0.here hx rfl (hb hby d16_16) rfl ?_
    exact kk_)
  obtain ⟨fs, hr, hrun, hended, hW, hsame⟩ := X0.leave (v := some (.int j)) (fun h => by rw [Bd.returns] at h; cases h)
  refine ⟨_, _, P3 _ ?_, hrun, hended, _, _, rfl, ?_, ⟨_, rfl⟩, hW, hsame.mono (by decide) (by decide)⟩
  · exact retI X0 hx Bd.returns (hb hby d16_17) hr
  · show Q_chk0 Z _ _ _ h0 n0 _ s₁.heap _
    rw [e0]
    exact ⟨rfl, N0, rfl⟩
theorem pd2 : parseMethodDescriptor "(IILjava/util/function/BiFunction;)I" = some ⟨[.int, .int, (.object "java/util/function/BiFunction")], some .int⟩ := by decide +kernel
theorem d15_0 : decode jdk_42_method_155_code 0 = .ok (.iload_n 0, 1) := by decide +kernel
theorem d15_1 : decode jdk_42_method_155_code 1 = .ok (.iload_n 1, 1) := by decide +kernel
theorem d15_2 : decode jdk_42_method_155_code 2 = .ok (.getstatic 1053, 3) := by decide +kernel
theorem d15_5 : decode jdk_42_method_155_code 5 = .ok (.invokestatic 1059, 3) := by decide +kernel
theorem d15_8 : decode jdk_42_method_155_code 8 = .ok (.pop, 1) := by decide +kernel
theorem d15_9 : decode jdk_42_method_155_code 9 = .ok (.return_, 1) := by decide +kernel
theorem ef__chk (m : MethodId) (x0 : Int32) (x1 : Int32) : entryFrame m #[(.int x0), (.int x1)] 2 = mkF m 0 #[.val (.int x0), .val (.int x1)] [] := by first | (simp [entryFrame, mkF, argsToLocals, Value.category]; done) | rfl
def Q_chk (Z : State) (j : Int32) (n : Int32) (fm : Value) (h0 : Heap) (n0 : Nat) (v_ : Option Value) (h : Heap) (L_ : List Loc) : Prop := v_ = none ∧ Fr n0 L_ ∧ h = h0
set_option maxRecDepth 65536 in
set_option maxHeartbeats 40000000 in
theorem rm_chk (l : Launch) (Z : State) (a0 : Array Value) (hw : ∀ d ∈ tables_1, d.before a0 Z = true) (ws : List Jvm.Cond) (j : Int32) (n : Int32) (fm : Value) (h0 : Heap) (n0 : Nat) (Z0 : n0 ≤ h0.size) (O : Old Z n0 h0) (Sfm : Sta Z Z.heap "jdk/internal/util/Preconditions" "SIOOBE_FORMATTER" "Ljava/util/function/BiFunction;" fm) (hfm : fm.category = 1) (hj0 : ¬ (j < (0 : Int32))) (hjn : j < n) :
    MetFree l (⟨"java/lang/String", "checkIndex", "(II)V"⟩ : MethodName) (head1 (Jvm.Cond.code (⟨"java/lang/String", "checkIndex", "(II)V"⟩ : MethodName) jdk_42_method_155_code 2 none :: ws) ({ frames := 1, cells := 0, slots := 0, locals := 14 } : Room)) (fun a_ U_ => a_ = #[(.int j), (.int n)] ∧ Z.Warmed39 U_.vm ∧ U_.heap = h0) (fun _ _ _ _ _ => True) (fun _ U_ o_ V_ => ∃ v_ L_, o_ = .returned v_ ∧ Q_chk Z j n fm h0 n0 v_ V_.heap L_ ∧ FrameEnd U_ o_ V_ L_ ({ frames := 1, cells := 0, slots := 0, locals := 14 } : Room).cells ({ frames := 1, cells := 0, slots := 0, locals := 14 } : Room).slots) := by
  refine MetFree.of_bodySF (plainFor_of_name pn1) hisR ?_
  intro p e s m args below meth c s₁ Bd hml0 hP hK
  obtain ⟨rfl, hZ, hh⟩ := hP
  have hx := Bd.exec
  have hby := Bd.bytes
  have hml : c.maxLocals = 2 := hml0
  have hown : s.vm.findClass "java/lang/String" = some m.cls := findClass_of_methodNamed Bd.named
  have hnm := (name_of_methodNamed Bd.named Bd.method).1
  have X0 : Stand p l e ({ frames := 1, cells := 0, slots := 0, locals := 14 } : Room) s m #[(.int j), (.int n)] below meth c s₁ [] 0 0 := Stand.of_body Bd
  have e0 : s₁.heap = h0 := by rw [← hh, Bd.state]; rfl
  have N0 := Fr.nil n0
  have pre0 : own_Go p e below (s₁.setTop (entryFrame m #[(.int j), (.int n)] 2)) (s₁.setTop (mkF m 0 #[.val (.int j), .val (.int n)] [])) := fun t_ k_ => castTop (ef__chk m j n) k_
  have P1 := own_step (C := s₁.setTop (mkF m 2 #[.val (.int j), .val (.int n)] [(.int n), (.int j)])) pre0 (by
    intro tt_ kk_
    refine XS.iloadN X0.here hx rfl (hb hby d15_0) rfl ?_
    refine XS.iloadN X0.here hx rfl (hb hby d15_1) rfl ?_
    exact kk_)
  obtain ⟨T2, X2, e2, st2⟩ := getS2 X0 hx hZ hown (host := "") (Or.inl (hw _ (List.mem_of_getElem? (i := 73) rfl))) Via.refl e0 (Sfm.ext O.2) (g := (mkF m 2 #[.val (.int j), .val (.int n)] [(.int n), (.int j)])) rfl (hb hby d15_2)
  have P3 := own_step (C := T2.setTop (mkF m 5 #[.val (.int j), .val (.int n)] [fm, (.int n), (.int j)])) P1 (fun t_ k_ => st2 t_ k_)
  obtain ⟨_, _, ⟨T4, L4, k4, n4⟩, -, X4, ⟨Lc4, hQ4, l4, y4, z4⟩, st4⟩ := Jvm.LawKit.callS X2 hx (y := (⟨"jdk/internal/util/Preconditions", "checkIndex", "(IILjava/util/function/BiFunction;)I"⟩ : MethodName)) hown (mvT hZ (hw _ (List.mem_of_getElem? (i := 75) rfl))) (mvT hZ (hw _ (List.mem_of_getElem? (i := 76) rfl))) (mvT hZ (hw _ (List.mem_of_getElem? (i := 74) rfl))) (mvT hZ (hw _ (List.mem_of_getElem? (i := 77) rfl))) (by decide) (backOf (W := 0) (rm_chk0 l Z a0 hw [] j n fm h0 n0 Z0 hfm hj0 hjn) hZ (hw _ (List.mem_of_getElem? (i := 77) rfl)) (hw _ (List.mem_of_getElem? (i := 74) rfl)) (by decide) (by decide)) (g := (mkF m 5 #[.val (.int j), .val (.int n)] [fm, (.int n), (.int j)])) rfl (by rw [hml]; rfl) (argsL := [(.int j), (.int n), fm]) (rest := []) (lenOf pd2 rfl) rfl (by show 2 * 0 + _ ≤ _; exact Nat.le_of_eq rfl) (hb hby d15_5) (fun _ _ => ⟨rfl, e2, (by decide : 0 + 0 ≤ _), (by decide : 0 + 0 ≤ _)⟩)
  dsimp only [Pt.U, Pt.locs, Pt.cells, Pt.slots] at X4 l4 y4 z4 st4 hQ4
  subst l4 y4 z4
  obtain ⟨rfl, N4q, e4⟩ := hQ4
  have N4 := Fr.app N0 N4q
  have P5 := own_step (C := T4.setTop (mkF m 8 #[.val (.int j), .val (.int n)] [(.int j)])) P3 (fun t_ k_ => st4 t_ k_)
  have P6 := own_step (C := T4.setTop (mkF m 9 #[.val (.int j), .val (.int n)] [])) P5 (by
    intro tt_ kk_
    refine XS.pop X4.here hx rfl (hb hby d15_8) rfl rfl ?_
    exact kk_)
  obtain ⟨fs, hr, hrun, hended, hW, hsame⟩ := X4.leave (v := none) (fun _ => rfl)
  refine ⟨_, _, P6 _ ?_, hrun, hended, _, _, rfl, ?_, ⟨_, rfl⟩, hW, hsame.mono (by decide) (by decide)⟩
  · exact X4.returnOut hx Bd.returns (hb hby d15_9) hr
  · show Q_chk Z _ _ _ h0 n0 _ T4.heap _
    rw [e4]
    exact ⟨rfl, N4, rfl⟩
theorem pd3 : parseMethodDescriptor "(II)V" = some ⟨[.int, .int], none⟩ := by decide +kernel
theorem d14_0 : decode jdk_43_method_2_code 0 = .ok (.iload_n 1, 1) := by decide +kernel
theorem d14_1 : decode jdk_43_method_2_code 1 = .ok (.aload_n 0, 1) := by decide +kernel
theorem d14_2 : decode jdk_43_method_2_code 2 = .ok (.arraylength, 1) := by decide +kernel
theorem d14_3 : decode jdk_43_method_2_code 3 = .ok (.invokestatic 9, 3) := by decide +kernel
theorem d14_6 : decode jdk_43_method_2_code 6 = .ok (.aload_n 0, 1) := by decide +kernel
theorem d14_7 : decode jdk_43_method_2_code 7 = .ok (.iload_n 1, 1) := by decide +kernel
theorem d14_8 : decode jdk_43_method_2_code 8 = .ok (.baload, 1) := by decide +kernel
theorem d14_9 : decode jdk_43_method_2_code 9 = .ok (.sipush 255, 3) := by decide +kernel
theorem d14_12 : decode jdk_43_method_2_code 12 = .ok (.iand, 1) := by decide +kernel
theorem d14_13 : decode jdk_43_method_2_code 13 = .ok (.i2c, 1) := by decide +kernel
theorem d14_14 : decode jdk_43_method_2_code 14 = .ok (.ireturn, 1) := by decide +kernel
theorem ef__chL (m : MethodId) (x0 : Addr) (x1 : Int32) : entryFrame m #[(.ref x0), (.int x1)] 2 = mkF m 0 #[.val (.ref x0), .val (.int x1)] [] := by first | (simp [entryFrame, mkF, argsToLocals, Value.category]; done) | rfl
def Q_chL (Z : State) (b : Addr) (k : ClassId) (z : Int32) (vs : List Value) (j : Int32) (x : Int32) (fm : Value) (h0 : Heap) (n0 : Nat) (v_ : Option Value) (h : Heap) (L_ : List Loc) : Prop := v_ = some (.int (x &&& (255 : Int32))) ∧ Fr n0 L_ ∧ h = h0
theorem pn4 : plainName "java/lang/StringLatin1" = true := by first | (simp [plainName, overriddenIn]; done) | decide +kernel
set_option maxRecDepth 65536 in
set_option maxHeartbeats 40000000 in
theorem rm_chL (l : Launch) (Z : State) (a0 : Array Value) (hw : ∀ d ∈ tables_1, d.before a0 Z = true) (ws : List Jvm.Cond) (b : Addr) (k : ClassId) (z : Int32) (vs : List Value) (j : Int32) (x : Int32) (fm : Value) (h0 : Heap) (n0 : Nat) (Z0 : n0 ≤ h0.size) (O : Old Z n0 h0) (Vb : Arv Z h0 b k .byte z vs (.int 0)) (Sfm : Sta Z Z.heap "jdk/internal/util/Preconditions" "SIOOBE_FORMATTER" "Ljava/util/function/BiFunction;" fm) (hfm : fm.category = 1) (hin : ¬ (j < (0 : Int32)) ∧ j < z) (hu : vs.getD j.toNatClampNeg (.int 0) = .int x) :
    MetFree l (⟨"java/lang/StringLatin1", "charAt", "([BI)C"⟩ : MethodName) (head1 (Jvm.Cond.code (⟨"java/lang/StringLatin1", "charAt", "([BI)C"⟩ : MethodName) jdk_43_method_2_code 2 (some .char) :: ws) ({ frames := 2, cells := 0, slots := 0, locals := 27 } : Room)) (fun a_ U_ => a_ = #[(.ref b), (.int j)] ∧ Z.Warmed39 U_.vm ∧ U_.heap = h0) (fun _ _ _ _ _ => True) (fun _ U_ o_ V_ => ∃ v_ L_, o_ = .returned v_ ∧ Q_chL Z b k z vs j x fm h0 n0 v_ V_.heap L_ ∧ FrameEnd U_ o_ V_ L_ ({ frames := 2, cells := 0, slots := 0, locals := 27 } : Room).cells ({ frames := 2, cells := 0, slots := 0, locals := 27 } : Room).slots) := by
  refine MetFree.of_bodySF (plainFor_of_name pn4) hisR ?_
  intro p e s m args below meth c s₁ Bd hml0 hP hK
  obtain ⟨rfl, hZ, hh⟩ := hP
  have hx := Bd.exec
  have hby := Bd.bytes
  have hml : c.maxLocals = 2 := hml0
  have hown : s.vm.findClass "java/lang/StringLatin1" = some m.cls := findClass_of_methodNamed Bd.named
  have hnm := (name_of_methodNamed Bd.named Bd.method).1
  have X0 : Stand p l e ({ frames := 2, cells := 0, slots := 0, locals := 27 } : Room) s m #[(.ref b), (.int j)] below meth c s₁ [] 0 0 := Stand.of_body Bd
  have e0 : s₁.heap = h0 := by rw [← hh, Bd.state]; rfl
  have N0 := Fr.nil n0
  have pre0 : own_Go p e below (s₁.setTop (entryFrame m #[(.ref b), (.int j)] 2)) (s₁.setTop (mkF m 0 #[.val (.ref b), .val (.int j)] [])) := fun t_ k_ => castTop (ef__chL m b j) k_
  have P1 := own_step (C := s₁.setTop (mkF m 2 #[.val (.ref b), .val (.int j)] [(.ref b), (.int j)])) pre0 (by
    intro tt_ kk_
    refine XS.iloadN X0.here hx rfl (hb hby d14_0) rfl ?_
    refine XS.aloadN X0.here hx rfl (hb hby d14_1) rfl rfl ?_
    exact kk_)
  obtain ⟨cl2, Ar2, q2, S2, M2, H2, G2⟩ := id Vb
  have P3 := own_step (C := s₁.setTop (mkF m 3 #[.val (.ref b), .val (.int j)] [(.int z), (.int j)])) P1 (by
    intro tt_ kk_
    refine X0.arraylength hx (by rw [e0]; exact Ar2.1) (State.isArrayOf_alike hZ.alike Ar2.2.1) (g := (mkF m 2 #[.val (.ref b), .val (.int j)] [(.ref b), (.int j)])) rfl rfl (hb hby d14_2) _ ?_
    rw [len_of S2 M2]
    exact kk_)
  obtain ⟨_, _, ⟨T4, L4, k4, n4⟩, -, X4, ⟨Lc4, hQ4, l4, y4, z4⟩, st4⟩ := Jvm.LawKit.callS X0 hx (y := (⟨"java/lang/String", "checkIndex", "(II)V"⟩ : MethodName)) hown (mvT hZ (hw _ (List.mem_of_getElem? (i := 70) rfl))) (mvT hZ (hw _ (List.mem_of_getElem? (i := 71) rfl))) (mvT hZ (hw _ (List.mem_of_getElem? (i := 2) rfl))) (mvT hZ (hw _ (List.mem_of_getElem? (i := 72) rfl))) (by decide) (backOf (W := 0) (rm_chk l Z a0 hw [] j z fm h0 n0 Z0 O Sfm hfm hin.1 hin.2) hZ (hw _ (List.mem_of_getElem? (i := 72) rfl)) (hw _ (List.mem_of_getElem? (i := 2) rfl)) (by decide) (by decide)) (g := (mkF m 3 #[.val (.ref b), .val (.int j)] [(.int z), (.int j)])) rfl (by rw [hml]; rfl) (argsL := [(.int j), (.int z)]) (rest := []) (lenOf pd3 rfl) rfl (by show 2 * 0 + _ ≤ _; exact Nat.le_of_eq rfl) (hb hby d14_3) (fun _ _ => ⟨rfl, e0, (by decide : 0 + 0 ≤ _), (by decide : 0 + 0 ≤ _)⟩)
  dsimp only [Pt.U, Pt.locs, Pt.cells, Pt.slots] at X4 l4 y4 z4 st4 hQ4
  subst l4 y4 z4
  obtain ⟨rfl, N4q, e4⟩ := hQ4
  have N4 := Fr.app N0 N4q
  have P5 := own_step (C := T4.setTop (mkF m 6 #[.val (.ref b), .val (.int j)] [])) P3 (fun t_ k_ => st4 t_ k_)
  have P6 := own_step (C := T4.setTop (mkF m 8 #[.val (.ref b), .val (.int j)] [(.int j), (.ref b)])) P5 (by
    intro tt_ kk_
    refine XS.aloadN X4.here hx rfl (hb hby d14_6) rfl rfl ?_
    refine XS.iloadN X4.here hx rfl (hb hby d14_7) rfl ?_
    exact kk_)
  obtain ⟨cl7, Ar7, q7, S7, M7, H7, G7⟩ := id Vb
  have hin7 := inb_of S7 hin
  have hat7 := Has.at H7 hin7 hu
  have P8 := own_step (C := T4.setTop (mkF m 9 #[.val (.ref b), .val (.int j)] [(.int x)])) P6 (by
    intro tt_ kk_
    refine X4.baloadBytes hx (j := j) (v := (.int x)) (by rw [e4]; exact Ar7.1) (State.isArrayOf_alike hZ.alike Ar7.2.1) Ar7.2.2 hin7 hat7 (g := (mkF m 8 #[.val (.ref b), .val (.int j)] [(.int j), (.ref b)])) rfl rfl (hb hby d14_8) _ ?_
    exact kk_)
  have P9 := own_step (C := T4.setTop (mkF m 14 #[.val (.ref b), .val (.int j)] [(.int ((x &&& (255 : Int32)).toUInt32.toUInt16.toUInt32.toInt32))])) P8 (by
    intro tt_ kk_
    refine XS.sipush X4.here hx rfl (hb hby d14_9) ?_
    refine XS.iand X4.here hx rfl (hb hby d14_12) rfl ?_
    refine XS.i2c X4.here hx rfl (hb hby d14_13) rfl ?_
    exact kk_)
  obtain ⟨fs, hr, hrun, hended, hW, hsame⟩ := X4.leave (v := some (.int (nar .char ((x &&& (255 : Int32)).toUInt32.toUInt16.toUInt32.toInt32)))) (fun h => by rw [Bd.returns] at h; cases h)
  refine ⟨_, _, P9 _ ?_, hrun, hended, _, _, rfl, ?_, ⟨_, rfl⟩, hW, hsame.mono (by decide) (by decide)⟩
  · exact retN X4 hx (t := .char) Bd.returns (by simp) (hb hby d14_14) hr
  · show Q_chL Z _ _ _ _ _ _ _ h0 n0 _ T4.heap _
    rw [e4]
    exact ⟨by rw [own_nc], N4, rfl⟩
theorem d24_0 : decode jdk_52_method_6_code 0 = .ok (.aload_n 0, 1) := by decide +kernel
theorem d24_1 : decode jdk_52_method_6_code 1 = .ok (.arraylength, 1) := by decide +kernel
theorem d24_2 : decode jdk_52_method_6_code 2 = .ok (.iconst 1, 1) := by decide +kernel
theorem d24_3 : decode jdk_52_method_6_code 3 = .ok (.ishr, 1) := by decide +kernel
theorem d24_4 : decode jdk_52_method_6_code 4 = .ok (.ireturn, 1) := by decide +kernel
theorem ef__lenB (m : MethodId) (x0 : Addr) : entryFrame m #[(.ref x0)] 1 = mkF m 0 #[.val (.ref x0)] [] := by first | (simp [entryFrame, mkF, argsToLocals, Value.category]; done) | rfl
def Q_lenB (Z : State) (b : Addr) (k : ClassId) (zz : Int32) (vs : List Value) (rq : Int32) (h0 : Heap) (n0 : Nat) (v_ : Option Value) (h : Heap) (L_ : List Loc) : Prop := v_ = some (.int rq) ∧ Fr n0 L_ ∧ h = h0
theorem pn5 : plainName "java/lang/StringUTF16" = true := by first | (simp [plainName, overriddenIn]; done) | decide +kernel
set_option maxRecDepth 65536 in
set_option maxHeartbeats 40000000 in
theorem rm_lenB (l : Launch) (Z : State) (a0 : Array Value) (hw : ∀ d ∈ tables_1, d.before a0 Z = true) (ws : List Jvm.Cond) (b : Addr) (k : ClassId) (zz : Int32) (vs : List Value) (rq : Int32) (h0 : Heap) (n0 : Nat) (Z0 : n0 ≤ h0.size) (Vb : Arv Z h0 b k .byte zz vs (.int 0)) (hrq : (zz >>> ((1 : Int32) &&& 31)) = rq) :
    MetFree l (⟨"java/lang/StringUTF16", "length", "([B)I"⟩ : MethodName) (head1 (Jvm.Cond.code (⟨"java/lang/StringUTF16", "length", "([B)I"⟩ : MethodName) jdk_52_method_6_code 1 (some .int) :: ws) ({ frames := 0, cells := 0, slots := 0, locals := 0 } : Room)) (fun a_ U_ => a_ = #[(.ref b)] ∧ Z.Warmed39 U_.vm ∧ U_.heap = h0) (fun _ _ _ _ _ => True) (fun _ U_ o_ V_ => ∃ v_ L_, o_ = .returned v_ ∧ Q_lenB Z b k zz vs rq h0 n0 v_ V_.heap L_ ∧ FrameEnd U_ o_ V_ L_ ({ frames := 0, cells := 0, slots := 0, locals := 0 } : Room).cells ({ frames := 0, cells := 0, slots := 0, locals := 0 } : Room).slots) := by
  refine MetFree.of_bodySF (plainFor_of_name pn5) hisR ?_
  intro p e s m args below meth c s₁ Bd hml0 hP hK
  obtain ⟨rfl, hZ, hh⟩ := hP
  have hx := Bd.exec
  have hby := Bd.bytes
  have hml : c.maxLocals = 1 := hml0
  have hown : s.vm.findClass "java/lang/StringUTF16" = some m.cls := findClass_of_methodNamed Bd.named
  have hnm := (name_of_methodNamed Bd.named Bd.method).1
  have X0 : Stand p l e ({ frames := 0, cells := 0, slots := 0, locals := 0 } : Room) s m #[(.ref b)] below meth c s₁ [] 0 0 := Stand.of_body Bd
  have e0 : s₁.heap = h0 := by rw [← hh, Bd.state]; rfl
  have N0 := Fr.nil n0
  have pre0 : own_Go p e below (s₁.setTop (entryFrame m #[(.ref b)] 1)) (s₁.setTop (mkF m 0 #[.val (.ref b)] [])) := fun t_ k_ => castTop (ef__lenB m b) k_
  have P1 := own_step (C := s₁.setTop (mkF m 1 #[.val (.ref b)] [(.ref b)])) pre0 (by
    intro tt_ kk_
    refine XS.aloadN X0.here hx rfl (hb hby d24_0) rfl rfl ?_
    exact kk_)
  obtain ⟨cl2, Ar2, q2, S2, M2, H2, G2⟩ := id Vb
  have P3 := own_step (C := s₁.setTop (mkF m 2 #[.val (.ref b)] [(.int zz)])) P1 (by
    intro tt_ kk_
    refine X0.arraylength hx (by rw [e0]; exact Ar2.1) (State.isArrayOf_alike hZ.alike Ar2.2.1) (g := (mkF m 1 #[.val (.ref b)] [(.ref b)])) rfl rfl (hb hby d24_1) _ ?_
    rw [len_of S2 M2]
    exact kk_)
  have P4 := own_step (C := s₁.setTop (mkF m 4 #[.val (.ref b)] [(.int (zz >>> ((1 : Int32) &&& 31)))])) P3 (by
    intro tt_ kk_
    refine XS.iconst X0.here hx rfl (hb hby d24_2) ?_
    refine XS.ishr X0.here hx rfl (hb hby d24_3) rfl ?_
    exact kk_)
  obtain ⟨fs, hr, hrun, hended, hW, hsame⟩ := X0.leave (v := some (.int (zz >>> ((1 : Int32) &&& 31)))) (fun h => by rw [Bd.returns] at h; cases h)
  refine ⟨_, _, P4 _ ?_, hrun, hended, _, _, rfl, ?_, ⟨_, rfl⟩, hW, hsame.mono (by decide) (by decide)⟩
  · exact retI X0 hx Bd.returns (hb hby d24_4) hr
  · show Q_lenB Z _ _ _ _ _ h0 n0 _ s₁.heap _
    rw [e0]
    exact ⟨by rw [hrq], N0, rfl⟩
theorem pd4 : parseMethodDescriptor "([B)I" = some ⟨[(.array .byte)], some .int⟩ := by decide +kernel
theorem d23_0 : decode jdk_52_method_91_code 0 = .ok (.iload_n 0, 1) := by decide +kernel
theorem d23_1 : decode jdk_52_method_91_code 1 = .ok (.aload_n 1, 1) := by decide +kernel
theorem d23_2 : decode jdk_52_method_91_code 2 = .ok (.invokestatic 48, 3) := by decide +kernel
theorem d23_5 : decode jdk_52_method_91_code 5 = .ok (.invokestatic 414, 3) := by decide +kernel
theorem d23_8 : decode jdk_52_method_91_code 8 = .ok (.return_, 1) := by decide +kernel
theorem ef__chkU (m : MethodId) (x0 : Int32) (x1 : Addr) : entryFrame m #[(.int x0), (.ref x1)] 2 = mkF m 0 #[.val (.int x0), .val (.ref x1)] [] := by first | (simp [entryFrame, mkF, argsToLocals, Value.category]; done) | rfl
def Q_chkU (Z : State) (b : Addr) (k : ClassId) (zz : Int32) (vs : List Value) (j : Int32) (rq : Int32) (fm : Value) (h0 : Heap) (n0 : Nat) (v_ : Option Value) (h : Heap) (L_ : List Loc) : Prop := v_ = none ∧ Fr n0 L_ ∧ h = h0
set_option maxRecDepth 65536 in
set_option maxHeartbeats 40000000 in
theorem rm_chkU (l : Launch) (Z : State) (a0 : Array Value) (hw : ∀ d ∈ tables_1, d.before a0 Z = true) (ws : List Jvm.Cond) (b : Addr) (k : ClassId) (zz : Int32) (vs : List Value) (j : Int32) (rq : Int32) (fm : Value) (h0 : Heap) (n0 : Nat) (Z0 : n0 ≤ h0.size) (O : Old Z n0 h0) (Sfm : Sta Z Z.heap "jdk/internal/util/Preconditions" "SIOOBE_FORMATTER" "Ljava/util/function/BiFunction;" fm) (hfm : fm.category = 1) (Vb : Arv Z h0 b k .byte zz vs (.int 0)) (hrq : (zz >>> ((1 : Int32) &&& 31)) = rq) (hj0 : ¬ (j < (0 : Int32))) (hjn : j < rq) :
    MetFree l (⟨"java/lang/StringUTF16", "checkIndex", "(I[B)V"⟩ : MethodName) (head1 (Jvm.Cond.code (⟨"java/lang/StringUTF16", "checkIndex", "(I[B)V"⟩ : MethodName) jdk_52_method_91_code 2 none :: ws) ({ frames := 2, cells := 0, slots := 0, locals := 27 } : Room)) (fun a_ U_ => a_ = #[(.int j), (.ref b)] ∧ Z.Warmed39 U_.vm ∧ U_.heap = h0) (fun _ _ _ _ _ => True) (fun _ U_ o_ V_ => ∃ v_ L_, o_ = .returned v_ ∧ Q_chkU Z b k zz vs j rq fm h0 n0 v_ V_.heap L_ ∧ FrameEnd U_ o_ V_ L_ ({ frames := 2, cells := 0, slots := 0, locals := 27 } : Room).cells ({ frames := 2, cells := 0, slots := 0, locals := 27 } : Room).slots) := by
  refine MetFree.of_bodySF (plainFor_of_name pn5) hisR ?_
  intro p e s m args below meth c s₁ Bd hml0 hP hK
  obtain ⟨rfl, hZ, hh⟩ := hP
  have hx := Bd.exec
  have hby := Bd.bytes
  have hml : c.maxLocals = 2 := hml0
  have hown : s.vm.findClass "java/lang/StringUTF16" = some m.cls := findClass_of_methodNamed Bd.named
  have hnm := (name_of_methodNamed Bd.named Bd.method).1
  have X0 : Stand p l e ({ frames := 2, cells := 0, slots := 0, locals := 27 } : Room) s m #[(.int j), (.ref b)] below meth c s₁ [] 0 0 := Stand.of_body Bd
  have e0 : s₁.heap = h0 := by rw [← hh, Bd.state]; rfl
  have N0 := Fr.nil n0
  have pre0 : own_Go p e below (s₁.setTop (entryFrame m #[(.int j), (.ref b)] 2)) (s₁.setTop (mkF m 0 #[.val (.int j), .val (.ref b)] [])) := fun t_ k_ => castTop (ef__chkU m j b) k_
  have P1 := own_step (C := s₁.setTop (mkF m 2 #[.val (.int j), .val (.ref b)] [(.ref b), (.int j)])) pre0 (by
    intro tt_ kk_
    refine XS.iloadN X0.here hx rfl (hb hby d23_0) rfl ?_
    refine XS.aloadN X0.here hx rfl (hb hby d23_1) rfl rfl ?_
    exact kk_)
  obtain ⟨_, _, ⟨T2, L2, k2, n2⟩, -, X2, ⟨Lc2, hQ2, l2, y2, z2⟩, st2⟩ := Jvm.LawKit.callS X0 hx (y := (⟨"java/lang/StringUTF16", "length", "([B)I"⟩ : MethodName)) hown (mvT hZ (hw _ (List.mem_of_getElem? (i := 103) rfl))) (mvT hZ (hw _ (List.mem_of_getElem? (i := 104) rfl))) (mvT hZ (hw _ (List.mem_of_getElem? (i := 34) rfl))) (mvT hZ (hw _ (List.mem_of_getElem? (i := 105) rfl))) (by decide) (backOf (W := 1) (rm_lenB l Z a0 hw [] b k zz vs rq h0 n0 Z0 Vb hrq) hZ (hw _ (List.mem_of_getElem? (i := 105) rfl)) (hw _ (List.mem_of_getElem? (i := 34) rfl)) (by decide) (by decide)) (g := (mkF m 2 #[.val (.int j), .val (.ref b)] [(.ref b), (.int j)])) rfl (by rw [hml]; rfl) (argsL := [(.ref b)]) (rest := [(.int j)]) (lenOf pd4 rfl) rfl (by show 2 * 0 + _ ≤ _; exact Nat.le_of_eq rfl) (hb hby d23_2) (fun _ _ => ⟨rfl, e0, (by decide : 0 + 0 ≤ _), (by decide : 0 + 0 ≤ _)⟩)
  dsimp only [Pt.U, Pt.locs, Pt.cells, Pt.slots] at X2 l2 y2 z2 st2 hQ2
  subst l2 y2 z2
  obtain ⟨rfl, N2q, e2⟩ := hQ2
  have N2 := Fr.app N0 N2q
  have P3 := own_step (C := T2.setTop (mkF m 5 #[.val (.int j), .val (.ref b)] [(.int rq), (.int j)])) P1 (fun t_ k_ => st2 t_ k_)
  obtain ⟨_, _, ⟨T4, L4, k4, n4⟩, -, X4, ⟨Lc4, hQ4, l4, y4, z4⟩, st4⟩ := Jvm.LawKit.callS X2 hx (y := (⟨"java/lang/String", "checkIndex", "(II)V"⟩ : MethodName)) hown (mvT hZ (hw _ (List.mem_of_getElem? (i := 106) rfl))) (mvT hZ (hw _ (List.mem_of_getElem? (i := 71) rfl))) (mvT hZ (hw _ (List.mem_of_getElem? (i := 2) rfl))) (mvT hZ (hw _ (List.mem_of_getElem? (i := 72) rfl))) (by decide) (backOf (W := 0) (rm_chk l Z a0 hw [] j rq fm h0 n0 Z0 O Sfm hfm hj0 hjn) hZ (hw _ (List.mem_of_getElem? (i := 72) rfl)) (hw _ (List.mem_of_getElem? (i := 2) rfl)) (by decide) (by decide)) (g := (mkF m 5 #[.val (.int j), .val (.ref b)] [(.int rq), (.int j)])) rfl (by rw [hml]; rfl) (argsL := [(.int j), (.int rq)]) (rest := []) (lenOf pd3 rfl) rfl (by show 2 * 0 + _ ≤ _; exact Nat.le_of_eq rfl) (hb hby d23_5) (fun _ _ => ⟨rfl, e2, (by decide : 0 + 0 ≤ _), (by decide : 0 + 0 ≤ _)⟩)
  dsimp only [Pt.U, Pt.locs, Pt.cells, Pt.slots] at X4 l4 y4 z4 st4 hQ4
  subst l4 y4 z4
  obtain ⟨rfl, N4q, e4⟩ := hQ4
  have N4 := Fr.app N2 N4q
  have P5 := own_step (C := T4.setTop (mkF m 8 #[.val (.int j), .val (.ref b)] [])) P3 (fun t_ k_ => st4 t_ k_)
  obtain ⟨fs, hr, hrun, hended, hW, hsame⟩ := X4.leave (v := none) (fun _ => rfl)
  refine ⟨_, _, P5 _ ?_, hrun, hended, _, _, rfl, ?_, ⟨_, rfl⟩, hW, hsame.mono (by decide) (by decide)⟩
  · exact X4.returnOut hx Bd.returns (hb hby d23_8) hr
  · show Q_chkU Z _ _ _ _ _ _ _ h0 n0 _ T4.heap _
    rw [e4]
    exact ⟨rfl, N4, rfl⟩
theorem d21_0 : decode jdk_52_method_5_code 0 = .ok (.getstatic 44, 3) := by decide +kernel
theorem d21_3 : decode jdk_52_method_5_code 3 = .ok (.ifCond .ne 25, 3) := by decide +kernel
theorem d21_28 : decode jdk_52_method_5_code 28 = .ok (.iload_n 1, 1) := by decide +kernel
theorem d21_29 : decode jdk_52_method_5_code 29 = .ok (.iconst 1, 1) := by decide +kernel
theorem d21_30 : decode jdk_52_method_5_code 30 = .ok (.ishl, 1) := by decide +kernel
theorem d21_31 : decode jdk_52_method_5_code 31 = .ok (.istore_n 1, 1) := by decide +kernel
theorem d21_32 : decode jdk_52_method_5_code 32 = .ok (.aload_n 0, 1) := by decide +kernel
theorem d21_33 : decode jdk_52_method_5_code 33 = .ok (.iload_n 1, 1) := by decide +kernel
theorem d21_34 : decode jdk_52_method_5_code 34 = .ok (.iinc 1 1, 3) := by decide +kernel
theorem d21_37 : decode jdk_52_method_5_code 37 = .ok (.baload, 1) := by decide +kernel
theorem d21_38 : decode jdk_52_method_5_code 38 = .ok (.sipush 255, 3) := by decide +kernel
theorem d21_41 : decode jdk_52_method_5_code 41 = .ok (.iand, 1) := by decide +kernel
theorem d21_42 : decode jdk_52_method_5_code 42 = .ok (.getstatic 59, 3) := by decide +kernel
theorem d21_45 : decode jdk_52_method_5_code 45 = .ok (.ishl, 1) := by decide +kernel
theorem d21_46 : decode jdk_52_method_5_code 46 = .ok (.aload_n 0, 1) := by decide +kernel
theorem d21_47 : decode jdk_52_method_5_code 47 = .ok (.iload_n 1, 1) := by decide +kernel
theorem d21_48 : decode jdk_52_method_5_code 48 = .ok (.baload, 1) := by decide +kernel
theorem d21_49 : decode jdk_52_method_5_code 49 = .ok (.sipush 255, 3) := by decide +kernel
theorem d21_52 : decode jdk_52_method_5_code 52 = .ok (.iand, 1) := by decide +kernel
theorem d21_53 : decode jdk_52_method_5_code 53 = .ok (.getstatic 63, 3) := by decide +kernel
theorem d21_56 : decode jdk_52_method_5_code 56 = .ok (.ishl, 1) := by decide +kernel
theorem d21_57 : decode jdk_52_method_5_code 57 = .ok (.ior, 1) := by decide +kernel
theorem d21_58 : decode jdk_52_method_5_code 58 = .ok (.i2c, 1) := by decide +kernel
theorem d21_59 : decode jdk_52_method_5_code 59 = .ok (.ireturn, 1) := by decide +kernel
theorem ef__getC (m : MethodId) (x0 : Addr) (x1 : Int32) : entryFrame m #[(.ref x0), (.int x1)] 2 = mkF m 0 #[.val (.ref x0), .val (.int x1)] [] := by first | (simp [entryFrame, mkF, argsToLocals, Value.category]; done) | rfl
def Q_getC (Z : State) (b : Addr) (kb : ClassId) (zz : Int32) (vs : List Value) (iq : Int32) (y0 : Int32) (y1 : Int32) (h0 : Heap) (n0 : Nat) (v_ : Option Value) (h : Heap) (L_ : List Loc) : Prop := v_ = some (.int (own_gc y0 y1)) ∧ Fr n0 L_ ∧ h = h0
set_option maxRecDepth 65536 in
set_option maxHeartbeats 40000000 in
theorem rm_getC (l : Launch) (Z : State) (a0 : Array Value) (hw : ∀ d ∈ tables_1, d.before a0 Z = true) (ws : List Jvm.Cond) (b : Addr) (kb : ClassId) (zz : Int32) (vs : List Value) (iq : Int32) (y0 : Int32) (y1 : Int32) (h0 : Heap) (n0 : Nat) (Z0 : n0 ≤ h0.size) (O : Old Z n0 h0) (Sad : Sta Z Z.heap "java/lang/StringUTF16" "$assertionsDisabled" "Z" (.int (1 : Int32))) (Shi : Sta Z Z.heap "java/lang/StringUTF16" "HI_BYTE_SHIFT" "I" (.int (0 : Int32))) (Slo : Sta Z Z.heap "java/lang/StringUTF16" "LO_BYTE_SHIFT" "I" (.int (8 : Int32))) (Vb : Arv Z h0 b kb .byte zz vs (.int 0)) (hi0 : ¬ (iq <<< ((1 : Int32) &&& 31)) < 0 ∧ (iq <<< ((1 : Int32) &&& 31)) < zz) (hi1 : ¬ ((iq <<< ((1 : Int32) &&& 31)) + (1 : Int32)) < 0 ∧ ((iq <<< ((1 : Int32) &&& 31)) + (1 : Int32)) < zz) (hu0 : vs.getD (iq <<< ((1 : Int32) &&& 31)).toNatClampNeg (.int 0) = .int y0) (hu1 : vs.getD ((iq <<< ((1 : Int32) &&& 31)) + (1 : Int32)).toNatClampNeg (.int 0) = .int y1) :
    MetFree l (⟨"java/lang/StringUTF16", "getChar", "([BI)C"⟩ : MethodName) (head1 (Jvm.Cond.code (⟨"java/lang/StringUTF16", "getChar", "([BI)C"⟩ : MethodName) jdk_52_method_5_code 2 (some .char) :: ws) ({ frames := 0, cells := 0, slots := 0, locals := 0 } : Room)) (fun a_ U_ => a_ = #[(.ref b), (.int iq)] ∧ Z.Warmed39 U_.vm ∧ U_.heap = h0) (fun _ _ _ _ _ => True) (fun _ U_ o_ V_ => ∃ v_ L_, o_ = .returned v_ ∧ Q_getC Z b kb zz vs iq y0 y1 h0 n0 v_ V_.heap L_ ∧ FrameEnd U_ o_ V_ L_ ({ frames := 0, cells := 0, slots := 0, locals := 0 } : Room).cells ({ frames := 0, cells := 0, slots := 0, locals := 0 } : Room).slots) := by
  refine MetFree.of_bodySF (plainFor_of_name pn5) hisR ?_
  intro p e s m args below meth c s₁ Bd hml0 hP hK
  obtain ⟨rfl, hZ, hh⟩ := hP
  have hx := Bd.exec
  have hby := Bd.bytes
  have hml : c.maxLocals = 2 := hml0
  have hown : s.vm.findClass "java/lang/StringUTF16" = some m.cls := findClass_of_methodNamed Bd.named
  have hnm := (name_of_methodNamed Bd.named Bd.method).1
  have X0 : Stand p l e ({ frames := 0, cells := 0, slots := 0, locals := 0 } : Room) s m #[(.ref b), (.int iq)] below meth c s₁ [] 0 0 := Stand.of_body Bd
  have e0 : s₁.heap = h0 := by rw [← hh, Bd.state]; rfl
  have N0 := Fr.nil n0
  have pre0 : own_Go p e below (s₁.setTop (entryFrame m #[(.ref b), (.int iq)] 2)) (s₁.setTop (mkF m 0 #[.val (.ref b), .val (.int iq)] [])) := fun t_ k_ => castTop (ef__getC m b iq) k_
  obtain ⟨T1, X1, e1, st1⟩ := getS2 X0 hx hZ hown (host := "") (Or.inl (hw _ (List.mem_of_getElem? (i := 91) rfl))) Via.refl e0 (Sad.ext O.2) (g := (mkF m 0 #[.val (.ref b), .val (.int iq)] [])) rfl (hb hby d21_0)
  have P2 := own_step (C := T1.setTop (mkF m 3 #[.val (.ref b), .val (.int iq)] [(.int (1 : Int32))])) pre0 (fun t_ k_ => st1 t_ k_)
  have P3 := own_step (C := T1.setTop (mkF m 37 #[.val (.ref b), .val (.int ((iq <<< ((1 : Int32) &&& 31)) + (1 : Int32)))] [(.int (iq <<< ((1 : Int32) &&& 31))), (.ref b)])) P2 (by
    intro tt_ kk_
    refine XS.ifYes X1.here hx rfl (pc0 := 3) (pc' := 28) rfl (hb hby d21_3) rfl ((if0 _ _).trans (feq (by decide : ¬ ((1 : Int32) = (0 : Int32)))).2) (by decide) (by decide) ?_
    refine XS.iloadN X1.here hx rfl (hb hby d21_28) rfl ?_
    refine XS.iconst X1.here hx rfl (hb hby d21_29) ?_
    refine XS.ishl X1.here hx rfl (hb hby d21_30) rfl ?_
    refine XS.istoreN X1.here hx rfl (hb hby d21_31) rfl (l' := #[.val (.ref b), .val (.int (iq <<< ((1 : Int32) &&& 31)))]) rfl ?_
    refine XS.aloadN X1.here hx rfl (hb hby d21_32) rfl rfl ?_
    refine XS.iloadN X1.here hx rfl (hb hby d21_33) rfl ?_
    refine XS.iinc X1.here hx rfl (hb hby d21_34) rfl (l' := #[.val (.ref b), .val (.int ((iq <<< ((1 : Int32) &&& 31)) + (1 : Int32)))]) rfl ?_
    exact kk_)
  obtain ⟨cl4, Ar4, q4, S4, M4, H4, G4⟩ := id Vb
  have hin4 := inb_of S4 hi0
  have hat4 := Has.at H4 hin4 hu0
  have P5 := own_step (C := T1.setTop (mkF m 38 #[.val (.ref b), .val (.int ((iq <<< ((1 : Int32) &&& 31)) + (1 : Int32)))] [(.int y0)])) P3 (by
    intro tt_ kk_
    refine X1.baloadBytes hx (j := (iq <<< ((1 : Int32) &&& 31))) (v := (.int y0)) (by rw [e1]; exact Ar4.1) (State.isArrayOf_alike hZ.alike Ar4.2.1) Ar4.2.2 hin4 hat4 (g := (mkF m 37 #[.val (.ref b), .val (.int ((iq <<< ((1 : Int32) &&& 31)) + (1 : Int32)))] [(.int (iq <<< ((1 : Int32) &&& 31))), (.ref b)])) rfl rfl (hb hby d21_37) _ ?_
    exact kk_)
  have P6 := own_step (C := T1.setTop (mkF m 42 #[.val (.ref b), .val (.int ((iq <<< ((1 : Int32) &&& 31)) + (1 : Int32)))] [(.int (y0 &&& (255 : Int32)))])) P5 (by
    intro tt_ kk_
    refine XS.sipush X1.here hx rfl (hb hby d21_38) ?_
    refine XS.iand X1.here hx rfl (hb hby d21_41) rfl ?_
    exact kk_)
  obtain ⟨T7, X7, e7, st7⟩ := getS2 X1 hx hZ hown (host := "") (Or.inl (hw _ (List.mem_of_getElem? (i := 92) rfl))) Via.refl e1 (Shi.ext O.2) (g := (mkF m 42 #[.val (.ref b), .val (.int ((iq <<< ((1 : Int32) &&& 31)) + (1 : Int32)))] [(.int (y0 &&& (255 : Int32)))])) rfl (hb hby d21_42)
  have P8 := own_step (C := T7.setTop (mkF m 45 #[.val (.ref b), .val (.int ((iq <<< ((1 : Int32) &&& 31)) + (1 : Int32)))] [(.int (0 : Int32)), (.int (y0 &&& (255 : Int32)))])) P6 (fun t_ k_ => st7 t_ k_)
  have P9 := own_step (C := T7.setTop (mkF m 48 #[.val (.ref b), .val (.int ((iq <<< ((1 : Int32) &&& 31)) + (1 : Int32)))] [(.int ((iq <<< ((1 : Int32) &&& 31)) + (1 : Int32))), (.ref b), (.int ((y0 &&& (255 : Int32)) <<< ((0 : Int32) &&& 31)))])) P8 (by
    intro tt_ kk_
    refine XS.ishl X7.here hx rfl (hb hby d21_45) rfl ?_
    refine XS.aloadN X7.here hx rfl (hb hby d21_46) rfl rfl ?_
    refine XS.iloadN X7.here hx rfl (hb hby d21_47) rfl ?_
    exact kk_)
  obtain ⟨cl10, Ar10, q10, S10, M10, H10, G10⟩ := id Vb
  have hin10 := inb_of S10 hi1
  have hat10 := Has.at H10 hin10 hu1
  have P11 := own_step (C := T7.setTop (mkF m 49 #[.val (.ref b), .val (.int ((iq <<< ((1 : Int32) &&& 31)) + (1 : Int32)))] [(.int y1), (.int ((y0 &&& (255 : Int32)) <<< ((0 : Int32) &&& 31)))])) P9 (by
    intro tt_ kk_
    refine X7.baloadBytes hx (j := ((iq <<< ((1 : Int32) &&& 31)) + (1 : Int32))) (v := (.int y1)) (by rw [e7]; exact Ar10.1) (State.isArrayOf_alike hZ.alike Ar10.2.1) Ar10.2.2 hin10 hat10 (g := (mkF m 48 #[.val (.ref b), .val (.int ((iq <<< ((1 : Int32) &&& 31)) + (1 : Int32)))] [(.int ((iq <<< ((1 : Int32) &&& 31)) + (1 : Int32))), (.ref b), (.int ((y0 &&& (255 : Int32)) <<< ((0 : Int32) &&& 31)))])) rfl rfl (hb hby d21_48) _ ?_
    exact kk_)
  have P12 := own_step (C := T7.setTop (mkF m 53 #[.val (.ref b), .val (.int ((iq <<< ((1 : Int32) &&& 31)) + (1 : Int32)))] [(.int (y1 &&& (255 : Int32))), (.int ((y0 &&& (255 : Int32)) <<< ((0 : Int32) &&& 31)))])) P11 (by
    intro tt_ kk_
    refine XS.sipush X7.here hx rfl (hb hby d21_49) ?_
    refine XS.iand X7.here hx rfl (hb hby d21_52) rfl ?_
    exact kk_)
  obtain ⟨T13, X13, e13, st13⟩ := getS2 X7 hx hZ hown (host := "") (Or.inl (hw _ (List.mem_of_getElem? (i := 93) rfl))) Via.refl e7 (Slo.ext O.2) (g := (mkF m 53 #[.val (.ref b), .val (.int ((iq <<< ((1 : Int32) &&& 31)) + (1 : Int32)))] [(.int (y1 &&& (255 : Int32))), (.int ((y0 &&& (255 : Int32)) <<< ((0 : Int32) &&& 31)))])) rfl (hb hby d21_53)
  have P14 := own_step (C := T13.setTop (mkF m 56 #[.val (.ref b), .val (.int ((iq <<< ((1 : Int32) &&& 31)) + (1 : Int32)))] [(.int (8 : Int32)), (.int (y1 &&& (255 : Int32))), (.int ((y0 &&& (255 : Int32)) <<< ((0 : Int32) &&& 31)))])) P12 (fun t_ k_ => st13 t_ k_)
  have P15 := own_step (C := T13.setTop (mkF m 59 #[.val (.ref b), .val (.int ((iq <<< ((1 : Int32) &&& 31)) + (1 : Int32)))] [(.int ((((y0 &&& (255 : Int32)) <<< ((0 : Int32) &&& 31)) ||| ((y1 &&& (255 : Int32)) <<< ((8 : Int32) &&& 31))).toUInt32.toUInt16.toUInt32.toInt32))])) P14 (by
    intro tt_ kk_
    refine XS.ishl X13.here hx rfl (hb hby d21_56) rfl ?_
    refine XS.ior X13.here hx rfl (hb hby d21_57) rfl ?_
    refine XS.i2c X13.here hx rfl (hb hby d21_58) rfl ?_
    exact kk_)
  obtain ⟨fs, hr, hrun, hended, hW, hsame⟩ := X13.leave (v := some (.int (nar .char ((((y0 &&& (255 : Int32)) <<< ((0 : Int32) &&& 31)) ||| ((y1 &&& (255 : Int32)) <<< ((8 : Int32) &&& 31))).toUInt32.toUInt16.toUInt32.toInt32)))) (fun h => by rw [Bd.returns] at h; cases h)
  refine ⟨_, _, P15 _ ?_, hrun, hended, _, _, rfl, ?_, ⟨_, rfl⟩, hW, hsame.mono (by decide) (by decide)⟩
  · exact retN X13 hx (t := .char) Bd.returns (by simp) (hb hby d21_59) hr
  · show Q_getC Z _ _ _ _ _ _ _ h0 n0 _ T13.heap _
    rw [e13]
    exact ⟨rfl, N0, rfl⟩
theorem pd5 : parseMethodDescriptor "(I[B)V" = some ⟨[.int, (.array .byte)], none⟩ := by decide +kernel
theorem pd6 : parseMethodDescriptor "([BI)C" = some ⟨[(.array .byte), .int], some .char⟩ := by decide +kernel
theorem d22_0 : decode jdk_52_method_83_code 0 = .ok (.iload_n 1, 1) := by decide +kernel
theorem d22_1 : decode jdk_52_method_83_code 1 = .ok (.aload_n 0, 1) := by decide +kernel
theorem d22_2 : decode jdk_52_method_83_code 2 = .ok (.invokestatic 67, 3) := by decide +kernel
theorem d22_5 : decode jdk_52_method_83_code 5 = .ok (.aload_n 0, 1) := by decide +kernel
theorem d22_6 : decode jdk_52_method_83_code 6 = .ok (.iload_n 1, 1) := by decide +kernel
theorem d22_7 : decode jdk_52_method_83_code 7 = .ok (.invokestatic 71, 3) := by decide +kernel
theorem d22_10 : decode jdk_52_method_83_code 10 = .ok (.ireturn, 1) := by decide +kernel
theorem ef__chU (m : MethodId) (x0 : Addr) (x1 : Int32) : entryFrame m #[(.ref x0), (.int x1)] 2 = mkF m 0 #[.val (.ref x0), .val (.int x1)] [] := by first | (simp [entryFrame, mkF, argsToLocals, Value.category]; done) | rfl
def Q_chU (Z : State) (b : Addr) (kb : ClassId) (zz : Int32) (vs : List Value) (iq : Int32) (y0 : Int32) (y1 : Int32) (rq : Int32) (fm : Value) (cx : Int32) (h0 : Heap) (n0 : Nat) (v_ : Option Value) (h : Heap) (L_ : List Loc) : Prop := v_ = some (.int cx) ∧ Fr n0 L_ ∧ h = h0
set_option maxRecDepth 65536 in
set_option maxHeartbeats 40000000 in
theorem rm_chU (l : Launch) (Z : State) (a0 : Array Value) (hw : ∀ d ∈ tables_1, d.before a0 Z = true) (ws : List Jvm.Cond) (b : Addr) (kb : ClassId) (zz : Int32) (vs : List Value) (iq : Int32) (y0 : Int32) (y1 : Int32) (rq : Int32) (fm : Value) (cx : Int32) (h0 : Heap) (n0 : Nat) (Z0 : n0 ≤ h0.size) (O : Old Z n0 h0) (Sad : Sta Z Z.heap "java/lang/StringUTF16" "$assertionsDisabled" "Z" (.int (1 : Int32))) (Shi : Sta Z Z.heap "java/lang/StringUTF16" "HI_BYTE_SHIFT" "I" (.int (0 : Int32))) (Slo : Sta Z Z.heap "java/lang/StringUTF16" "LO_BYTE_SHIFT" "I" (.int (8 : Int32))) (Sfm : Sta Z Z.heap "jdk/internal/util/Preconditions" "SIOOBE_FORMATTER" "Ljava/util/function/BiFunction;" fm) (hfm : fm.category = 1) (Vb : Arv Z h0 b kb .byte zz vs (.int 0)) (hi0 : ¬ (iq <<< ((1 : Int32) &&& 31)) < 0 ∧ (iq <<< ((1 : Int32) &&& 31)) < zz) (hi1 : ¬ ((iq <<< ((1 : Int32) &&& 31)) + (1 : Int32)) < 0 ∧ ((iq <<< ((1 : Int32) &&& 31)) + (1 : Int32)) < zz) (hu0 : vs.getD (iq <<< ((1 : Int32) &&& 31)).toNatClampNeg (.int 0) = .int y0) (hu1 : vs.getD ((iq <<< ((1 : Int32) &&& 31)) + (1 : Int32)).toNatClampNeg (.int 0) = .int y1) (hrq : (zz >>> ((1 : Int32) &&& 31)) = rq) (hj0 : ¬ (iq < (0 : Int32))) (hjn : iq < rq) (hcx : own_gc y0 y1 = cx) (gcx : own_C cx) :
    MetFree l (⟨"java/lang/StringUTF16", "charAt", "([BI)C"⟩ : MethodName) (head1 (Jvm.Cond.code (⟨"java/lang/StringUTF16", "charAt", "([BI)C"⟩ : MethodName) jdk_52_method_83_code 2 (some .char) :: ws) ({ frames := 3, cells := 0, slots := 0, locals := 40 } : Room)) (fun a_ U_ => a_ = #[(.ref b), (.int iq)] ∧ Z.Warmed39 U_.vm ∧ U_.heap = h0) (fun _ _ _ _ _ => True) (fun _ U_ o_ V_ => ∃ v_ L_, o_ = .returned v_ ∧ Q_chU Z b kb zz vs iq y0 y1 rq fm cx h0 n0 v_ V_.heap L_ ∧ FrameEnd U_ o_ V_ L_ ({ frames := 3, cells := 0, slots := 0, locals := 40 } : Room).cells ({ frames := 3, cells := 0, slots := 0, locals := 40 } : Room).slots) := by
  refine MetFree.of_bodySF (plainFor_of_name pn5) hisR ?_
  intro p e s m args below meth c s₁ Bd hml0 hP hK
  obtain ⟨rfl, hZ, hh⟩ := hP
  have hx := Bd.exec
  have hby := Bd.bytes
  have hml : c.maxLocals = 2 := hml0
  have hown : s.vm.findClass "java/lang/StringUTF16" = some m.cls := findClass_of_methodNamed Bd.named
  have hnm := (name_of_methodNamed Bd.named Bd.method).1
  have X0 : Stand p l e ({ frames := 3, cells := 0, slots := 0, locals := 40 } : Room) s m #[(.ref b), (.int iq)] below meth c s₁ [] 0 0 := Stand.of_body Bd
  have e0 : s₁.heap = h0 := by rw [← hh, Bd.state]; rfl
  have N0 := Fr.nil n0
  have pre0 : own_Go p e below (s₁.setTop (entryFrame m #[(.ref b), (.int iq)] 2)) (s₁.setTop (mkF m 0 #[.val (.ref b), .val (.int iq)] [])) := fun t_ k_ => castTop (ef__chU m b iq) k_
  have P1 := own_step (C := s₁.setTop (mkF m 2 #[.val (.ref b), .val (.int iq)] [(.ref b), (.int iq)])) pre0 (by
    intro tt_ kk_
    refine XS.iloadN X0.here hx rfl (hb hby d22_0) rfl ?_
    refine XS.aloadN X0.here hx rfl (hb hby d22_1) rfl rfl ?_
    exact kk_)
  obtain ⟨_, _, ⟨T2, L2, k2, n2⟩, -, X2, ⟨Lc2, hQ2, l2, y2, z2⟩, st2⟩ := Jvm.LawKit.callS X0 hx (y := (⟨"java/lang/StringUTF16", "checkIndex", "(I[B)V"⟩ : MethodName)) hown (mvT hZ (hw _ (List.mem_of_getElem? (i := 100) rfl))) (mvT hZ (hw _ (List.mem_of_getElem? (i := 101) rfl))) (mvT hZ (hw _ (List.mem_of_getElem? (i := 34) rfl))) (mvT hZ (hw _ (List.mem_of_getElem? (i := 102) rfl))) (by decide) (backOf (W := 0) (rm_chkU l Z a0 hw [] b kb zz vs iq rq fm h0 n0 Z0 O Sfm hfm Vb hrq hj0 hjn) hZ (hw _ (List.mem_of_getElem? (i := 102) rfl)) (hw _ (List.mem_of_getElem? (i := 34) rfl)) (by decide) (by decide)) (g := (mkF m 2 #[.val (.ref b), .val (.int iq)] [(.ref b), (.int iq)])) rfl (by rw [hml]; rfl) (argsL := [(.int iq), (.ref b)]) (rest := []) (lenOf pd5 rfl) rfl (by show 2 * 0 + _ ≤ _; exact Nat.le_of_eq rfl) (hb hby d22_2) (fun _ _ => ⟨rfl, e0, (by decide : 0 + 0 ≤ _), (by decide : 0 + 0 ≤ _)⟩)
  dsimp only [Pt.U, Pt.locs, Pt.cells, Pt.slots] at X2 l2 y2 z2 st2 hQ2
  subst l2 y2 z2
  obtain ⟨rfl, N2q, e2⟩ := hQ2
  have N2 := Fr.app N0 N2q
  have P3 := own_step (C := T2.setTop (mkF m 5 #[.val (.ref b), .val (.int iq)] [])) P1 (fun t_ k_ => st2 t_ k_)
  have P4 := own_step (C := T2.setTop (mkF m 7 #[.val (.ref b), .val (.int iq)] [(.int iq), (.ref b)])) P3 (by
    intro tt_ kk_
    refine XS.aloadN X2.here hx rfl (hb hby d22_5) rfl rfl ?_
    refine XS.iloadN X2.here hx rfl (hb hby d22_6) rfl ?_
    exact kk_)
  obtain ⟨_, _, ⟨T5, L5, k5, n5⟩, -, X5, ⟨Lc5, hQ5, l5, y5, z5⟩, st5⟩ := Jvm.LawKit.callS X2 hx (y := (⟨"java/lang/StringUTF16", "getChar", "([BI)C"⟩ : MethodName)) hown (mvT hZ (hw _ (List.mem_of_getElem? (i := 94) rfl))) (mvT hZ (hw _ (List.mem_of_getElem? (i := 95) rfl))) (mvT hZ (hw _ (List.mem_of_getElem? (i := 34) rfl))) (mvT hZ (hw _ (List.mem_of_getElem? (i := 96) rfl))) (by decide) (backOf (W := 0) (rm_getC l Z a0 hw [] b kb zz vs iq y0 y1 h0 n0 Z0 O Sad Shi Slo Vb hi0 hi1 hu0 hu1) hZ (hw _ (List.mem_of_getElem? (i := 96) rfl)) (hw _ (List.mem_of_getElem? (i := 34) rfl)) (by decide) (by decide)) (g := (mkF m 7 #[.val (.ref b), .val (.int iq)] [(.int iq), (.ref b)])) rfl (by rw [hml]; rfl) (argsL := [(.ref b), (.int iq)]) (rest := []) (lenOf pd6 rfl) rfl (by show 2 * 0 + _ ≤ _; exact Nat.le_of_eq rfl) (hb hby d22_7) (fun _ _ => ⟨rfl, e2, (by decide : 0 + 0 ≤ _), (by decide : 0 + 0 ≤ _)⟩)
  dsimp only [Pt.U, Pt.locs, Pt.cells, Pt.slots] at X5 l5 y5 z5 st5 hQ5
  subst l5 y5 z5
  obtain ⟨rfl, N5q, e5⟩ := hQ5
  have N5 := Fr.app N2 N5q
  have P6 := own_step (C := T5.setTop (mkF m 10 #[.val (.ref b), .val (.int iq)] [(.int (own_gc y0 y1))])) P4 (fun t_ k_ => st5 t_ k_)
  obtain ⟨fs, hr, hrun, hended, hW, hsame⟩ := X5.leave (v := some (.int (nar .char (own_gc y0 y1)))) (fun h => by rw [Bd.returns] at h; cases h)
  refine ⟨_, _, P6 _ ?_, hrun, hended, _, _, rfl, ?_, ⟨_, rfl⟩, hW, hsame.mono (by decide) (by decide)⟩
  · exact retN X5 hx (t := .char) Bd.returns (by simp) (hb hby d22_10) hr
  · show Q_chU Z _ _ _ _ _ _ _ _ _ _ h0 n0 _ T5.heap _
    rw [e5]
    exact ⟨by rw [hcx, own_nC gcx], N5, rfl⟩
theorem d12_0 : decode jdk_42_method_56_code 0 = .ok (.aload_n 0, 1) := by decide +kernel
theorem d12_1 : decode jdk_42_method_56_code 1 = .ok (.invokevirtual 492, 3) := by decide +kernel
theorem d12_4 : decode jdk_42_method_56_code 4 = .ok (.ifCond .eq 12, 3) := by decide +kernel
theorem d12_7 : decode jdk_42_method_56_code 7 = .ok (.aload_n 0, 1) := by decide +kernel
theorem d12_8 : decode jdk_42_method_56_code 8 = .ok (.getfield 9, 3) := by decide +kernel
theorem d12_11 : decode jdk_42_method_56_code 11 = .ok (.iload_n 1, 1) := by decide +kernel
theorem d12_12 : decode jdk_42_method_56_code 12 = .ok (.invokestatic 495, 3) := by decide +kernel
theorem d12_15 : decode jdk_42_method_56_code 15 = .ok (.ireturn, 1) := by decide +kernel
theorem d12_16 : decode jdk_42_method_56_code 16 = .ok (.aload_n 0, 1) := by decide +kernel
theorem d12_17 : decode jdk_42_method_56_code 17 = .ok (.getfield 9, 3) := by decide +kernel
theorem d12_20 : decode jdk_42_method_56_code 20 = .ok (.iload_n 1, 1) := by decide +kernel
theorem d12_21 : decode jdk_42_method_56_code 21 = .ok (.invokestatic 498, 3) := by decide +kernel
theorem d12_24 : decode jdk_42_method_56_code 24 = .ok (.ireturn, 1) := by decide +kernel
theorem ef__charS (m : MethodId) (x0 : Addr) (x1 : Int32) : entryFrame m #[(.ref x0), (.int x1)] 2 = mkF m 0 #[.val (.ref x0), .val (.int x1)] [] := by first | (simp [entryFrame, mkF, argsToLocals, Value.category]; done) | rfl
def Q_charS (Z : State) (a : Addr) (nq : Int32) (cl : List Int32) (iq : Int32) (cx : Int32) (fm : Value) (cs : Int32) (h0 : Heap) (n0 : Nat) (v_ : Option Value) (h : Heap) (L_ : List Loc) : Prop := v_ = some (.int cx) ∧ Fr n0 L_ ∧ h = h0
set_option maxRecDepth 65536 in
set_option maxHeartbeats 40000000 in
theorem rm_charS (l : Launch) (Z : State) (a0 : Array Value) (hw : ∀ d ∈ tables_1, d.before a0 Z = true) (ws : List Jvm.Cond) (a : Addr) (nq : Int32) (cl : List Int32) (iq : Int32) (cx : Int32) (fm : Value) (cs : Int32) (h0 : Heap) (n0 : Nat) (Z0 : n0 ≤ h0.size) (O : Old Z n0 h0) (Scs : Sta Z Z.heap "java/lang/String" "COMPACT_STRINGS" "Z" (.int cs)) (hcs : ¬ (cs = (0 : Int32))) (Sad : Sta Z Z.heap "java/lang/StringUTF16" "$assertionsDisabled" "Z" (.int (1 : Int32))) (Shi : Sta Z Z.heap "java/lang/StringUTF16" "HI_BYTE_SHIFT" "I" (.int (0 : Int32))) (Slo : Sta Z Z.heap "java/lang/StringUTF16" "LO_BYTE_SHIFT" "I" (.int (8 : Int32))) (Sfm : Sta Z Z.heap "jdk/internal/util/Preconditions" "SIOOBE_FORMATTER" "Ljava/util/function/BiFunction;" fm) (hfm : fm.category = 1) (HS : own_S Z h0 a nq cl) (hn0 : 0 < nq.toInt) (hn1 : nq.toInt < 1000) (hj : ¬ (iq < (0 : Int32)) ∧ iq < nq) (hcx : cl[iq.toNatClampNeg]? = some cx) (gcx : own_C cx) :
    MetFree l (⟨"java/lang/String", "charAt", "(I)C"⟩ : MethodName) (head1 (Jvm.Cond.code (⟨"java/lang/String", "charAt", "(I)C"⟩ : MethodName) jdk_42_method_56_code 2 (some .char) :: ws) ({ frames := 4, cells := 0, slots := 0, locals := 53 } : Room)) (fun a_ U_ => a_ = #[(.ref a), (.int iq)] ∧ Z.Warmed39 U_.vm ∧ U_.heap = h0) (fun _ _ _ _ _ => True) (fun _ U_ o_ V_ => ∃ v_ L_, o_ = .returned v_ ∧ Q_charS Z a nq cl iq cx fm cs h0 n0 v_ V_.heap L_ ∧ FrameEnd U_ o_ V_ L_ ({ frames := 4, cells := 0, slots := 0, locals := 53 } : Room).cells ({ frames := 4, cells := 0, slots := 0, locals := 53 } : Room).slots) := by
  refine MetFree.of_bodySF (plainFor_of_name pn1) hisR ?_
  intro p e s m args below meth c s₁ Bd hml0 hP hK
  obtain ⟨rfl, hZ, hh⟩ := hP
  have hx := Bd.exec
  have hby := Bd.bytes
  have hml : c.maxLocals = 2 := hml0
  have hown : s.vm.findClass "java/lang/String" = some m.cls := findClass_of_methodNamed Bd.named
  have hnm := (name_of_methodNamed Bd.named Bd.method).1
  have X0 : Stand p l e ({ frames := 4, cells := 0, slots := 0, locals := 53 } : Room) s m #[(.ref a), (.int iq)] below meth c s₁ [] 0 0 := Stand.of_body Bd
  have e0 : s₁.heap = h0 := by rw [← hh, Bd.state]; rfl
  have N0 := Fr.nil n0
  have pre0 : own_Go p e below (s₁.setTop (entryFrame m #[(.ref a), (.int iq)] 2)) (s₁.setTop (mkF m 0 #[.val (.ref a), .val (.int iq)] [])) := fun t_ k_ => castTop (ef__charS m a iq) k_
  obtain ⟨xb, kk, Ea, Fv, HS'⟩ := HS
  rcases HS' with ⟨hL, Fc, Vb⟩ | ⟨Fc, Vb⟩
  · have hx1 := own_lbE gcx (hL cx (List.mem_of_getElem? hcx))
    have P1 := own_step (C := s₁.setTop (mkF m 1 #[.val (.ref a), .val (.int iq)] [(.ref a)])) pre0 (by
      intro tt_ kk_
      refine XS.aloadN X0.here hx rfl (hb hby d12_0) rfl rfl ?_
      exact kk_)
    obtain ⟨cq2, kq2, q2a, q2b, q2c⟩ := isOf hZ e0 Ea
    obtain ⟨_, _, ⟨T2, L2, k2, n2⟩, -, X2, ⟨Lc2, hQ2, l2, y2, z2⟩, st2⟩ := X0.virtualBack hx (y := (⟨"java/lang/String", "isLatin1", "()Z"⟩ : MethodName)) (z := (⟨"java/lang/String", "isLatin1", "()Z"⟩ : MethodName)) hown (mvT hZ (hw _ (List.mem_of_getElem? (i := 61) rfl))) (mvT hZ (hw _ (List.mem_of_getElem? (i := 62) rfl))) (notFace_of_selects (args := #[]) (mvT hZ (hw _ (List.mem_of_getElem? (i := 64) rfl)))) (mvT hZ (hw _ (List.mem_of_getElem? (i := 64) rfl))) (mvT hZ (hw _ (List.mem_of_getElem? (i := 63) rfl))) (by decide) (backOf (W := 0) (rm_lat0 l Z a0 hw [] a cs h0 n0 Z0 O Scs hcs Fc) hZ (hw _ (List.mem_of_getElem? (i := 65) rfl)) (hw _ (List.mem_of_getElem? (i := 2) rfl)) (by decide) (by decide)) q2a q2c (g := (mkF m 1 #[.val (.ref a), .val (.int iq)] [(.ref a)])) rfl (by rw [hml]; rfl) (Steps.refl _) (argsL := []) (rest := []) (lenOf pd0 rfl) rfl (by show 2 * 0 + _ ≤ _; exact Nat.le_of_eq rfl) (hb hby d12_1) (fun _ _ => ⟨rfl, e0, (by decide : 0 + 0 ≤ _), (by decide : 0 + 0 ≤ _)⟩)
    dsimp only [Pt.U, Pt.locs, Pt.cells, Pt.slots] at X2 l2 y2 z2 st2 hQ2
    subst l2 y2 z2
    obtain ⟨rfl, N2q, e2⟩ := hQ2
    have N2 := Fr.app N0 N2q
    have P3 := own_step (C := T2.setTop (mkF m 4 #[.val (.ref a), .val (.int iq)] [(.int (1 : Int32))])) P1 (fun t_ k_ => st2.trans k_)
    have P4 := own_step (C := T2.setTop (mkF m 8 #[.val (.ref a), .val (.int iq)] [(.ref a)])) P3 (by
      intro tt_ kk_
      refine XS.ifNo X2.here hx rfl (hb hby d12_4) rfl ((if0 _ _).trans (feq (by decide : ¬ ((1 : Int32) = (0 : Int32)))).1) ?_
      refine XS.aloadN X2.here hx rfl (hb hby d12_7) rfl rfl ?_
      exact kk_)
    obtain ⟨T5, X5, e5, st5⟩ := getF X2 hx hZ hown (host := "") (Or.inl (hw _ (List.mem_of_getElem? (i := 20) rfl))) Via.refl e2 Fv (g := (mkF m 8 #[.val (.ref a), .val (.int iq)] [(.ref a)])) rfl rfl (hb hby d12_8)
    have P6 := own_step (C := T5.setTop (mkF m 11 #[.val (.ref a), .val (.int iq)] [(.ref xb)])) P4 (fun t_ k_ => st5 t_ k_)
    have P7 := own_step (C := T5.setTop (mkF m 12 #[.val (.ref a), .val (.int iq)] [(.int iq), (.ref xb)])) P6 (by
      intro tt_ kk_
      refine XS.iloadN X5.here hx rfl (hb hby d12_11) rfl ?_
      exact kk_)
    obtain ⟨_, _, ⟨T8, L8, k8, n8⟩, -, X8, ⟨Lc8, hQ8, l8, y8, z8⟩, st8⟩ := Jvm.LawKit.callS X5 hx (y := (⟨"java/lang/StringLatin1", "charAt", "([BI)C"⟩ : MethodName)) hown (mvT hZ (hw _ (List.mem_of_getElem? (i := 66) rfl))) (mvT hZ (hw _ (List.mem_of_getElem? (i := 67) rfl))) (mvT hZ (hw _ (List.mem_of_getElem? (i := 68) rfl))) (mvT hZ (hw _ (List.mem_of_getElem? (i := 69) rfl))) (by decide) (backOf (W := 0) (rm_chL l Z a0 hw [] xb kk nq _ iq (own_lb cx) fm h0 n0 Z0 O Vb Sfm hfm hj (own_mapD hcx)) hZ (hw _ (List.mem_of_getElem? (i := 69) rfl)) (hw _ (List.mem_of_getElem? (i := 68) rfl)) (by decide) (by decide)) (g := (mkF m 12 #[.val (.ref a), .val (.int iq)] [(.int iq), (.ref xb)])) rfl (by rw [hml]; rfl) (argsL := [(.ref xb), (.int iq)]) (rest := []) (lenOf pd6 rfl) rfl (by show 2 * 0 + _ ≤ _; exact Nat.le_of_eq rfl) (hb hby d12_12) (fun _ _ => ⟨rfl, e5, (by decide : 0 + 0 ≤ _), (by decide : 0 + 0 ≤ _)⟩)
    dsimp only [Pt.U, Pt.locs, Pt.cells, Pt.slots] at X8 l8 y8 z8 st8 hQ8
    subst l8 y8 z8
    obtain ⟨rfl, N8q, e8⟩ := hQ8
    have N8 := Fr.app N2 N8q
    have P9 := own_step (C := T8.setTop (mkF m 15 #[.val (.ref a), .val (.int iq)] [(.int (own_lb cx &&& (255 : Int32)))])) P7 (fun t_ k_ => st8 t_ k_)
    obtain ⟨fs, hr, hrun, hended, hW, hsame⟩ := X8.leave (v := some (.int (nar .char (own_lb cx &&& (255 : Int32))))) (fun h => by rw [Bd.returns] at h; cases h)
    refine ⟨_, _, P9 _ ?_, hrun, hended, _, _, rfl, ?_, ⟨_, rfl⟩, hW, hsame.mono (by decide) (by decide)⟩
    · exact retN X8 hx (t := .char) Bd.returns (by simp) (hb hby d12_15) hr
    · show Q_charS Z _ _ _ _ _ _ _ h0 n0 _ T8.heap _
      rw [e8]
      exact ⟨by rw [own_nc1, hx1], N8, rfl⟩
  · have P10 := own_step (C := s₁.setTop (mkF m 1 #[.val (.ref a), .val (.int iq)] [(.ref a)])) pre0 (by
      intro tt_ kk_
      refine XS.aloadN X0.here hx rfl (hb hby d12_0) rfl rfl ?_
      exact kk_)
    obtain ⟨cq11, kq11, q11a, q11b, q11c⟩ := isOf hZ e0 Ea
    obtain ⟨_, _, ⟨T11, L11, k11, n11⟩, -, X11, ⟨Lc11, hQ11, l11, y11, z11⟩, st11⟩ := X0.virtualBack hx (y := (⟨"java/lang/String", "isLatin1", "()Z"⟩ : MethodName)) (z := (⟨"java/lang/String", "isLatin1", "()Z"⟩ : MethodName)) hown (mvT hZ (hw _ (List.mem_of_getElem? (i := 61) rfl))) (mvT hZ (hw _ (List.mem_of_getElem? (i := 62) rfl))) (notFace_of_selects (args := #[]) (mvT hZ (hw _ (List.mem_of_getElem? (i := 64) rfl)))) (mvT hZ (hw _ (List.mem_of_getElem? (i := 64) rfl))) (mvT hZ (hw _ (List.mem_of_getElem? (i := 63) rfl))) (by decide) (backOf (W := 0) (rm_lat1 l Z a0 hw [] a cs h0 n0 Z0 O Scs hcs Fc) hZ (hw _ (List.mem_of_getElem? (i := 65) rfl)) (hw _ (List.mem_of_getElem? (i := 2) rfl)) (by decide) (by decide)) q11a q11c (g := (mkF m 1 #[.val (.ref a), .val (.int iq)] [(.ref a)])) rfl (by rw [hml]; rfl) (Steps.refl _) (argsL := []) (rest := []) (lenOf pd0 rfl) rfl (by show 2 * 0 + _ ≤ _; exact Nat.le_of_eq rfl) (hb hby d12_1) (fun _ _ => ⟨rfl, e0, (by decide : 0 + 0 ≤ _), (by decide : 0 + 0 ≤ _)⟩)
    dsimp only [Pt.U, Pt.locs, Pt.cells, Pt.slots] at X11 l11 y11 z11 st11 hQ11
    subst l11 y11 z11
    obtain ⟨rfl, N11q, e11⟩ := hQ11
    have N11 := Fr.app N0 N11q
    have P12 := own_step (C := T11.setTop (mkF m 4 #[.val (.ref a), .val (.int iq)] [(.int (0 : Int32))])) P10 (fun t_ k_ => st11.trans k_)
    have P13 := own_step (C := T11.setTop (mkF m 17 #[.val (.ref a), .val (.int iq)] [(.ref a)])) P12 (by
      intro tt_ kk_
      refine XS.ifYes X11.here hx rfl (pc0 := 4) (pc' := 16) rfl (hb hby d12_4) rfl ((if0 _ _).trans (teq (by decide : (0 : Int32) = (0 : Int32))).1) (by decide) (by decide) ?_
      refine XS.aloadN X11.here hx rfl (hb hby d12_16) rfl rfl ?_
      exact kk_)
    obtain ⟨T14, X14, e14, st14⟩ := getF X11 hx hZ hown (host := "") (Or.inl (hw _ (List.mem_of_getElem? (i := 20) rfl))) Via.refl e11 Fv (g := (mkF m 17 #[.val (.ref a), .val (.int iq)] [(.ref a)])) rfl rfl (hb hby d12_17)
    have P15 := own_step (C := T14.setTop (mkF m 20 #[.val (.ref a), .val (.int iq)] [(.ref xb)])) P13 (fun t_ k_ => st14 t_ k_)
    have P16 := own_step (C := T14.setTop (mkF m 21 #[.val (.ref a), .val (.int iq)] [(.int iq), (.ref xb)])) P15 (by
      intro tt_ kk_
      refine XS.iloadN X14.here hx rfl (hb hby d12_20) rfl ?_
      exact kk_)
    obtain ⟨_, _, ⟨T17, L17, k17, n17⟩, -, X17, ⟨Lc17, hQ17, l17, y17, z17⟩, st17⟩ := Jvm.LawKit.callS X14 hx (y := (⟨"java/lang/StringUTF16", "charAt", "([BI)C"⟩ : MethodName)) hown (mvT hZ (hw _ (List.mem_of_getElem? (i := 97) rfl))) (mvT hZ (hw _ (List.mem_of_getElem? (i := 98) rfl))) (mvT hZ (hw _ (List.mem_of_getElem? (i := 34) rfl))) (mvT hZ (hw _ (List.mem_of_getElem? (i := 99) rfl))) (by decide) (backOf (W := 0) (rm_chU l Z a0 hw [] xb kk (nq + nq) _ iq (own_b0 cx) (own_b1 cx) nq fm cx h0 n0 Z0 O Sad Shi Slo Sfm hfm Vb (own_in0 hj hn1) (own_in1 hj hn1) (own_ubD0 hj hn1 hcx) (own_ubD1 hj hn1 hcx) (own_shr1 hn0 hn1) hj.1 hj.2 (own_gcE gcx) gcx) hZ (hw _ (List.mem_of_getElem? (i := 99) rfl)) (hw _ (List.mem_of_getElem? (i := 34) rfl)) (by decide) (by decide)) (g := (mkF m 21 #[.val (.ref a), .val (.int iq)] [(.int iq), (.ref xb)])) rfl (by rw [hml]; rfl) (argsL := [(.ref xb), (.int iq)]) (rest := []) (lenOf pd6 rfl) rfl (by show 2 * 0 + _ ≤ _; exact Nat.le_of_eq rfl) (hb hby d12_21) (fun _ _ => ⟨rfl, e14, (by decide : 0 + 0 ≤ _), (by decide : 0 + 0 ≤ _)⟩)
    dsimp only [Pt.U, Pt.locs, Pt.cells, Pt.slots] at X17 l17 y17 z17 st17 hQ17
    subst l17 y17 z17
    obtain ⟨rfl, N17q, e17⟩ := hQ17
    have N17 := Fr.app N11 N17q
    have P18 := own_step (C := T17.setTop (mkF m 24 #[.val (.ref a), .val (.int iq)] [(.int cx)])) P16 (fun t_ k_ => st17 t_ k_)
    obtain ⟨fs, hr, hrun, hended, hW, hsame⟩ := X17.leave (v := some (.int (nar .char cx))) (fun h => by rw [Bd.returns] at h; cases h)
    refine ⟨_, _, P18 _ ?_, hrun, hended, _, _, rfl, ?_, ⟨_, rfl⟩, hW, hsame.mono (by decide) (by decide)⟩
    · exact retN X17 hx (t := .char) Bd.returns (by simp) (hb hby d12_24) hr
    · show Q_charS Z _ _ _ _ _ _ _ h0 n0 _ T17.heap _
      rw [e17]
      exact ⟨by rw [own_nC gcx], N17, rfl⟩
theorem pd7 : parseMethodDescriptor "()I" = some ⟨[], some .int⟩ := by decide +kernel
theorem pd8 : parseMethodDescriptor "(I)C" = some ⟨[.int], some .char⟩ := by decide +kernel
theorem d4_9 : decode prog_5_method_2_code 9 = .ok (.iconst 0, 1) := by decide +kernel
theorem d4_10 : decode prog_5_method_2_code 10 = .ok (.istore_n 1, 1) := by decide +kernel
theorem d4_11 : decode prog_5_method_2_code 11 = .ok (.iload_n 1, 1) := by decide +kernel
theorem d4_12 : decode prog_5_method_2_code 12 = .ok (.aload_n 0, 1) := by decide +kernel
theorem d4_13 : decode prog_5_method_2_code 13 = .ok (.invokevirtual 13, 3) := by decide +kernel
theorem d4_16 : decode prog_5_method_2_code 16 = .ok (.if_icmp .ge 41, 3) := by decide +kernel
theorem d4_19 : decode prog_5_method_2_code 19 = .ok (.aload_n 0, 1) := by decide +kernel
theorem d4_20 : decode prog_5_method_2_code 20 = .ok (.iload_n 1, 1) := by decide +kernel
theorem d4_21 : decode prog_5_method_2_code 21 = .ok (.invokevirtual 17, 3) := by decide +kernel
theorem d4_24 : decode prog_5_method_2_code 24 = .ok (.istore_n 2, 1) := by decide +kernel
theorem d4_25 : decode prog_5_method_2_code 25 = .ok (.iload_n 2, 1) := by decide +kernel
theorem d4_26 : decode prog_5_method_2_code 26 = .ok (.bipush 33, 2) := by decide +kernel
theorem d4_28 : decode prog_5_method_2_code 28 = .ok (.if_icmp .lt 21, 3) := by decide +kernel
theorem d4_31 : decode prog_5_method_2_code 31 = .ok (.iload_n 2, 1) := by decide +kernel
theorem d4_32 : decode prog_5_method_2_code 32 = .ok (.bipush 126, 2) := by decide +kernel
theorem d4_34 : decode prog_5_method_2_code 34 = .ok (.if_icmp .gt 15, 3) := by decide +kernel
theorem d4_37 : decode prog_5_method_2_code 37 = .ok (.iload_n 2, 1) := by decide +kernel
theorem d4_38 : decode prog_5_method_2_code 38 = .ok (.bipush 34, 2) := by decide +kernel
theorem d4_40 : decode prog_5_method_2_code 40 = .ok (.if_icmp .eq 9, 3) := by decide +kernel
theorem d4_43 : decode prog_5_method_2_code 43 = .ok (.iload_n 2, 1) := by decide +kernel
theorem d4_44 : decode prog_5_method_2_code 44 = .ok (.bipush 92, 2) := by decide +kernel
theorem d4_46 : decode prog_5_method_2_code 46 = .ok (.if_icmp .ne 5, 3) := by decide +kernel
theorem d4_49 : decode prog_5_method_2_code 49 = .ok (.iconst 0, 1) := by decide +kernel
theorem d4_50 : decode prog_5_method_2_code 50 = .ok (.ireturn, 1) := by decide +kernel
theorem d4_51 : decode prog_5_method_2_code 51 = .ok (.iinc 1 1, 3) := by decide +kernel
theorem d4_54 : decode prog_5_method_2_code 54 = .ok (.goto (-43), 3) := by decide +kernel
theorem d4_57 : decode prog_5_method_2_code 57 = .ok (.iconst 1, 1) := by decide +kernel
theorem d4_58 : decode prog_5_method_2_code 58 = .ok (.ireturn, 1) := by decide +kernel
theorem ef__tok1 (m : MethodId) (x0 : Addr) : entryFrame m #[(.ref x0)] 3 = mkF m 0 #[.val (.ref x0), .unset, .unset] [] := by first | (simp [entryFrame, mkF, argsToLocals, Value.category]; done) | rfl
def Q_tok1 (Z : State) (a : Addr) (c0 : Int32) (fm : Value) (cs : Int32) (h0 : Heap) (n0 : Nat) (v_ : Option Value) (h : Heap) (L_ : List Loc) : Prop := v_ = some (.int (own_tok1 c0)) ∧ Fr n0 L_ ∧ h = h0
set_option maxRecDepth 65536 in
set_option maxHeartbeats 40000000 in
theorem rm_tok1 (l : Launch) (Z : State) (a0 : Array Value) (hw : ∀ d ∈ tables_1, d.before a0 Z = true) (ws : List Jvm.Cond) (a : Addr) (c0 : Int32) (fm : Value) (cs : Int32) (h0 : Heap) (n0 : Nat) (Z0 : n0 ≤ h0.size) (O : Old Z n0 h0) (Scs : Sta Z Z.heap "java/lang/String" "COMPACT_STRINGS" "Z" (.int cs)) (hcs : ¬ (cs = (0 : Int32))) (Sad : Sta Z Z.heap "java/lang/StringUTF16" "$assertionsDisabled" "Z" (.int (1 : Int32))) (Shi : Sta Z Z.heap "java/lang/StringUTF16" "HI_BYTE_SHIFT" "I" (.int (0 : Int32))) (Slo : Sta Z Z.heap "java/lang/StringUTF16" "LO_BYTE_SHIFT" "I" (.int (8 : Int32))) (Sfm : Sta Z Z.heap "jdk/internal/util/Preconditions" "SIOOBE_FORMATTER" "Ljava/util/function/BiFunction;" fm) (hfm : fm.category = 1) (HS : own_S Z h0 a (1 : Int32) [c0]) (Ea : Exa Z h0 a "java/lang/String") (gc0 : own_C c0) :
    MetFree l (⟨"com/example/issuant/issuant/config/Scopes", "isToken", "(Ljava/lang/String;)Z"⟩ : MethodName) (head1 (Jvm.Cond.code (⟨"com/example/issuant/issuant/config/Scopes", "isToken", "(Ljava/lang/String;)Z"⟩ : MethodName) prog_5_method_2_code 3 (some .boolean) :: ws) ({ frames := 5, cells := 0, slots := 0, locals := 66 } : Room)) (fun a_ U_ => a_ = #[(.ref a)] ∧ Z.Warmed39 U_.vm ∧ U_.heap = h0) (fun _ _ _ _ _ => True) (fun _ U_ o_ V_ => ∃ v_ L_, o_ = .returned v_ ∧ Q_tok1 Z a c0 fm cs h0 n0 v_ V_.heap L_ ∧ FrameEnd U_ o_ V_ L_ ({ frames := 5, cells := 0, slots := 0, locals := 66 } : Room).cells ({ frames := 5, cells := 0, slots := 0, locals := 66 } : Room).slots) := by
  refine MetFree.of_bodySF (plainFor_of_name pn2) hisR ?_
  intro p e s m args below meth c s₁ Bd hml0 hP hK
  obtain ⟨rfl, hZ, hh⟩ := hP
  have hx := Bd.exec
  have hby := Bd.bytes
  have hml : c.maxLocals = 3 := hml0
  have hown : s.vm.findClass "com/example/issuant/issuant/config/Scopes" = some m.cls := findClass_of_methodNamed Bd.named
  have hnm := (name_of_methodNamed Bd.named Bd.method).1
  have X0 : Stand p l e ({ frames := 5, cells := 0, slots := 0, locals := 66 } : Room) s m #[(.ref a)] below meth c s₁ [] 0 0 := Stand.of_body Bd
  have e0 : s₁.heap = h0 := by rw [← hh, Bd.state]; rfl
  have N0 := Fr.nil n0
  have pre0 : own_Go p e below (s₁.setTop (entryFrame m #[(.ref a)] 3)) (s₁.setTop (mkF m 0 #[.val (.ref a), .unset, .unset] [])) := fun t_ k_ => castTop (ef__tok1 m a) k_
  have P1 := own_step (C := s₁.setTop (mkF m 1 #[.val (.ref a), .unset, .unset] [(.ref a)])) pre0 (by
    intro tt_ kk_
    refine XS.aloadN X0.here hx rfl (hb hby d4_0) rfl rfl ?_
    exact kk_)
  obtain ⟨cq2, kq2, q2a, q2b, q2c⟩ := isOf hZ e0 Ea
  obtain ⟨_, _, ⟨T2, L2, k2, n2⟩, -, X2, ⟨Lc2, hQ2, l2, y2, z2⟩, st2⟩ := X0.virtualBack hx (y := (⟨"java/lang/String", "isEmpty", "()Z"⟩ : MethodName)) (z := (⟨"java/lang/String", "isEmpty", "()Z"⟩ : MethodName)) hown (mvT hZ (hw _ (List.mem_of_getElem? (i := 26) rfl))) (mvT hZ (hw _ (List.mem_of_getElem? (i := 27) rfl))) (notFace_of_selects (args := #[]) (mvT hZ (hw _ (List.mem_of_getElem? (i := 29) rfl)))) (mvT hZ (hw _ (List.mem_of_getElem? (i := 29) rfl))) (mvT hZ (hw _ (List.mem_of_getElem? (i := 28) rfl))) (by decide) (backOf (W := 0) (rm_empS l Z a0 hw [] a (1 : Int32) [c0] h0 n0 Z0 HS (by decide) (by decide)) hZ (hw _ (List.mem_of_getElem? (i := 30) rfl)) (hw _ (List.mem_of_getElem? (i := 2) rfl)) (by decide) (by decide)) q2a q2c (g := (mkF m 1 #[.val (.ref a), .unset, .unset] [(.ref a)])) rfl (by rw [hml]; rfl) (Steps.refl _) (argsL := []) (rest := []) (lenOf pd0 rfl) rfl (by show 2 * 0 + _ ≤ _; exact Nat.le_of_eq rfl) (hb hby d4_1) (fun _ _ => ⟨rfl, e0, (by decide : 0 + 0 ≤ _), (by decide : 0 + 0 ≤ _)⟩)
  dsimp only [Pt.U, Pt.locs, Pt.cells, Pt.slots] at X2 l2 y2 z2 st2 hQ2
  subst l2 y2 z2
  obtain ⟨rfl, N2q, e2⟩ := hQ2
  have N2 := Fr.app N0 N2q
  have P3 := own_step (C := T2.setTop (mkF m 4 #[.val (.ref a), .unset, .unset] [(.int (0 : Int32))])) P1 (fun t_ k_ => st2.trans k_)
  have P4 := own_step (C := T2.setTop (mkF m 13 #[.val (.ref a), .val (.int (0 : Int32)), .unset] [(.ref a), (.int (0 : Int32))])) P3 (by
    intro tt_ kk_
    refine XS.ifYes X2.here hx rfl (pc0 := 4) (pc' := 9) rfl (hb hby d4_4) rfl ((if0 _ _).trans (teq (by decide : (0 : Int32) = (0 : Int32))).1) (by decide) (by decide) ?_
    refine XS.iconst X2.here hx rfl (hb hby d4_9) ?_
    refine XS.istoreN X2.here hx rfl (hb hby d4_10) rfl (l' := #[.val (.ref a), .val (.int (0 : Int32)), .unset]) rfl ?_
    refine XS.iloadN X2.here hx rfl (hb hby d4_11) rfl ?_
    refine XS.aloadN X2.here hx rfl (hb hby d4_12) rfl rfl ?_
    exact kk_)
  obtain ⟨cq5, kq5, q5a, q5b, q5c⟩ := isOf hZ e2 Ea
  obtain ⟨_, _, ⟨T5, L5, k5, n5⟩, -, X5, ⟨Lc5, hQ5, l5, y5, z5⟩, st5⟩ := X2.virtualBack hx (y := (⟨"java/lang/String", "length", "()I"⟩ : MethodName)) (z := (⟨"java/lang/String", "length", "()I"⟩ : MethodName)) hown (mvT hZ (hw _ (List.mem_of_getElem? (i := 46) rfl))) (mvT hZ (hw _ (List.mem_of_getElem? (i := 47) rfl))) (notFace_of_selects (args := #[]) (mvT hZ (hw _ (List.mem_of_getElem? (i := 49) rfl)))) (mvT hZ (hw _ (List.mem_of_getElem? (i := 49) rfl))) (mvT hZ (hw _ (List.mem_of_getElem? (i := 48) rfl))) (by decide) (backOf (W := 1) (rm_lenS l Z a0 hw [] a (1 : Int32) [c0] cs h0 n0 Z0 O Scs hcs HS (by decide) (by decide)) hZ (hw _ (List.mem_of_getElem? (i := 50) rfl)) (hw _ (List.mem_of_getElem? (i := 2) rfl)) (by decide) (by decide)) q5a q5c (g := (mkF m 13 #[.val (.ref a), .val (.int (0 : Int32)), .unset] [(.ref a), (.int (0 : Int32))])) rfl (by rw [hml]; rfl) (Steps.refl _) (argsL := []) (rest := [(.int (0 : Int32))]) (lenOf pd7 rfl) rfl (by show 2 * 0 + _ ≤ _; exact Nat.le_of_eq rfl) (hb hby d4_13) (fun _ _ => ⟨rfl, e2, (by decide : 0 + 0 ≤ _), (by decide : 0 + 0 ≤ _)⟩)
  dsimp only [Pt.U, Pt.locs, Pt.cells, Pt.slots] at X5 l5 y5 z5 st5 hQ5
  subst l5 y5 z5
  obtain ⟨rfl, N5q, e5⟩ := hQ5
  have N5 := Fr.app N2 N5q
  have P6 := own_step (C := T5.setTop (mkF m 16 #[.val (.ref a), .val (.int (0 : Int32)), .unset] [(.int (1 : Int32)), (.int (0 : Int32))])) P4 (fun t_ k_ => st5.trans k_)
  have P7 := own_step (C := T5.setTop (mkF m 21 #[.val (.ref a), .val (.int (0 : Int32)), .unset] [(.int (0 : Int32)), (.ref a)])) P6 (by
    intro tt_ kk_
    refine XS.icmpNo X5.here hx rfl (hb hby d4_16) rfl (tlt (by decide : (0 : Int32) < (1 : Int32))).2.1 ?_
    refine XS.aloadN X5.here hx rfl (hb hby d4_19) rfl rfl ?_
    refine XS.iloadN X5.here hx rfl (hb hby d4_20) rfl ?_
    exact kk_)
  obtain ⟨cq8, kq8, q8a, q8b, q8c⟩ := isOf hZ e5 Ea
  obtain ⟨_, _, ⟨T8, L8, k8, n8⟩, -, X8, ⟨Lc8, hQ8, l8, y8, z8⟩, st8⟩ := X5.virtualBack hx (y := (⟨"java/lang/String", "charAt", "(I)C"⟩ : MethodName)) (z := (⟨"java/lang/String", "charAt", "(I)C"⟩ : MethodName)) hown (mvT hZ (hw _ (List.mem_of_getElem? (i := 56) rfl))) (mvT hZ (hw _ (List.mem_of_getElem? (i := 57) rfl))) (notFace_of_selects (args := #[]) (mvT hZ (hw _ (List.mem_of_getElem? (i := 59) rfl)))) (mvT hZ (hw _ (List.mem_of_getElem? (i := 59) rfl))) (mvT hZ (hw _ (List.mem_of_getElem? (i := 58) rfl))) (by decide) (backOf (W := 0) (rm_charS l Z a0 hw [] a (1 : Int32) [c0] (0 : Int32) c0 fm cs h0 n0 Z0 O Scs hcs Sad Shi Slo Sfm hfm HS (by decide) (by decide) (by decide) rfl gc0) hZ (hw _ (List.mem_of_getElem? (i := 60) rfl)) (hw _ (List.mem_of_getElem? (i := 2) rfl)) (by decide) (by decide)) q8a q8c (g := (mkF m 21 #[.val (.ref a), .val (.int (0 : Int32)), .unset] [(.int (0 : Int32)), (.ref a)])) rfl (by rw [hml]; rfl) (Steps.refl _) (argsL := [(.int (0 : Int32))]) (rest := []) (lenOf pd8 rfl) rfl (by show 2 * 0 + _ ≤ _; exact Nat.le_of_eq rfl) (hb hby d4_21) (fun _ _ => ⟨rfl, e5, (by decide : 0 + 0 ≤ _), (by decide : 0 + 0 ≤ _)⟩)
  dsimp only [Pt.U, Pt.locs, Pt.cells, Pt.slots] at X8 l8 y8 z8 st8 hQ8
  subst l8 y8 z8
  obtain ⟨rfl, N8q, e8⟩ := hQ8
  have N8 := Fr.app N5 N8q
  have P9 := own_step (C := T8.setTop (mkF m 24 #[.val (.ref a), .val (.int (0 : Int32)), .unset] [(.int c0)])) P7 (fun t_ k_ => st8.trans k_)
  have P10 := own_step (C := T8.setTop (mkF m 28 #[.val (.ref a), .val (.int (0 : Int32)), .val (.int c0)] [(.int (33 : Int32)), (.int c0)])) P9 (by
    intro tt_ kk_
    refine XS.istoreN X8.here hx rfl (hb hby d4_24) rfl (l' := #[.val (.ref a), .val (.int (0 : Int32)), .val (.int c0)]) rfl ?_
    refine XS.iloadN X8.here hx rfl (hb hby d4_25) rfl ?_
    refine XS.bipush X8.here hx rfl (hb hby d4_26) ?_
    exact kk_)
  by_cases c11 : c0 < (33 : Int32)
  · have P12 := own_step (C := T8.setTop (mkF m 50 #[.val (.ref a), .val (.int (0 : Int32)), .val (.int c0)] [(.int (0 : Int32))])) P10 (by
      intro tt_ kk_
      refine XS.icmpYes X8.here hx rfl (pc0 := 28) (pc' := 49) rfl (hb hby d4_28) rfl (tlt c11).1 (by decide) (by decide) ?_
      refine XS.iconst X8.here hx rfl (hb hby d4_49) ?_
      exact kk_)
    obtain ⟨fs, hr, hrun, hended, hW, hsame⟩ := X8.leave (v := some (.int (0 : Int32))) (fun h => by rw [Bd.returns] at h; cases h)
    refine ⟨_, _, P12 _ ?_, hrun, hended, _, _, rfl, ?_, ⟨_, rfl⟩, hW, hsame.mono (by decide) (by decide)⟩
    · exact retN X8 hx (t := .boolean) Bd.returns (by simp) (hb hby d4_50) hr
    · show Q_tok1 Z _ _ _ _ h0 n0 _ T8.heap _
      rw [e8]
      exact ⟨by unfold own_tok1; rw [if_pos c11], N8, rfl⟩
  · have P13 := own_step (C := T8.setTop (mkF m 34 #[.val (.ref a), .val (.int (0 : Int32)), .val (.int c0)] [(.int (126 : Int32)), (.int c0)])) P10 (by
      intro tt_ kk_
      refine XS.icmpNo X8.here hx rfl (hb hby d4_28) rfl (flt c11).1 ?_
      refine XS.iloadN X8.here hx rfl (hb hby d4_31) rfl ?_
      refine XS.bipush X8.here hx rfl (hb hby d4_32) ?_
      exact kk_)
    by_cases c14 : (126 : Int32) < c0
    · have P15 := own_step (C := T8.setTop (mkF m 50 #[.val (.ref a), .val (.int (0 : Int32)), .val (.int c0)] [(.int (0 : Int32))])) P13 (by
        intro tt_ kk_
        refine XS.icmpYes X8.here hx rfl (pc0 := 34) (pc' := 49) rfl (hb hby d4_34) rfl (tlt c14).2.2.1 (by decide) (by decide) ?_
        refine XS.iconst X8.here hx rfl (hb hby d4_49) ?_
        exact kk_)
      obtain ⟨fs, hr, hrun, hended, hW, hsame⟩ := X8.leave (v := some (.int (0 : Int32))) (fun h => by rw [Bd.returns] at h; cases h)
      refine ⟨_, _, P15 _ ?_, hrun, hended, _, _, rfl, ?_, ⟨_, rfl⟩, hW, hsame.mono (by decide) (by decide)⟩
      · exact retN X8 hx (t := .boolean) Bd.returns (by simp) (hb hby d4_50) hr
      · show Q_tok1 Z _ _ _ _ h0 n0 _ T8.heap _
        rw [e8]
        exact ⟨by unfold own_tok1; rw [if_neg c11, if_pos c14], N8, rfl⟩
    · have P16 := own_step (C := T8.setTop (mkF m 40 #[.val (.ref a), .val (.int (0 : Int32)), .val (.int c0)] [(.int (34 : Int32)), (.int c0)])) P13 (by
        intro tt_ kk_
        refine XS.icmpNo X8.here hx rfl (hb hby d4_34) rfl (flt c14).2.2.1 ?_
        refine XS.iloadN X8.here hx rfl (hb hby d4_37) rfl ?_
        refine XS.bipush X8.here hx rfl (hb hby d4_38) ?_
        exact kk_)
      by_cases c17 : c0 = (34 : Int32)
      · have P18 := own_step (C := T8.setTop (mkF m 50 #[.val (.ref a), .val (.int (0 : Int32)), .val (.int c0)] [(.int (0 : Int32))])) P16 (by
          intro tt_ kk_
          refine XS.icmpYes X8.here hx rfl (pc0 := 40) (pc' := 49) rfl (hb hby d4_40) rfl (teq c17).1 (by decide) (by decide) ?_
          refine XS.iconst X8.here hx rfl (hb hby d4_49) ?_
          exact kk_)
        obtain ⟨fs, hr, hrun, hended, hW, hsame⟩ := X8.leave (v := some (.int (0 : Int32))) (fun h => by rw [Bd.returns] at h; cases h)
        refine ⟨_, _, P18 _ ?_, hrun, hended, _, _, rfl, ?_, ⟨_, rfl⟩, hW, hsame.mono (by decide) (by decide)⟩
        · exact retN X8 hx (t := .boolean) Bd.returns (by simp) (hb hby d4_50) hr
        · show Q_tok1 Z _ _ _ _ h0 n0 _ T8.heap _
          rw [e8]
          exact ⟨by unfold own_tok1; rw [if_neg c11, if_neg c14, if_pos c17], N8, rfl⟩
      · have P19 := own_step (C := T8.setTop (mkF m 46 #[.val (.ref a), .val (.int (0 : Int32)), .val (.int c0)] [(.int (92 : Int32)), (.int c0)])) P16 (by
          intro tt_ kk_
          refine XS.icmpNo X8.here hx rfl (hb hby d4_40) rfl (feq c17).1 ?_
          refine XS.iloadN X8.here hx rfl (hb hby d4_43) rfl ?_
          refine XS.bipush X8.here hx rfl (hb hby d4_44) ?_
          exact kk_)
        by_cases c20 : c0 = (92 : Int32)
        · have P21 := own_step (C := T8.setTop (mkF m 50 #[.val (.ref a), .val (.int (0 : Int32)), .val (.int c0)] [(.int (0 : Int32))])) P19 (by
            intro tt_ kk_
            refine XS.icmpNo X8.here hx rfl (hb hby d4_46) rfl (teq c20).2 ?_
            refine XS.iconst X8.here hx rfl (hb hby d4_49) ?_
            exact kk_)
          obtain ⟨fs, hr, hrun, hended, hW, hsame⟩ := X8.leave (v := some (.int (0 : Int32))) (fun h => by rw [Bd.returns] at h; cases h)
          refine ⟨_, _, P21 _ ?_, hrun, hended, _, _, rfl, ?_, ⟨_, rfl⟩, hW, hsame.mono (by decide) (by decide)⟩
          · exact retN X8 hx (t := .boolean) Bd.returns (by simp) (hb hby d4_50) hr
          · show Q_tok1 Z _ _ _ _ h0 n0 _ T8.heap _
            rw [e8]
            exact ⟨by unfold own_tok1; rw [if_neg c11, if_neg c14, if_neg c17, if_pos c20], N8, rfl⟩
        · have P22 := own_step (C := T8.setTop (mkF m 13 #[.val (.ref a), .val (.int (1 : Int32)), .val (.int c0)] [(.ref a), (.int (1 : Int32))])) P19 (by
            intro tt_ kk_
            refine XS.icmpYes X8.here hx rfl (pc0 := 46) (pc' := 51) rfl (hb hby d4_46) rfl (feq c20).2 (by decide) (by decide) ?_
            refine XS.iinc X8.here hx rfl (hb hby d4_51) rfl (l' := #[.val (.ref a), .val (.int (1 : Int32)), .val (.int c0)]) rfl ?_
            show Steps p.tables e below (T8.setTop (mkF m 54 #[.val (.ref a), .val (.int (1 : Int32)), .val (.int c0)] [])) _
            refine XS.goto X8.here hx rfl (pc0 := 54) (pc' := 11) rfl (hb hby d4_54) (by decide) (by decide) ?_
            refine XS.iloadN X8.here hx rfl (hb hby d4_11) rfl ?_
            refine XS.aloadN X8.here hx rfl (hb hby d4_12) rfl rfl ?_
            exact kk_)
          obtain ⟨cq23, kq23, q23a, q23b, q23c⟩ := isOf hZ e8 Ea
          obtain ⟨_, _, ⟨T23, L23, k23, n23⟩, -, X23, ⟨Lc23, hQ23, l23, y23, z23⟩, st23⟩ := X8.virtualBack hx (y := (⟨"java/lang/String", "length", "()I"⟩ : MethodName)) (z := (⟨"java/lang/String", "length", "()I"⟩ : MethodName)) hown (mvT hZ (hw _ (List.mem_of_getElem? (i := 46) rfl))) (mvT hZ (hw _ (List.mem_of_getElem? (i := 47) rfl))) (notFace_of_selects (args := #[]) (mvT hZ (hw _ (List.mem_of_getElem? (i := 49) rfl)))) (mvT hZ (hw _ (List.mem_of_getElem? (i := 49) rfl))) (mvT hZ (hw _ (List.mem_of_getElem? (i := 48) rfl))) (by decide) (backOf (W := 1) (rm_lenS l Z a0 hw [] a (1 : Int32) [c0] cs h0 n0 Z0 O Scs hcs HS (by decide) (by decide)) hZ (hw _ (List.mem_of_getElem? (i := 50) rfl)) (hw _ (List.mem_of_getElem? (i := 2) rfl)) (by decide) (by decide)) q23a q23c (g := (mkF m 13 #[.val (.ref a), .val (.int (1 : Int32)), .val (.int c0)] [(.ref a), (.int (1 : Int32))])) rfl (by rw [hml]; rfl) (Steps.refl _) (argsL := []) (rest := [(.int (1 : Int32))]) (lenOf pd7 rfl) rfl (by show 2 * 0 + _ ≤ _; exact Nat.le_of_eq rfl) (hb hby d4_13) (fun _ _ => ⟨rfl, e8, (by decide : 0 + 0 ≤ _), (by decide : 0 + 0 ≤ _)⟩)
          dsimp only [Pt.U, Pt.locs, Pt.cells, Pt.slots] at X23 l23 y23 z23 st23 hQ23
          subst l23 y23 z23
          obtain ⟨rfl, N23q, e23⟩ := hQ23
          have N23 := Fr.app N8 N23q
          have P24 := own_step (C := T23.setTop (mkF m 16 #[.val (.ref a), .val (.int (1 : Int32)), .val (.int c0)] [(.int (1 : Int32)), (.int (1 : Int32))])) P22 (fun t_ k_ => st23.trans k_)
          have P25 := own_step (C := T23.setTop (mkF m 58 #[.val (.ref a), .val (.int (1 : Int32)), .val (.int c0)] [(.int (1 : Int32))])) P24 (by
            intro tt_ kk_
            refine XS.icmpYes X23.here hx rfl (pc0 := 16) (pc' := 57) rfl (hb hby d4_16) rfl (flt (by decide : ¬ ((1 : Int32) < (1 : Int32)))).2.1 (by decide) (by decide) ?_
            refine XS.iconst X23.here hx rfl (hb hby d4_57) ?_
            exact kk_)
          obtain ⟨fs, hr, hrun, hended, hW, hsame⟩ := X23.leave (v := some (.int (1 : Int32))) (fun h => by rw [Bd.returns] at h; cases h)
          refine ⟨_, _, P25 _ ?_, hrun, hended, _, _, rfl, ?_, ⟨_, rfl⟩, hW, hsame.mono (by decide) (by decide)⟩
          · exact retN X23 hx (t := .boolean) Bd.returns (by simp) (hb hby d4_58) hr
          · show Q_tok1 Z _ _ _ _ h0 n0 _ T23.heap _
            rw [e23]
            exact ⟨by unfold own_tok1; rw [if_neg c11, if_neg c14, if_neg c17, if_neg c20], N23, rfl⟩
def own_tok2 (c0 c1 : Int32) : Int32 := (if c0 < (33 : Int32) then (0 : Int32) else (if (126 : Int32) < c0 then (0 : Int32) else (if c0 = (34 : Int32) then (0 : Int32) else (if c0 = (92 : Int32) then (0 : Int32) else (if c1 < (33 : Int32) then (0 : Int32) else (if (126 : Int32) < c1 then (0 : Int32) else (if c1 = (34 : Int32) then (0 : Int32) else (if c1 = (92 : Int32) then (0 : Int32) else (1 : Int32)))))))))
theorem ef__tok2 (m : MethodId) (x0 : Addr) : entryFrame m #[(.ref x0)] 3 = mkF m 0 #[.val (.ref x0), .unset, .unset] [] := by first | (simp [entryFrame, mkF, argsToLocals, Value.category]; done) | rfl
def Q_tok2 (Z : State) (a : Addr) (c0 : Int32) (c1 : Int32) (fm : Value) (cs : Int32) (h0 : Heap) (n0 : Nat) (v_ : Option Value) (h : Heap) (L_ : List Loc) : Prop := v_ = some (.int (own_tok2 c0 c1)) ∧ Fr n0 L_ ∧ h = h0
set_option maxRecDepth 65536 in
set_option maxHeartbeats 40000000 in
theorem rm_tok2 (l : Launch) (Z : State) (a0 : Array Value) (hw : ∀ d ∈ tables_1, d.before a0 Z = true) (ws : List Jvm.Cond) (a : Addr) (c0 : Int32) (c1 : Int32) (fm : Value) (cs : Int32) (h0 : Heap) (n0 : Nat) (Z0 : n0 ≤ h0.size) (O : Old Z n0 h0) (Scs : Sta Z Z.heap "java/lang/String" "COMPACT_STRINGS" "Z" (.int cs)) (hcs : ¬ (cs = (0 : Int32))) (Sad : Sta Z Z.heap "java/lang/StringUTF16" "$assertionsDisabled" "Z" (.int (1 : Int32))) (Shi : Sta Z Z.heap "java/lang/StringUTF16" "HI_BYTE_SHIFT" "I" (.int (0 : Int32))) (Slo : Sta Z Z.heap "java/lang/StringUTF16" "LO_BYTE_SHIFT" "I" (.int (8 : Int32))) (Sfm : Sta Z Z.heap "jdk/internal/util/Preconditions" "SIOOBE_FORMATTER" "Ljava/util/function/BiFunction;" fm) (hfm : fm.category = 1) (HS : own_S Z h0 a (2 : Int32) [c0, c1]) (Ea : Exa Z h0 a "java/lang/String") (gc0 : own_C c0) (gc1 : own_C c1) :
    MetFree l (⟨"com/example/issuant/issuant/config/Scopes", "isToken", "(Ljava/lang/String;)Z"⟩ : MethodName) (head1 (Jvm.Cond.code (⟨"com/example/issuant/issuant/config/Scopes", "isToken", "(Ljava/lang/String;)Z"⟩ : MethodName) prog_5_method_2_code 3 (some .boolean) :: ws) ({ frames := 5, cells := 0, slots := 0, locals := 66 } : Room)) (fun a_ U_ => a_ = #[(.ref a)] ∧ Z.Warmed39 U_.vm ∧ U_.heap = h0) (fun _ _ _ _ _ => True) (fun _ U_ o_ V_ => ∃ v_ L_, o_ = .returned v_ ∧ Q_tok2 Z a c0 c1 fm cs h0 n0 v_ V_.heap L_ ∧ FrameEnd U_ o_ V_ L_ ({ frames := 5, cells := 0, slots := 0, locals := 66 } : Room).cells ({ frames := 5, cells := 0, slots := 0, locals := 66 } : Room).slots) := by
  refine MetFree.of_bodySF (plainFor_of_name pn2) hisR ?_
  intro p e s m args below meth c s₁ Bd hml0 hP hK
  obtain ⟨rfl, hZ, hh⟩ := hP
  have hx := Bd.exec
  have hby := Bd.bytes
  have hml : c.maxLocals = 3 := hml0
  have hown : s.vm.findClass "com/example/issuant/issuant/config/Scopes" = some m.cls := findClass_of_methodNamed Bd.named
  have hnm := (name_of_methodNamed Bd.named Bd.method).1
  have X0 : Stand p l e ({ frames := 5, cells := 0, slots := 0, locals := 66 } : Room) s m #[(.ref a)] below meth c s₁ [] 0 0 := Stand.of_body Bd
  have e0 : s₁.heap = h0 := by rw [← hh, Bd.state]; rfl
  have N0 := Fr.nil n0
  have pre0 : own_Go p e below (s₁.setTop (entryFrame m #[(.ref a)] 3)) (s₁.setTop (mkF m 0 #[.val (.ref a), .unset, .unset] [])) := fun t_ k_ => castTop (ef__tok2 m a) k_
  have P1 := own_step (C := s₁.setTop (mkF m 1 #[.val (.ref a), .unset, .unset] [(.ref a)])) pre0 (by
    intro tt_ kk_
    refine XS.aloadN X0.here hx rfl (hb hby d4_0) rfl rfl ?_
    exact kk_)
  obtain ⟨cq2, kq2, q2a, q2b, q2c⟩ := isOf hZ e0 Ea
  obtain ⟨_, _, ⟨T2, L2, k2, n2⟩, -, X2, ⟨Lc2, hQ2, l2, y2, z2⟩, st2⟩ := X0.virtualBack hx (y := (⟨"java/lang/String", "isEmpty", "()Z"⟩ : MethodName)) (z := (⟨"java/lang/String", "isEmpty", "()Z"⟩ : MethodName)) hown (mvT hZ (hw _ (List.mem_of_getElem? (i := 26) rfl))) (mvT hZ (hw _ (List.mem_of_getElem? (i := 27) rfl))) (notFace_of_selects (args := #[]) (mvT hZ (hw _ (List.mem_of_getElem? (i := 29) rfl)))) (mvT hZ (hw _ (List.mem_of_getElem? (i := 29) rfl))) (mvT hZ (hw _ (List.mem_of_getElem? (i := 28) rfl))) (by decide) (backOf (W := 0) (rm_empS l Z a0 hw [] a (2 : Int32) [c0, c1] h0 n0 Z0 HS (by decide) (by decide)) hZ (hw _ (List.mem_of_getElem? (i := 30) rfl)) (hw _ (List.mem_of_getElem? (i := 2) rfl)) (by decide) (by decide)) q2a q2c (g := (mkF m 1 #[.val (.ref a), .unset, .unset] [(.ref a)])) rfl (by rw [hml]; rfl) (Steps.refl _) (argsL := []) (rest := []) (lenOf pd0 rfl) rfl (by show 2 * 0 + _ ≤ _; exact Nat.le_of_eq rfl) (hb hby d4_1) (fun _ _ => ⟨rfl, e0, (by decide : 0 + 0 ≤ _), (by decide : 0 + 0 ≤ _)⟩)
  dsimp only [Pt.U, Pt.locs, Pt.cells, Pt.slots] at X2 l2 y2 z2 st2 hQ2
  subst l2 y2 z2
  obtain ⟨rfl, N2q, e2⟩ := hQ2
  have N2 := Fr.app N0 N2q
  have P3 := own_step (C := T2.setTop (mkF m 4 #[.val (.ref a), .unset, .unset] [(.int (0 : Int32))])) P1 (fun t_ k_ => st2.trans k_)
  have P4 := own_step (C := T2.setTop (mkF m 13 #[.val (.ref a), .val (.int (0 : Int32)), .unset] [(.ref a), (.int (0 : Int32))])) P3 (by
    intro tt_ kk_
    refine XS.ifYes X2.here hx rfl (pc0 := 4) (pc' := 9) rfl (hb hby d4_4) rfl ((if0 _ _).trans (teq (by decide : (0 : Int32) = (0 : Int32))).1) (by decide) (by decide) ?_
    refine XS.iconst X2.here hx rfl (hb hby d4_9) ?_
    refine XS.istoreN X2.here hx rfl (hb hby d4_10) rfl (l' := #[.val (.ref a), .val (.int (0 : Int32)), .unset]) rfl ?_
    refine XS.iloadN X2.here hx rfl (hb hby d4_11) rfl ?_
    refine XS.aloadN X2.here hx rfl (hb hby d4_12) rfl rfl ?_
    exact kk_)
  obtain ⟨cq5, kq5, q5a, q5b, q5c⟩ := isOf hZ e2 Ea
  obtain ⟨_, _, ⟨T5, L5, k5, n5⟩, -, X5, ⟨Lc5, hQ5, l5, y5, z5⟩, st5⟩ := X2.virtualBack hx (y := (⟨"java/lang/String", "length", "()I"⟩ : MethodName)) (z := (⟨"java/lang/String", "length", "()I"⟩ : MethodName)) hown (mvT hZ (hw _ (List.mem_of_getElem? (i := 46) rfl))) (mvT hZ (hw _ (List.mem_of_getElem? (i := 47) rfl))) (notFace_of_selects (args := #[]) (mvT hZ (hw _ (List.mem_of_getElem? (i := 49) rfl)))) (mvT hZ (hw _ (List.mem_of_getElem? (i := 49) rfl))) (mvT hZ (hw _ (List.mem_of_getElem? (i := 48) rfl))) (by decide) (backOf (W := 1) (rm_lenS l Z a0 hw [] a (2 : Int32) [c0, c1] cs h0 n0 Z0 O Scs hcs HS (by decide) (by decide)) hZ (hw _ (List.mem_of_getElem? (i := 50) rfl)) (hw _ (List.mem_of_getElem? (i := 2) rfl)) (by decide) (by decide)) q5a q5c (g := (mkF m 13 #[.val (.ref a), .val (.int (0 : Int32)), .unset] [(.ref a), (.int (0 : Int32))])) rfl (by rw [hml]; rfl) (Steps.refl _) (argsL := []) (rest := [(.int (0 : Int32))]) (lenOf pd7 rfl) rfl (by show 2 * 0 + _ ≤ _; exact Nat.le_of_eq rfl) (hb hby d4_13) (fun _ _ => ⟨rfl, e2, (by decide : 0 + 0 ≤ _), (by decide : 0 + 0 ≤ _)⟩)
  dsimp only [Pt.U, Pt.locs, Pt.cells, Pt.slots] at X5 l5 y5 z5 st5 hQ5
  subst l5 y5 z5
  obtain ⟨rfl, N5q, e5⟩ := hQ5
  have N5 := Fr.app N2 N5q
  have P6 := own_step (C := T5.setTop (mkF m 16 #[.val (.ref a), .val (.int (0 : Int32)), .unset] [(.int (2 : Int32)), (.int (0 : Int32))])) P4 (fun t_ k_ => st5.trans k_)
  have P7 := own_step (C := T5.setTop (mkF m 21 #[.val (.ref a), .val (.int (0 : Int32)), .unset] [(.int (0 : Int32)), (.ref a)])) P6 (by
    intro tt_ kk_
    refine XS.icmpNo X5.here hx rfl (hb hby d4_16) rfl (tlt (by decide : (0 : Int32) < (2 : Int32))).2.1 ?_
    refine XS.aloadN X5.here hx rfl (hb hby d4_19) rfl rfl ?_
    refine XS.iloadN X5.here hx rfl (hb hby d4_20) rfl ?_
    exact kk_)
  obtain ⟨cq8, kq8, q8a, q8b, q8c⟩ := isOf hZ e5 Ea
  obtain ⟨_, _, ⟨T8, L8, k8, n8⟩, -, X8, ⟨Lc8, hQ8, l8, y8, z8⟩, st8⟩ := X5.virtualBack hx (y := (⟨"java/lang/String", "charAt", "(I)C"⟩ : MethodName)) (z := (⟨"java/lang/String", "charAt", "(I)C"⟩ : MethodName)) hown (mvT hZ (hw _ (List.mem_of_getElem? (i := 56) rfl))) (mvT hZ (hw _ (List.mem_of_getElem? (i := 57) rfl))) (notFace_of_selects (args := #[]) (mvT hZ (hw _ (List.mem_of_getElem? (i := 59) rfl)))) (mvT hZ (hw _ (List.mem_of_getElem? (i := 59) rfl))) (mvT hZ (hw _ (List.mem_of_getElem? (i := 58) rfl))) (by decide) (backOf (W := 0) (rm_charS l Z a0 hw [] a (2 : Int32) [c0, c1] (0 : Int32) c0 fm cs h0 n0 Z0 O Scs hcs Sad Shi Slo Sfm hfm HS (by decide) (by decide) (by decide) rfl gc0) hZ (hw _ (List.mem_of_getElem? (i := 60) rfl)) (hw _ (List.mem_of_getElem? (i := 2) rfl)) (by decide) (by decide)) q8a q8c (g := (mkF m 21 #[.val (.ref a), .val (.int (0 : Int32)), .unset] [(.int (0 : Int32)), (.ref a)])) rfl (by rw [hml]; rfl) (Steps.refl _) (argsL := [(.int (0 : Int32))]) (rest := []) (lenOf pd8 rfl) rfl (by show 2 * 0 + _ ≤ _; exact Nat.le_of_eq rfl) (hb hby d4_21) (fun _ _ => ⟨rfl, e5, (by decide : 0 + 0 ≤ _), (by decide : 0 + 0 ≤ _)⟩)
  dsimp only [Pt.U, Pt.locs, Pt.cells, Pt.slots] at X8 l8 y8 z8 st8 hQ8
  subst l8 y8 z8
  obtain ⟨rfl, N8q, e8⟩ := hQ8
  have N8 := Fr.app N5 N8q
  have P9 := own_step (C := T8.setTop (mkF m 24 #[.val (.ref a), .val (.int (0 : Int32)), .unset] [(.int c0)])) P7 (fun t_ k_ => st8.trans k_)
  have P10 := own_step (C := T8.setTop (mkF m 28 #[.val (.ref a), .val (.int (0 : Int32)), .val (.int c0)] [(.int (33 : Int32)), (.int c0)])) P9 (by
    intro tt_ kk_
    refine XS.istoreN X8.here hx rfl (hb hby d4_24) rfl (l' := #[.val (.ref a), .val (.int (0 : Int32)), .val (.int c0)]) rfl ?_
    refine XS.iloadN X8.here hx rfl (hb hby d4_25) rfl ?_
    refine XS.bipush X8.here hx rfl (hb hby d4_26) ?_
    exact kk_)
  by_cases c11 : c0 < (33 : Int32)
  · have P12 := own_step (C := T8.setTop (mkF m 50 #[.val (.ref a), .val (.int (0 : Int32)), .val (.int c0)] [(.int (0 : Int32))])) P10 (by
      intro tt_ kk_
      refine XS.icmpYes X8.here hx rfl (pc0 := 28) (pc' := 49) rfl (hb hby d4_28) rfl (tlt c11).1 (by decide) (by decide) ?_
      refine XS.iconst X8.here hx rfl (hb hby d4_49) ?_
      exact kk_)
    obtain ⟨fs, hr, hrun, hended, hW, hsame⟩ := X8.leave (v := some (.int (0 : Int32))) (fun h => by rw [Bd.returns] at h; cases h)
    refine ⟨_, _, P12 _ ?_, hrun, hended, _, _, rfl, ?_, ⟨_, rfl⟩, hW, hsame.mono (by decide) (by decide)⟩
    · exact retN X8 hx (t := .boolean) Bd.returns (by simp) (hb hby d4_50) hr
    · show Q_tok2 Z _ _ _ _ _ h0 n0 _ T8.heap _
      rw [e8]
      exact ⟨by unfold own_tok2; rw [if_pos c11], N8, rfl⟩
  · have P13 := own_step (C := T8.setTop (mkF m 34 #[.val (.ref a), .val (.int (0 : Int32)), .val (.int c0)] [(.int (126 : Int32)), (.int c0)])) P10 (by
      intro tt_ kk_
      refine XS.icmpNo X8.here hx rfl (hb hby d4_28) rfl (flt c11).1 ?_
      refine XS.iloadN X8.here hx rfl (hb hby d4_31) rfl ?_
      refine XS.bipush X8.here hx rfl (hb hby d4_32) ?_
      exact kk_)
    by_cases c14 : (126 : Int32) < c0
    · have P15 := own_step (C := T8.setTop (mkF m 50 #[.val (.ref a), .val (.int (0 : Int32)), .val (.int c0)] [(.int (0 : Int32))])) P13 (by
        intro tt_ kk_
        refine XS.icmpYes X8.here hx rfl (pc0 := 34) (pc' := 49) rfl (hb hby d4_34) rfl (tlt c14).2.2.1 (by decide) (by decide) ?_
        refine XS.iconst X8.here hx rfl (hb hby d4_49) ?_
        exact kk_)
      obtain ⟨fs, hr, hrun, hended, hW, hsame⟩ := X8.leave (v := some (.int (0 : Int32))) (fun h => by rw [Bd.returns] at h; cases h)
      refine ⟨_, _, P15 _ ?_, hrun, hended, _, _, rfl, ?_, ⟨_, rfl⟩, hW, hsame.mono (by decide) (by decide)⟩
      · exact retN X8 hx (t := .boolean) Bd.returns (by simp) (hb hby d4_50) hr
      · show Q_tok2 Z _ _ _ _ _ h0 n0 _ T8.heap _
        rw [e8]
        exact ⟨by unfold own_tok2; rw [if_neg c11, if_pos c14], N8, rfl⟩
    · have P16 := own_step (C := T8.setTop (mkF m 40 #[.val (.ref a), .val (.int (0 : Int32)), .val (.int c0)] [(.int (34 : Int32)), (.int c0)])) P13 (by
        intro tt_ kk_
        refine XS.icmpNo X8.here hx rfl (hb hby d4_34) rfl (flt c14).2.2.1 ?_
        refine XS.iloadN X8.here hx rfl (hb hby d4_37) rfl ?_
        refine XS.bipush X8.here hx rfl (hb hby d4_38) ?_
        exact kk_)
      by_cases c17 : c0 = (34 : Int32)
      · have P18 := own_step (C := T8.setTop (mkF m 50 #[.val (.ref a), .val (.int (0 : Int32)), .val (.int c0)] [(.int (0 : Int32))])) P16 (by
          intro tt_ kk_
          refine XS.icmpYes X8.here hx rfl (pc0 := 40) (pc' := 49) rfl (hb hby d4_40) rfl (teq c17).1 (by decide) (by decide) ?_
          refine XS.iconst X8.here hx rfl (hb hby d4_49) ?_
          exact kk_)
        obtain ⟨fs, hr, hrun, hended, hW, hsame⟩ := X8.leave (v := some (.int (0 : Int32))) (fun h => by rw [Bd.returns] at h; cases h)
        refine ⟨_, _, P18 _ ?_, hrun, hended, _, _, rfl, ?_, ⟨_, rfl⟩, hW, hsame.mono (by decide) (by decide)⟩
        · exact retN X8 hx (t := .boolean) Bd.returns (by simp) (hb hby d4_50) hr
        · show Q_tok2 Z _ _ _ _ _ h0 n0 _ T8.heap _
          rw [e8]
          exact ⟨by unfold own_tok2; rw [if_neg c11, if_neg c14, if_pos c17], N8, rfl⟩
      · have P19 := own_step (C := T8.setTop (mkF m 46 #[.val (.ref a), .val (.int (0 : Int32)), .val (.int c0)] [(.int (92 : Int32)), (.int c0)])) P16 (by
          intro tt_ kk_
          refine XS.icmpNo X8.here hx rfl (hb hby d4_40) rfl (feq c17).1 ?_
          refine XS.iloadN X8.here hx rfl (hb hby d4_43) rfl ?_
          refine XS.bipush X8.here hx rfl (hb hby d4_44) ?_
          exact kk_)
        by_cases c20 : c0 = (92 : Int32)
        · have P21 := own_step (C := T8.setTop (mkF m 50 #[.val (.ref a), .val (.int (0 : Int32)), .val (.int c0)] [(.int (0 : Int32))])) P19 (by
            intro tt_ kk_
            refine XS.icmpNo X8.here hx rfl (hb hby d4_46) rfl (teq c20).2 ?_
            refine XS.iconst X8.here hx rfl (hb hby d4_49) ?_
            exact kk_)
          obtain ⟨fs, hr, hrun, hended, hW, hsame⟩ := X8.leave (v := some (.int (0 : Int32))) (fun h => by rw [Bd.returns] at h; cases h)
          refine ⟨_, _, P21 _ ?_, hrun, hended, _, _, rfl, ?_, ⟨_, rfl⟩, hW, hsame.mono (by decide) (by decide)⟩
          · exact retN X8 hx (t := .boolean) Bd.returns (by simp) (hb hby d4_50) hr
          · show Q_tok2 Z _ _ _ _ _ h0 n0 _ T8.heap _
            rw [e8]
            exact ⟨by unfold own_tok2; rw [if_neg c11, if_neg c14, if_neg c17, if_pos c20], N8, rfl⟩
        · have P22 := own_step (C := T8.setTop (mkF m 13 #[.val (.ref a), .val (.int (1 : Int32)), .val (.int c0)] [(.ref a), (.int (1 : Int32))])) P19 (by
            intro tt_ kk_
            refine XS.icmpYes X8.here hx rfl (pc0 := 46) (pc' := 51) rfl (hb hby d4_46) rfl (feq c20).2 (by decide) (by decide) ?_
            refine XS.iinc X8.here hx rfl (hb hby d4_51) rfl (l' := #[.val (.ref a), .val (.int (1 : Int32)), .val (.int c0)]) rfl ?_
            show Steps p.tables e below (T8.setTop (mkF m 54 #[.val (.ref a), .val (.int (1 : Int32)), .val (.int c0)] [])) _
            refine XS.goto X8.here hx rfl (pc0 := 54) (pc' := 11) rfl (hb hby d4_54) (by decide) (by decide) ?_
            refine XS.iloadN X8.here hx rfl (hb hby d4_11) rfl ?_
            refine XS.aloadN X8.here hx rfl (hb hby d4_12) rfl rfl ?_
            exact kk_)
          obtain ⟨cq23, kq23, q23a, q23b, q23c⟩ := isOf hZ e8 Ea
          obtain ⟨_, _, ⟨T23, L23, k23, n23⟩, -, X23, ⟨Lc23, hQ23, l23, y23, z23⟩, st23⟩ := X8.virtualBack hx (y := (⟨"java/lang/String", "length", "()I"⟩ : MethodName)) (z := (⟨"java/lang/String", "length", "()I"⟩ : MethodName)) hown (mvT hZ (hw _ (List.mem_of_getElem? (i := 46) rfl))) (mvT hZ (hw _ (List.mem_of_getElem? (i := 47) rfl))) (notFace_of_selects (args := #[]) (mvT hZ (hw _ (List.mem_of_getElem? (i := 49) rfl)))) (mvT hZ (hw _ (List.mem_of_getElem? (i := 49) rfl))) (mvT hZ (hw _ (List.mem_of_getElem? (i := 48) rfl))) (by decide) (backOf (W := 1) (rm_lenS l Z a0 hw [] a (2 : Int32) [c0, c1] cs h0 n0 Z0 O Scs hcs HS (by decide) (by decide)) hZ (hw _ (List.mem_of_getElem? (i := 50) rfl)) (hw _ (List.mem_of_getElem? (i := 2) rfl)) (by decide) (by decide)) q23a q23c (g := (mkF m 13 #[.val (.ref a), .val (.int (1 : Int32)), .val (.int c0)] [(.ref a), (.int (1 : Int32))])) rfl (by rw [hml]; rfl) (Steps.refl _) (argsL := []) (rest := [(.int (1 : Int32))]) (lenOf pd7 rfl) rfl (by show 2 * 0 + _ ≤ _; exact Nat.le_of_eq rfl) (hb hby d4_13) (fun _ _ => ⟨rfl, e8, (by decide : 0 + 0 ≤ _), (by decide : 0 + 0 ≤ _)⟩)
          dsimp only [Pt.U, Pt.locs, Pt.cells, Pt.slots] at X23 l23 y23 z23 st23 hQ23
          subst l23 y23 z23
          obtain ⟨rfl, N23q, e23⟩ := hQ23
          have N23 := Fr.app N8 N23q
          have P24 := own_step (C := T23.setTop (mkF m 16 #[.val (.ref a), .val (.int (1 : Int32)), .val (.int c0)] [(.int (2 : Int32)), (.int (1 : Int32))])) P22 (fun t_ k_ => st23.trans k_)
          have P25 := own_step (C := T23.setTop (mkF m 21 #[.val (.ref a), .val (.int (1 : Int32)), .val (.int c0)] [(.int (1 : Int32)), (.ref a)])) P24 (by
            intro tt_ kk_
            refine XS.icmpNo X23.here hx rfl (hb hby d4_16) rfl (tlt (by decide : (1 : Int32) < (2 : Int32))).2.1 ?_
            refine XS.aloadN X23.here hx rfl (hb hby d4_19) rfl rfl ?_
            refine XS.iloadN X23.here hx rfl (hb hby d4_20) rfl ?_
            exact kk_)
          obtain ⟨cq26, kq26, q26a, q26b, q26c⟩ := isOf hZ e23 Ea
          obtain ⟨_, _, ⟨T26, L26, k26, n26⟩, -, X26, ⟨Lc26, hQ26, l26, y26, z26⟩, st26⟩ := X23.virtualBack hx (y := (⟨"java/lang/String", "charAt", "(I)C"⟩ : MethodName)) (z := (⟨"java/lang/String", "charAt", "(I)C"⟩ : MethodName)) hown (mvT hZ (hw _ (List.mem_of_getElem? (i := 56) rfl))) (mvT hZ (hw _ (List.mem_of_getElem? (i := 57) rfl))) (notFace_of_selects (args := #[]) (mvT hZ (hw _ (List.mem_of_getElem? (i := 59) rfl)))) (mvT hZ (hw _ (List.mem_of_getElem? (i := 59) rfl))) (mvT hZ (hw _ (List.mem_of_getElem? (i := 58) rfl))) (by decide) (backOf (W := 0) (rm_charS l Z a0 hw [] a (2 : Int32) [c0, c1] (1 : Int32) c1 fm cs h0 n0 Z0 O Scs hcs Sad Shi Slo Sfm hfm HS (by decide) (by decide) (by decide) rfl gc1) hZ (hw _ (List.mem_of_getElem? (i := 60) rfl)) (hw _ (List.mem_of_getElem? (i := 2) rfl)) (by decide) (by decide)) q26a q26c (g := (mkF m 21 #[.val (.ref a), .val (.int (1 : Int32)), .val (.int c0)] [(.int (1 : Int32)), (.ref a)])) rfl (by rw [hml]; rfl) (Steps.refl _) (argsL := [(.int (1 : Int32))]) (rest := []) (lenOf pd8 rfl) rfl (by show 2 * 0 + _ ≤ _; exact Nat.le_of_eq rfl) (hb hby d4_21) (fun _ _ => ⟨rfl, e23, (by decide : 0 + 0 ≤ _), (by decide : 0 + 0 ≤ _)⟩)
          dsimp only [Pt.U, Pt.locs, Pt.cells, Pt.slots] at X26 l26 y26 z26 st26 hQ26
          subst l26 y26 z26
          obtain ⟨rfl, N26q, e26⟩ := hQ26
          have N26 := Fr.app N23 N26q
          have P27 := own_step (C := T26.setTop (mkF m 24 #[.val (.ref a), .val (.int (1 : Int32)), .val (.int c0)] [(.int c1)])) P25 (fun t_ k_ => st26.trans k_)
          have P28 := own_step (C := T26.setTop (mkF m 28 #[.val (.ref a), .val (.int (1 : Int32)), .val (.int c1)] [(.int (33 : Int32)), (.int c1)])) P27 (by
            intro tt_ kk_
            refine XS.istoreN X26.here hx rfl (hb hby d4_24) rfl (l' := #[.val (.ref a), .val (.int (1 : Int32)), .val (.int c1)]) rfl ?_
            refine XS.iloadN X26.here hx rfl (hb hby d4_25) rfl ?_
            refine XS.bipush X26.here hx rfl (hb hby d4_26) ?_
            exact kk_)
          by_cases c29 : c1 < (33 : Int32)
          · have P30 := own_step (C := T26.setTop (mkF m 50 #[.val (.ref a), .val (.int (1 : Int32)), .val (.int c1)] [(.int (0 : Int32))])) P28 (by
              intro tt_ kk_
              refine XS.icmpYes X26.here hx rfl (pc0 := 28) (pc' := 49) rfl (hb hby d4_28) rfl (tlt c29).1 (by decide) (by decide) ?_
              refine XS.iconst X26.here hx rfl (hb hby d4_49) ?_
              exact kk_)
            obtain ⟨fs, hr, hrun, hended, hW, hsame⟩ := X26.leave (v := some (.int (0 : Int32))) (fun h => by rw [Bd.returns] at h; cases h)
            refine ⟨_, _, P30 _ ?_, hrun, hended, _, _, rfl, ?_, ⟨_, rfl⟩, hW, hsame.mono (by decide) (by decide)⟩
            · exact retN X26 hx (t := .boolean) Bd.returns (by simp) (hb hby d4_50) hr
            · show Q_tok2 Z _ _ _ _ _ h0 n0 _ T26.heap _
              rw [e26]
              exact ⟨by unfold own_tok2; rw [if_neg c11, if_neg c14, if_neg c17, if_neg c20, if_pos c29], N26, rfl⟩
          · have P31 := own_step (C := T26.setTop (mkF m 34 #[.val (.ref a), .val (.int (1 : Int32)), .val (.int c1)] [(.int (126 : Int32)), (.int c1)])) P28 (by
              intro tt_ kk_
              refine XS.icmpNo X26.here hx rfl (hb hby d4_28) rfl (flt c29).1 ?_
              refine XS.iloadN X26.here hx rfl (hb hby d4_31) rfl ?_
              refine XS.bipush X26.here hx rfl (hb hby d4_32) ?_
              exact kk_)
            by_cases c32 : (126 : Int32) < c1
            · have P33 := own_step (C := T26.setTop (mkF m 50 #[.val (.ref a), .val (.int (1 : Int32)), .val (.int c1)] [(.int (0 : Int32))])) P31 (by
                intro tt_ kk_
                refine XS.icmpYes X26.here hx rfl (pc0 := 34) (pc' := 49) rfl (hb hby d4_34) rfl (tlt c32).2.2.1 (by decide) (by decide) ?_
                refine XS.iconst X26.here hx rfl (hb hby d4_49) ?_
                exact kk_)
              obtain ⟨fs, hr, hrun, hended, hW, hsame⟩ := X26.leave (v := some (.int (0 : Int32))) (fun h => by rw [Bd.returns] at h; cases h)
              refine ⟨_, _, P33 _ ?_, hrun, hended, _, _, rfl, ?_, ⟨_, rfl⟩, hW, hsame.mono (by decide) (by decide)⟩
              · exact retN X26 hx (t := .boolean) Bd.returns (by simp) (hb hby d4_50) hr
              · show Q_tok2 Z _ _ _ _ _ h0 n0 _ T26.heap _
                rw [e26]
                exact ⟨by unfold own_tok2; rw [if_neg c11, if_neg c14, if_neg c17, if_neg c20, if_neg c29, if_pos c32], N26, rfl⟩
            · have P34 := own_step (C := T26.setTop (mkF m 40 #[.val (.ref a), .val (.int (1 : Int32)), .val (.int c1)] [(.int (34 : Int32)), (.int c1)])) P31 (by
                intro tt_ kk_
                refine XS.icmpNo X26.here hx rfl (hb hby d4_34) rfl (flt c32).2.2.1 ?_
                refine XS.iloadN X26.here hx rfl (hb hby d4_37) rfl ?_
                refine XS.bipush X26.here hx rfl (hb hby d4_38) ?_
                exact kk_)
              by_cases c35 : c1 = (34 : Int32)
              · have P36 := own_step (C := T26.setTop (mkF m 50 #[.val (.ref a), .val (.int (1 : Int32)), .val (.int c1)] [(.int (0 : Int32))])) P34 (by
                  intro tt_ kk_
                  refine XS.icmpYes X26.here hx rfl (pc0 := 40) (pc' := 49) rfl (hb hby d4_40) rfl (teq c35).1 (by decide) (by decide) ?_
                  refine XS.iconst X26.here hx rfl (hb hby d4_49) ?_
                  exact kk_)
                obtain ⟨fs, hr, hrun, hended, hW, hsame⟩ := X26.leave (v := some (.int (0 : Int32))) (fun h => by rw [Bd.returns] at h; cases h)
                refine ⟨_, _, P36 _ ?_, hrun, hended, _, _, rfl, ?_, ⟨_, rfl⟩, hW, hsame.mono (by decide) (by decide)⟩
                · exact retN X26 hx (t := .boolean) Bd.returns (by simp) (hb hby d4_50) hr
                · show Q_tok2 Z _ _ _ _ _ h0 n0 _ T26.heap _
                  rw [e26]
                  exact ⟨by unfold own_tok2; rw [if_neg c11, if_neg c14, if_neg c17, if_neg c20, if_neg c29, if_neg c32, if_pos c35], N26, rfl⟩
              · have P37 := own_step (C := T26.setTop (mkF m 46 #[.val (.ref a), .val (.int (1 : Int32)), .val (.int c1)] [(.int (92 : Int32)), (.int c1)])) P34 (by
                  intro tt_ kk_
                  refine XS.icmpNo X26.here hx rfl (hb hby d4_40) rfl (feq c35).1 ?_
                  refine XS.iloadN X26.here hx rfl (hb hby d4_43) rfl ?_
                  refine XS.bipush X26.here hx rfl (hb hby d4_44) ?_
                  exact kk_)
                by_cases c38 : c1 = (92 : Int32)
                · have P39 := own_step (C := T26.setTop (mkF m 50 #[.val (.ref a), .val (.int (1 : Int32)), .val (.int c1)] [(.int (0 : Int32))])) P37 (by
                    intro tt_ kk_
                    refine XS.icmpNo X26.here hx rfl (hb hby d4_46) rfl (teq c38).2 ?_
                    refine XS.iconst X26.here hx rfl (hb hby d4_49) ?_
                    exact kk_)
                  obtain ⟨fs, hr, hrun, hended, hW, hsame⟩ := X26.leave (v := some (.int (0 : Int32))) (fun h => by rw [Bd.returns] at h; cases h)
                  refine ⟨_, _, P39 _ ?_, hrun, hended, _, _, rfl, ?_, ⟨_, rfl⟩, hW, hsame.mono (by decide) (by decide)⟩
                  · exact retN X26 hx (t := .boolean) Bd.returns (by simp) (hb hby d4_50) hr
                  · show Q_tok2 Z _ _ _ _ _ h0 n0 _ T26.heap _
                    rw [e26]
                    exact ⟨by unfold own_tok2; rw [if_neg c11, if_neg c14, if_neg c17, if_neg c20, if_neg c29, if_neg c32, if_neg c35, if_pos c38], N26, rfl⟩
                · have P40 := own_step (C := T26.setTop (mkF m 13 #[.val (.ref a), .val (.int (2 : Int32)), .val (.int c1)] [(.ref a), (.int (2 : Int32))])) P37 (by
                    intro tt_ kk_
                    refine XS.icmpYes X26.here hx rfl (pc0 := 46) (pc' := 51) rfl (hb hby d4_46) rfl (feq c38).2 (by decide) (by decide) ?_
                    refine XS.iinc X26.here hx rfl (hb hby d4_51) rfl (l' := #[.val (.ref a), .val (.int (2 : Int32)), .val (.int c1)]) rfl ?_
                    show Steps p.tables e below (T26.setTop (mkF m 54 #[.val (.ref a), .val (.int (2 : Int32)), .val (.int c1)] [])) _
                    refine XS.goto X26.here hx rfl (pc0 := 54) (pc' := 11) rfl (hb hby d4_54) (by decide) (by decide) ?_
                    refine XS.iloadN X26.here hx rfl (hb hby d4_11) rfl ?_
                    refine XS.aloadN X26.here hx rfl (hb hby d4_12) rfl rfl ?_
                    exact kk_)
                  obtain ⟨cq41, kq41, q41a, q41b, q41c⟩ := isOf hZ e26 Ea
                  obtain ⟨_, _, ⟨T41, L41, k41, n41⟩, -, X41, ⟨Lc41, hQ41, l41, y41, z41⟩, st41⟩ := X26.virtualBack hx (y := (⟨"java/lang/String", "length", "()I"⟩ : MethodName)) (z := (⟨"java/lang/String", "length", "()I"⟩ : MethodName)) hown (mvT hZ (hw _ (List.mem_of_getElem? (i := 46) rfl))) (mvT hZ (hw _ (List.mem_of_getElem? (i := 47) rfl))) (notFace_of_selects (args := #[]) (mvT hZ (hw _ (List.mem_of_getElem? (i := 49) rfl)))) (mvT hZ (hw _ (List.mem_of_getElem? (i := 49) rfl))) (mvT hZ (hw _ (List.mem_of_getElem? (i := 48) rfl))) (by decide) (backOf (W := 1) (rm_lenS l Z a0 hw [] a (2 : Int32) [c0, c1] cs h0 n0 Z0 O Scs hcs HS (by decide) (by decide)) hZ (hw _ (List.mem_of_getElem? (i := 50) rfl)) (hw _ (List.mem_of_getElem? (i := 2) rfl)) (by decide) (by decide)) q41a q41c (g := (mkF m 13 #[.val (.ref a), .val (.int (2 : Int32)), .val (.int c1)] [(.ref a), (.int (2 : Int32))])) rfl (by rw [hml]; rfl) (Steps.refl _) (argsL := []) (rest := [(.int (2 : Int32))]) (lenOf pd7 rfl) rfl (by show 2 * 0 + _ ≤ _; exact Nat.le_of_eq rfl) (hb hby d4_13) (fun _ _ => ⟨rfl, e26, (by decide : 0 + 0 ≤ _), (by decide : 0 + 0 ≤ _)⟩)
                  dsimp only [Pt.U, Pt.locs, Pt.cells, Pt.slots] at X41 l41 y41 z41 st41 hQ41
                  subst l41 y41 z41
                  obtain ⟨rfl, N41q, e41⟩ := hQ41
                  have N41 := Fr.app N26 N41q
                  have P42 := own_step (C := T41.setTop (mkF m 16 #[.val (.ref a), .val (.int (2 : Int32)), .val (.int c1)] [(.int (2 : Int32)), (.int (2 : Int32))])) P40 (fun t_ k_ => st41.trans k_)
                  have P43 := own_step (C := T41.setTop (mkF m 58 #[.val (.ref a), .val (.int (2 : Int32)), .val (.int c1)] [(.int (1 : Int32))])) P42 (by
                    intro tt_ kk_
                    refine XS.icmpYes X41.here hx rfl (pc0 := 16) (pc' := 57) rfl (hb hby d4_16) rfl (flt (by decide : ¬ ((2 : Int32) < (2 : Int32)))).2.1 (by decide) (by decide) ?_
                    refine XS.iconst X41.here hx rfl (hb hby d4_57) ?_
                    exact kk_)
                  obtain ⟨fs, hr, hrun, hended, hW, hsame⟩ := X41.leave (v := some (.int (1 : Int32))) (fun h => by rw [Bd.returns] at h; cases h)
                  refine ⟨_, _, P43 _ ?_, hrun, hended, _, _, rfl, ?_, ⟨_, rfl⟩, hW, hsame.mono (by decide) (by decide)⟩
                  · exact retN X41 hx (t := .boolean) Bd.returns (by simp) (hb hby d4_58) hr
                  · show Q_tok2 Z _ _ _ _ _ h0 n0 _ T41.heap _
                    rw [e41]
                    exact ⟨by unfold own_tok2; rw [if_neg c11, if_neg c14, if_neg c17, if_neg c20, if_neg c29, if_neg c32, if_neg c35, if_neg c38], N41, rfl⟩
def own_tok3 (c0 c1 c2 : Int32) : Int32 := (if c0 < (33 : Int32) then (0 : Int32) else (if (126 : Int32) < c0 then (0 : Int32) else (if c0 = (34 : Int32) then (0 : Int32) else (if c0 = (92 : Int32) then (0 : Int32) else (if c1 < (33 : Int32) then (0 : Int32) else (if (126 : Int32) < c1 then (0 : Int32) else (if c1 = (34 : Int32) then (0 : Int32) else (if c1 = (92 : Int32) then (0 : Int32) else (if c2 < (33 : Int32) then (0 : Int32) else (if (126 : Int32) < c2 then (0 : Int32) else (if c2 = (34 : Int32) then (0 : Int32) else (if c2 = (92 : Int32) then (0 : Int32) else (1 : Int32)))))))))))))
theorem ef__tok3 (m : MethodId) (x0 : Addr) : entryFrame m #[(.ref x0)] 3 = mkF m 0 #[.val (.ref x0), .unset, .unset] [] := by first | (simp [entryFrame, mkF, argsToLocals, Value.category]; done) | rfl
def Q_tok3 (Z : State) (a : Addr) (c0 : Int32) (c1 : Int32) (c2 : Int32) (fm : Value) (cs : Int32) (h0 : Heap) (n0 : Nat) (v_ : Option Value) (h : Heap) (L_ : List Loc) : Prop := v_ = some (.int (own_tok3 c0 c1 c2)) ∧ Fr n0 L_ ∧ h = h0
set_option maxRecDepth 65536 in
set_option maxHeartbeats 40000000 in
theorem rm_tok3 (l : Launch) (Z : State) (a0 : Array Value) (hw : ∀ d ∈ tables_1, d.before a0 Z = true) (ws : List Jvm.Cond) (a : Addr) (c0 : Int32) (c1 : Int32) (c2 : Int32) (fm : Value) (cs : Int32) (h0 : Heap) (n0 : Nat) (Z0 : n0 ≤ h0.size) (O : Old Z n0 h0) (Scs : Sta Z Z.heap "java/lang/String" "COMPACT_STRINGS" "Z" (.int cs)) (hcs : ¬ (cs = (0 : Int32))) (Sad : Sta Z Z.heap "java/lang/StringUTF16" "$assertionsDisabled" "Z" (.int (1 : Int32))) (Shi : Sta Z Z.heap "java/lang/StringUTF16" "HI_BYTE_SHIFT" "I" (.int (0 : Int32))) (Slo : Sta Z Z.heap "java/lang/StringUTF16" "LO_BYTE_SHIFT" "I" (.int (8 : Int32))) (Sfm : Sta Z Z.heap "jdk/internal/util/Preconditions" "SIOOBE_FORMATTER" "Ljava/util/function/BiFunction;" fm) (hfm : fm.category = 1) (HS : own_S Z h0 a (3 : Int32) [c0, c1, c2]) (Ea : Exa Z h0 a "java/lang/String") (gc0 : own_C c0) (gc1 : own_C c1) (gc2 : own_C c2) :
    MetFree l (⟨"com/example/issuant/issuant/config/Scopes", "isToken", "(Ljava/lang/String;)Z"⟩ : MethodName) (head1 (Jvm.Cond.code (⟨"com/example/issuant/issuant/config/Scopes", "isToken", "(Ljava/lang/String;)Z"⟩ : MethodName) prog_5_method_2_code 3 (some .boolean) :: ws) ({ frames := 5, cells := 0, slots := 0, locals := 66 } : Room)) (fun a_ U_ => a_ = #[(.ref a)] ∧ Z.Warmed39 U_.vm ∧ U_.heap = h0) (fun _ _ _ _ _ => True) (fun _ U_ o_ V_ => ∃ v_ L_, o_ = .returned v_ ∧ Q_tok3 Z a c0 c1 c2 fm cs h0 n0 v_ V_.heap L_ ∧ FrameEnd U_ o_ V_ L_ ({ frames := 5, cells := 0, slots := 0, locals := 66 } : Room).cells ({ frames := 5, cells := 0, slots := 0, locals := 66 } : Room).slots) := by
  refine MetFree.of_bodySF (plainFor_of_name pn2) hisR ?_
  intro p e s m args below meth c s₁ Bd hml0 hP hK
  obtain ⟨rfl, hZ, hh⟩ := hP
  have hx := Bd.exec
  have hby := Bd.bytes
  have hml : c.maxLocals = 3 := hml0
  have hown : s.vm.findClass "com/example/issuant/issuant/config/Scopes" = some m.cls := findClass_of_methodNamed Bd.named
  have hnm := (name_of_methodNamed Bd.named Bd.method).1
  have X0 : Stand p l e ({ frames := 5, cells := 0, slots := 0, locals := 66 } : Room) s m #[(.ref a)] below meth c s₁ [] 0 0 := Stand.of_body Bd
  have e0 : s₁.heap = h0 := by rw [← hh, Bd.state]; rfl
  have N0 := Fr.nil n0
  have pre0 : own_Go p e below (s₁.setTop (entryFrame m #[(.ref a)] 3)) (s₁.setTop (mkF m 0 #[.val (.ref a), .unset, .unset] [])) := fun t_ k_ => castTop (ef__tok3 m a) k_
  have P1 := own_step (C := s₁.setTop (mkF m 1 #[.val (.ref a), .unset, .unset] [(.ref a)])) pre0 (by
    intro tt_ kk_
    refine XS.aloadN X0.here hx rfl (hb hby d4_0) rfl rfl ?_
    exact kk_)
  obtain ⟨cq2, kq2, q2a, q2b, q2c⟩ := isOf hZ e0 Ea
  obtain ⟨_, _, ⟨T2, L2, k2, n2⟩, -, X2, ⟨Lc2, hQ2, l2, y2, z2⟩, st2⟩ := X0.virtualBack hx (y := (⟨"java/lang/String", "isEmpty", "()Z"⟩ : MethodName)) (z := (⟨"java/lang/String", "isEmpty", "()Z"⟩ : MethodName)) hown (mvT hZ (hw _ (List.mem_of_getElem? (i := 26) rfl))) (mvT hZ (hw _ (List.mem_of_getElem? (i := 27) rfl))) (notFace_of_selects (args := #[]) (mvT hZ (hw _ (List.mem_of_getElem? (i := 29) rfl)))) (mvT hZ (hw _ (List.mem_of_getElem? (i := 29) rfl))) (mvT hZ (hw _ (List.mem_of_getElem? (i := 28) rfl))) (by decide) (backOf (W := 0) (rm_empS l Z a0 hw [] a (3 : Int32) [c0, c1, c2] h0 n0 Z0 HS (by decide) (by decide)) hZ (hw _ (List.mem_of_getElem? (i := 30) rfl)) (hw _ (List.mem_of_getElem? (i := 2) rfl)) (by decide) (by decide)) q2a q2c (g := (mkF m 1 #[.val (.ref a), .unset, .unset] [(.ref a)])) rfl (by rw [hml]; rfl) (Steps.refl _) (argsL := []) (rest := []) (lenOf pd0 rfl) rfl (by show 2 * 0 + _ ≤ _; exact Nat.le_of_eq rfl) (hb hby d4_1) (fun _ _ => ⟨rfl, e0, (by decide : 0 + 0 ≤ _), (by decide : 0 + 0 ≤ _)⟩)
  dsimp only [Pt.U, Pt.locs, Pt.cells, Pt.slots] at X2 l2 y2 z2 st2 hQ2
  subst l2 y2 z2
  obtain ⟨rfl, N2q, e2⟩ := hQ2
  have N2 := Fr.app N0 N2q
  have P3 := own_step (C := T2.setTop (mkF m 4 #[.val (.ref a), .unset, .unset] [(.int (0 : Int32))])) P1 (fun t_ k_ => st2.trans k_)
  have P4 := own_step (C := T2.setTop (mkF m 13 #[.val (.ref a), .val (.int (0 : Int32)), .unset] [(.ref a), (.int (0 : Int32))])) P3 (by
    intro tt_ kk_
    refine XS.ifYes X2.here hx rfl (pc0 := 4) (pc' := 9) rfl (hb hby d4_4) rfl ((if0 _ _).trans (teq (by decide : (0 : Int32) = (0 : Int32))).1) (by decide) (by decide) ?_
    refine XS.iconst X2.here hx rfl (hb hby d4_9) ?_
    refine XS.istoreN X2.here hx rfl (hb hby d4_10) rfl (l' := #[.val (.ref a), .val (.int (0 : Int32)), .unset]) rfl ?_
    refine XS.iloadN X2.here hx rfl (hb hby d4_11) rfl ?_
    refine XS.aloadN X2.here hx rfl (hb hby d4_12) rfl rfl ?_
    exact kk_)
  obtain ⟨cq5, kq5, q5a, q5b, q5c⟩ := isOf hZ e2 Ea
  obtain ⟨_, _, ⟨T5, L5, k5, n5⟩, -, X5, ⟨Lc5, hQ5, l5, y5, z5⟩, st5⟩ := X2.virtualBack hx (y := (⟨"java/lang/String", "length", "()I"⟩ : MethodName)) (z := (⟨"java/lang/String", "length", "()I"⟩ : MethodName)) hown (mvT hZ (hw _ (List.mem_of_getElem? (i := 46) rfl))) (mvT hZ (hw _ (List.mem_of_getElem? (i := 47) rfl))) (notFace_of_selects (args := #[]) (mvT hZ (hw _ (List.mem_of_getElem? (i := 49) rfl)))) (mvT hZ (hw _ (List.mem_of_getElem? (i := 49) rfl))) (mvT hZ (hw _ (List.mem_of_getElem? (i := 48) rfl))) (by decide) (backOf (W := 1) (rm_lenS l Z a0 hw [] a (3 : Int32) [c0, c1, c2] cs h0 n0 Z0 O Scs hcs HS (by decide) (by decide)) hZ (hw _ (List.mem_of_getElem? (i := 50) rfl)) (hw _ (List.mem_of_getElem? (i := 2) rfl)) (by decide) (by decide)) q5a q5c (g := (mkF m 13 #[.val (.ref a), .val (.int (0 : Int32)), .unset] [(.ref a), (.int (0 : Int32))])) rfl (by rw [hml]; rfl) (Steps.refl _) (argsL := []) (rest := [(.int (0 : Int32))]) (lenOf pd7 rfl) rfl (by show 2 * 0 + _ ≤ _; exact Nat.le_of_eq rfl) (hb hby d4_13) (fun _ _ => ⟨rfl, e2, (by decide : 0 + 0 ≤ _), (by decide : 0 + 0 ≤ _)⟩)
  dsimp only [Pt.U, Pt.locs, Pt.cells, Pt.slots] at X5 l5 y5 z5 st5 hQ5
  subst l5 y5 z5
  obtain ⟨rfl, N5q, e5⟩ := hQ5
  have N5 := Fr.app N2 N5q
  have P6 := own_step (C := T5.setTop (mkF m 16 #[.val (.ref a), .val (.int (0 : Int32)), .unset] [(.int (3 : Int32)), (.int (0 : Int32))])) P4 (fun t_ k_ => st5.trans k_)
  have P7 := own_step (C := T5.setTop (mkF m 21 #[.val (.ref a), .val (.int (0 : Int32)), .unset] [(.int (0 : Int32)), (.ref a)])) P6 (by
    intro tt_ kk_
    refine XS.icmpNo X5.here hx rfl (hb hby d4_16) rfl (tlt (by decide : (0 : Int32) < (3 : Int32))).2.1 ?_
    refine XS.aloadN X5.here hx rfl (hb hby d4_19) rfl rfl ?_
    refine XS.iloadN X5.here hx rfl (hb hby d4_20) rfl ?_
    exact kk_)
  obtain ⟨cq8, kq8, q8a, q8b, q8c⟩ := isOf hZ e5 Ea
  obtain ⟨_, _, ⟨T8, L8, k8, n8⟩, -, X8, ⟨Lc8, hQ8, l8, y8, z8⟩, st8⟩ := X5.virtualBack hx (y := (⟨"java/lang/String", "charAt", "(I)C"⟩ : MethodName)) (z := (⟨"java/lang/String", "charAt", "(I)C"⟩ : MethodName)) hown (mvT hZ (hw _ (List.mem_of_getElem? (i := 56) rfl))) (mvT hZ (hw _ (List.mem_of_getElem? (i := 57) rfl))) (notFace_of_selects (args := #[]) (mvT hZ (hw _ (List.mem_of_getElem? (i := 59) rfl)))) (mvT hZ (hw _ (List.mem_of_getElem? (i := 59) rfl))) (mvT hZ (hw _ (List.mem_of_getElem? (i := 58) rfl))) (by decide) (backOf (W := 0) (rm_charS l Z a0 hw [] a (3 : Int32) [c0, c1, c2] (0 : Int32) c0 fm cs h0 n0 Z0 O Scs hcs Sad Shi Slo Sfm hfm HS (by decide) (by decide) (by decide) rfl gc0) hZ (hw _ (List.mem_of_getElem? (i := 60) rfl)) (hw _ (List.mem_of_getElem? (i := 2) rfl)) (by decide) (by decide)) q8a q8c (g := (mkF m 21 #[.val (.ref a), .val (.int (0 : Int32)), .unset] [(.int (0 : Int32)), (.ref a)])) rfl (by rw [hml]; rfl) (Steps.refl _) (argsL := [(.int (0 : Int32))]) (rest := []) (lenOf pd8 rfl) rfl (by show 2 * 0 + _ ≤ _; exact Nat.le_of_eq rfl) (hb hby d4_21) (fun _ _ => ⟨rfl, e5, (by decide : 0 + 0 ≤ _), (by decide : 0 + 0 ≤ _)⟩)
  dsimp only [Pt.U, Pt.locs, Pt.cells, Pt.slots] at X8 l8 y8 z8 st8 hQ8
  subst l8 y8 z8
  obtain ⟨rfl, N8q, e8⟩ := hQ8
  have N8 := Fr.app N5 N8q
  have P9 := own_step (C := T8.setTop (mkF m 24 #[.val (.ref a), .val (.int (0 : Int32)), .unset] [(.int c0)])) P7 (fun t_ k_ => st8.trans k_)
  have P10 := own_step (C := T8.setTop (mkF m 28 #[.val (.ref a), .val (.int (0 : Int32)), .val (.int c0)] [(.int (33 : Int32)), (.int c0)])) P9 (by
    intro tt_ kk_
    refine XS.istoreN X8.here hx rfl (hb hby d4_24) rfl (l' := #[.val (.ref a), .val (.int (0 : Int32)), .val (.int c0)]) rfl ?_
    refine XS.iloadN X8.here hx rfl (hb hby d4_25) rfl ?_
    refine XS.bipush X8.here hx rfl (hb hby d4_26) ?_
    exact kk_)
  by_cases c11 : c0 < (33 : Int32)
  · have P12 := own_step (C := T8.setTop (mkF m 50 #[.val (.ref a), .val (.int (0 : Int32)), .val (.int c0)] [(.int (0 : Int32))])) P10 (by
      intro tt_ kk_
      refine XS.icmpYes X8.here hx rfl (pc0 := 28) (pc' := 49) rfl (hb hby d4_28) rfl (tlt c11).1 (by decide) (by decide) ?_
      refine XS.iconst X8.here hx rfl (hb hby d4_49) ?_
      exact kk_)
    obtain ⟨fs, hr, hrun, hended, hW, hsame⟩ := X8.leave (v := some (.int (0 : Int32))) (fun h => by rw [Bd.returns] at h; cases h)
    refine ⟨_, _, P12 _ ?_, hrun, hended, _, _, rfl, ?_, ⟨_, rfl⟩, hW, hsame.mono (by decide) (by decide)⟩
    · exact retN X8 hx (t := .boolean) Bd.returns (by simp) (hb hby d4_50) hr
    · show Q_tok3 Z _ _ _ _ _ _ h0 n0 _ T8.heap _
      rw [e8]
      exact ⟨by unfold own_tok3; rw [if_pos c11], N8, rfl⟩
  · have P13 := own_step (C := T8.setTop (mkF m 34 #[.val (.ref a), .val (.int (0 : Int32)), .val (.int c0)] [(.int (126 : Int32)), (.int c0)])) P10 (by
      intro tt_ kk_
      refine XS.icmpNo X8.here hx rfl (hb hby d4_28) rfl (flt c11).1 ?_
      refine XS.iloadN X8.here hx rfl (hb hby d4_31) rfl ?_
      refine XS.bipush X8.here hx rfl (hb hby d4_32) ?_
      exact kk_)
    by_cases c14 : (126 : Int32) < c0
    · have P15 := own_step (C := T8.setTop (mkF m 50 #[.val (.ref a), .val (.int (0 : Int32)), .val (.int c0)] [(.int (0 : Int32))])) P13 (by
        intro tt_ kk_
        refine XS.icmpYes X8.here hx rfl (pc0 := 34) (pc' := 49) rfl (hb hby d4_34) rfl (tlt c14).2.2.1 (by decide) (by decide) ?_
        refine XS.iconst X8.here hx rfl (hb hby d4_49) ?_
        exact kk_)
      obtain ⟨fs, hr, hrun, hended, hW, hsame⟩ := X8.leave (v := some (.int (0 : Int32))) (fun h => by rw [Bd.returns] at h; cases h)
      refine ⟨_, _, P15 _ ?_, hrun, hended, _, _, rfl, ?_, ⟨_, rfl⟩, hW, hsame.mono (by decide) (by decide)⟩
      · exact retN X8 hx (t := .boolean) Bd.returns (by simp) (hb hby d4_50) hr
      · show Q_tok3 Z _ _ _ _ _ _ h0 n0 _ T8.heap _
        rw [e8]
        exact ⟨by unfold own_tok3; rw [if_neg c11, if_pos c14], N8, rfl⟩
    · have P16 := own_step (C := T8.setTop (mkF m 40 #[.val (.ref a), .val (.int (0 : Int32)), .val (.int c0)] [(.int (34 : Int32)), (.int c0)])) P13 (by
        intro tt_ kk_
        refine XS.icmpNo X8.here hx rfl (hb hby d4_34) rfl (flt c14).2.2.1 ?_
        refine XS.iloadN X8.here hx rfl (hb hby d4_37) rfl ?_
        refine XS.bipush X8.here hx rfl (hb hby d4_38) ?_
        exact kk_)
      by_cases c17 : c0 = (34 : Int32)
      · have P18 := own_step (C := T8.setTop (mkF m 50 #[.val (.ref a), .val (.int (0 : Int32)), .val (.int c0)] [(.int (0 : Int32))])) P16 (by
          intro tt_ kk_
          refine XS.icmpYes X8.here hx rfl (pc0 := 40) (pc' := 49) rfl (hb hby d4_40) rfl (teq c17).1 (by decide) (by decide) ?_
          refine XS.iconst X8.here hx rfl (hb hby d4_49) ?_
          exact kk_)
        obtain ⟨fs, hr, hrun, hended, hW, hsame⟩ := X8.leave (v := some (.int (0 : Int32))) (fun h => by rw [Bd.returns] at h; cases h)
        refine ⟨_, _, P18 _ ?_, hrun, hended, _, _, rfl, ?_, ⟨_, rfl⟩, hW, hsame.mono (by decide) (by decide)⟩
        · exact retN X8 hx (t := .boolean) Bd.returns (by simp) (hb hby d4_50) hr
        · show Q_tok3 Z _ _ _ _ _ _ h0 n0 _ T8.heap _
          rw [e8]
          exact ⟨by unfold own_tok3; rw [if_neg c11, if_neg c14, if_pos c17], N8, rfl⟩
      · have P19 := own_step (C := T8.setTop (mkF m 46 #[.val (.ref a), .val (.int (0 : Int32)), .val (.int c0)] [(.int (92 : Int32)), (.int c0)])) P16 (by
          intro tt_ kk_
          refine XS.icmpNo X8.here hx rfl (hb hby d4_40) rfl (feq c17).1 ?_
          refine XS.iloadN X8.here hx rfl (hb hby d4_43) rfl ?_
          refine XS.bipush X8.here hx rfl (hb hby d4_44) ?_
          exact kk_)
        by_cases c20 : c0 = (92 : Int32)
        · have P21 := own_step (C := T8.setTop (mkF m 50 #[.val (.ref a), .val (.int (0 : Int32)), .val (.int c0)] [(.int (0 : Int32))])) P19 (by
            intro tt_ kk_
            refine XS.icmpNo X8.here hx rfl (hb hby d4_46) rfl (teq c20).2 ?_
            refine XS.iconst X8.here hx rfl (hb hby d4_49) ?_
            exact kk_)
          obtain ⟨fs, hr, hrun, hended, hW, hsame⟩ := X8.leave (v := some (.int (0 : Int32))) (fun h => by rw [Bd.returns] at h; cases h)
          refine ⟨_, _, P21 _ ?_, hrun, hended, _, _, rfl, ?_, ⟨_, rfl⟩, hW, hsame.mono (by decide) (by decide)⟩
          · exact retN X8 hx (t := .boolean) Bd.returns (by simp) (hb hby d4_50) hr
          · show Q_tok3 Z _ _ _ _ _ _ h0 n0 _ T8.heap _
            rw [e8]
            exact ⟨by unfold own_tok3; rw [if_neg c11, if_neg c14, if_neg c17, if_pos c20], N8, rfl⟩
        · have P22 := own_step (C := T8.setTop (mkF m 13 #[.val (.ref a), .val (.int (1 : Int32)), .val (.int c0)] [(.ref a), (.int (1 : Int32))])) P19 (by
            intro tt_ kk_
            refine XS.icmpYes X8.here hx rfl (pc0 := 46) (pc' := 51) rfl (hb hby d4_46) rfl (feq c20).2 (by decide) (by decide) ?_
            refine XS.iinc X8.here hx rfl (hb hby d4_51) rfl (l' := #[.val (.ref a), .val (.int (1 : Int32)), .val (.int c0)]) rfl ?_
            show Steps p.tables e below (T8.setTop (mkF m 54 #[.val (.ref a), .val (.int (1 : Int32)), .val (.int c0)] [])) _
            refine XS.goto X8.here hx rfl (pc0 := 54) (pc' := 11) rfl (hb hby d4_54) (by decide) (by decide) ?_
            refine XS.iloadN X8.here hx rfl (hb hby d4_11) rfl ?_
            refine XS.aloadN X8.here hx rfl (hb hby d4_12) rfl rfl ?_
            exact kk_)
          obtain ⟨cq23, kq23, q23a, q23b, q23c⟩ := isOf hZ e8 Ea
          obtain ⟨_, _, ⟨T23, L23, k23, n23⟩, -, X23, ⟨Lc23, hQ23, l23, y23, z23⟩, st23⟩ := X8.virtualBack hx (y := (⟨"java/lang/String", "length", "()I"⟩ : MethodName)) (z := (⟨"java/lang/String", "length", "()I"⟩ : MethodName)) hown (mvT hZ (hw _ (List.mem_of_getElem? (i := 46) rfl))) (mvT hZ (hw _ (List.mem_of_getElem? (i := 47) rfl))) (notFace_of_selects (args := #[]) (mvT hZ (hw _ (List.mem_of_getElem? (i := 49) rfl)))) (mvT hZ (hw _ (List.mem_of_getElem? (i := 49) rfl))) (mvT hZ (hw _ (List.mem_of_getElem? (i := 48) rfl))) (by decide) (backOf (W := 1) (rm_lenS l Z a0 hw [] a (3 : Int32) [c0, c1, c2] cs h0 n0 Z0 O Scs hcs HS (by decide) (by decide)) hZ (hw _ (List.mem_of_getElem? (i := 50) rfl)) (hw _ (List.mem_of_getElem? (i := 2) rfl)) (by decide) (by decide)) q23a q23c (g := (mkF m 13 #[.val (.ref a), .val (.int (1 : Int32)), .val (.int c0)] [(.ref a), (.int (1 : Int32))])) rfl (by rw [hml]; rfl) (Steps.refl _) (argsL := []) (rest := [(.int (1 : Int32))]) (lenOf pd7 rfl) rfl (by show 2 * 0 + _ ≤ _; exact Nat.le_of_eq rfl) (hb hby d4_13) (fun _ _ => ⟨rfl, e8, (by decide : 0 + 0 ≤ _), (by decide : 0 + 0 ≤ _)⟩)
          dsimp only [Pt.U, Pt.locs, Pt.cells, Pt.slots] at X23 l23 y23 z23 st23 hQ23
          subst l23 y23 z23
          obtain ⟨rfl, N23q, e23⟩ := hQ23
          have N23 := Fr.app N8 N23q
          have P24 := own_step (C := T23.setTop (mkF m 16 #[.val (.ref a), .val (.int (1 : Int32)), .val (.int c0)] [(.int (3 : Int32)), (.int (1 : Int32))])) P22 (fun t_ k_ => st23.trans k_)
          have P25 := own_step (C := T23.setTop (mkF m 21 #[.val (.ref a), .val (.int (1 : Int32)), .val (.int c0)] [(.int (1 : Int32)), (.ref a)])) P24 (by
            intro tt_ kk_
            refine XS.icmpNo X23.here hx rfl (hb hby d4_16) rfl (tlt (by decide : (1 : Int32) < (3 : Int32))).2.1 ?_
            refine XS.aloadN X23.here hx rfl (hb hby d4_19) rfl rfl ?_
            refine XS.iloadN X23.here hx rfl (hb hby d4_20) rfl ?_
            exact kk_)
          obtain ⟨cq26, kq26, q26a, q26b, q26c⟩ := isOf hZ e23 Ea
          obtain ⟨_, _, ⟨T26, L26, k26, n26⟩, -, X26, ⟨Lc26, hQ26, l26, y26, z26⟩, st26⟩ := X23.virtualBack hx (y := (⟨"java/lang/String", "charAt", "(I)C"⟩ : MethodName)) (z := (⟨"java/lang/String", "charAt", "(I)C"⟩ : MethodName)) hown (mvT hZ (hw _ (List.mem_of_getElem? (i := 56) rfl))) (mvT hZ (hw _ (List.mem_of_getElem? (i := 57) rfl))) (notFace_of_selects (args := #[]) (mvT hZ (hw _ (List.mem_of_getElem? (i := 59) rfl)))) (mvT hZ (hw _ (List.mem_of_getElem? (i := 59) rfl))) (mvT hZ (hw _ (List.mem_of_getElem? (i := 58) rfl))) (by decide) (backOf (W := 0) (rm_charS l Z a0 hw [] a (3 : Int32) [c0, c1, c2] (1 : Int32) c1 fm cs h0 n0 Z0 O Scs hcs Sad Shi Slo Sfm hfm HS (by decide) (by decide) (by decide) rfl gc1) hZ (hw _ (List.mem_of_getElem? (i := 60) rfl)) (hw _ (List.mem_of_getElem? (i := 2) rfl)) (by decide) (by decide)) q26a q26c (g := (mkF m 21 #[.val (.ref a), .val (.int (1 : Int32)), .val (.int c0)] [(.int (1 : Int32)), (.ref a)])) rfl (by rw [hml]; rfl) (Steps.refl _) (argsL := [(.int (1 : Int32))]) (rest := []) (lenOf pd8 rfl) rfl (by show 2 * 0 + _ ≤ _; exact Nat.le_of_eq rfl) (hb hby d4_21) (fun _ _ => ⟨rfl, e23, (by decide : 0 + 0 ≤ _), (by decide : 0 + 0 ≤ _)⟩)
          dsimp only [Pt.U, Pt.locs, Pt.cells, Pt.slots] at X26 l26 y26 z26 st26 hQ26
          subst l26 y26 z26
          obtain ⟨rfl, N26q, e26⟩ := hQ26
          have N26 := Fr.app N23 N26q
          have P27 := own_step (C := T26.setTop (mkF m 24 #[.val (.ref a), .val (.int (1 : Int32)), .val (.int c0)] [(.int c1)])) P25 (fun t_ k_ => st26.trans k_)
          have P28 := own_step (C := T26.setTop (mkF m 28 #[.val (.ref a), .val (.int (1 : Int32)), .val (.int c1)] [(.int (33 : Int32)), (.int c1)])) P27 (by
            intro tt_ kk_
            refine XS.istoreN X26.here hx rfl (hb hby d4_24) rfl (l' := #[.val (.ref a), .val (.int (1 : Int32)), .val (.int c1)]) rfl ?_
            refine XS.iloadN X26.here hx rfl (hb hby d4_25) rfl ?_
            refine XS.bipush X26.here hx rfl (hb hby d4_26) ?_
            exact kk_)
          by_cases c29 : c1 < (33 : Int32)
          · have P30 := own_step (C := T26.setTop (mkF m 50 #[.val (.ref a), .val (.int (1 : Int32)), .val (.int c1)] [(.int (0 : Int32))])) P28 (by
              intro tt_ kk_
              refine XS.icmpYes X26.here hx rfl (pc0 := 28) (pc' := 49) rfl (hb hby d4_28) rfl (tlt c29).1 (by decide) (by decide) ?_
              refine XS.iconst X26.here hx rfl (hb hby d4_49) ?_
              exact kk_)
            obtain ⟨fs, hr, hrun, hended, hW, hsame⟩ := X26.leave (v := some (.int (0 : Int32))) (fun h => by rw [Bd.returns] at h; cases h)
            refine ⟨_, _, P30 _ ?_, hrun, hended, _, _, rfl, ?_, ⟨_, rfl⟩, hW, hsame.mono (by decide) (by decide)⟩
            · exact retN X26 hx (t := .boolean) Bd.returns (by simp) (hb hby d4_50) hr
            · show Q_tok3 Z _ _ _ _ _ _ h0 n0 _ T26.heap _
              rw [e26]
              exact ⟨by unfold own_tok3; rw [if_neg c11, if_neg c14, if_neg c17, if_neg c20, if_pos c29], N26, rfl⟩
          · have P31 := own_step (C := T26.setTop (mkF m 34 #[.val (.ref a), .val (.int (1 : Int32)), .val (.int c1)] [(.int (126 : Int32)), (.int c1)])) P28 (by
              intro tt_ kk_
              refine XS.icmpNo X26.here hx rfl (hb hby d4_28) rfl (flt c29).1 ?_
              refine XS.iloadN X26.here hx rfl (hb hby d4_31) rfl ?_
              refine XS.bipush X26.here hx rfl (hb hby d4_32) ?_
              exact kk_)
            by_cases c32 : (126 : Int32) < c1
            · have P33 := own_step (C := T26.setTop (mkF m 50 #[.val (.ref a), .val (.int (1 : Int32)), .val (.int c1)] [(.int (0 : Int32))])) P31 (by
                intro tt_ kk_
                refine XS.icmpYes X26.here hx rfl (pc0 := 34) (pc' := 49) rfl (hb hby d4_34) rfl (tlt c32).2.2.1 (by decide) (by decide) ?_
                refine XS.iconst X26.here hx rfl (hb hby d4_49) ?_
                exact kk_)
              obtain ⟨fs, hr, hrun, hended, hW, hsame⟩ := X26.leave (v := some (.int (0 : Int32))) (fun h => by rw [Bd.returns] at h; cases h)
              refine ⟨_, _, P33 _ ?_, hrun, hended, _, _, rfl, ?_, ⟨_, rfl⟩, hW, hsame.mono (by decide) (by decide)⟩
              · exact retN X26 hx (t := .boolean) Bd.returns (by simp) (hb hby d4_50) hr
              · show Q_tok3 Z _ _ _ _ _ _ h0 n0 _ T26.heap _
                rw [e26]
                exact ⟨by unfold own_tok3; rw [if_neg c11, if_neg c14, if_neg c17, if_neg c20, if_neg c29, if_pos c32], N26, rfl⟩
            · have P34 := own_step (C := T26.setTop (mkF m 40 #[.val (.ref a), .val (.int (1 : Int32)), .val (.int c1)] [(.int (34 : Int32)), (.int c1)])) P31 (by
                intro tt_ kk_
                refine XS.icmpNo X26.here hx rfl (hb hby d4_34) rfl (flt c32).2.2.1 ?_
                refine XS.iloadN X26.here hx rfl (hb hby d4_37) rfl ?_
                refine XS.bipush X26.here hx rfl (hb hby d4_38) ?_
                exact kk_)
              by_cases c35 : c1 = (34 : Int32)
              · have P36 := own_step (C := T26.setTop (mkF m 50 #[.val (.ref a), .val (.int (1 : Int32)), .val (.int c1)] [(.int (0 : Int32))])) P34 (by
                  intro tt_ kk_
                  refine XS.icmpYes X26.here hx rfl (pc0 := 40) (pc' := 49) rfl (hb hby d4_40) rfl (teq c35).1 (by decide) (by decide) ?_
                  refine XS.iconst X26.here hx rfl (hb hby d4_49) ?_
                  exact kk_)
                obtain ⟨fs, hr, hrun, hended, hW, hsame⟩ := X26.leave (v := some (.int (0 : Int32))) (fun h => by rw [Bd.returns] at h; cases h)
                refine ⟨_, _, P36 _ ?_, hrun, hended, _, _, rfl, ?_, ⟨_, rfl⟩, hW, hsame.mono (by decide) (by decide)⟩
                · exact retN X26 hx (t := .boolean) Bd.returns (by simp) (hb hby d4_50) hr
                · show Q_tok3 Z _ _ _ _ _ _ h0 n0 _ T26.heap _
                  rw [e26]
                  exact ⟨by unfold own_tok3; rw [if_neg c11, if_neg c14, if_neg c17, if_neg c20, if_neg c29, if_neg c32, if_pos c35], N26, rfl⟩
              · have P37 := own_step (C := T26.setTop (mkF m 46 #[.val (.ref a), .val (.int (1 : Int32)), .val (.int c1)] [(.int (92 : Int32)), (.int c1)])) P34 (by
                  intro tt_ kk_
                  refine XS.icmpNo X26.here hx rfl (hb hby d4_40) rfl (feq c35).1 ?_
                  refine XS.iloadN X26.here hx rfl (hb hby d4_43) rfl ?_
                  refine XS.bipush X26.here hx rfl (hb hby d4_44) ?_
                  exact kk_)
                by_cases c38 : c1 = (92 : Int32)
                · have P39 := own_step (C := T26.setTop (mkF m 50 #[.val (.ref a), .val (.int (1 : Int32)), .val (.int c1)] [(.int (0 : Int32))])) P37 (by
                    intro tt_ kk_
                    refine XS.icmpNo X26.here hx rfl (hb hby d4_46) rfl (teq c38).2 ?_
                    refine XS.iconst X26.here hx rfl (hb hby d4_49) ?_
                    exact kk_)
                  obtain ⟨fs, hr, hrun, hended, hW, hsame⟩ := X26.leave (v := some (.int (0 : Int32))) (fun h => by rw [Bd.returns] at h; cases h)
                  refine ⟨_, _, P39 _ ?_, hrun, hended, _, _, rfl, ?_, ⟨_, rfl⟩, hW, hsame.mono (by decide) (by decide)⟩
                  · exact retN X26 hx (t := .boolean) Bd.returns (by simp) (hb hby d4_50) hr
                  · show Q_tok3 Z _ _ _ _ _ _ h0 n0 _ T26.heap _
                    rw [e26]
                    exact ⟨by unfold own_tok3; rw [if_neg c11, if_neg c14, if_neg c17, if_neg c20, if_neg c29, if_neg c32, if_neg c35, if_pos c38], N26, rfl⟩
                · have P40 := own_step (C := T26.setTop (mkF m 13 #[.val (.ref a), .val (.int (2 : Int32)), .val (.int c1)] [(.ref a), (.int (2 : Int32))])) P37 (by
                    intro tt_ kk_
                    refine XS.icmpYes X26.here hx rfl (pc0 := 46) (pc' := 51) rfl (hb hby d4_46) rfl (feq c38).2 (by decide) (by decide) ?_
                    refine XS.iinc X26.here hx rfl (hb hby d4_51) rfl (l' := #[.val (.ref a), .val (.int (2 : Int32)), .val (.int c1)]) rfl ?_
                    show Steps p.tables e below (T26.setTop (mkF m 54 #[.val (.ref a), .val (.int (2 : Int32)), .val (.int c1)] [])) _
                    refine XS.goto X26.here hx rfl (pc0 := 54) (pc' := 11) rfl (hb hby d4_54) (by decide) (by decide) ?_
                    refine XS.iloadN X26.here hx rfl (hb hby d4_11) rfl ?_
                    refine XS.aloadN X26.here hx rfl (hb hby d4_12) rfl rfl ?_
                    exact kk_)
                  obtain ⟨cq41, kq41, q41a, q41b, q41c⟩ := isOf hZ e26 Ea
                  obtain ⟨_, _, ⟨T41, L41, k41, n41⟩, -, X41, ⟨Lc41, hQ41, l41, y41, z41⟩, st41⟩ := X26.virtualBack hx (y := (⟨"java/lang/String", "length", "()I"⟩ : MethodName)) (z := (⟨"java/lang/String", "length", "()I"⟩ : MethodName)) hown (mvT hZ (hw _ (List.mem_of_getElem? (i := 46) rfl))) (mvT hZ (hw _ (List.mem_of_getElem? (i := 47) rfl))) (notFace_of_selects (args := #[]) (mvT hZ (hw _ (List.mem_of_getElem? (i := 49) rfl)))) (mvT hZ (hw _ (List.mem_of_getElem? (i := 49) rfl))) (mvT hZ (hw _ (List.mem_of_getElem? (i := 48) rfl))) (by decide) (backOf (W := 1) (rm_lenS l Z a0 hw [] a (3 : Int32) [c0, c1, c2] cs h0 n0 Z0 O Scs hcs HS (by decide) (by decide)) hZ (hw _ (List.mem_of_getElem? (i := 50) rfl)) (hw _ (List.mem_of_getElem? (i := 2) rfl)) (by decide) (by decide)) q41a q41c (g := (mkF m 13 #[.val (.ref a), .val (.int (2 : Int32)), .val (.int c1)] [(.ref a), (.int (2 : Int32))])) rfl (by rw [hml]; rfl) (Steps.refl _) (argsL := []) (rest := [(.int (2 : Int32))]) (lenOf pd7 rfl) rfl (by show 2 * 0 + _ ≤ _; exact Nat.le_of_eq rfl) (hb hby d4_13) (fun _ _ => ⟨rfl, e26, (by decide : 0 + 0 ≤ _), (by decide : 0 + 0 ≤ _)⟩)
                  dsimp only [Pt.U, Pt.locs, Pt.cells, Pt.slots] at X41 l41 y41 z41 st41 hQ41
                  subst l41 y41 z41
                  obtain ⟨rfl, N41q, e41⟩ := hQ41
                  have N41 := Fr.app N26 N41q
                  have P42 := own_step (C := T41.setTop (mkF m 16 #[.val (.ref a), .val (.int (2 : Int32)), .val (.int c1)] [(.int (3 : Int32)), (.int (2 : Int32))])) P40 (fun t_ k_ => st41.trans k_)
                  have P43 := own_step (C := T41.setTop (mkF m 21 #[.val (.ref a), .val (.int (2 : Int32)), .val (.int c1)] [(.int (2 : Int32)), (.ref a)])) P42 (by
                    intro tt_ kk_
                    refine XS.icmpNo X41.here hx rfl (hb hby d4_16) rfl (tlt (by decide : (2 : Int32) < (3 : Int32))).2.1 ?_
                    refine XS.aloadN X41.here hx rfl (hb hby d4_19) rfl rfl ?_
                    refine XS.iloadN X41.here hx rfl (hb hby d4_20) rfl ?_
                    exact kk_)
                  obtain ⟨cq44, kq44, q44a, q44b, q44c⟩ := isOf hZ e41 Ea
                  obtain ⟨_, _, ⟨T44, L44, k44, n44⟩, -, X44, ⟨Lc44, hQ44, l44, y44, z44⟩, st44⟩ := X41.virtualBack hx (y := (⟨"java/lang/String", "charAt", "(I)C"⟩ : MethodName)) (z := (⟨"java/lang/String", "charAt", "(I)C"⟩ : MethodName)) hown (mvT hZ (hw _ (List.mem_of_getElem? (i := 56) rfl))) (mvT hZ (hw _ (List.mem_of_getElem? (i := 57) rfl))) (notFace_of_selects (args := #[]) (mvT hZ (hw _ (List.mem_of_getElem? (i := 59) rfl)))) (mvT hZ (hw _ (List.mem_of_getElem? (i := 59) rfl))) (mvT hZ (hw _ (List.mem_of_getElem? (i := 58) rfl))) (by decide) (backOf (W := 0) (rm_charS l Z a0 hw [] a (3 : Int32) [c0, c1, c2] (2 : Int32) c2 fm cs h0 n0 Z0 O Scs hcs Sad Shi Slo Sfm hfm HS (by decide) (by decide) (by decide) rfl gc2) hZ (hw _ (List.mem_of_getElem? (i := 60) rfl)) (hw _ (List.mem_of_getElem? (i := 2) rfl)) (by decide) (by decide)) q44a q44c (g := (mkF m 21 #[.val (.ref a), .val (.int (2 : Int32)), .val (.int c1)] [(.int (2 : Int32)), (.ref a)])) rfl (by rw [hml]; rfl) (Steps.refl _) (argsL := [(.int (2 : Int32))]) (rest := []) (lenOf pd8 rfl) rfl (by show 2 * 0 + _ ≤ _; exact Nat.le_of_eq rfl) (hb hby d4_21) (fun _ _ => ⟨rfl, e41, (by decide : 0 + 0 ≤ _), (by decide : 0 + 0 ≤ _)⟩)
                  dsimp only [Pt.U, Pt.locs, Pt.cells, Pt.slots] at X44 l44 y44 z44 st44 hQ44
                  subst l44 y44 z44
                  obtain ⟨rfl, N44q, e44⟩ := hQ44
                  have N44 := Fr.app N41 N44q
                  have P45 := own_step (C := T44.setTop (mkF m 24 #[.val (.ref a), .val (.int (2 : Int32)), .val (.int c1)] [(.int c2)])) P43 (fun t_ k_ => st44.trans k_)
                  have P46 := own_step (C := T44.setTop (mkF m 28 #[.val (.ref a), .val (.int (2 : Int32)), .val (.int c2)] [(.int (33 : Int32)), (.int c2)])) P45 (by
                    intro tt_ kk_
                    refine XS.istoreN X44.here hx rfl (hb hby d4_24) rfl (l' := #[.val (.ref a), .val (.int (2 : Int32)), .val (.int c2)]) rfl ?_
                    refine XS.iloadN X44.here hx rfl (hb hby d4_25) rfl ?_
                    refine XS.bipush X44.here hx rfl (hb hby d4_26) ?_
                    exact kk_)
                  by_cases c47 : c2 < (33 : Int32)
                  · have P48 := own_step (C := T44.setTop (mkF m 50 #[.val (.ref a), .val (.int (2 : Int32)), .val (.int c2)] [(.int (0 : Int32))])) P46 (by
                      intro tt_ kk_
                      refine XS.icmpYes X44.here hx rfl (pc0 := 28) (pc' := 49) rfl (hb hby d4_28) rfl (tlt c47).1 (by decide) (by decide) ?_
                      refine XS.iconst X44.here hx rfl (hb hby d4_49) ?_
                      exact kk_)
                    obtain ⟨fs, hr, hrun, hended, hW, hsame⟩ := X44.leave (v := some (.int (0 : Int32))) (fun h => by rw [Bd.returns] at h; cases h)
                    refine ⟨_, _, P48 _ ?_, hrun, hended, _, _, rfl, ?_, ⟨_, rfl⟩, hW, hsame.mono (by decide) (by decide)⟩
                    · exact retN X44 hx (t := .boolean) Bd.returns (by simp) (hb hby d4_50) hr
                    · show Q_tok3 Z _ _ _ _ _ _ h0 n0 _ T44.heap _
                      rw [e44]
                      exact ⟨by unfold own_tok3; rw [if_neg c11, if_neg c14, if_neg c17, if_neg c20, if_neg c29, if_neg c32, if_neg c35, if_neg c38, if_pos c47], N44, rfl⟩
                  · have P49 := own_step (C := T44.setTop (mkF m 34 #[.val (.ref a), .val (.int (2 : Int32)), .val (.int c2)] [(.int (126 : Int32)), (.int c2)])) P46 (by
                      intro tt_ kk_
                      refine XS.icmpNo X44.here hx rfl (hb hby d4_28) rfl (flt c47).1 ?_
                      refine XS.iloadN X44.here hx rfl (hb hby d4_31) rfl ?_
                      refine XS.bipush X44.here hx rfl (hb hby d4_32) ?_
                      exact kk_)
                    by_cases c50 : (126 : Int32) < c2
                    · have P51 := own_step (C := T44.setTop (mkF m 50 #[.val (.ref a), .val (.int (2 : Int32)), .val (.int c2)] [(.int (0 : Int32))])) P49 (by
                        intro tt_ kk_
                        refine XS.icmpYes X44.here hx rfl (pc0 := 34) (pc' := 49) rfl (hb hby d4_34) rfl (tlt c50).2.2.1 (by decide) (by decide) ?_
                        refine XS.iconst X44.here hx rfl (hb hby d4_49) ?_
                        exact kk_)
                      obtain ⟨fs, hr, hrun, hended, hW, hsame⟩ := X44.leave (v := some (.int (0 : Int32))) (fun h => by rw [Bd.returns] at h; cases h)
                      refine ⟨_, _, P51 _ ?_, hrun, hended, _, _, rfl, ?_, ⟨_, rfl⟩, hW, hsame.mono (by decide) (by decide)⟩
                      · exact retN X44 hx (t := .boolean) Bd.returns (by simp) (hb hby d4_50) hr
                      · show Q_tok3 Z _ _ _ _ _ _ h0 n0 _ T44.heap _
                        rw [e44]
                        exact ⟨by unfold own_tok3; rw [if_neg c11, if_neg c14, if_neg c17, if_neg c20, if_neg c29, if_neg c32, if_neg c35, if_neg c38, if_neg c47, if_pos c50], N44, rfl⟩
                    · have P52 := own_step (C := T44.setTop (mkF m 40 #[.val (.ref a), .val (.int (2 : Int32)), .val (.int c2)] [(.int (34 : Int32)), (.int c2)])) P49 (by
                        intro tt_ kk_
                        refine XS.icmpNo X44.here hx rfl (hb hby d4_34) rfl (flt c50).2.2.1 ?_
                        refine XS.iloadN X44.here hx rfl (hb hby d4_37) rfl ?_
                        refine XS.bipush X44.here hx rfl (hb hby d4_38) ?_
                        exact kk_)
                      by_cases c53 : c2 = (34 : Int32)
                      · have P54 := own_step (C := T44.setTop (mkF m 50 #[.val (.ref a), .val (.int (2 : Int32)), .val (.int c2)] [(.int (0 : Int32))])) P52 (by
                          intro tt_ kk_
                          refine XS.icmpYes X44.here hx rfl (pc0 := 40) (pc' := 49) rfl (hb hby d4_40) rfl (teq c53).1 (by decide) (by decide) ?_
                          refine XS.iconst X44.here hx rfl (hb hby d4_49) ?_
                          exact kk_)
                        obtain ⟨fs, hr, hrun, hended, hW, hsame⟩ := X44.leave (v := some (.int (0 : Int32))) (fun h => by rw [Bd.returns] at h; cases h)
                        refine ⟨_, _, P54 _ ?_, hrun, hended, _, _, rfl, ?_, ⟨_, rfl⟩, hW, hsame.mono (by decide) (by decide)⟩
                        · exact retN X44 hx (t := .boolean) Bd.returns (by simp) (hb hby d4_50) hr
                        · show Q_tok3 Z _ _ _ _ _ _ h0 n0 _ T44.heap _
                          rw [e44]
                          exact ⟨by unfold own_tok3; rw [if_neg c11, if_neg c14, if_neg c17, if_neg c20, if_neg c29, if_neg c32, if_neg c35, if_neg c38, if_neg c47, if_neg c50, if_pos c53], N44, rfl⟩
                      · have P55 := own_step (C := T44.setTop (mkF m 46 #[.val (.ref a), .val (.int (2 : Int32)), .val (.int c2)] [(.int (92 : Int32)), (.int c2)])) P52 (by
                          intro tt_ kk_
                          refine XS.icmpNo X44.here hx rfl (hb hby d4_40) rfl (feq c53).1 ?_
                          refine XS.iloadN X44.here hx rfl (hb hby d4_43) rfl ?_
                          refine XS.bipush X44.here hx rfl (hb hby d4_44) ?_
                          exact kk_)
                        by_cases c56 : c2 = (92 : Int32)
                        · have P57 := own_step (C := T44.setTop (mkF m 50 #[.val (.ref a), .val (.int (2 : Int32)), .val (.int c2)] [(.int (0 : Int32))])) P55 (by
                            intro tt_ kk_
                            refine XS.icmpNo X44.here hx rfl (hb hby d4_46) rfl (teq c56).2 ?_
                            refine XS.iconst X44.here hx rfl (hb hby d4_49) ?_
                            exact kk_)
                          obtain ⟨fs, hr, hrun, hended, hW, hsame⟩ := X44.leave (v := some (.int (0 : Int32))) (fun h => by rw [Bd.returns] at h; cases h)
                          refine ⟨_, _, P57 _ ?_, hrun, hended, _, _, rfl, ?_, ⟨_, rfl⟩, hW, hsame.mono (by decide) (by decide)⟩
                          · exact retN X44 hx (t := .boolean) Bd.returns (by simp) (hb hby d4_50) hr
                          · show Q_tok3 Z _ _ _ _ _ _ h0 n0 _ T44.heap _
                            rw [e44]
                            exact ⟨by unfold own_tok3; rw [if_neg c11, if_neg c14, if_neg c17, if_neg c20, if_neg c29, if_neg c32, if_neg c35, if_neg c38, if_neg c47, if_neg c50, if_neg c53, if_pos c56], N44, rfl⟩
                        · have P58 := own_step (C := T44.setTop (mkF m 13 #[.val (.ref a), .val (.int (3 : Int32)), .val (.int c2)] [(.ref a), (.int (3 : Int32))])) P55 (by
                            intro tt_ kk_
                            refine XS.icmpYes X44.here hx rfl (pc0 := 46) (pc' := 51) rfl (hb hby d4_46) rfl (feq c56).2 (by decide) (by decide) ?_
                            refine XS.iinc X44.here hx rfl (hb hby d4_51) rfl (l' := #[.val (.ref a), .val (.int (3 : Int32)), .val (.int c2)]) rfl ?_
                            show Steps p.tables e below (T44.setTop (mkF m 54 #[.val (.ref a), .val (.int (3 : Int32)), .val (.int c2)] [])) _
                            refine XS.goto X44.here hx rfl (pc0 := 54) (pc' := 11) rfl (hb hby d4_54) (by decide) (by decide) ?_
                            refine XS.iloadN X44.here hx rfl (hb hby d4_11) rfl ?_
                            refine XS.aloadN X44.here hx rfl (hb hby d4_12) rfl rfl ?_
                            exact kk_)
                          obtain ⟨cq59, kq59, q59a, q59b, q59c⟩ := isOf hZ e44 Ea
                          obtain ⟨_, _, ⟨T59, L59, k59, n59⟩, -, X59, ⟨Lc59, hQ59, l59, y59, z59⟩, st59⟩ := X44.virtualBack hx (y := (⟨"java/lang/String", "length", "()I"⟩ : MethodName)) (z := (⟨"java/lang/String", "length", "()I"⟩ : MethodName)) hown (mvT hZ (hw _ (List.mem_of_getElem? (i := 46) rfl))) (mvT hZ (hw _ (List.mem_of_getElem? (i := 47) rfl))) (notFace_of_selects (args := #[]) (mvT hZ (hw _ (List.mem_of_getElem? (i := 49) rfl)))) (mvT hZ (hw _ (List.mem_of_getElem? (i := 49) rfl))) (mvT hZ (hw _ (List.mem_of_getElem? (i := 48) rfl))) (by decide) (backOf (W := 1) (rm_lenS l Z a0 hw [] a (3 : Int32) [c0, c1, c2] cs h0 n0 Z0 O Scs hcs HS (by decide) (by decide)) hZ (hw _ (List.mem_of_getElem? (i := 50) rfl)) (hw _ (List.mem_of_getElem? (i := 2) rfl)) (by decide) (by decide)) q59a q59c (g := (mkF m 13 #[.val (.ref a), .val (.int (3 : Int32)), .val (.int c2)] [(.ref a), (.int (3 : Int32))])) rfl (by rw [hml]; rfl) (Steps.refl _) (argsL := []) (rest := [(.int (3 : Int32))]) (lenOf pd7 rfl) rfl (by show 2 * 0 + _ ≤ _; exact Nat.le_of_eq rfl) (hb hby d4_13) (fun _ _ => ⟨rfl, e44, (by decide : 0 + 0 ≤ _), (by decide : 0 + 0 ≤ _)⟩)
                          dsimp only [Pt.U, Pt.locs, Pt.cells, Pt.slots] at X59 l59 y59 z59 st59 hQ59
                          subst l59 y59 z59
                          obtain ⟨rfl, N59q, e59⟩ := hQ59
                          have N59 := Fr.app N44 N59q
                          have P60 := own_step (C := T59.setTop (mkF m 16 #[.val (.ref a), .val (.int (3 : Int32)), .val (.int c2)] [(.int (3 : Int32)), (.int (3 : Int32))])) P58 (fun t_ k_ => st59.trans k_)
                          have P61 := own_step (C := T59.setTop (mkF m 58 #[.val (.ref a), .val (.int (3 : Int32)), .val (.int c2)] [(.int (1 : Int32))])) P60 (by
                            intro tt_ kk_
                            refine XS.icmpYes X59.here hx rfl (pc0 := 16) (pc' := 57) rfl (hb hby d4_16) rfl (flt (by decide : ¬ ((3 : Int32) < (3 : Int32)))).2.1 (by decide) (by decide) ?_
                            refine XS.iconst X59.here hx rfl (hb hby d4_57) ?_
                            exact kk_)
                          obtain ⟨fs, hr, hrun, hended, hW, hsame⟩ := X59.leave (v := some (.int (1 : Int32))) (fun h => by rw [Bd.returns] at h; cases h)
                          refine ⟨_, _, P61 _ ?_, hrun, hended, _, _, rfl, ?_, ⟨_, rfl⟩, hW, hsame.mono (by decide) (by decide)⟩
                          · exact retN X59 hx (t := .boolean) Bd.returns (by simp) (hb hby d4_58) hr
                          · show Q_tok3 Z _ _ _ _ _ _ h0 n0 _ T59.heap _
                            rw [e59]
                            exact ⟨by unfold own_tok3; rw [if_neg c11, if_neg c14, if_neg c17, if_neg c20, if_neg c29, if_neg c32, if_neg c35, if_neg c38, if_neg c47, if_neg c50, if_neg c53, if_neg c56], N59, rfl⟩
def own_tok4 (c0 c1 c2 c3 : Int32) : Int32 := (if c0 < (33 : Int32) then (0 : Int32) else (if (126 : Int32) < c0 then (0 : Int32) else (if c0 = (34 : Int32) then (0 : Int32) else (if c0 = (92 : Int32) then (0 : Int32) else (if c1 < (33 : Int32) then (0 : Int32) else (if (126 : Int32) < c1 then (0 : Int32) else (if c1 = (34 : Int32) then (0 : Int32) else (if c1 = (92 : Int32) then (0 : Int32) else (if c2 < (33 : Int32) then (0 : Int32) else (if (126 : Int32) < c2 then (0 : Int32) else (if c2 = (34 : Int32) then (0 : Int32) else (if c2 = (92 : Int32) then (0 : Int32) else (if c3 < (33 : Int32) then (0 : Int32) else (if (126 : Int32) < c3 then (0 : Int32) else (if c3 = (34 : Int32) then (0 : Int32) else (if c3 = (92 : Int32) then (0 : Int32) else (1 : Int32)))))))))))))))))
theorem ef__tok4 (m : MethodId) (x0 : Addr) : entryFrame m #[(.ref x0)] 3 = mkF m 0 #[.val (.ref x0), .unset, .unset] [] := by first | (simp [entryFrame, mkF, argsToLocals, Value.category]; done) | rfl
def Q_tok4 (Z : State) (a : Addr) (c0 : Int32) (c1 : Int32) (c2 : Int32) (c3 : Int32) (fm : Value) (cs : Int32) (h0 : Heap) (n0 : Nat) (v_ : Option Value) (h : Heap) (L_ : List Loc) : Prop := v_ = some (.int (own_tok4 c0 c1 c2 c3)) ∧ Fr n0 L_ ∧ h = h0
set_option maxRecDepth 65536 in
set_option maxHeartbeats 40000000 in
theorem rm_tok4 (l : Launch) (Z : State) (a0 : Array Value) (hw : ∀ d ∈ tables_1, d.before a0 Z = true) (ws : List Jvm.Cond) (a : Addr) (c0 : Int32) (c1 : Int32) (c2 : Int32) (c3 : Int32) (fm : Value) (cs : Int32) (h0 : Heap) (n0 : Nat) (Z0 : n0 ≤ h0.size) (O : Old Z n0 h0) (Scs : Sta Z Z.heap "java/lang/String" "COMPACT_STRINGS" "Z" (.int cs)) (hcs : ¬ (cs = (0 : Int32))) (Sad : Sta Z Z.heap "java/lang/StringUTF16" "$assertionsDisabled" "Z" (.int (1 : Int32))) (Shi : Sta Z Z.heap "java/lang/StringUTF16" "HI_BYTE_SHIFT" "I" (.int (0 : Int32))) (Slo : Sta Z Z.heap "java/lang/StringUTF16" "LO_BYTE_SHIFT" "I" (.int (8 : Int32))) (Sfm : Sta Z Z.heap "jdk/internal/util/Preconditions" "SIOOBE_FORMATTER" "Ljava/util/function/BiFunction;" fm) (hfm : fm.category = 1) (HS : own_S Z h0 a (4 : Int32) [c0, c1, c2, c3]) (Ea : Exa Z h0 a "java/lang/String") (gc0 : own_C c0) (gc1 : own_C c1) (gc2 : own_C c2) (gc3 : own_C c3) :
    MetFree l (⟨"com/example/issuant/issuant/config/Scopes", "isToken", "(Ljava/lang/String;)Z"⟩ : MethodName) (head1 (Jvm.Cond.code (⟨"com/example/issuant/issuant/config/Scopes", "isToken", "(Ljava/lang/String;)Z"⟩ : MethodName) prog_5_method_2_code 3 (some .boolean) :: ws) ({ frames := 5, cells := 0, slots := 0, locals := 66 } : Room)) (fun a_ U_ => a_ = #[(.ref a)] ∧ Z.Warmed39 U_.vm ∧ U_.heap = h0) (fun _ _ _ _ _ => True) (fun _ U_ o_ V_ => ∃ v_ L_, o_ = .returned v_ ∧ Q_tok4 Z a c0 c1 c2 c3 fm cs h0 n0 v_ V_.heap L_ ∧ FrameEnd U_ o_ V_ L_ ({ frames := 5, cells := 0, slots := 0, locals := 66 } : Room).cells ({ frames := 5, cells := 0, slots := 0, locals := 66 } : Room).slots) := by
  refine MetFree.of_bodySF (plainFor_of_name pn2) hisR ?_
  intro p e s m args below meth c s₁ Bd hml0 hP hK
  obtain ⟨rfl, hZ, hh⟩ := hP
  have hx := Bd.exec
  have hby := Bd.bytes
  have hml : c.maxLocals = 3 := hml0
  have hown : s.vm.findClass "com/example/issuant/issuant/config/Scopes" = some m.cls := findClass_of_methodNamed Bd.named
  have hnm := (name_of_methodNamed Bd.named Bd.method).1
  have X0 : Stand p l e ({ frames := 5, cells := 0, slots := 0, locals := 66 } : Room) s m #[(.ref a)] below meth c s₁ [] 0 0 := Stand.of_body Bd
  have e0 : s₁.heap = h0 := by rw [← hh, Bd.state]; rfl
  have N0 := Fr.nil n0
  have pre0 : own_Go p e below (s₁.setTop (entryFrame m #[(.ref a)] 3)) (s₁.setTop (mkF m 0 #[.val (.ref a), .unset, .unset] [])) := fun t_ k_ => castTop (ef__tok4 m a) k_
  have P1 := own_step (C := s₁.setTop (mkF m 1 #[.val (.ref a), .unset, .unset] [(.ref a)])) pre0 (by
    intro tt_ kk_
    refine XS.aloadN X0.here hx rfl (hb hby d4_0) rfl rfl ?_
    exact kk_)
  obtain ⟨cq2, kq2, q2a, q2b, q2c⟩ := isOf hZ e0 Ea
  obtain ⟨_, _, ⟨T2, L2, k2, n2⟩, -, X2, ⟨Lc2, hQ2, l2, y2, z2⟩, st2⟩ := X0.virtualBack hx (y := (⟨"java/lang/String", "isEmpty", "()Z"⟩ : MethodName)) (z := (⟨"java/lang/String", "isEmpty", "()Z"⟩ : MethodName)) hown (mvT hZ (hw _ (List.mem_of_getElem? (i := 26) rfl))) (mvT hZ (hw _ (List.mem_of_getElem? (i := 27) rfl))) (notFace_of_selects (args := #[]) (mvT hZ (hw _ (List.mem_of_getElem? (i := 29) rfl)))) (mvT hZ (hw _ (List.mem_of_getElem? (i := 29) rfl))) (mvT hZ (hw _ (List.mem_of_getElem? (i := 28) rfl))) (by decide) (backOf (W := 0) (rm_empS l Z a0 hw [] a (4 : Int32) [c0, c1, c2, c3] h0 n0 Z0 HS (by decide) (by decide)) hZ (hw _ (List.mem_of_getElem? (i := 30) rfl)) (hw _ (List.mem_of_getElem? (i := 2) rfl)) (by decide) (by decide)) q2a q2c (g := (mkF m 1 #[.val (.ref a), .unset, .unset] [(.ref a)])) rfl (by rw [hml]; rfl) (Steps.refl _) (argsL := []) (rest := []) (lenOf pd0 rfl) rfl (by show 2 * 0 + _ ≤ _; exact Nat.le_of_eq rfl) (hb hby d4_1) (fun _ _ => ⟨rfl, e0, (by decide : 0 + 0 ≤ _), (by decide : 0 + 0 ≤ _)⟩)
  dsimp only [Pt.U, Pt.locs, Pt.cells, Pt.slots] at X2 l2 y2 z2 st2 hQ2
  subst l2 y2 z2
  obtain ⟨rfl, N2q, e2⟩ := hQ2
  have N2 := Fr.app N0 N2q
  have P3 := own_step (C := T2.setTop (mkF m 4 #[.val (.ref a), .unset, .unset] [(.int (0 : Int32))])) P1 (fun t_ k_ => st2.trans k_)
  have P4 := own_step (C := T2.setTop (mkF m 13 #[.val (.ref a), .val (.int (0 : Int32)), .unset] [(.ref a), (.int (0 : Int32))])) P3 (by
    intro tt_ kk_
    refine XS.ifYes X2.here hx rfl (pc0 := 4) (pc' := 9) rfl (hb hby d4_4) rfl ((if0 _ _).trans (teq (by decide : (0 : Int32) = (0 : Int32))).1) (by decide) (by decide) ?_
    refine XS.iconst X2.here hx rfl (hb hby d4_9) ?_
    refine XS.istoreN X2.here hx rfl (hb hby d4_10) rfl (l' := #[.val (.ref a), .val (.int (0 : Int32)), .unset]) rfl ?_
    refine XS.iloadN X2.here hx rfl (hb hby d4_11) rfl ?_
    refine XS.aloadN X2.here hx rfl (hb hby d4_12) rfl rfl ?_
    exact kk_)
  obtain ⟨cq5, kq5, q5a, q5b, q5c⟩ := isOf hZ e2 Ea
  obtain ⟨_, _, ⟨T5, L5, k5, n5⟩, -, X5, ⟨Lc5, hQ5, l5, y5, z5⟩, st5⟩ := X2.virtualBack hx (y := (⟨"java/lang/String", "length", "()I"⟩ : MethodName)) (z := (⟨"java/lang/String", "length", "()I"⟩ : MethodName)) hown (mvT hZ (hw _ (List.mem_of_getElem? (i := 46) rfl))) (mvT hZ (hw _ (List.mem_of_getElem? (i := 47) rfl))) (notFace_of_selects (args := #[]) (mvT hZ (hw _ (List.mem_of_getElem? (i := 49) rfl)))) (mvT hZ (hw _ (List.mem_of_getElem? (i := 49) rfl))) (mvT hZ (hw _ (List.mem_of_getElem? (i := 48) rfl))) (by decide) (backOf (W := 1) (rm_lenS l Z a0 hw [] a (4 : Int32) [c0, c1, c2, c3] cs h0 n0 Z0 O Scs hcs HS (by decide) (by decide)) hZ (hw _ (List.mem_of_getElem? (i := 50) rfl)) (hw _ (List.mem_of_getElem? (i := 2) rfl)) (by decide) (by decide)) q5a q5c (g := (mkF m 13 #[.val (.ref a), .val (.int (0 : Int32)), .unset] [(.ref a), (.int (0 : Int32))])) rfl (by rw [hml]; rfl) (Steps.refl _) (argsL := []) (rest := [(.int (0 : Int32))]) (lenOf pd7 rfl) rfl (by show 2 * 0 + _ ≤ _; exact Nat.le_of_eq rfl) (hb hby d4_13) (fun _ _ => ⟨rfl, e2, (by decide : 0 + 0 ≤ _), (by decide : 0 + 0 ≤ _)⟩)
  dsimp only [Pt.U, Pt.locs, Pt.cells, Pt.slots] at X5 l5 y5 z5 st5 hQ5
  subst l5 y5 z5
  obtain ⟨rfl, N5q, e5⟩ := hQ5
  have N5 := Fr.app N2 N5q
  have P6 := own_step (C := T5.setTop (mkF m 16 #[.val (.ref a), .val (.int (0 : Int32)), .unset] [(.int (4 : Int32)), (.int (0 : Int32))])) P4 (fun t_ k_ => st5.trans k_)
  have P7 := own_step (C := T5.setTop (mkF m 21 #[.val (.ref a), .val (.int (0 : Int32)), .unset] [(.int (0 : Int32)), (.ref a)])) P6 (by
    intro tt_ kk_
    refine XS.icmpNo X5.here hx rfl (hb hby d4_16) rfl (tlt (by decide : (0 : Int32) < (4 : Int32))).2.1 ?_
    refine XS.aloadN X5.here hx rfl (hb hby d4_19) rfl rfl ?_
    refine XS.iloadN X5.here hx rfl (hb hby d4_20) rfl ?_
    exact kk_)
  obtain ⟨cq8, kq8, q8a, q8b, q8c⟩ := isOf hZ e5 Ea
  obtain ⟨_, _, ⟨T8, L8, k8, n8⟩, -, X8, ⟨Lc8, hQ8, l8, y8, z8⟩, st8⟩ := X5.virtualBack hx (y := (⟨"java/lang/String", "charAt", "(I)C"⟩ : MethodName)) (z := (⟨"java/lang/String", "charAt", "(I)C"⟩ : MethodName)) hown (mvT hZ (hw _ (List.mem_of_getElem? (i := 56) rfl))) (mvT hZ (hw _ (List.mem_of_getElem? (i := 57) rfl))) (notFace_of_selects (args := #[]) (mvT hZ (hw _ (List.mem_of_getElem? (i := 59) rfl)))) (mvT hZ (hw _ (List.mem_of_getElem? (i := 59) rfl))) (mvT hZ (hw _ (List.mem_of_getElem? (i := 58) rfl))) (by decide) (backOf (W := 0) (rm_charS l Z a0 hw [] a (4 : Int32) [c0, c1, c2, c3] (0 : Int32) c0 fm cs h0 n0 Z0 O Scs hcs Sad Shi Slo Sfm hfm HS (by decide) (by decide) (by decide) rfl gc0) hZ (hw _ (List.mem_of_getElem? (i := 60) rfl)) (hw _ (List.mem_of_getElem? (i := 2) rfl)) (by decide) (by decide)) q8a q8c (g := (mkF m 21 #[.val (.ref a), .val (.int (0 : Int32)), .unset] [(.int (0 : Int32)), (.ref a)])) rfl (by rw [hml]; rfl) (Steps.refl _) (argsL := [(.int (0 : Int32))]) (rest := []) (lenOf pd8 rfl) rfl (by show 2 * 0 + _ ≤ _; exact Nat.le_of_eq rfl) (hb hby d4_21) (fun _ _ => ⟨rfl, e5, (by decide : 0 + 0 ≤ _), (by decide : 0 + 0 ≤ _)⟩)
  dsimp only [Pt.U, Pt.locs, Pt.cells, Pt.slots] at X8 l8 y8 z8 st8 hQ8
  subst l8 y8 z8
  obtain ⟨rfl, N8q, e8⟩ := hQ8
  have N8 := Fr.app N5 N8q
  have P9 := own_step (C := T8.setTop (mkF m 24 #[.val (.ref a), .val (.int (0 : Int32)), .unset] [(.int c0)])) P7 (fun t_ k_ => st8.trans k_)
  have P10 := own_step (C := T8.setTop (mkF m 28 #[.val (.ref a), .val (.int (0 : Int32)), .val (.int c0)] [(.int (33 : Int32)), (.int c0)])) P9 (by
    intro tt_ kk_
    refine XS.istoreN X8.here hx rfl (hb hby d4_24) rfl (l' := #[.val (.ref a), .val (.int (0 : Int32)), .val (.int c0)]) rfl ?_
    refine XS.iloadN X8.here hx rfl (hb hby d4_25) rfl ?_
    refine XS.bipush X8.here hx rfl (hb hby d4_26) ?_
    exact kk_)
  by_cases c11 : c0 < (33 : Int32)
  · have P12 := own_step (C := T8.setTop (mkF m 50 #[.val (.ref a), .val (.int (0 : Int32)), .val (.int c0)] [(.int (0 : Int32))])) P10 (by
      intro tt_ kk_
      refine XS.icmpYes X8.here hx rfl (pc0 := 28) (pc' := 49) rfl (hb hby d4_28) rfl (tlt c11).1 (by decide) (by decide) ?_
      refine XS.iconst X8.here hx rfl (hb hby d4_49) ?_
      exact kk_)
    obtain ⟨fs, hr, hrun, hended, hW, hsame⟩ := X8.leave (v := some (.int (0 : Int32))) (fun h => by rw [Bd.returns] at h; cases h)
    refine ⟨_, _, P12 _ ?_, hrun, hended, _, _, rfl, ?_, ⟨_, rfl⟩, hW, hsame.mono (by decide) (by decide)⟩
    · exact retN X8 hx (t := .boolean) Bd.returns (by simp) (hb hby d4_50) hr
    · show Q_tok4 Z _ _ _ _ _ _ _ h0 n0 _ T8.heap _
      rw [e8]
      exact ⟨by unfold own_tok4; rw [if_pos c11], N8, rfl⟩
  · have P13 := own_step (C := T8.setTop (mkF m 34 #[.val (.ref a), .val (.int (0 : Int32)), .val (.int c0)] [(.int (126 : Int32)), (.int c0)])) P10 (by
      intro tt_ kk_
      refine XS.icmpNo X8.here hx rfl (hb hby d4_28) rfl (flt c11).1 ?_
      refine XS.iloadN X8.here hx rfl (hb hby d4_31) rfl ?_
      refine XS.bipush X8.here hx rfl (hb hby d4_32) ?_
      exact kk_)
    by_cases c14 : (126 : Int32) < c0
    · have P15 := own_step (C := T8.setTop (mkF m 50 #[.val (.ref a), .val (.int (0 : Int32)), .val (.int c0)] [(.int (0 : Int32))])) P13 (by
        intro tt_ kk_
        refine XS.icmpYes X8.here hx rfl (pc0 := 34) (pc' := 49) rfl (hb hby d4_34) rfl (tlt c14).2.2.1 (by decide) (by decide) ?_
        refine XS.iconst X8.here hx rfl (hb hby d4_49) ?_
        exact kk_)
      obtain ⟨fs, hr, hrun, hended, hW, hsame⟩ := X8.leave (v := some (.int (0 : Int32))) (fun h => by rw [Bd.returns] at h; cases h)
      refine ⟨_, _, P15 _ ?_, hrun, hended, _, _, rfl, ?_, ⟨_, rfl⟩, hW, hsame.mono (by decide) (by decide)⟩
      · exact retN X8 hx (t := .boolean) Bd.returns (by simp) (hb hby d4_50) hr
      · show Q_tok4 Z _ _ _ _ _ _ _ h0 n0 _ T8.heap _
        rw [e8]
        exact ⟨by unfold own_tok4; rw [if_neg c11, if_pos c14], N8, rfl⟩
    · have P16 := own_step (C := T8.setTop (mkF m 40 #[.val (.ref a), .val (.int (0 : Int32)), .val (.int c0)] [(.int (34 : Int32)), (.int c0)])) P13 (by
        intro tt_ kk_
        refine XS.icmpNo X8.here hx rfl (hb hby d4_34) rfl (flt c14).2.2.1 ?_
        refine XS.iloadN X8.here hx rfl (hb hby d4_37) rfl ?_
        refine XS.bipush X8.here hx rfl (hb hby d4_38) ?_
        exact kk_)
      by_cases c17 : c0 = (34 : Int32)
      · have P18 := own_step (C := T8.setTop (mkF m 50 #[.val (.ref a), .val (.int (0 : Int32)), .val (.int c0)] [(.int (0 : Int32))])) P16 (by
          intro tt_ kk_
          refine XS.icmpYes X8.here hx rfl (pc0 := 40) (pc' := 49) rfl (hb hby d4_40) rfl (teq c17).1 (by decide) (by decide) ?_
          refine XS.iconst X8.here hx rfl (hb hby d4_49) ?_
          exact kk_)
        obtain ⟨fs, hr, hrun, hended, hW, hsame⟩ := X8.leave (v := some (.int (0 : Int32))) (fun h => by rw [Bd.returns] at h; cases h)
        refine ⟨_, _, P18 _ ?_, hrun, hended, _, _, rfl, ?_, ⟨_, rfl⟩, hW, hsame.mono (by decide) (by decide)⟩
        · exact retN X8 hx (t := .boolean) Bd.returns (by simp) (hb hby d4_50) hr
        · show Q_tok4 Z _ _ _ _ _ _ _ h0 n0 _ T8.heap _
          rw [e8]
          exact ⟨by unfold own_tok4; rw [if_neg c11, if_neg c14, if_pos c17], N8, rfl⟩
      · have P19 := own_step (C := T8.setTop (mkF m 46 #[.val (.ref a), .val (.int (0 : Int32)), .val (.int c0)] [(.int (92 : Int32)), (.int c0)])) P16 (by
          intro tt_ kk_
          refine XS.icmpNo X8.here hx rfl (hb hby d4_40) rfl (feq c17).1 ?_
          refine XS.iloadN X8.here hx rfl (hb hby d4_43) rfl ?_
          refine XS.bipush X8.here hx rfl (hb hby d4_44) ?_
          exact kk_)
        by_cases c20 : c0 = (92 : Int32)
        · have P21 := own_step (C := T8.setTop (mkF m 50 #[.val (.ref a), .val (.int (0 : Int32)), .val (.int c0)] [(.int (0 : Int32))])) P19 (by
            intro tt_ kk_
            refine XS.icmpNo X8.here hx rfl (hb hby d4_46) rfl (teq c20).2 ?_
            refine XS.iconst X8.here hx rfl (hb hby d4_49) ?_
            exact kk_)
          obtain ⟨fs, hr, hrun, hended, hW, hsame⟩ := X8.leave (v := some (.int (0 : Int32))) (fun h => by rw [Bd.returns] at h; cases h)
          refine ⟨_, _, P21 _ ?_, hrun, hended, _, _, rfl, ?_, ⟨_, rfl⟩, hW, hsame.mono (by decide) (by decide)⟩
          · exact retN X8 hx (t := .boolean) Bd.returns (by simp) (hb hby d4_50) hr
          · show Q_tok4 Z _ _ _ _ _ _ _ h0 n0 _ T8.heap _
            rw [e8]
            exact ⟨by unfold own_tok4; rw [if_neg c11, if_neg c14, if_neg c17, if_pos c20], N8, rfl⟩
        · have P22 := own_step (C := T8.setTop (mkF m 13 #[.val (.ref a), .val (.int (1 : Int32)), .val (.int c0)] [(.ref a), (.int (1 : Int32))])) P19 (by
            intro tt_ kk_
            refine XS.icmpYes X8.here hx rfl (pc0 := 46) (pc' := 51) rfl (hb hby d4_46) rfl (feq c20).2 (by decide) (by decide) ?_
            refine XS.iinc X8.here hx rfl (hb hby d4_51) rfl (l' := #[.val (.ref a), .val (.int (1 : Int32)), .val (.int c0)]) rfl ?_
            show Steps p.tables e below (T8.setTop (mkF m 54 #[.val (.ref a), .val (.int (1 : Int32)), .val (.int c0)] [])) _
            refine XS.goto X8.here hx rfl (pc0 := 54) (pc' := 11) rfl (hb hby d4_54) (by decide) (by decide) ?_
            refine XS.iloadN X8.here hx rfl (hb hby d4_11) rfl ?_
            refine XS.aloadN X8.here hx rfl (hb hby d4_12) rfl rfl ?_
            exact kk_)
          obtain ⟨cq23, kq23, q23a, q23b, q23c⟩ := isOf hZ e8 Ea
          obtain ⟨_, _, ⟨T23, L23, k23, n23⟩, -, X23, ⟨Lc23, hQ23, l23, y23, z23⟩, st23⟩ := X8.virtualBack hx (y := (⟨"java/lang/String", "length", "()I"⟩ : MethodName)) (z := (⟨"java/lang/String", "length", "()I"⟩ : MethodName)) hown (mvT hZ (hw _ (List.mem_of_getElem? (i := 46) rfl))) (mvT hZ (hw _ (List.mem_of_getElem? (i := 47) rfl))) (notFace_of_selects (args := #[]) (mvT hZ (hw _ (List.mem_of_getElem? (i := 49) rfl)))) (mvT hZ (hw _ (List.mem_of_getElem? (i := 49) rfl))) (mvT hZ (hw _ (List.mem_of_getElem? (i := 48) rfl))) (by decide) (backOf (W := 1) (rm_lenS l Z a0 hw [] a (4 : Int32) [c0, c1, c2, c3] cs h0 n0 Z0 O Scs hcs HS (by decide) (by decide)) hZ (hw _ (List.mem_of_getElem? (i := 50) rfl)) (hw _ (List.mem_of_getElem? (i := 2) rfl)) (by decide) (by decide)) q23a q23c (g := (mkF m 13 #[.val (.ref a), .val (.int (1 : Int32)), .val (.int c0)] [(.ref a), (.int (1 : Int32))])) rfl (by rw [hml]; rfl) (Steps.refl _) (argsL := []) (rest := [(.int (1 : Int32))]) (lenOf pd7 rfl) rfl (by show 2 * 0 + _ ≤ _; exact Nat.le_of_eq rfl) (hb hby d4_13) (fun _ _ => ⟨rfl, e8, (by decide : 0 + 0 ≤ _), (by decide : 0 + 0 ≤ _)⟩)
          dsimp only [Pt.U, Pt.locs, Pt.cells, Pt.slots] at X23 l23 y23 z23 st23 hQ23
          subst l23 y23 z23
          obtain ⟨rfl, N23q, e23⟩ := hQ23
          have N23 := Fr.app N8 N23q
          have P24 := own_step (C := T23.setTop (mkF m 16 #[.val (.ref a), .val (.int (1 : Int32)), .val (.int c0)] [(.int (4 : Int32)), (.int (1 : Int32))])) P22 (fun t_ k_ => st23.trans k_)
          have P25 := own_step (C := T23.setTop (mkF m 21 #[.val (.ref a), .val (.int (1 : Int32)), .val (.int c0)] [(.int (1 : Int32)), (.ref a)])) P24 (by
            intro tt_ kk_
            refine XS.icmpNo X23.here hx rfl (hb hby d4_16) rfl (tlt (by decide : (1 : Int32) < (4 : Int32))).2.1 ?_
            refine XS.aloadN X23.here hx rfl (hb hby d4_19) rfl rfl ?_
            refine XS.iloadN X23.here hx rfl (hb hby d4_20) rfl ?_
            exact kk_)
          obtain ⟨cq26, kq26, q26a, q26b, q26c⟩ := isOf hZ e23 Ea
          obtain ⟨_, _, ⟨T26, L26, k26, n26⟩, -, X26, ⟨Lc26, hQ26, l26, y26, z26⟩, st26⟩ := X23.virtualBack hx (y := (⟨"java/lang/String", "charAt", "(I)C"⟩ : MethodName)) (z := (⟨"java/lang/String", "charAt", "(I)C"⟩ : MethodName)) hown (mvT hZ (hw _ (List.mem_of_getElem? (i := 56) rfl))) (mvT hZ (hw _ (List.mem_of_getElem? (i := 57) rfl))) (notFace_of_selects (args := #[]) (mvT hZ (hw _ (List.mem_of_getElem? (i := 59) rfl)))) (mvT hZ (hw _ (List.mem_of_getElem? (i := 59) rfl))) (mvT hZ (hw _ (List.mem_of_getElem? (i := 58) rfl))) (by decide) (backOf (W := 0) (rm_charS l Z a0 hw [] a (4 : Int32) [c0, c1, c2, c3] (1 : Int32) c1 fm cs h0 n0 Z0 O Scs hcs Sad Shi Slo Sfm hfm HS (by decide) (by decide) (by decide) rfl gc1) hZ (hw _ (List.mem_of_getElem? (i := 60) rfl)) (hw _ (List.mem_of_getElem? (i := 2) rfl)) (by decide) (by decide)) q26a q26c (g := (mkF m 21 #[.val (.ref a), .val (.int (1 : Int32)), .val (.int c0)] [(.int (1 : Int32)), (.ref a)])) rfl (by rw [hml]; rfl) (Steps.refl _) (argsL := [(.int (1 : Int32))]) (rest := []) (lenOf pd8 rfl) rfl (by show 2 * 0 + _ ≤ _; exact Nat.le_of_eq rfl) (hb hby d4_21) (fun _ _ => ⟨rfl, e23, (by decide : 0 + 0 ≤ _), (by decide : 0 + 0 ≤ _)⟩)
          dsimp only [Pt.U, Pt.locs, Pt.cells, Pt.slots] at X26 l26 y26 z26 st26 hQ26
          subst l26 y26 z26
          obtain ⟨rfl, N26q, e26⟩ := hQ26
          have N26 := Fr.app N23 N26q
          have P27 := own_step (C := T26.setTop (mkF m 24 #[.val (.ref a), .val (.int (1 : Int32)), .val (.int c0)] [(.int c1)])) P25 (fun t_ k_ => st26.trans k_)
          have P28 := own_step (C := T26.setTop (mkF m 28 #[.val (.ref a), .val (.int (1 : Int32)), .val (.int c1)] [(.int (33 : Int32)), (.int c1)])) P27 (by
            intro tt_ kk_
            refine XS.istoreN X26.here hx rfl (hb hby d4_24) rfl (l' := #[.val (.ref a), .val (.int (1 : Int32)), .val (.int c1)]) rfl ?_
            refine XS.iloadN X26.here hx rfl (hb hby d4_25) rfl ?_
            refine XS.bipush X26.here hx rfl (hb hby d4_26) ?_
            exact kk_)
          by_cases c29 : c1 < (33 : Int32)
          · have P30 := own_step (C := T26.setTop (mkF m 50 #[.val (.ref a), .val (.int (1 : Int32)), .val (.int c1)] [(.int (0 : Int32))])) P28 (by
              intro tt_ kk_
              refine XS.icmpYes X26.here hx rfl (pc0 := 28) (pc' := 49) rfl (hb hby d4_28) rfl (tlt c29).1 (by decide) (by decide) ?_
              refine XS.iconst X26.here hx rfl (hb hby d4_49) ?_
              exact kk_)
            obtain ⟨fs, hr, hrun, hended, hW, hsame⟩ := X26.leave (v := some (.int (0 : Int32))) (fun h => by rw [Bd.returns] at h; cases h)
            refine ⟨_, _, P30 _ ?_, hrun, hended, _, _, rfl, ?_, ⟨_, rfl⟩, hW, hsame.mono (by decide) (by decide)⟩
            · exact retN X26 hx (t := .boolean) Bd.returns (by simp) (hb hby d4_50) hr
            · show Q_tok4 Z _ _ _ _ _ _ _ h0 n0 _ T26.heap _
              rw [e26]
              exact ⟨by unfold own_tok4; rw [if_neg c11, if_neg c14, if_neg c17, if_neg c20, if_pos c29], N26, rfl⟩
          · have P31 := own_step (C := T26.setTop (mkF m 34 #[.val (.ref a), .val (.int (1 : Int32)), .val (.int c1)] [(.int (126 : Int32)), (.int c1)])) P28 (by
              intro tt_ kk_
              refine XS.icmpNo X26.here hx rfl (hb hby d4_28) rfl (flt c29).1 ?_
              refine XS.iloadN X26.here hx rfl (hb hby d4_31) rfl ?_
              refine XS.bipush X26.here hx rfl (hb hby d4_32) ?_
              exact kk_)
            by_cases c32 : (126 : Int32) < c1
            · have P33 := own_step (C := T26.setTop (mkF m 50 #[.val (.ref a), .val (.int (1 : Int32)), .val (.int c1)] [(.int (0 : Int32))])) P31 (by
                intro tt_ kk_
                refine XS.icmpYes X26.here hx rfl (pc0 := 34) (pc' := 49) rfl (hb hby d4_34) rfl (tlt c32).2.2.1 (by decide) (by decide) ?_
                refine XS.iconst X26.here hx rfl (hb hby d4_49) ?_
                exact kk_)
              obtain ⟨fs, hr, hrun, hended, hW, hsame⟩ := X26.leave (v := some (.int (0 : Int32))) (fun h => by rw [Bd.returns] at h; cases h)
              refine ⟨_, _, P33 _ ?_, hrun, hended, _, _, rfl, ?_, ⟨_, rfl⟩, hW, hsame.mono (by decide) (by decide)⟩
              · exact retN X26 hx (t := .boolean) Bd.returns (by simp) (hb hby d4_50) hr
              · show Q_tok4 Z _ _ _ _ _ _ _ h0 n0 _ T26.heap _
                rw [e26]
                exact ⟨by unfold own_tok4; rw [if_neg c11, if_neg c14, if_neg c17, if_neg c20, if_neg c29, if_pos c32], N26, rfl⟩
            · have P34 := own_step (C := T26.setTop (mkF m 40 #[.val (.ref a), .val (.int (1 : Int32)), .val (.int c1)] [(.int (34 : Int32)), (.int c1)])) P31 (by
                intro tt_ kk_
                refine XS.icmpNo X26.here hx rfl (hb hby d4_34) rfl (flt c32).2.2.1 ?_
                refine XS.iloadN X26.here hx rfl (hb hby d4_37) rfl ?_
                refine XS.bipush X26.here hx rfl (hb hby d4_38) ?_
                exact kk_)
              by_cases c35 : c1 = (34 : Int32)
              · have P36 := own_step (C := T26.setTop (mkF m 50 #[.val (.ref a), .val (.int (1 : Int32)), .val (.int c1)] [(.int (0 : Int32))])) P34 (by
                  intro tt_ kk_
                  refine XS.icmpYes X26.here hx rfl (pc0 := 40) (pc' := 49) rfl (hb hby d4_40) rfl (teq c35).1 (by decide) (by decide) ?_
                  refine XS.iconst X26.here hx rfl (hb hby d4_49) ?_
                  exact kk_)
                obtain ⟨fs, hr, hrun, hended, hW, hsame⟩ := X26.leave (v := some (.int (0 : Int32))) (fun h => by rw [Bd.returns] at h; cases h)
                refine ⟨_, _, P36 _ ?_, hrun, hended, _, _, rfl, ?_, ⟨_, rfl⟩, hW, hsame.mono (by decide) (by decide)⟩
                · exact retN X26 hx (t := .boolean) Bd.returns (by simp) (hb hby d4_50) hr
                · show Q_tok4 Z _ _ _ _ _ _ _ h0 n0 _ T26.heap _
                  rw [e26]
                  exact ⟨by unfold own_tok4; rw [if_neg c11, if_neg c14, if_neg c17, if_neg c20, if_neg c29, if_neg c32, if_pos c35], N26, rfl⟩
              · have P37 := own_step (C := T26.setTop (mkF m 46 #[.val (.ref a), .val (.int (1 : Int32)), .val (.int c1)] [(.int (92 : Int32)), (.int c1)])) P34 (by
                  intro tt_ kk_
                  refine XS.icmpNo X26.here hx rfl (hb hby d4_40) rfl (feq c35).1 ?_
                  refine XS.iloadN X26.here hx rfl (hb hby d4_43) rfl ?_
                  refine XS.bipush X26.here hx rfl (hb hby d4_44) ?_
                  exact kk_)
                by_cases c38 : c1 = (92 : Int32)
                · have P39 := own_step (C := T26.setTop (mkF m 50 #[.val (.ref a), .val (.int (1 : Int32)), .val (.int c1)] [(.int (0 : Int32))])) P37 (by
                    intro tt_ kk_
                    refine XS.icmpNo X26.here hx rfl (hb hby d4_46) rfl (teq c38).2 ?_
                    refine XS.iconst X26.here hx rfl (hb hby d4_49) ?_
                    exact kk_)
                  obtain ⟨fs, hr, hrun, hended, hW, hsame⟩ := X26.leave (v := some (.int (0 : Int32))) (fun h => by rw [Bd.returns] at h; cases h)
                  refine ⟨_, _, P39 _ ?_, hrun, hended, _, _, rfl, ?_, ⟨_, rfl⟩, hW, hsame.mono (by decide) (by decide)⟩
                  · exact retN X26 hx (t := .boolean) Bd.returns (by simp) (hb hby d4_50) hr
                  · show Q_tok4 Z _ _ _ _ _ _ _ h0 n0 _ T26.heap _
                    rw [e26]
                    exact ⟨by unfold own_tok4; rw [if_neg c11, if_neg c14, if_neg c17, if_neg c20, if_neg c29, if_neg c32, if_neg c35, if_pos c38], N26, rfl⟩
                · have P40 := own_step (C := T26.setTop (mkF m 13 #[.val (.ref a), .val (.int (2 : Int32)), .val (.int c1)] [(.ref a), (.int (2 : Int32))])) P37 (by
                    intro tt_ kk_
                    refine XS.icmpYes X26.here hx rfl (pc0 := 46) (pc' := 51) rfl (hb hby d4_46) rfl (feq c38).2 (by decide) (by decide) ?_
                    refine XS.iinc X26.here hx rfl (hb hby d4_51) rfl (l' := #[.val (.ref a), .val (.int (2 : Int32)), .val (.int c1)]) rfl ?_
                    show Steps p.tables e below (T26.setTop (mkF m 54 #[.val (.ref a), .val (.int (2 : Int32)), .val (.int c1)] [])) _
                    refine XS.goto X26.here hx rfl (pc0 := 54) (pc' := 11) rfl (hb hby d4_54) (by decide) (by decide) ?_
                    refine XS.iloadN X26.here hx rfl (hb hby d4_11) rfl ?_
                    refine XS.aloadN X26.here hx rfl (hb hby d4_12) rfl rfl ?_
                    exact kk_)
                  obtain ⟨cq41, kq41, q41a, q41b, q41c⟩ := isOf hZ e26 Ea
                  obtain ⟨_, _, ⟨T41, L41, k41, n41⟩, -, X41, ⟨Lc41, hQ41, l41, y41, z41⟩, st41⟩ := X26.virtualBack hx (y := (⟨"java/lang/String", "length", "()I"⟩ : MethodName)) (z := (⟨"java/lang/String", "length", "()I"⟩ : MethodName)) hown (mvT hZ (hw _ (List.mem_of_getElem? (i := 46) rfl))) (mvT hZ (hw _ (List.mem_of_getElem? (i := 47) rfl))) (notFace_of_selects (args := #[]) (mvT hZ (hw _ (List.mem_of_getElem? (i := 49) rfl)))) (mvT hZ (hw _ (List.mem_of_getElem? (i := 49) rfl))) (mvT hZ (hw _ (List.mem_of_getElem? (i := 48) rfl))) (by decide) (backOf (W := 1) (rm_lenS l Z a0 hw [] a (4 : Int32) [c0, c1, c2, c3] cs h0 n0 Z0 O Scs hcs HS (by decide) (by decide)) hZ (hw _ (List.mem_of_getElem? (i := 50) rfl)) (hw _ (List.mem_of_getElem? (i := 2) rfl)) (by decide) (by decide)) q41a q41c (g := (mkF m 13 #[.val (.ref a), .val (.int (2 : Int32)), .val (.int c1)] [(.ref a), (.int (2 : Int32))])) rfl (by rw [hml]; rfl) (Steps.refl _) (argsL := []) (rest := [(.int (2 : Int32))]) (lenOf pd7 rfl) rfl (by show 2 * 0 + _ ≤ _; exact Nat.le_of_eq rfl) (hb hby d4_13) (fun _ _ => ⟨rfl, e26, (by decide : 0 + 0 ≤ _), (by decide : 0 + 0 ≤ _)⟩)
                  dsimp only [Pt.U, Pt.locs, Pt.cells, Pt.slots] at X41 l41 y41 z41 st41 hQ41
                  subst l41 y41 z41
                  obtain ⟨rfl, N41q, e41⟩ := hQ41
                  have N41 := Fr.app N26 N41q
                  have P42 := own_step (C := T41.setTop (mkF m 16 #[.val (.ref a), .val (.int (2 : Int32)), .val (.int c1)] [(.int (4 : Int32)), (.int (2 : Int32))])) P40 (fun t_ k_ => st41.trans k_)
                  have P43 := own_step (C := T41.setTop (mkF m 21 #[.val (.ref a), .val (.int (2 : Int32)), .val (.int c1)] [(.int (2 : Int32)), (.ref a)])) P42 (by
                    intro tt_ kk_
                    refine XS.icmpNo X41.here hx rfl (hb hby d4_16) rfl (tlt (by decide : (2 : Int32) < (4 : Int32))).2.1 ?_
                    refine XS.aloadN X41.here hx rfl (hb hby d4_19) rfl rfl ?_
                    refine XS.iloadN X41.here hx rfl (hb hby d4_20) rfl ?_
                    exact kk_)
                  obtain ⟨cq44, kq44, q44a, q44b, q44c⟩ := isOf hZ e41 Ea
                  obtain ⟨_, _, ⟨T44, L44, k44, n44⟩, -, X44, ⟨Lc44, hQ44, l44, y44, z44⟩, st44⟩ := X41.virtualBack hx (y := (⟨"java/lang/String", "charAt", "(I)C"⟩ : MethodName)) (z := (⟨"java/lang/String", "charAt", "(I)C"⟩ : MethodName)) hown (mvT hZ (hw _ (List.mem_of_getElem? (i := 56) rfl))) (mvT hZ (hw _ (List.mem_of_getElem? (i := 57) rfl))) (notFace_of_selects (args := #[]) (mvT hZ (hw _ (List.mem_of_getElem? (i := 59) rfl)))) (mvT hZ (hw _ (List.mem_of_getElem? (i := 59) rfl))) (mvT hZ (hw _ (List.mem_of_getElem? (i := 58) rfl))) (by decide) (backOf (W := 0) (rm_charS l Z a0 hw [] a (4 : Int32) [c0, c1, c2, c3] (2 : Int32) c2 fm cs h0 n0 Z0 O Scs hcs Sad Shi Slo Sfm hfm HS (by decide) (by decide) (by decide) rfl gc2) hZ (hw _ (List.mem_of_getElem? (i := 60) rfl)) (hw _ (List.mem_of_getElem? (i := 2) rfl)) (by decide) (by decide)) q44a q44c (g := (mkF m 21 #[.val (.ref a), .val (.int (2 : Int32)), .val (.int c1)] [(.int (2 : Int32)), (.ref a)])) rfl (by rw [hml]; rfl) (Steps.refl _) (argsL := [(.int (2 : Int32))]) (rest := []) (lenOf pd8 rfl) rfl (by show 2 * 0 + _ ≤ _; exact Nat.le_of_eq rfl) (hb hby d4_21) (fun _ _ => ⟨rfl, e41, (by decide : 0 + 0 ≤ _), (by decide : 0 + 0 ≤ _)⟩)
                  dsimp only [Pt.U, Pt.locs, Pt.cells, Pt.slots] at X44 l44 y44 z44 st44 hQ44
                  subst l44 y44 z44
                  obtain ⟨rfl, N44q, e44⟩ := hQ44
                  have N44 := Fr.app N41 N44q
                  have P45 := own_step (C := T44.setTop (mkF m 24 #[.val (.ref a), .val (.int (2 : Int32)), .val (.int c1)] [(.int c2)])) P43 (fun t_ k_ => st44.trans k_)
                  have P46 := own_step (C := T44.setTop (mkF m 28 #[.val (.ref a), .val (.int (2 : Int32)), .val (.int c2)] [(.int (33 : Int32)), (.int c2)])) P45 (by
                    intro tt_ kk_
                    refine XS.istoreN X44.here hx rfl (hb hby d4_24) rfl (l' := #[.val (.ref a), .val (.int (2 : Int32)), .val (.int c2)]) rfl ?_
                    refine XS.iloadN X44.here hx rfl (hb hby d4_25) rfl ?_
                    refine XS.bipush X44.here hx rfl (hb hby d4_26) ?_
                    exact kk_)
                  by_cases c47 : c2 < (33 : Int32)
                  · have P48 := own_step (C := T44.setTop (mkF m 50 #[.val (.ref a), .val (.int (2 : Int32)), .val (.int c2)] [(.int (0 : Int32))])) P46 (by
                      intro tt_ kk_
                      refine XS.icmpYes X44.here hx rfl (pc0 := 28) (pc' := 49) rfl (hb hby d4_28) rfl (tlt c47).1 (by decide) (by decide) ?_
                      refine XS.iconst X44.here hx rfl (hb hby d4_49) ?_
                      exact kk_)
                    obtain ⟨fs, hr, hrun, hended, hW, hsame⟩ := X44.leave (v := some (.int (0 : Int32))) (fun h => by rw [Bd.returns] at h; cases h)
                    refine ⟨_, _, P48 _ ?_, hrun, hended, _, _, rfl, ?_, ⟨_, rfl⟩, hW, hsame.mono (by decide) (by decide)⟩
                    · exact retN X44 hx (t := .boolean) Bd.returns (by simp) (hb hby d4_50) hr
                    · show Q_tok4 Z _ _ _ _ _ _ _ h0 n0 _ T44.heap _
                      rw [e44]
                      exact ⟨by unfold own_tok4; rw [if_neg c11, if_neg c14, if_neg c17, if_neg c20, if_neg c29, if_neg c32, if_neg c35, if_neg c38, if_pos c47], N44, rfl⟩
                  · have P49 := own_step (C := T44.setTop (mkF m 34 #[.val (.ref a), .val (.int (2 : Int32)), .val (.int c2)] [(.int (126 : Int32)), (.int c2)])) P46 (by
                      intro tt_ kk_
                      refine XS.icmpNo X44.here hx rfl (hb hby d4_28) rfl (flt c47).1 ?_
                      refine XS.iloadN X44.here hx rfl (hb hby d4_31) rfl ?_
                      refine XS.bipush X44.here hx rfl (hb hby d4_32) ?_
                      exact kk_)
                    by_cases c50 : (126 : Int32) < c2
                    · have P51 := own_step (C := T44.setTop (mkF m 50 #[.val (.ref a), .val (.int (2 : Int32)), .val (.int c2)] [(.int (0 : Int32))])) P49 (by
                        intro tt_ kk_
                        refine XS.icmpYes X44.here hx rfl (pc0 := 34) (pc' := 49) rfl (hb hby d4_34) rfl (tlt c50).2.2.1 (by decide) (by decide) ?_
                        refine XS.iconst X44.here hx rfl (hb hby d4_49) ?_
                        exact kk_)
                      obtain ⟨fs, hr, hrun, hended, hW, hsame⟩ := X44.leave (v := some (.int (0 : Int32))) (fun h => by rw [Bd.returns] at h; cases h)
                      refine ⟨_, _, P51 _ ?_, hrun, hended, _, _, rfl, ?_, ⟨_, rfl⟩, hW, hsame.mono (by decide) (by decide)⟩
                      · exact retN X44 hx (t := .boolean) Bd.returns (by simp) (hb hby d4_50) hr
                      · show Q_tok4 Z _ _ _ _ _ _ _ h0 n0 _ T44.heap _
                        rw [e44]
                        exact ⟨by unfold own_tok4; rw [if_neg c11, if_neg c14, if_neg c17, if_neg c20, if_neg c29, if_neg c32, if_neg c35, if_neg c38, if_neg c47, if_pos c50], N44, rfl⟩
                    · have P52 := own_step (C := T44.setTop (mkF m 40 #[.val (.ref a), .val (.int (2 : Int32)), .val (.int c2)] [(.int (34 : Int32)), (.int c2)])) P49 (by
                        intro tt_ kk_
                        refine XS.icmpNo X44.here hx rfl (hb hby d4_34) rfl (flt c50).2.2.1 ?_
                        refine XS.iloadN X44.here hx rfl (hb hby d4_37) rfl ?_
                        refine XS.bipush X44.here hx rfl (hb hby d4_38) ?_
                        exact kk_)
                      by_cases c53 : c2 = (34 : Int32)
                      · have P54 := own_step (C := T44.setTop (mkF m 50 #[.val (.ref a), .val (.int (2 : Int32)), .val (.int c2)] [(.int (0 : Int32))])) P52 (by
                          intro tt_ kk_
                          refine XS.icmpYes X44.here hx rfl (pc0 := 40) (pc' := 49) rfl (hb hby d4_40) rfl (teq c53).1 (by decide) (by decide) ?_
                          refine XS.iconst X44.here hx rfl (hb hby d4_49) ?_
                          exact kk_)
                        obtain ⟨fs, hr, hrun, hended, hW, hsame⟩ := X44.leave (v := some (.int (0 : Int32))) (fun h => by rw [Bd.returns] at h; cases h)
                        refine ⟨_, _, P54 _ ?_, hrun, hended, _, _, rfl, ?_, ⟨_, rfl⟩, hW, hsame.mono (by decide) (by decide)⟩
                        · exact retN X44 hx (t := .boolean) Bd.returns (by simp) (hb hby d4_50) hr
                        · show Q_tok4 Z _ _ _ _ _ _ _ h0 n0 _ T44.heap _
                          rw [e44]
                          exact ⟨by unfold own_tok4; rw [if_neg c11, if_neg c14, if_neg c17, if_neg c20, if_neg c29, if_neg c32, if_neg c35, if_neg c38, if_neg c47, if_neg c50, if_pos c53], N44, rfl⟩
                      · have P55 := own_step (C := T44.setTop (mkF m 46 #[.val (.ref a), .val (.int (2 : Int32)), .val (.int c2)] [(.int (92 : Int32)), (.int c2)])) P52 (by
                          intro tt_ kk_
                          refine XS.icmpNo X44.here hx rfl (hb hby d4_40) rfl (feq c53).1 ?_
                          refine XS.iloadN X44.here hx rfl (hb hby d4_43) rfl ?_
                          refine XS.bipush X44.here hx rfl (hb hby d4_44) ?_
                          exact kk_)
                        by_cases c56 : c2 = (92 : Int32)
                        · have P57 := own_step (C := T44.setTop (mkF m 50 #[.val (.ref a), .val (.int (2 : Int32)), .val (.int c2)] [(.int (0 : Int32))])) P55 (by
                            intro tt_ kk_
                            refine XS.icmpNo X44.here hx rfl (hb hby d4_46) rfl (teq c56).2 ?_
                            refine XS.iconst X44.here hx rfl (hb hby d4_49) ?_
                            exact kk_)
                          obtain ⟨fs, hr, hrun, hended, hW, hsame⟩ := X44.leave (v := some (.int (0 : Int32))) (fun h => by rw [Bd.returns] at h; cases h)
                          refine ⟨_, _, P57 _ ?_, hrun, hended, _, _, rfl, ?_, ⟨_, rfl⟩, hW, hsame.mono (by decide) (by decide)⟩
                          · exact retN X44 hx (t := .boolean) Bd.returns (by simp) (hb hby d4_50) hr
                          · show Q_tok4 Z _ _ _ _ _ _ _ h0 n0 _ T44.heap _
                            rw [e44]
                            exact ⟨by unfold own_tok4; rw [if_neg c11, if_neg c14, if_neg c17, if_neg c20, if_neg c29, if_neg c32, if_neg c35, if_neg c38, if_neg c47, if_neg c50, if_neg c53, if_pos c56], N44, rfl⟩
                        · have P58 := own_step (C := T44.setTop (mkF m 13 #[.val (.ref a), .val (.int (3 : Int32)), .val (.int c2)] [(.ref a), (.int (3 : Int32))])) P55 (by
                            intro tt_ kk_
                            refine XS.icmpYes X44.here hx rfl (pc0 := 46) (pc' := 51) rfl (hb hby d4_46) rfl (feq c56).2 (by decide) (by decide) ?_
                            refine XS.iinc X44.here hx rfl (hb hby d4_51) rfl (l' := #[.val (.ref a), .val (.int (3 : Int32)), .val (.int c2)]) rfl ?_
                            show Steps p.tables e below (T44.setTop (mkF m 54 #[.val (.ref a), .val (.int (3 : Int32)), .val (.int c2)] [])) _
                            refine XS.goto X44.here hx rfl (pc0 := 54) (pc' := 11) rfl (hb hby d4_54) (by decide) (by decide) ?_
                            refine XS.iloadN X44.here hx rfl (hb hby d4_11) rfl ?_
                            refine XS.aloadN X44.here hx rfl (hb hby d4_12) rfl rfl ?_
                            exact kk_)
                          obtain ⟨cq59, kq59, q59a, q59b, q59c⟩ := isOf hZ e44 Ea
                          obtain ⟨_, _, ⟨T59, L59, k59, n59⟩, -, X59, ⟨Lc59, hQ59, l59, y59, z59⟩, st59⟩ := X44.virtualBack hx (y := (⟨"java/lang/String", "length", "()I"⟩ : MethodName)) (z := (⟨"java/lang/String", "length", "()I"⟩ : MethodName)) hown (mvT hZ (hw _ (List.mem_of_getElem? (i := 46) rfl))) (mvT hZ (hw _ (List.mem_of_getElem? (i := 47) rfl))) (notFace_of_selects (args := #[]) (mvT hZ (hw _ (List.mem_of_getElem? (i := 49) rfl)))) (mvT hZ (hw _ (List.mem_of_getElem? (i := 49) rfl))) (mvT hZ (hw _ (List.mem_of_getElem? (i := 48) rfl))) (by decide) (backOf (W := 1) (rm_lenS l Z a0 hw [] a (4 : Int32) [c0, c1, c2, c3] cs h0 n0 Z0 O Scs hcs HS (by decide) (by decide)) hZ (hw _ (List.mem_of_getElem? (i := 50) rfl)) (hw _ (List.mem_of_getElem? (i := 2) rfl)) (by decide) (by decide)) q59a q59c (g := (mkF m 13 #[.val (.ref a), .val (.int (3 : Int32)), .val (.int c2)] [(.ref a), (.int (3 : Int32))])) rfl (by rw [hml]; rfl) (Steps.refl _) (argsL := []) (rest := [(.int (3 : Int32))]) (lenOf pd7 rfl) rfl (by show 2 * 0 + _ ≤ _; exact Nat.le_of_eq rfl) (hb hby d4_13) (fun _ _ => ⟨rfl, e44, (by decide : 0 + 0 ≤ _), (by decide : 0 + 0 ≤ _)⟩)
                          dsimp only [Pt.U, Pt.locs, Pt.cells, Pt.slots] at X59 l59 y59 z59 st59 hQ59
                          subst l59 y59 z59
                          obtain ⟨rfl, N59q, e59⟩ := hQ59
                          have N59 := Fr.app N44 N59q
                          have P60 := own_step (C := T59.setTop (mkF m 16 #[.val (.ref a), .val (.int (3 : Int32)), .val (.int c2)] [(.int (4 : Int32)), (.int (3 : Int32))])) P58 (fun t_ k_ => st59.trans k_)
                          have P61 := own_step (C := T59.setTop (mkF m 21 #[.val (.ref a), .val (.int (3 : Int32)), .val (.int c2)] [(.int (3 : Int32)), (.ref a)])) P60 (by
                            intro tt_ kk_
                            refine XS.icmpNo X59.here hx rfl (hb hby d4_16) rfl (tlt (by decide : (3 : Int32) < (4 : Int32))).2.1 ?_
                            refine XS.aloadN X59.here hx rfl (hb hby d4_19) rfl rfl ?_
                            refine XS.iloadN X59.here hx rfl (hb hby d4_20) rfl ?_
                            exact kk_)
                          obtain ⟨cq62, kq62, q62a, q62b, q62c⟩ := isOf hZ e59 Ea
                          obtain ⟨_, _, ⟨T62, L62, k62, n62⟩, -, X62, ⟨Lc62, hQ62, l62, y62, z62⟩, st62⟩ := X59.virtualBack hx (y := (⟨"java/lang/String", "charAt", "(I)C"⟩ : MethodName)) (z := (⟨"java/lang/String", "charAt", "(I)C"⟩ : MethodName)) hown (mvT hZ (hw _ (List.mem_of_getElem? (i := 56) rfl))) (mvT hZ (hw _ (List.mem_of_getElem? (i := 57) rfl))) (notFace_of_selects (args := #[]) (mvT hZ (hw _ (List.mem_of_getElem? (i := 59) rfl)))) (mvT hZ (hw _ (List.mem_of_getElem? (i := 59) rfl))) (mvT hZ (hw _ (List.mem_of_getElem? (i := 58) rfl))) (by decide) (backOf (W := 0) (rm_charS l Z a0 hw [] a (4 : Int32) [c0, c1, c2, c3] (3 : Int32) c3 fm cs h0 n0 Z0 O Scs hcs Sad Shi Slo Sfm hfm HS (by decide) (by decide) (by decide) rfl gc3) hZ (hw _ (List.mem_of_getElem? (i := 60) rfl)) (hw _ (List.mem_of_getElem? (i := 2) rfl)) (by decide) (by decide)) q62a q62c (g := (mkF m 21 #[.val (.ref a), .val (.int (3 : Int32)), .val (.int c2)] [(.int (3 : Int32)), (.ref a)])) rfl (by rw [hml]; rfl) (Steps.refl _) (argsL := [(.int (3 : Int32))]) (rest := []) (lenOf pd8 rfl) rfl (by show 2 * 0 + _ ≤ _; exact Nat.le_of_eq rfl) (hb hby d4_21) (fun _ _ => ⟨rfl, e59, (by decide : 0 + 0 ≤ _), (by decide : 0 + 0 ≤ _)⟩)
                          dsimp only [Pt.U, Pt.locs, Pt.cells, Pt.slots] at X62 l62 y62 z62 st62 hQ62
                          subst l62 y62 z62
                          obtain ⟨rfl, N62q, e62⟩ := hQ62
                          have N62 := Fr.app N59 N62q
                          have P63 := own_step (C := T62.setTop (mkF m 24 #[.val (.ref a), .val (.int (3 : Int32)), .val (.int c2)] [(.int c3)])) P61 (fun t_ k_ => st62.trans k_)
                          have P64 := own_step (C := T62.setTop (mkF m 28 #[.val (.ref a), .val (.int (3 : Int32)), .val (.int c3)] [(.int (33 : Int32)), (.int c3)])) P63 (by
                            intro tt_ kk_
                            refine XS.istoreN X62.here hx rfl (hb hby d4_24) rfl (l' := #[.val (.ref a), .val (.int (3 : Int32)), .val (.int c3)]) rfl ?_
                            refine XS.iloadN X62.here hx rfl (hb hby d4_25) rfl ?_
                            refine XS.bipush X62.here hx rfl (hb hby d4_26) ?_
                            exact kk_)
                          by_cases c65 : c3 < (33 : Int32)
                          · have P66 := own_step (C := T62.setTop (mkF m 50 #[.val (.ref a), .val (.int (3 : Int32)), .val (.int c3)] [(.int (0 : Int32))])) P64 (by
                              intro tt_ kk_
                              refine XS.icmpYes X62.here hx rfl (pc0 := 28) (pc' := 49) rfl (hb hby d4_28) rfl (tlt c65).1 (by decide) (by decide) ?_
                              refine XS.iconst X62.here hx rfl (hb hby d4_49) ?_
                              exact kk_)
                            obtain ⟨fs, hr, hrun, hended, hW, hsame⟩ := X62.leave (v := some (.int (0 : Int32))) (fun h => by rw [Bd.returns] at h; cases h)
                            refine ⟨_, _, P66 _ ?_, hrun, hended, _, _, rfl, ?_, ⟨_, rfl⟩, hW, hsame.mono (by decide) (by decide)⟩
                            · exact retN X62 hx (t := .boolean) Bd.returns (by simp) (hb hby d4_50) hr
                            · show Q_tok4 Z _ _ _ _ _ _ _ h0 n0 _ T62.heap _
                              rw [e62]
                              exact ⟨by unfold own_tok4; rw [if_neg c11, if_neg c14, if_neg c17, if_neg c20, if_neg c29, if_neg c32, if_neg c35, if_neg c38, if_neg c47, if_neg c50, if_neg c53, if_neg c56, if_pos c65], N62, rfl⟩
                          · have P67 := own_step (C := T62.setTop (mkF m 34 #[.val (.ref a), .val (.int (3 : Int32)), .val (.int c3)] [(.int (126 : Int32)), (.int c3)])) P64 (by
                              intro tt_ kk_
                              refine XS.icmpNo X62.here hx rfl (hb hby d4_28) rfl (flt c65).1 ?_
                              refine XS.iloadN X62.here hx rfl (hb hby d4_31) rfl ?_
                              refine XS.bipush X62.here hx rfl (hb hby d4_32) ?_
                              exact kk_)
                            by_cases c68 : (126 : Int32) < c3
                            · have P69 := own_step (C := T62.setTop (mkF m 50 #[.val (.ref a), .val (.int (3 : Int32)), .val (.int c3)] [(.int (0 : Int32))])) P67 (by
                                intro tt_ kk_
                                refine XS.icmpYes X62.here hx rfl (pc0 := 34) (pc' := 49) rfl (hb hby d4_34) rfl (tlt c68).2.2.1 (by decide) (by decide) ?_
                                refine XS.iconst X62.here hx rfl (hb hby d4_49) ?_
                                exact kk_)
                              obtain ⟨fs, hr, hrun, hended, hW, hsame⟩ := X62.leave (v := some (.int (0 : Int32))) (fun h => by rw [Bd.returns] at h; cases h)
                              refine ⟨_, _, P69 _ ?_, hrun, hended, _, _, rfl, ?_, ⟨_, rfl⟩, hW, hsame.mono (by decide) (by decide)⟩
                              · exact retN X62 hx (t := .boolean) Bd.returns (by simp) (hb hby d4_50) hr
                              · show Q_tok4 Z _ _ _ _ _ _ _ h0 n0 _ T62.heap _
                                rw [e62]
                                exact ⟨by unfold own_tok4; rw [if_neg c11, if_neg c14, if_neg c17, if_neg c20, if_neg c29, if_neg c32, if_neg c35, if_neg c38, if_neg c47, if_neg c50, if_neg c53, if_neg c56, if_neg c65, if_pos c68], N62, rfl⟩
                            · have P70 := own_step (C := T62.setTop (mkF m 40 #[.val (.ref a), .val (.int (3 : Int32)), .val (.int c3)] [(.int (34 : Int32)), (.int c3)])) P67 (by
                                intro tt_ kk_
                                refine XS.icmpNo X62.here hx rfl (hb hby d4_34) rfl (flt c68).2.2.1 ?_
                                refine XS.iloadN X62.here hx rfl (hb hby d4_37) rfl ?_
                                refine XS.bipush X62.here hx rfl (hb hby d4_38) ?_
                                exact kk_)
                              by_cases c71 : c3 = (34 : Int32)
                              · have P72 := own_step (C := T62.setTop (mkF m 50 #[.val (.ref a), .val (.int (3 : Int32)), .val (.int c3)] [(.int (0 : Int32))])) P70 (by
                                  intro tt_ kk_
                                  refine XS.icmpYes X62.here hx rfl (pc0 := 40) (pc' := 49) rfl (hb hby d4_40) rfl (teq c71).1 (by decide) (by decide) ?_
                                  refine XS.iconst X62.here hx rfl (hb hby d4_49) ?_
                                  exact kk_)
                                obtain ⟨fs, hr, hrun, hended, hW, hsame⟩ := X62.leave (v := some (.int (0 : Int32))) (fun h => by rw [Bd.returns] at h; cases h)
                                refine ⟨_, _, P72 _ ?_, hrun, hended, _, _, rfl, ?_, ⟨_, rfl⟩, hW, hsame.mono (by decide) (by decide)⟩
                                · exact retN X62 hx (t := .boolean) Bd.returns (by simp) (hb hby d4_50) hr
                                · show Q_tok4 Z _ _ _ _ _ _ _ h0 n0 _ T62.heap _
                                  rw [e62]
                                  exact ⟨by unfold own_tok4; rw [if_neg c11, if_neg c14, if_neg c17, if_neg c20, if_neg c29, if_neg c32, if_neg c35, if_neg c38, if_neg c47, if_neg c50, if_neg c53, if_neg c56, if_neg c65, if_neg c68, if_pos c71], N62, rfl⟩
                              · have P73 := own_step (C := T62.setTop (mkF m 46 #[.val (.ref a), .val (.int (3 : Int32)), .val (.int c3)] [(.int (92 : Int32)), (.int c3)])) P70 (by
                                  intro tt_ kk_
                                  refine XS.icmpNo X62.here hx rfl (hb hby d4_40) rfl (feq c71).1 ?_
                                  refine XS.iloadN X62.here hx rfl (hb hby d4_43) rfl ?_
                                  refine XS.bipush X62.here hx rfl (hb hby d4_44) ?_
                                  exact kk_)
                                by_cases c74 : c3 = (92 : Int32)
                                · have P75 := own_step (C := T62.setTop (mkF m 50 #[.val (.ref a), .val (.int (3 : Int32)), .val (.int c3)] [(.int (0 : Int32))])) P73 (by
                                    intro tt_ kk_
                                    refine XS.icmpNo X62.here hx rfl (hb hby d4_46) rfl (teq c74).2 ?_
                                    refine XS.iconst X62.here hx rfl (hb hby d4_49) ?_
                                    exact kk_)
                                  obtain ⟨fs, hr, hrun, hended, hW, hsame⟩ := X62.leave (v := some (.int (0 : Int32))) (fun h => by rw [Bd.returns] at h; cases h)
                                  refine ⟨_, _, P75 _ ?_, hrun, hended, _, _, rfl, ?_, ⟨_, rfl⟩, hW, hsame.mono (by decide) (by decide)⟩
                                  · exact retN X62 hx (t := .boolean) Bd.returns (by simp) (hb hby d4_50) hr
                                  · show Q_tok4 Z _ _ _ _ _ _ _ h0 n0 _ T62.heap _
                                    rw [e62]
                                    exact ⟨by unfold own_tok4; rw [if_neg c11, if_neg c14, if_neg c17, if_neg c20, if_neg c29, if_neg c32, if_neg c35, if_neg c38, if_neg c47, if_neg c50, if_neg c53, if_neg c56, if_neg c65, if_neg c68, if_neg c71, if_pos c74], N62, rfl⟩
                                · have P76 := own_step (C := T62.setTop (mkF m 13 #[.val (.ref a), .val (.int (4 : Int32)), .val (.int c3)] [(.ref a), (.int (4 : Int32))])) P73 (by
                                    intro tt_ kk_
                                    refine XS.icmpYes X62.here hx rfl (pc0 := 46) (pc' := 51) rfl (hb hby d4_46) rfl (feq c74).2 (by decide) (by decide) ?_
                                    refine XS.iinc X62.here hx rfl (hb hby d4_51) rfl (l' := #[.val (.ref a), .val (.int (4 : Int32)), .val (.int c3)]) rfl ?_
                                    show Steps p.tables e below (T62.setTop (mkF m 54 #[.val (.ref a), .val (.int (4 : Int32)), .val (.int c3)] [])) _
                                    refine XS.goto X62.here hx rfl (pc0 := 54) (pc' := 11) rfl (hb hby d4_54) (by decide) (by decide) ?_
                                    refine XS.iloadN X62.here hx rfl (hb hby d4_11) rfl ?_
                                    refine XS.aloadN X62.here hx rfl (hb hby d4_12) rfl rfl ?_
                                    exact kk_)
                                  obtain ⟨cq77, kq77, q77a, q77b, q77c⟩ := isOf hZ e62 Ea
                                  obtain ⟨_, _, ⟨T77, L77, k77, n77⟩, -, X77, ⟨Lc77, hQ77, l77, y77, z77⟩, st77⟩ := X62.virtualBack hx (y := (⟨"java/lang/String", "length", "()I"⟩ : MethodName)) (z := (⟨"java/lang/String", "length", "()I"⟩ : MethodName)) hown (mvT hZ (hw _ (List.mem_of_getElem? (i := 46) rfl))) (mvT hZ (hw _ (List.mem_of_getElem? (i := 47) rfl))) (notFace_of_selects (args := #[]) (mvT hZ (hw _ (List.mem_of_getElem? (i := 49) rfl)))) (mvT hZ (hw _ (List.mem_of_getElem? (i := 49) rfl))) (mvT hZ (hw _ (List.mem_of_getElem? (i := 48) rfl))) (by decide) (backOf (W := 1) (rm_lenS l Z a0 hw [] a (4 : Int32) [c0, c1, c2, c3] cs h0 n0 Z0 O Scs hcs HS (by decide) (by decide)) hZ (hw _ (List.mem_of_getElem? (i := 50) rfl)) (hw _ (List.mem_of_getElem? (i := 2) rfl)) (by decide) (by decide)) q77a q77c (g := (mkF m 13 #[.val (.ref a), .val (.int (4 : Int32)), .val (.int c3)] [(.ref a), (.int (4 : Int32))])) rfl (by rw [hml]; rfl) (Steps.refl _) (argsL := []) (rest := [(.int (4 : Int32))]) (lenOf pd7 rfl) rfl (by show 2 * 0 + _ ≤ _; exact Nat.le_of_eq rfl) (hb hby d4_13) (fun _ _ => ⟨rfl, e62, (by decide : 0 + 0 ≤ _), (by decide : 0 + 0 ≤ _)⟩)
                                  dsimp only [Pt.U, Pt.locs, Pt.cells, Pt.slots] at X77 l77 y77 z77 st77 hQ77
                                  subst l77 y77 z77
                                  obtain ⟨rfl, N77q, e77⟩ := hQ77
                                  have N77 := Fr.app N62 N77q
                                  have P78 := own_step (C := T77.setTop (mkF m 16 #[.val (.ref a), .val (.int (4 : Int32)), .val (.int c3)] [(.int (4 : Int32)), (.int (4 : Int32))])) P76 (fun t_ k_ => st77.trans k_)
                                  have P79 := own_step (C := T77.setTop (mkF m 58 #[.val (.ref a), .val (.int (4 : Int32)), .val (.int c3)] [(.int (1 : Int32))])) P78 (by
                                    intro tt_ kk_
                                    refine XS.icmpYes X77.here hx rfl (pc0 := 16) (pc' := 57) rfl (hb hby d4_16) rfl (flt (by decide : ¬ ((4 : Int32) < (4 : Int32)))).2.1 (by decide) (by decide) ?_
                                    refine XS.iconst X77.here hx rfl (hb hby d4_57) ?_
                                    exact kk_)
                                  obtain ⟨fs, hr, hrun, hended, hW, hsame⟩ := X77.leave (v := some (.int (1 : Int32))) (fun h => by rw [Bd.returns] at h; cases h)
                                  refine ⟨_, _, P79 _ ?_, hrun, hended, _, _, rfl, ?_, ⟨_, rfl⟩, hW, hsame.mono (by decide) (by decide)⟩
                                  · exact retN X77 hx (t := .boolean) Bd.returns (by simp) (hb hby d4_58) hr
                                  · show Q_tok4 Z _ _ _ _ _ _ _ h0 n0 _ T77.heap _
                                    rw [e77]
                                    exact ⟨by unfold own_tok4; rw [if_neg c11, if_neg c14, if_neg c17, if_neg c20, if_neg c29, if_neg c32, if_neg c35, if_neg c38, if_neg c47, if_neg c50, if_neg c53, if_neg c56, if_neg c65, if_neg c68, if_neg c71, if_neg c74], N77, rfl⟩
theorem d7_0 : decode jdk_52_method_21_code 0 = .ok (.iconst 0, 1) := by decide +kernel
theorem d7_1 : decode jdk_52_method_21_code 1 = .ok (.istore 5, 2) := by decide +kernel
theorem d7_3 : decode jdk_52_method_21_code 3 = .ok (.iload 5, 2) := by decide +kernel
theorem d7_5 : decode jdk_52_method_21_code 5 = .ok (.iload 4, 2) := by decide +kernel
theorem d7_7 : decode jdk_52_method_21_code 7 = .ok (.if_icmp .ge 37, 3) := by decide +kernel
theorem d7_10 : decode jdk_52_method_21_code 10 = .ok (.aload_n 0, 1) := by decide +kernel
theorem d7_11 : decode jdk_52_method_21_code 11 = .ok (.iload_n 1, 1) := by decide +kernel
theorem d7_12 : decode jdk_52_method_21_code 12 = .ok (.caload, 1) := by decide +kernel
theorem d7_13 : decode jdk_52_method_21_code 13 = .ok (.istore 6, 2) := by decide +kernel
theorem d7_15 : decode jdk_52_method_21_code 15 = .ok (.iload 6, 2) := by decide +kernel
theorem d7_17 : decode jdk_52_method_21_code 17 = .ok (.sipush 255, 3) := by decide +kernel
theorem d7_20 : decode jdk_52_method_21_code 20 = .ok (.if_icmp .le 6, 3) := by decide +kernel
theorem d7_23 : decode jdk_52_method_21_code 23 = .ok (.iload 5, 2) := by decide +kernel
theorem d7_25 : decode jdk_52_method_21_code 25 = .ok (.ireturn, 1) := by decide +kernel
theorem d7_26 : decode jdk_52_method_21_code 26 = .ok (.aload_n 2, 1) := by decide +kernel
theorem d7_27 : decode jdk_52_method_21_code 27 = .ok (.iload_n 3, 1) := by decide +kernel
theorem d7_28 : decode jdk_52_method_21_code 28 = .ok (.iload 6, 2) := by decide +kernel
theorem d7_30 : decode jdk_52_method_21_code 30 = .ok (.i2b, 1) := by decide +kernel
theorem d7_31 : decode jdk_52_method_21_code 31 = .ok (.bastore, 1) := by decide +kernel
theorem d7_32 : decode jdk_52_method_21_code 32 = .ok (.iinc 1 1, 3) := by decide +kernel
theorem d7_35 : decode jdk_52_method_21_code 35 = .ok (.iinc 3 1, 3) := by decide +kernel
theorem d7_38 : decode jdk_52_method_21_code 38 = .ok (.iinc 5 1, 3) := by decide +kernel
theorem d7_41 : decode jdk_52_method_21_code 41 = .ok (.goto (-38), 3) := by decide +kernel
theorem d7_44 : decode jdk_52_method_21_code 44 = .ok (.iload 4, 2) := by decide +kernel
theorem d7_46 : decode jdk_52_method_21_code 46 = .ok (.ireturn, 1) := by decide +kernel
theorem ef__comp2U_1 (m : MethodId) (x0 : Addr) (x1 : Int32) (x2 : Addr) (x3 : Int32) (x4 : Int32) : entryFrame m #[(.ref x0), (.int x1), (.ref x2), (.int x3), (.int x4)] 7 = mkF m 0 #[.val (.ref x0), .val (.int x1), .val (.ref x2), .val (.int x3), .val (.int x4), .unset, .unset] [] := by first | (simp [entryFrame, mkF, argsToLocals, Value.category]; done) | rfl
def Q_comp2U_1 (Z : State) (a : Addr) (ka : ClassId) (d : Addr) (kd : ClassId) (c0 : Int32) (h0 : Heap) (n0 : Nat) (v_ : Option Value) (h : Heap) (L_ : List Loc) : Prop := ∃ (r : Int32), v_ = some (.int r) ∧ Fr n0 L_ ∧ Keep h0 h [d] ∧ ((r = (0 : Int32) ∧ (255 : Int32) < c0) ∨ (r = (1 : Int32) ∧ ¬ ((255 : Int32) < c0) ∧ Arv Z h d kd .byte (1 : Int32) [(.int (c0.toInt8.toInt32).toInt8.toInt32)] (.int 0)))
set_option maxRecDepth 65536 in
set_option maxHeartbeats 40000000 in
theorem rm_comp2U_1 (l : Launch) (Z : State) (a0 : Array Value) (hw : ∀ d ∈ tables_1, d.before a0 Z = true) (ws : List Jvm.Cond) (a : Addr) (ka : ClassId) (d : Addr) (kd : ClassId) (c0 : Int32) (h0 : Heap) (n0 : Nat) (Z0 : n0 ≤ h0.size) (O : Old Z n0 h0) (Va : Arv Z h0 a ka .char (1 : Int32) [(.int c0)] (.int 0)) (Vd : Arv Z h0 d kd .byte (1 : Int32) [(.int (0 : Int32))] (.int 0)) (nad : a ≠ d) (gd : n0 ≤ d) :
    MetFree l (⟨"java/lang/StringUTF16", "compress", "([CI[BII)I"⟩ : MethodName) (head1 (Jvm.Cond.code (⟨"java/lang/StringUTF16", "compress", "([CI[BII)I"⟩ : MethodName) jdk_52_method_21_code 7 (some .int) :: ws) ({ frames := 0, cells := 0, slots := 0, locals := 0 } : Room)) (fun a_ U_ => a_ = #[(.ref a), (.int (0 : Int32)), (.ref d), (.int (0 : Int32)), (.int (1 : Int32))] ∧ Z.Warmed39 U_.vm ∧ U_.heap = h0) (fun _ _ _ _ _ => True) (fun _ U_ o_ V_ => ∃ v_ L_, o_ = .returned v_ ∧ Q_comp2U_1 Z a ka d kd c0 h0 n0 v_ V_.heap L_ ∧ FrameEnd U_ o_ V_ L_ ({ frames := 0, cells := 0, slots := 0, locals := 0 } : Room).cells ({ frames := 0, cells := 0, slots := 0, locals := 0 } : Room).slots) := by
  refine MetFree.of_bodySF (plainFor_of_name pn5) hisR ?_
  intro p e s m args below meth c s₁ Bd hml0 hP hK
  obtain ⟨rfl, hZ, hh⟩ := hP
  have hx := Bd.exec
  have hby := Bd.bytes
  have hml : c.maxLocals = 7 := hml0
  have hown : s.vm.findClass "java/lang/StringUTF16" = some m.cls := findClass_of_methodNamed Bd.named
  have hnm := (name_of_methodNamed Bd.named Bd.method).1
  have X0 : Stand p l e ({ frames := 0, cells := 0, slots := 0, locals := 0 } : Room) s m #[(.ref a), (.int (0 : Int32)), (.ref d), (.int (0 : Int32)), (.int (1 : Int32))] below meth c s₁ [] 0 0 := Stand.of_body Bd
  have e0 : s₁.heap = h0 := by rw [← hh, Bd.state]; rfl
  have N0 := Fr.nil n0
  have pre0 : own_Go p e below (s₁.setTop (entryFrame m #[(.ref a), (.int (0 : Int32)), (.ref d), (.int (0 : Int32)), (.int (1 : Int32))] 7)) (s₁.setTop (mkF m 0 #[.val (.ref a), .val (.int (0 : Int32)), .val (.ref d), .val (.int (0 : Int32)), .val (.int (1 : Int32)), .unset, .unset] [])) := fun t_ k_ => castTop (ef__comp2U_1 m a (0 : Int32) d (0 : Int32) (1 : Int32)) k_
  have P1 := own_step (C := s₁.setTop (mkF m 7 #[.val (.ref a), .val (.int (0 : Int32)), .val (.ref d), .val (.int (0 : Int32)), .val (.int (1 : Int32)), .val (.int (0 : Int32)), .unset] [(.int (1 : Int32)), (.int (0 : Int32))])) pre0 (by
    intro tt_ kk_
    refine XS.iconst X0.here hx rfl (hb hby d7_0) ?_
    refine XS.istore X0.here hx rfl (hb hby d7_1) rfl (l' := #[.val (.ref a), .val (.int (0 : Int32)), .val (.ref d), .val (.int (0 : Int32)), .val (.int (1 : Int32)), .val (.int (0 : Int32)), .unset]) rfl ?_
    refine XS.iload X0.here hx rfl (hb hby d7_3) rfl ?_
    refine XS.iload X0.here hx rfl (hb hby d7_5) rfl ?_
    exact kk_)
  have P2 := own_step (C := s₁.setTop (mkF m 12 #[.val (.ref a), .val (.int (0 : Int32)), .val (.ref d), .val (.int (0 : Int32)), .val (.int (1 : Int32)), .val (.int (0 : Int32)), .unset] [(.int (0 : Int32)), (.ref a)])) P1 (by
    intro tt_ kk_
    refine XS.icmpNo X0.here hx rfl (hb hby d7_7) rfl (tlt (by decide : (0 : Int32) < (1 : Int32))).2.1 ?_
    refine XS.aloadN X0.here hx rfl (hb hby d7_10) rfl rfl ?_
    refine XS.iloadN X0.here hx rfl (hb hby d7_11) rfl ?_
    exact kk_)
  obtain ⟨cl3, Ar3, q3, S3, M3, H3, G3⟩ := id Va
  have hin3 := inb_of S3 (by decide : ¬ (0 : Int32) < 0 ∧ (0 : Int32) < (1 : Int32))
  have hat3 := Has.at H3 hin3 (v := .int c0) rfl
  have P4 := own_step (C := s₁.setTop (mkF m 13 #[.val (.ref a), .val (.int (0 : Int32)), .val (.ref d), .val (.int (0 : Int32)), .val (.int (1 : Int32)), .val (.int (0 : Int32)), .unset] [(.int c0)])) P2 (by
    intro tt_ kk_
    refine X0.caload hx (j := (0 : Int32)) (v := (.int c0)) (by rw [e0]; exact Ar3.1) (State.isArrayOf_alike hZ.alike Ar3.2.1) Ar3.2.2 hin3 hat3 (g := (mkF m 12 #[.val (.ref a), .val (.int (0 : Int32)), .val (.ref d), .val (.int (0 : Int32)), .val (.int (1 : Int32)), .val (.int (0 : Int32)), .unset] [(.int (0 : Int32)), (.ref a)])) rfl rfl (hb hby d7_12) _ ?_
    exact kk_)
  have P5 := own_step (C := s₁.setTop (mkF m 20 #[.val (.ref a), .val (.int (0 : Int32)), .val (.ref d), .val (.int (0 : Int32)), .val (.int (1 : Int32)), .val (.int (0 : Int32)), .val (.int c0)] [(.int (255 : Int32)), (.int c0)])) P4 (by
    intro tt_ kk_
    refine XS.istore X0.here hx rfl (hb hby d7_13) rfl (l' := #[.val (.ref a), .val (.int (0 : Int32)), .val (.ref d), .val (.int (0 : Int32)), .val (.int (1 : Int32)), .val (.int (0 : Int32)), .val (.int c0)]) rfl ?_
    refine XS.iload X0.here hx rfl (hb hby d7_15) rfl ?_
    refine XS.sipush X0.here hx rfl (hb hby d7_17) ?_
    exact kk_)
  by_cases c6 : (255 : Int32) < c0
  · have P7 := own_step (C := s₁.setTop (mkF m 25 #[.val (.ref a), .val (.int (0 : Int32)), .val (.ref d), .val (.int (0 : Int32)), .val (.int (1 : Int32)), .val (.int (0 : Int32)), .val (.int c0)] [(.int (0 : Int32))])) P5 (by
      intro tt_ kk_
      refine XS.icmpNo X0.here hx rfl (hb hby d7_20) rfl (tlt c6).2.2.2 ?_
      refine XS.iload X0.here hx rfl (hb hby d7_23) rfl ?_
      exact kk_)
    obtain ⟨fs, hr, hrun, hended, hW, hsame⟩ := X0.leave (v := some (.int (0 : Int32))) (fun h => by rw [Bd.returns] at h; cases h)
    refine ⟨_, _, P7 _ ?_, hrun, hended, _, _, rfl, ?_, ⟨_, rfl⟩, hW, hsame.mono (by decide) (by decide)⟩
    · exact retI X0 hx Bd.returns (hb hby d7_25) hr
    · show Q_comp2U_1 Z _ _ _ _ _ h0 n0 _ s₁.heap _
      rw [e0]
      exact ⟨(0 : Int32), rfl, N0, (Keep.refl h0 [d]), Or.inl ⟨rfl, c6⟩⟩
  · have P8 := own_step (C := s₁.setTop (mkF m 31 #[.val (.ref a), .val (.int (0 : Int32)), .val (.ref d), .val (.int (0 : Int32)), .val (.int (1 : Int32)), .val (.int (0 : Int32)), .val (.int c0)] [(.int (c0.toInt8.toInt32)), (.int (0 : Int32)), (.ref d)])) P5 (by
      intro tt_ kk_
      refine XS.icmpYes X0.here hx rfl (pc0 := 20) (pc' := 26) rfl (hb hby d7_20) rfl (flt c6).2.2.2 (by decide) (by decide) ?_
      refine XS.aloadN X0.here hx rfl (hb hby d7_26) rfl rfl ?_
      refine XS.iloadN X0.here hx rfl (hb hby d7_27) rfl ?_
      refine XS.iload X0.here hx rfl (hb hby d7_28) rfl ?_
      refine XS.i2b X0.here hx rfl (hb hby d7_30) rfl ?_
      exact kk_)
    obtain ⟨cl9, Ar9, q9, S9, M9, H9, G9⟩ := id Vd
    obtain ⟨T10, h10, X10, e10, W10, st10⟩ := stB X0 hx hZ e0 Ar9 (j := (0 : Int32)) (inb_of S9 (by decide : ¬ (0 : Int32) < 0 ∧ (0 : Int32) < (1 : Int32))) (g := (mkF m 31 #[.val (.ref a), .val (.int (0 : Int32)), .val (.ref d), .val (.int (0 : Int32)), .val (.int (1 : Int32)), .val (.int (0 : Int32)), .val (.int c0)] [(.int (c0.toInt8.toInt32)), (.int (0 : Int32)), (.ref d)])) rfl rfl (hb hby d7_31)
    have f11 := O.wr W10 gd
    have f12 := Va.other W10 nad
    have f14 := (Keep.refl h0 [d]).wr W10 (Or.inl (List.mem_of_getElem? (i := 0) rfl))
    have Z15 : n0 ≤ h10.size := Nat.le_trans Z0 (Keep.of_wr W10).1
    have V10 : Arv Z h10 d kd .byte (1 : Int32) [(.int (c0.toInt8.toInt32).toInt8.toInt32)] (.int 0) := Arv.set Ar9 q9 S9 M9 H9 G9 (fits_nar_byte _) W10 0 rfl (Nat.le_of_ble_eq_true rfl)
    have N10 := Fr.snoc X10 N0 gd
    have P16 := own_step (C := T10.setTop (mkF m 32 #[.val (.ref a), .val (.int (0 : Int32)), .val (.ref d), .val (.int (0 : Int32)), .val (.int (1 : Int32)), .val (.int (0 : Int32)), .val (.int c0)] [])) P8 (fun t_ k_ => st10 t_ k_)
    have P17 := own_step (C := T10.setTop (mkF m 7 #[.val (.ref a), .val (.int (1 : Int32)), .val (.ref d), .val (.int (1 : Int32)), .val (.int (1 : Int32)), .val (.int (1 : Int32)), .val (.int c0)] [(.int (1 : Int32)), (.int (1 : Int32))])) P16 (by
      intro tt_ kk_
      refine XS.iinc X10.here hx rfl (hb hby d7_32) rfl (l' := #[.val (.ref a), .val (.int (1 : Int32)), .val (.ref d), .val (.int (0 : Int32)), .val (.int (1 : Int32)), .val (.int (0 : Int32)), .val (.int c0)]) rfl ?_
      show Steps p.tables e below (T10.setTop (mkF m 35 #[.val (.ref a), .val (.int (1 : Int32)), .val (.ref d), .val (.int (0 : Int32)), .val (.int (1 : Int32)), .val (.int (0 : Int32)), .val (.int c0)] [])) _
      refine XS.iinc X10.here hx rfl (hb hby d7_35) rfl (l' := #[.val (.ref a), .val (.int (1 : Int32)), .val (.ref d), .val (.int (1 : Int32)), .val (.int (1 : Int32)), .val (.int (0 : Int32)), .val (.int c0)]) rfl ?_
      show Steps p.tables e below (T10.setTop (mkF m 38 #[.val (.ref a), .val (.int (1 : Int32)), .val (.ref d), .val (.int (1 : Int32)), .val (.int (1 : Int32)), .val (.int (0 : Int32)), .val (.int c0)] [])) _
      refine XS.iinc X10.here hx rfl (hb hby d7_38) rfl (l' := #[.val (.ref a), .val (.int (1 : Int32)), .val (.ref d), .val (.int (1 : Int32)), .val (.int (1 : Int32)), .val (.int (1 : Int32)), .val (.int c0)]) rfl ?_
      show Steps p.tables e below (T10.setTop (mkF m 41 #[.val (.ref a), .val (.int (1 : Int32)), .val (.ref d), .val (.int (1 : Int32)), .val (.int (1 : Int32)), .val (.int (1 : Int32)), .val (.int c0)] [])) _
      refine XS.goto X10.here hx rfl (pc0 := 41) (pc' := 3) rfl (hb hby d7_41) (by decide) (by decide) ?_
      refine XS.iload X10.here hx rfl (hb hby d7_3) rfl ?_
      refine XS.iload X10.here hx rfl (hb hby d7_5) rfl ?_
      exact kk_)
    have P18 := own_step (C := T10.setTop (mkF m 46 #[.val (.ref a), .val (.int (1 : Int32)), .val (.ref d), .val (.int (1 : Int32)), .val (.int (1 : Int32)), .val (.int (1 : Int32)), .val (.int c0)] [(.int (1 : Int32))])) P17 (by
      intro tt_ kk_
      refine XS.icmpYes X10.here hx rfl (pc0 := 7) (pc' := 44) rfl (hb hby d7_7) rfl (flt (by decide : ¬ ((1 : Int32) < (1 : Int32)))).2.1 (by decide) (by decide) ?_
      refine XS.iload X10.here hx rfl (hb hby d7_44) rfl ?_
      exact kk_)
    obtain ⟨fs, hr, hrun, hended, hW, hsame⟩ := X10.leave (v := some (.int (1 : Int32))) (fun h => by rw [Bd.returns] at h; cases h)
    refine ⟨_, _, P18 _ ?_, hrun, hended, _, _, rfl, ?_, ⟨_, rfl⟩, hW, hsame.mono (by decide) (by decide)⟩
    · exact retI X10 hx Bd.returns (hb hby d7_46) hr
    · show Q_comp2U_1 Z _ _ _ _ _ h0 n0 _ T10.heap _
      rw [e10]
      exact ⟨(1 : Int32), rfl, N10, f14, Or.inr (⟨rfl, c6, V10⟩)⟩
theorem pd9 : parseMethodDescriptor "([CI[BII)I" = some ⟨[(.array .char), .int, (.array .byte), .int, .int], some .int⟩ := by decide +kernel
theorem d6_0 : decode jdk_52_method_16_code 0 = .ok (.iload_n 2, 1) := by decide +kernel
theorem d6_1 : decode jdk_52_method_16_code 1 = .ok (.newarray .byte, 2) := by decide +kernel
theorem d6_3 : decode jdk_52_method_16_code 3 = .ok (.astore_n 3, 1) := by decide +kernel
theorem d6_4 : decode jdk_52_method_16_code 4 = .ok (.aload_n 0, 1) := by decide +kernel
theorem d6_5 : decode jdk_52_method_16_code 5 = .ok (.iload_n 1, 1) := by decide +kernel
theorem d6_6 : decode jdk_52_method_16_code 6 = .ok (.aload_n 3, 1) := by decide +kernel
theorem d6_7 : decode jdk_52_method_16_code 7 = .ok (.iconst 0, 1) := by decide +kernel
theorem d6_8 : decode jdk_52_method_16_code 8 = .ok (.iload_n 2, 1) := by decide +kernel
theorem d6_9 : decode jdk_52_method_16_code 9 = .ok (.invokestatic 115, 3) := by decide +kernel
theorem d6_12 : decode jdk_52_method_16_code 12 = .ok (.istore 4, 2) := by decide +kernel
theorem d6_14 : decode jdk_52_method_16_code 14 = .ok (.iload 4, 2) := by decide +kernel
theorem d6_16 : decode jdk_52_method_16_code 16 = .ok (.iload_n 2, 1) := by decide +kernel
theorem d6_17 : decode jdk_52_method_16_code 17 = .ok (.if_icmp .eq 40, 3) := by decide +kernel
theorem d6_57 : decode jdk_52_method_16_code 57 = .ok (.aload_n 3, 1) := by decide +kernel
theorem d6_58 : decode jdk_52_method_16_code 58 = .ok (.areturn, 1) := by decide +kernel
theorem ef__comp_1 (m : MethodId) (x0 : Addr) (x1 : Int32) (x2 : Int32) : entryFrame m #[(.ref x0), (.int x1), (.int x2)] 6 = mkF m 0 #[.val (.ref x0), .val (.int x1), .val (.int x2), .unset, .unset, .unset] [] := by first | (simp [entryFrame, mkF, argsToLocals, Value.category]; done) | rfl
def Q_comp_1 (Z : State) (a : Addr) (ka : ClassId) (c0 : Int32) (h0 : Heap) (n0 : Nat) (v_ : Option Value) (h : Heap) (L_ : List Loc) : Prop := ∃ (x : Addr) (kk : ClassId), v_ = some (.ref x) ∧ Fr n0 L_ ∧ Keep h0 h [] ∧ h0.size ≤ x ∧ Arv Z h x kk .byte (1 : Int32) [(.int (c0.toInt8.toInt32).toInt8.toInt32)] (.int 0)
set_option maxRecDepth 65536 in
set_option maxHeartbeats 40000000 in
theorem rm_comp_1 (l : Launch) (Z : State) (a0 : Array Value) (hw : ∀ d ∈ tables_1, d.before a0 Z = true) (ws : List Jvm.Cond) (a : Addr) (ka : ClassId) (c0 : Int32) (h0 : Heap) (n0 : Nat) (Z0 : n0 ≤ h0.size) (O : Old Z n0 h0) (Va : Arv Z h0 a ka .char (1 : Int32) [(.int c0)] (.int 0)) (hc0 : ¬ ((255 : Int32) < c0)) :
    MetFree l (⟨"java/lang/StringUTF16", "compress", "([CII)[B"⟩ : MethodName) (head1 (Jvm.Cond.code (⟨"java/lang/StringUTF16", "compress", "([CII)[B"⟩ : MethodName) jdk_52_method_16_code 6 (some (.array .byte)) :: ws) ({ frames := 1, cells := 1, slots := 1, locals := 18 } : Room)) (fun a_ U_ => a_ = #[(.ref a), (.int (0 : Int32)), (.int (1 : Int32))] ∧ Z.Warmed39 U_.vm ∧ U_.heap = h0) (fun _ _ _ _ _ => True) (fun _ U_ o_ V_ => ∃ v_ L_, o_ = .returned v_ ∧ Q_comp_1 Z a ka c0 h0 n0 v_ V_.heap L_ ∧ FrameEnd U_ o_ V_ L_ ({ frames := 1, cells := 1, slots := 1, locals := 18 } : Room).cells ({ frames := 1, cells := 1, slots := 1, locals := 18 } : Room).slots) := by
  refine MetFree.of_bodySF (plainFor_of_name pn5) hisR ?_
  intro p e s m args below meth c s₁ Bd hml0 hP hK
  obtain ⟨rfl, hZ, hh⟩ := hP
  have hx := Bd.exec
  have hby := Bd.bytes
  have hml : c.maxLocals = 6 := hml0
  have hown : s.vm.findClass "java/lang/StringUTF16" = some m.cls := findClass_of_methodNamed Bd.named
  have hnm := (name_of_methodNamed Bd.named Bd.method).1
  have X0 : Stand p l e ({ frames := 1, cells := 1, slots := 1, locals := 18 } : Room) s m #[(.ref a), (.int (0 : Int32)), (.int (1 : Int32))] below meth c s₁ [] 0 0 := Stand.of_body Bd
  have e0 : s₁.heap = h0 := by rw [← hh, Bd.state]; rfl
  have N0 := Fr.nil n0
  have pre0 : own_Go p e below (s₁.setTop (entryFrame m #[(.ref a), (.int (0 : Int32)), (.int (1 : Int32))] 6)) (s₁.setTop (mkF m 0 #[.val (.ref a), .val (.int (0 : Int32)), .val (.int (1 : Int32)), .unset, .unset, .unset] [])) := fun t_ k_ => castTop (ef__comp_1 m a (0 : Int32) (1 : Int32)) k_
  have P1 := own_step (C := s₁.setTop (mkF m 1 #[.val (.ref a), .val (.int (0 : Int32)), .val (.int (1 : Int32)), .unset, .unset, .unset] [(.int (1 : Int32))])) pre0 (by
    intro tt_ kk_
    refine XS.iloadN X0.here hx rfl (hb hby d6_0) rfl ?_
    exact kk_)
  obtain ⟨T2, h2, k2, X2, e2, E2, A2, st2⟩ := newP X0 hx hZ (hw _ (List.mem_of_getElem? (i := 15) rfl)) e0 (g := (mkF m 1 #[.val (.ref a), .val (.int (0 : Int32)), .val (.int (1 : Int32)), .unset, .unset, .unset] [(.int (1 : Int32))])) rfl (hb hby d6_1) rfl (by decide) (cap := 1) (by decide) (by decide) (by decide) (by decide)
  obtain ⟨b2, g2⟩ : ∃ z, z = h0.size := ⟨_, rfl⟩
  rw [← g2] at A2 st2
  have ne_a_b2 : a ≠ b2 := Nat.ne_of_lt (Nat.lt_of_lt_of_le Va.lt (Nat.le_of_eq g2.symm))
  have g_b2 : n0 ≤ b2 := Nat.le_trans Z0 (Nat.le_of_eq g2.symm)
  have sz_b2 : h0.size ≤ b2 := Nat.le_trans (Keep.refl h0 []).1 (Nat.le_of_eq g2.symm)
  have f3 := O.ext E2
  have f4 := (Keep.refl h0 []).ext E2
  have f5 := Va.ext E2
  have Z6 : n0 ≤ h2.size := Nat.le_trans Z0 E2.1
  have V2 : Arv Z h2 b2 k2 .byte (1 : Int32) [(.int (0 : Int32))] (.int (0 : Int32)) := (Arv.new A2 (by decide)).pad (pad_rep [] _ 1)
  have P7 := own_step (C := T2.setTop (mkF m 3 #[.val (.ref a), .val (.int (0 : Int32)), .val (.int (1 : Int32)), .unset, .unset, .unset] [(.ref b2)])) P1 (fun t_ k_ => st2 t_ k_)
  have P8 := own_step (C := T2.setTop (mkF m 9 #[.val (.ref a), .val (.int (0 : Int32)), .val (.int (1 : Int32)), .val (.ref b2), .unset, .unset] [(.int (1 : Int32)), (.int (0 : Int32)), (.ref b2), (.int (0 : Int32)), (.ref a)])) P7 (by
    intro tt_ kk_
    refine XS.astoreN X2.here hx rfl (hb hby d6_3) rfl rfl (l' := #[.val (.ref a), .val (.int (0 : Int32)), .val (.int (1 : Int32)), .val (.ref b2), .unset, .unset]) rfl ?_
    refine XS.aloadN X2.here hx rfl (hb hby d6_4) rfl rfl ?_
    refine XS.iloadN X2.here hx rfl (hb hby d6_5) rfl ?_
    refine XS.aloadN X2.here hx rfl (hb hby d6_6) rfl rfl ?_
    refine XS.iconst X2.here hx rfl (hb hby d6_7) ?_
    refine XS.iloadN X2.here hx rfl (hb hby d6_8) rfl ?_
    exact kk_)
  obtain ⟨_, _, ⟨T9, L9, k9, n9⟩, -, X9, ⟨Lc9, hQ9, l9, y9, z9⟩, st9⟩ := Jvm.LawKit.callS X2 hx (y := (⟨"java/lang/StringUTF16", "compress", "([CI[BII)I"⟩ : MethodName)) hown (mvT hZ (hw _ (List.mem_of_getElem? (i := 36) rfl))) (mvT hZ (hw _ (List.mem_of_getElem? (i := 37) rfl))) (mvT hZ (hw _ (List.mem_of_getElem? (i := 34) rfl))) (mvT hZ (hw _ (List.mem_of_getElem? (i := 38) rfl))) (by decide) (backOf (W := 0) (rm_comp2U_1 l Z a0 hw [] a ka b2 k2 c0 h2 n0 Z6 f3 f5 V2 ne_a_b2 g_b2) hZ (hw _ (List.mem_of_getElem? (i := 38) rfl)) (hw _ (List.mem_of_getElem? (i := 34) rfl)) (by decide) (by decide)) (g := (mkF m 9 #[.val (.ref a), .val (.int (0 : Int32)), .val (.int (1 : Int32)), .val (.ref b2), .unset, .unset] [(.int (1 : Int32)), (.int (0 : Int32)), (.ref b2), (.int (0 : Int32)), (.ref a)])) rfl (by rw [hml]; rfl) (argsL := [(.ref a), (.int (0 : Int32)), (.ref b2), (.int (0 : Int32)), (.int (1 : Int32))]) (rest := []) (lenOf pd9 rfl) rfl (by show 2 * 0 + _ ≤ _; exact Nat.le_of_eq rfl) (hb hby d6_9) (fun _ _ => ⟨rfl, e2, (by decide : 1 + 0 ≤ _), (by decide : 1 + 0 ≤ _)⟩)
  dsimp only [Pt.U, Pt.locs, Pt.cells, Pt.slots] at X9 l9 y9 z9 st9 hQ9
  subst l9 y9 z9
  obtain ⟨r9, rfl, N9q, K9, f10⟩ := hQ9
  have N9 := Fr.app N0 N9q
  have f11 := f3.keep K9 (allS g_b2 all0)
  have f12 := f4.trans K9 (allS (Or.inr sz_b2) all0)
  have f13 := f5.keep K9 (ninS ne_a_b2 nin0)
  have Z15 : n0 ≤ T9.heap.size := Nat.le_trans Z6 K9.1
  have P16 := own_step (C := T9.setTop (mkF m 12 #[.val (.ref a), .val (.int (0 : Int32)), .val (.int (1 : Int32)), .val (.ref b2), .unset, .unset] [(.int r9)])) P8 (fun t_ k_ => st9 t_ k_)
  obtain ⟨hrr, Vx⟩ : r9 = (1 : Int32) ∧ Arv Z T9.heap b2 k2 .byte (1 : Int32) [(.int (c0.toInt8.toInt32).toInt8.toInt32)] (.int 0) := by
    rcases f10 with ⟨-, hq⟩ | ⟨hq, -, hv⟩
    · exact absurd hq hc0
    · exact ⟨hq, hv⟩
  subst hrr
  have P17 := own_step (C := T9.setTop (mkF m 17 #[.val (.ref a), .val (.int (0 : Int32)), .val (.int (1 : Int32)), .val (.ref b2), .val (.int (1 : Int32)), .unset] [(.int (1 : Int32)), (.int (1 : Int32))])) P16 (by
    intro tt_ kk_
    refine XS.istore X9.here hx rfl (hb hby d6_12) rfl (l' := #[.val (.ref a), .val (.int (0 : Int32)), .val (.int (1 : Int32)), .val (.ref b2), .val (.int (1 : Int32)), .unset]) rfl ?_
    refine XS.iload X9.here hx rfl (hb hby d6_14) rfl ?_
    refine XS.iloadN X9.here hx rfl (hb hby d6_16) rfl ?_
    exact kk_)
  have P18 := own_step (C := T9.setTop (mkF m 58 #[.val (.ref a), .val (.int (0 : Int32)), .val (.int (1 : Int32)), .val (.ref b2), .val (.int (1 : Int32)), .unset] [(.ref b2)])) P17 (by
    intro tt_ kk_
    refine XS.icmpYes X9.here hx rfl (pc0 := 17) (pc' := 57) rfl (hb hby d6_17) rfl (teq (by decide : (1 : Int32) = (1 : Int32))).1 (by decide) (by decide) ?_
    refine XS.aloadN X9.here hx rfl (hb hby d6_57) rfl rfl ?_
    exact kk_)
  obtain ⟨fs, hr, hrun, hended, hW, hsame⟩ := X9.leave (v := some (.ref b2)) (fun h => by rw [Bd.returns] at h; cases h)
  refine ⟨_, _, P18 _ ?_, hrun, hended, _, _, rfl, ?_, ⟨_, rfl⟩, hW, hsame.mono (by decide) (by decide)⟩
  · jvm_step X9.here [X9.here.top, hx, (hb hby d6_58), X9.method', Bd.returns, Value.isRef, FieldType.isReference]
    first | (intro acts; rw [hr _ acts rfl rfl rfl]) | rw [hr _ _ rfl rfl rfl]
    exact Steps.refl _
  · show Q_comp_1 Z _ _ _ h0 n0 _ T9.heap _
    exact ⟨b2, k2, rfl, N9, f12, sz_b2, Vx⟩
theorem d8_0 : decode jdk_52_method_15_code 0 = .ok (.iload_n 1, 1) := by decide +kernel
theorem d8_1 : decode jdk_52_method_15_code 1 = .ok (.aload_n 0, 1) := by decide +kernel
theorem d8_2 : decode jdk_52_method_15_code 2 = .ok (.arraylength, 1) := by decide +kernel
theorem d8_3 : decode jdk_52_method_15_code 3 = .ok (.isub, 1) := by decide +kernel
theorem d8_4 : decode jdk_52_method_15_code 4 = .ok (.bipush 31, 2) := by decide +kernel
theorem d8_6 : decode jdk_52_method_15_code 6 = .ok (.iushr, 1) := by decide +kernel
theorem d8_7 : decode jdk_52_method_15_code 7 = .ok (.i2b, 1) := by decide +kernel
theorem d8_8 : decode jdk_52_method_15_code 8 = .ok (.ireturn, 1) := by decide +kernel
theorem ef__cfa (m : MethodId) (x0 : Addr) (x1 : Int32) : entryFrame m #[(.ref x0), (.int x1)] 2 = mkF m 0 #[.val (.ref x0), .val (.int x1)] [] := by first | (simp [entryFrame, mkF, argsToLocals, Value.category]; done) | rfl
def Q_cfa (Z : State) (b : Addr) (k : ClassId) (zz : Int32) (vs : List Value) (nq : Int32) (rq : Int32) (h0 : Heap) (n0 : Nat) (v_ : Option Value) (h : Heap) (L_ : List Loc) : Prop := v_ = some (.int rq) ∧ Fr n0 L_ ∧ h = h0
set_option maxRecDepth 65536 in
set_option maxHeartbeats 40000000 in
theorem rm_cfa (l : Launch) (Z : State) (a0 : Array Value) (hw : ∀ d ∈ tables_1, d.before a0 Z = true) (ws : List Jvm.Cond) (b : Addr) (k : ClassId) (zz : Int32) (vs : List Value) (nq : Int32) (rq : Int32) (h0 : Heap) (n0 : Nat) (Z0 : n0 ≤ h0.size) (Vb : Arv Z h0 b k .byte zz vs (.int 0)) (hrq : nar .byte (((nq - zz).toUInt32 >>> ((31 : Int32) &&& 31).toUInt32).toInt32).toInt8.toInt32 = rq) :
    MetFree l (⟨"java/lang/StringUTF16", "coderFromArrayLen", "([BI)B"⟩ : MethodName) (head1 (Jvm.Cond.code (⟨"java/lang/StringUTF16", "coderFromArrayLen", "([BI)B"⟩ : MethodName) jdk_52_method_15_code 2 (some .byte) :: ws) ({ frames := 0, cells := 0, slots := 0, locals := 0 } : Room)) (fun a_ U_ => a_ = #[(.ref b), (.int nq)] ∧ Z.Warmed39 U_.vm ∧ U_.heap = h0) (fun _ _ _ _ _ => True) (fun _ U_ o_ V_ => ∃ v_ L_, o_ = .returned v_ ∧ Q_cfa Z b k zz vs nq rq h0 n0 v_ V_.heap L_ ∧ FrameEnd U_ o_ V_ L_ ({ frames := 0, cells := 0, slots := 0, locals := 0 } : Room).cells ({ frames := 0, cells := 0, slots := 0, locals := 0 } : Room).slots) := by
  refine MetFree.of_bodySF (plainFor_of_name pn5) hisR ?_
  intro p e s m args below meth c s₁ Bd hml0 hP hK
  obtain ⟨rfl, hZ, hh⟩ := hP
  have hx := Bd.exec
  have hby := Bd.bytes
  have hml : c.maxLocals = 2 := hml0
  have hown : s.vm.findClass "java/lang/StringUTF16" = some m.cls := findClass_of_methodNamed Bd.named
  have hnm := (name_of_methodNamed Bd.named Bd.method).1
  have X0 : Stand p l e ({ frames := 0, cells := 0, slots := 0, locals := 0 } : Room) s m #[(.ref b), (.int nq)] below meth c s₁ [] 0 0 := Stand.of_body Bd
  have e0 : s₁.heap = h0 := by rw [← hh, Bd.state]; rfl
  have N0 := Fr.nil n0
  have pre0 : own_Go p e below (s₁.setTop (entryFrame m #[(.ref b), (.int nq)] 2)) (s₁.setTop (mkF m 0 #[.val (.ref b), .val (.int nq)] [])) := fun t_ k_ => castTop (ef__cfa m b nq) k_
  have P1 := own_step (C := s₁.setTop (mkF m 2 #[.val (.ref b), .val (.int nq)] [(.ref b), (.int nq)])) pre0 (by
    intro tt_ kk_
    refine XS.iloadN X0.here hx rfl (hb hby d8_0) rfl ?_
    refine XS.aloadN X0.here hx rfl (hb hby d8_1) rfl rfl ?_
    exact kk_)
  obtain ⟨cl2, Ar2, q2, S2, M2, H2, G2⟩ := id Vb
  have P3 := own_step (C := s₁.setTop (mkF m 3 #[.val (.ref b), .val (.int nq)] [(.int zz), (.int nq)])) P1 (by
    intro tt_ kk_
    refine X0.arraylength hx (by rw [e0]; exact Ar2.1) (State.isArrayOf_alike hZ.alike Ar2.2.1) (g := (mkF m 2 #[.val (.ref b), .val (.int nq)] [(.ref b), (.int nq)])) rfl rfl (hb hby d8_2) _ ?_
    rw [len_of S2 M2]
    exact kk_)
  have P4 := own_step (C := s₁.setTop (mkF m 8 #[.val (.ref b), .val (.int nq)] [(.int ((((nq - zz).toUInt32 >>> ((31 : Int32) &&& 31).toUInt32).toInt32).toInt8.toInt32))])) P3 (by
    intro tt_ kk_
    refine XS.isub X0.here hx rfl (hb hby d8_3) rfl ?_
    refine XS.bipush X0.here hx rfl (hb hby d8_4) ?_
    refine XS.iushr X0.here hx rfl (hb hby d8_6) rfl ?_
    refine XS.i2b X0.here hx rfl (hb hby d8_7) rfl ?_
    exact kk_)
  obtain ⟨fs, hr, hrun, hended, hW, hsame⟩ := X0.leave (v := some (.int (nar .byte ((((nq - zz).toUInt32 >>> ((31 : Int32) &&& 31).toUInt32).toInt32).toInt8.toInt32)))) (fun h => by rw [Bd.returns] at h; cases h)
  refine ⟨_, _, P4 _ ?_, hrun, hended, _, _, rfl, ?_, ⟨_, rfl⟩, hW, hsame.mono (by decide) (by decide)⟩
  · exact retN X0 hx (t := .byte) Bd.returns (by simp) (hb hby d8_8) hr
  · show Q_cfa Z _ _ _ _ _ _ h0 n0 _ s₁.heap _
    rw [e0]
    exact ⟨by rw [hrq], N0, rfl⟩
theorem pd10 : parseMethodDescriptor "([CII)[B" = some ⟨[(.array .char), .int, .int], some (.array .byte)⟩ := by decide +kernel
theorem pd11 : parseMethodDescriptor "([BI)B" = some ⟨[(.array .byte), .int], some .byte⟩ := by decide +kernel
theorem d2_0 : decode jdk_42_method_149_code 0 = .ok (.aload_n 0, 1) := by decide +kernel
theorem d2_1 : decode jdk_42_method_149_code 1 = .ok (.invokespecial 1, 3) := by decide +kernel
theorem d2_4 : decode jdk_42_method_149_code 4 = .ok (.iload_n 3, 1) := by decide +kernel
theorem d2_5 : decode jdk_42_method_149_code 5 = .ok (.ifCond .ne 22, 3) := by decide +kernel
theorem d2_27 : decode jdk_42_method_149_code 27 = .ok (.getstatic 38, 3) := by decide +kernel
theorem d2_30 : decode jdk_42_method_149_code 30 = .ok (.ifCond .eq 28, 3) := by decide +kernel
theorem d2_33 : decode jdk_42_method_149_code 33 = .ok (.aload_n 1, 1) := by decide +kernel
theorem d2_34 : decode jdk_42_method_149_code 34 = .ok (.iload_n 2, 1) := by decide +kernel
theorem d2_35 : decode jdk_42_method_149_code 35 = .ok (.iload_n 3, 1) := by decide +kernel
theorem d2_36 : decode jdk_42_method_149_code 36 = .ok (.invokestatic 177, 3) := by decide +kernel
theorem d2_39 : decode jdk_42_method_149_code 39 = .ok (.astore 5, 2) := by decide +kernel
theorem d2_41 : decode jdk_42_method_149_code 41 = .ok (.aload_n 0, 1) := by decide +kernel
theorem d2_42 : decode jdk_42_method_149_code 42 = .ok (.aload 5, 2) := by decide +kernel
theorem d2_44 : decode jdk_42_method_149_code 44 = .ok (.iload_n 3, 1) := by decide +kernel
theorem d2_45 : decode jdk_42_method_149_code 45 = .ok (.invokestatic 47, 3) := by decide +kernel
theorem d2_48 : decode jdk_42_method_149_code 48 = .ok (.putfield 15, 3) := by decide +kernel
theorem d2_51 : decode jdk_42_method_149_code 51 = .ok (.aload_n 0, 1) := by decide +kernel
theorem d2_52 : decode jdk_42_method_149_code 52 = .ok (.aload 5, 2) := by decide +kernel
theorem d2_54 : decode jdk_42_method_149_code 54 = .ok (.putfield 9, 3) := by decide +kernel
theorem d2_57 : decode jdk_42_method_149_code 57 = .ok (.return_, 1) := by decide +kernel
theorem ef__initV_1 (m : MethodId) (x0 : Addr) (x1 : Addr) (x2 : Int32) (x3 : Int32) : entryFrame m #[(.ref x0), (.ref x1), (.int x2), (.int x3), .null] 6 = mkF m 0 #[.val (.ref x0), .val (.ref x1), .val (.int x2), .val (.int x3), .val .null, .unset] [] := by first | (simp [entryFrame, mkF, argsToLocals, Value.category]; done) | rfl
def Q_initV_1 (Z : State) (a : Addr) (ca : Addr) (ka : ClassId) (c0 : Int32) (cs : Int32) (h0 : Heap) (n0 : Nat) (v_ : Option Value) (h : Heap) (L_ : List Loc) : Prop := ∃ (x : Addr) (kk : ClassId), v_ = none ∧ Fr n0 L_ ∧ Keep h0 h [a] ∧ Exa Z h a "java/lang/String" ∧ Fld Z h a "java/lang/String" "coder" "B" (.int (0 : Int32)) ∧ Fld Z h a "java/lang/String" "value" "[B" (.ref x) ∧ Arv Z h x kk .byte (1 : Int32) [(.int (c0.toInt8.toInt32).toInt8.toInt32)] (.int 0) ∧ h0.size ≤ x
set_option maxRecDepth 65536 in
set_option maxHeartbeats 40000000 in
theorem rm_initV_1 (l : Launch) (Z : State) (a0 : Array Value) (hw : ∀ d ∈ tables_1, d.before a0 Z = true) (ws : List Jvm.Cond) (a : Addr) (ca : Addr) (ka : ClassId) (c0 : Int32) (cs : Int32) (h0 : Heap) (n0 : Nat) (Z0 : n0 ≤ h0.size) (O : Old Z n0 h0) (Scs : Sta Z Z.heap "java/lang/String" "COMPACT_STRINGS" "Z" (.int cs)) (hcs : ¬ (cs = (0 : Int32))) (Ea : Exa Z h0 a "java/lang/String") (Fv : Fld Z h0 a "java/lang/String" "value" "[B" .null) (Fc : Fld Z h0 a "java/lang/String" "coder" "B" (.int (0 : Int32))) (ga : n0 ≤ a) (Vs : Arv Z h0 ca ka .char (1 : Int32) [(.int c0)] (.int 0)) (hc0 : ¬ ((255 : Int32) < c0)) :
    MetFree l (⟨"java/lang/String", "<init>", "([CIILjava/lang/Void;)V"⟩ : MethodName) (head1 (Jvm.Cond.code (⟨"java/lang/String", "<init>", "([CIILjava/lang/Void;)V"⟩ : MethodName) jdk_42_method_149_code 6 none :: ws) ({ frames := 2, cells := 1, slots := 1, locals := 35 } : Room)) (fun a_ U_ => a_ = #[(.ref a), (.ref ca), (.int (0 : Int32)), (.int (1 : Int32)), .null] ∧ Z.Warmed39 U_.vm ∧ U_.heap = h0) (fun _ _ _ _ _ => True) (fun _ U_ o_ V_ => ∃ v_ L_, o_ = .returned v_ ∧ Q_initV_1 Z a ca ka c0 cs h0 n0 v_ V_.heap L_ ∧ FrameEnd U_ o_ V_ L_ ({ frames := 2, cells := 1, slots := 1, locals := 35 } : Room).cells ({ frames := 2, cells := 1, slots := 1, locals := 35 } : Room).slots) := by
  refine MetFree.of_bodySF (plainFor_of_name pn1) hisR ?_
  intro p e s m args below meth c s₁ Bd hml0 hP hK
  obtain ⟨rfl, hZ, hh⟩ := hP
  have hx := Bd.exec
  have hby := Bd.bytes
  have hml : c.maxLocals = 6 := hml0
  have hown : s.vm.findClass "java/lang/String" = some m.cls := findClass_of_methodNamed Bd.named
  have hnm := (name_of_methodNamed Bd.named Bd.method).1
  have X0 : Stand p l e ({ frames := 2, cells := 1, slots := 1, locals := 35 } : Room) s m #[(.ref a), (.ref ca), (.int (0 : Int32)), (.int (1 : Int32)), .null] below meth c s₁ [] 0 0 := Stand.of_body Bd
  have e0 : s₁.heap = h0 := by rw [← hh, Bd.state]; rfl
  have N0 := Fr.nil n0
  have pre0 : own_Go p e below (s₁.setTop (entryFrame m #[(.ref a), (.ref ca), (.int (0 : Int32)), (.int (1 : Int32)), .null] 6)) (s₁.setTop (mkF m 0 #[.val (.ref a), .val (.ref ca), .val (.int (0 : Int32)), .val (.int (1 : Int32)), .val .null, .unset] [])) := fun t_ k_ => castTop (ef__initV_1 m a ca (0 : Int32) (1 : Int32)) k_
  obtain ⟨clV, ArV, -⟩ := id Vs
  have ne_ca_a : ca ≠ a := Ne.symm (ne_arr Ea (hw _ (List.mem_of_getElem? (i := 1) rfl)) ArV)
  have P1 := own_step (C := s₁.setTop (mkF m 1 #[.val (.ref a), .val (.ref ca), .val (.int (0 : Int32)), .val (.int (1 : Int32)), .val .null, .unset] [(.ref a)])) pre0 (by
    intro tt_ kk_
    refine XS.aloadN X0.here hx rfl (hb hby d2_0) rfl rfl ?_
    exact kk_)
  obtain ⟨T2, X2, e2, st2⟩ := initO X0 hx hZ hown (hw _ (List.mem_of_getElem? (i := 11) rfl)) (hw _ (List.mem_of_getElem? (i := 12) rfl)) (hw _ (List.mem_of_getElem? (i := 13) rfl)) e0 (g := (mkF m 1 #[.val (.ref a), .val (.ref ca), .val (.int (0 : Int32)), .val (.int (1 : Int32)), .val .null, .unset] [(.ref a)])) rfl (by rw [hml]; rfl) rfl (hb hby d2_1) (by decide) (W := 0) (by show 2 * 0 + _ ≤ _; exact Nat.le_of_eq rfl) (by decide)
  have P3 := own_step (C := T2.setTop (mkF m 4 #[.val (.ref a), .val (.ref ca), .val (.int (0 : Int32)), .val (.int (1 : Int32)), .val .null, .unset] [])) P1 (fun t_ k_ => st2 t_ k_)
  have P4 := own_step (C := T2.setTop (mkF m 5 #[.val (.ref a), .val (.ref ca), .val (.int (0 : Int32)), .val (.int (1 : Int32)), .val .null, .unset] [(.int (1 : Int32))])) P3 (by
    intro tt_ kk_
    refine XS.iloadN X2.here hx rfl (hb hby d2_4) rfl ?_
    exact kk_)
  have P5 := own_step (C := T2.setTop (mkF m 27 #[.val (.ref a), .val (.ref ca), .val (.int (0 : Int32)), .val (.int (1 : Int32)), .val .null, .unset] [])) P4 (by
    intro tt_ kk_
    refine XS.ifYes X2.here hx rfl (pc0 := 5) (pc' := 27) rfl (hb hby d2_5) rfl ((if0 _ _).trans (feq (by decide : ¬ ((1 : Int32) = (0 : Int32)))).2) (by decide) (by decide) ?_
    exact kk_)
  obtain ⟨T6, X6, e6, st6⟩ := getS2 X2 hx hZ hown (host := "") (Or.inl (hw _ (List.mem_of_getElem? (i := 31) rfl))) Via.refl e2 (Scs.ext O.2) (g := (mkF m 27 #[.val (.ref a), .val (.ref ca), .val (.int (0 : Int32)), .val (.int (1 : Int32)), .val .null, .unset] [])) rfl (hb hby d2_27)
  have P7 := own_step (C := T6.setTop (mkF m 30 #[.val (.ref a), .val (.ref ca), .val (.int (0 : Int32)), .val (.int (1 : Int32)), .val .null, .unset] [(.int cs)])) P5 (fun t_ k_ => st6 t_ k_)
  have P8 := own_step (C := T6.setTop (mkF m 36 #[.val (.ref a), .val (.ref ca), .val (.int (0 : Int32)), .val (.int (1 : Int32)), .val .null, .unset] [(.int (1 : Int32)), (.int (0 : Int32)), (.ref ca)])) P7 (by
    intro tt_ kk_
    refine XS.ifNo X6.here hx rfl (hb hby d2_30) rfl ((if0 _ _).trans (feq hcs).1) ?_
    refine XS.aloadN X6.here hx rfl (hb hby d2_33) rfl rfl ?_
    refine XS.iloadN X6.here hx rfl (hb hby d2_34) rfl ?_
    refine XS.iloadN X6.here hx rfl (hb hby d2_35) rfl ?_
    exact kk_)
  obtain ⟨_, _, ⟨T9, L9, k9, n9⟩, -, X9, ⟨Lc9, hQ9, l9, y9, z9⟩, st9⟩ := Jvm.LawKit.callS X6 hx (y := (⟨"java/lang/StringUTF16", "compress", "([CII)[B"⟩ : MethodName)) hown (mvT hZ (hw _ (List.mem_of_getElem? (i := 32) rfl))) (mvT hZ (hw _ (List.mem_of_getElem? (i := 33) rfl))) (mvT hZ (hw _ (List.mem_of_getElem? (i := 34) rfl))) (mvT hZ (hw _ (List.mem_of_getElem? (i := 35) rfl))) (by decide) (backOf (W := 0) (rm_comp_1 l Z a0 hw [] ca ka c0 h0 n0 Z0 O Vs hc0) hZ (hw _ (List.mem_of_getElem? (i := 35) rfl)) (hw _ (List.mem_of_getElem? (i := 34) rfl)) (by decide) (by decide)) (g := (mkF m 36 #[.val (.ref a), .val (.ref ca), .val (.int (0 : Int32)), .val (.int (1 : Int32)), .val .null, .unset] [(.int (1 : Int32)), (.int (0 : Int32)), (.ref ca)])) rfl (by rw [hml]; rfl) (argsL := [(.ref ca), (.int (0 : Int32)), (.int (1 : Int32))]) (rest := []) (lenOf pd10 rfl) rfl (by show 2 * 0 + _ ≤ _; exact Nat.le_of_eq rfl) (hb hby d2_36) (fun _ _ => ⟨rfl, e6, (by decide : 0 + 1 ≤ _), (by decide : 0 + 1 ≤ _)⟩)
  dsimp only [Pt.U, Pt.locs, Pt.cells, Pt.slots] at X9 l9 y9 z9 st9 hQ9
  subst l9 y9 z9
  obtain ⟨x9, kk9, rfl, N9q, K9, f10, f11⟩ := hQ9
  have N9 := Fr.app N0 N9q
  have ne_a_x9 : a ≠ x9 := Nat.ne_of_lt (Nat.lt_of_lt_of_le Ea.lt f10)
  have ne_ca_x9 : ca ≠ x9 := Nat.ne_of_lt (Nat.lt_of_lt_of_le Vs.lt f10)
  have g_x9 : n0 ≤ x9 := Nat.le_trans Z0 f10
  have sz_x9 : h0.size ≤ x9 := Nat.le_trans (Keep.refl h0 [a]).1 f10
  have f12 := O.keep K9 all0
  have f13 := Ea.keep K9
  have f14 := Fc.keep K9 nin0
  have f15 := Fv.keep K9 nin0
  have f16 := (Keep.refl h0 [a]).trans K9 all0
  have f17 := Vs.keep K9 nin0
  have Z18 : n0 ≤ T9.heap.size := Nat.le_trans Z0 K9.1
  have P19 := own_step (C := T9.setTop (mkF m 39 #[.val (.ref a), .val (.ref ca), .val (.int (0 : Int32)), .val (.int (1 : Int32)), .val .null, .unset] [(.ref x9)])) P8 (fun t_ k_ => st9 t_ k_)
  have P20 := own_step (C := T9.setTop (mkF m 45 #[.val (.ref a), .val (.ref ca), .val (.int (0 : Int32)), .val (.int (1 : Int32)), .val .null, .val (.ref x9)] [(.int (1 : Int32)), (.ref x9), (.ref a)])) P19 (by
    intro tt_ kk_
    refine XS.astore X9.here hx rfl (hb hby d2_39) rfl rfl (l' := #[.val (.ref a), .val (.ref ca), .val (.int (0 : Int32)), .val (.int (1 : Int32)), .val .null, .val (.ref x9)]) rfl ?_
    refine XS.aloadN X9.here hx rfl (hb hby d2_41) rfl rfl ?_
    refine XS.aload X9.here hx rfl (hb hby d2_42) rfl rfl ?_
    refine XS.iloadN X9.here hx rfl (hb hby d2_44) rfl ?_
    exact kk_)
  obtain ⟨_, _, ⟨T21, L21, k21, n21⟩, -, X21, ⟨Lc21, hQ21, l21, y21, z21⟩, st21⟩ := Jvm.LawKit.callS X9 hx (y := (⟨"java/lang/StringUTF16", "coderFromArrayLen", "([BI)B"⟩ : MethodName)) hown (mvT hZ (hw _ (List.mem_of_getElem? (i := 39) rfl))) (mvT hZ (hw _ (List.mem_of_getElem? (i := 40) rfl))) (mvT hZ (hw _ (List.mem_of_getElem? (i := 34) rfl))) (mvT hZ (hw _ (List.mem_of_getElem? (i := 41) rfl))) (by decide) (backOf (W := 1) (rm_cfa l Z a0 hw [] x9 kk9 (1 : Int32) _ (1 : Int32) (0 : Int32) T9.heap n0 Z18 f11 (by decide +kernel)) hZ (hw _ (List.mem_of_getElem? (i := 41) rfl)) (hw _ (List.mem_of_getElem? (i := 34) rfl)) (by decide) (by decide)) (g := (mkF m 45 #[.val (.ref a), .val (.ref ca), .val (.int (0 : Int32)), .val (.int (1 : Int32)), .val .null, .val (.ref x9)] [(.int (1 : Int32)), (.ref x9), (.ref a)])) rfl (by rw [hml]; rfl) (argsL := [(.ref x9), (.int (1 : Int32))]) (rest := [(.ref a)]) (lenOf pd11 rfl) rfl (by show 2 * 0 + _ ≤ _; exact Nat.le_of_eq rfl) (hb hby d2_45) (fun _ _ => ⟨rfl, rfl, (by decide : 1 + 0 ≤ _), (by decide : 1 + 0 ≤ _)⟩)
  dsimp only [Pt.U, Pt.locs, Pt.cells, Pt.slots] at X21 l21 y21 z21 st21 hQ21
  subst l21 y21 z21
  obtain ⟨rfl, N21q, e21⟩ := hQ21
  have N21 := Fr.app N9 N21q
  have P22 := own_step (C := T21.setTop (mkF m 48 #[.val (.ref a), .val (.ref ca), .val (.int (0 : Int32)), .val (.int (1 : Int32)), .val .null, .val (.ref x9)] [(.int (0 : Int32)), (.ref a)])) P20 (fun t_ k_ => st21 t_ k_)
  obtain ⟨T23, h23, X23, e23, W23, st23⟩ := putFN X21 hx hZ hown (hw _ (List.mem_of_getElem? (i := 21) rfl)) Via.refl e21 f14 f13 (Or.inr ⟨(hw _ (List.mem_of_getElem? (i := 17) rfl)), rfl, hnm⟩) (hw _ (List.mem_of_getElem? (i := 1) rfl)) (ty := .byte) (v' := (.int (0 : Int32).toInt8.toInt32)) (by decide) rfl (fits_nar_byte _) (g := (mkF m 48 #[.val (.ref a), .val (.ref ca), .val (.int (0 : Int32)), .val (.int (1 : Int32)), .val .null, .val (.ref x9)] [(.int (0 : Int32)), (.ref a)])) rfl rfl (hb hby d2_48)
  have f24 := f12.wr W23 ga
  have f25 := f13.wr W23
  have f26 := f14.same W23
  have f27 := f15.other W23 (Or.inr (slot_ne (Or.inr (hw _ (List.mem_of_getElem? (i := 16) rfl))) (Or.inr (hw _ (List.mem_of_getElem? (i := 17) rfl))) (by decide) (t := (.array .byte)) (t' := .byte) (by decide) (by decide)))
  have f28 := f16.wr W23 (Or.inl (List.mem_of_getElem? (i := 0) rfl))
  have f29 := f17.other W23 ne_ca_a
  have f30 := f11.other W23 (Ne.symm ne_a_x9)
  have Z31 : n0 ≤ h23.size := Nat.le_trans Z18 (Keep.of_wr W23).1
  have N23 := Fr.snoc X23 N21 ga
  have P32 := own_step (C := T23.setTop (mkF m 51 #[.val (.ref a), .val (.ref ca), .val (.int (0 : Int32)), .val (.int (1 : Int32)), .val .null, .val (.ref x9)] [])) P22 (fun t_ k_ => st23 t_ k_)
  have P33 := own_step (C := T23.setTop (mkF m 54 #[.val (.ref a), .val (.ref ca), .val (.int (0 : Int32)), .val (.int (1 : Int32)), .val .null, .val (.ref x9)] [(.ref x9), (.ref a)])) P32 (by
    intro tt_ kk_
    refine XS.aloadN X23.here hx rfl (hb hby d2_51) rfl rfl ?_
    refine XS.aload X23.here hx rfl (hb hby d2_52) rfl rfl ?_
    exact kk_)
  obtain ⟨T34, h34, X34, e34, W34, st34⟩ := putF X23 hx hZ hown (host := "") (Or.inl (hw _ (List.mem_of_getElem? (i := 20) rfl))) Via.refl e23 f27 f25 (Or.inr ⟨(hw _ (List.mem_of_getElem? (i := 16) rfl)), rfl, hnm⟩) (hw _ (List.mem_of_getElem? (i := 1) rfl)) (ty := (.array .byte)) (by decide) rfl rfl (g := (mkF m 54 #[.val (.ref a), .val (.ref ca), .val (.int (0 : Int32)), .val (.int (1 : Int32)), .val .null, .val (.ref x9)] [(.ref x9), (.ref a)])) rfl rfl (hb hby d2_54)
  have f35 := f24.wr W34 ga
  have f36 := f25.wr W34
  have f37 := f26.other W34 (Or.inr (slot_ne (Or.inr (hw _ (List.mem_of_getElem? (i := 17) rfl))) (Or.inr (hw _ (List.mem_of_getElem? (i := 16) rfl))) (by decide) (t := .byte) (t' := (.array .byte)) (by decide) (by decide)))
  have f38 := f27.same W34
  have f39 := f28.wr W34 (Or.inl (List.mem_of_getElem? (i := 0) rfl))
  have f40 := f29.other W34 ne_ca_a
  have f41 := f30.other W34 (Ne.symm ne_a_x9)
  have Z42 : n0 ≤ h34.size := Nat.le_trans Z31 (Keep.of_wr W34).1
  have N34 := Fr.snoc X34 N23 ga
  have P43 := own_step (C := T34.setTop (mkF m 57 #[.val (.ref a), .val (.ref ca), .val (.int (0 : Int32)), .val (.int (1 : Int32)), .val .null, .val (.ref x9)] [])) P33 (fun t_ k_ => st34 t_ k_)
  obtain ⟨fs, hr, hrun, hended, hW, hsame⟩ := X34.leave (v := none) (fun _ => rfl)
  refine ⟨_, _, P43 _ ?_, hrun, hended, _, _, rfl, ?_, ⟨_, rfl⟩, hW, hsame.mono (by decide) (by decide)⟩
  · exact X34.returnOut hx Bd.returns (hb hby d2_57) hr
  · show Q_initV_1 Z _ _ _ _ _ h0 n0 _ T34.heap _
    rw [e34]
    exact ⟨x9, kk9, rfl, N34, f39, f36, f37, f38, f41, sz_x9⟩
theorem d19_0 : decode jdk_52_method_3_code 0 = .ok (.iload_n 0, 1) := by decide +kernel
theorem d19_1 : decode jdk_52_method_3_code 1 = .ok (.ifCond .ge 11, 3) := by decide +kernel
theorem d19_12 : decode jdk_52_method_3_code 12 = .ok (.iload_n 0, 1) := by decide +kernel
theorem d19_13 : decode jdk_52_method_3_code 13 = .ok (.ldc 20, 2) := by decide +kernel
theorem d19_15 : decode jdk_52_method_3_code 15 = .ok (.if_icmp .lt 40, 3) := by decide +kernel
theorem d19_55 : decode jdk_52_method_3_code 55 = .ok (.iload_n 0, 1) := by decide +kernel
theorem d19_56 : decode jdk_52_method_3_code 56 = .ok (.iconst 1, 1) := by decide +kernel
theorem d19_57 : decode jdk_52_method_3_code 57 = .ok (.ishl, 1) := by decide +kernel
theorem d19_58 : decode jdk_52_method_3_code 58 = .ok (.ireturn, 1) := by decide +kernel
theorem ef__nbl (m : MethodId) (x0 : Int32) : entryFrame m #[(.int x0)] 1 = mkF m 0 #[.val (.int x0)] [] := by first | (simp [entryFrame, mkF, argsToLocals, Value.category]; done) | rfl
def Q_nbl (Z : State) (nq : Int32) (rq : Int32) (h0 : Heap) (n0 : Nat) (v_ : Option Value) (h : Heap) (L_ : List Loc) : Prop := v_ = some (.int rq) ∧ Fr n0 L_ ∧ h = h0
set_option maxRecDepth 65536 in
set_option maxHeartbeats 40000000 in
theorem rm_nbl (l : Launch) (Z : State) (a0 : Array Value) (hw : ∀ d ∈ tables_1, d.before a0 Z = true) (ws : List Jvm.Cond) (nq : Int32) (rq : Int32) (h0 : Heap) (n0 : Nat) (Z0 : n0 ≤ h0.size) (hn0 : ¬ (nq < (0 : Int32))) (hn1 : nq < (1073741823 : Int32)) (hrq : (nq <<< ((1 : Int32) &&& 31)) = rq) :
    MetFree l (⟨"java/lang/StringUTF16", "newBytesLength", "(I)I"⟩ : MethodName) (head1 (Jvm.Cond.code (⟨"java/lang/StringUTF16", "newBytesLength", "(I)I"⟩ : MethodName) jdk_52_method_3_code 1 (some .int) :: ws) ({ frames := 0, cells := 0, slots := 0, locals := 0 } : Room)) (fun a_ U_ => a_ = #[(.int nq)] ∧ Z.Warmed39 U_.vm ∧ U_.heap = h0) (fun _ _ _ _ _ => True) (fun _ U_ o_ V_ => ∃ v_ L_, o_ = .returned v_ ∧ Q_nbl Z nq rq h0 n0 v_ V_.heap L_ ∧ FrameEnd U_ o_ V_ L_ ({ frames := 0, cells := 0, slots := 0, locals := 0 } : Room).cells ({ frames := 0, cells := 0, slots := 0, locals := 0 } : Room).slots) := by
  refine MetFree.of_bodySF (plainFor_of_name pn5) hisR ?_
  intro p e s m args below meth c s₁ Bd hml0 hP hK
  obtain ⟨rfl, hZ, hh⟩ := hP
  have hx := Bd.exec
  have hby := Bd.bytes
  have hml : c.maxLocals = 1 := hml0
  have hown : s.vm.findClass "java/lang/StringUTF16" = some m.cls := findClass_of_methodNamed Bd.named
  have hnm := (name_of_methodNamed Bd.named Bd.method).1
  have X0 : Stand p l e ({ frames := 0, cells := 0, slots := 0, locals := 0 } : Room) s m #[(.int nq)] below meth c s₁ [] 0 0 := Stand.of_body Bd
  have e0 : s₁.heap = h0 := by rw [← hh, Bd.state]; rfl
  have N0 := Fr.nil n0
  have pre0 : own_Go p e below (s₁.setTop (entryFrame m #[(.int nq)] 1)) (s₁.setTop (mkF m 0 #[.val (.int nq)] [])) := fun t_ k_ => castTop (ef__nbl m nq) k_
  have P1 := own_step (C := s₁.setTop (mkF m 1 #[.val (.int nq)] [(.int nq)])) pre0 (by
    intro tt_ kk_
    refine XS.iloadN X0.here hx rfl (hb hby d19_0) rfl ?_
    exact kk_)
  have P2 := own_step (C := s₁.setTop (mkF m 15 #[.val (.int nq)] [(.int (1073741823 : Int32)), (.int nq)])) P1 (by
    intro tt_ kk_
    refine XS.ifYes X0.here hx rfl (pc0 := 1) (pc' := 12) rfl (hb hby d19_1) rfl ((if0 _ _).trans (flt hn0).2.1) (by decide) (by decide) ?_
    refine XS.iloadN X0.here hx rfl (hb hby d19_12) rfl ?_
    refine X0.ldcInt hx hown (mvT hZ (hw _ (List.mem_of_getElem? (i := 87) rfl))) (g := (mkF m 13 #[.val (.int nq)] [(.int nq)])) rfl (hb hby d19_13) _ ?_
    exact kk_)
  have P3 := own_step (C := s₁.setTop (mkF m 58 #[.val (.int nq)] [(.int (nq <<< ((1 : Int32) &&& 31)))])) P2 (by
    intro tt_ kk_
    refine XS.icmpYes X0.here hx rfl (pc0 := 15) (pc' := 55) rfl (hb hby d19_15) rfl (tlt hn1).1 (by decide) (by decide) ?_
    refine XS.iloadN X0.here hx rfl (hb hby d19_55) rfl ?_
    refine XS.iconst X0.here hx rfl (hb hby d19_56) ?_
    refine XS.ishl X0.here hx rfl (hb hby d19_57) rfl ?_
    exact kk_)
  obtain ⟨fs, hr, hrun, hended, hW, hsame⟩ := X0.leave (v := some (.int (nq <<< ((1 : Int32) &&& 31)))) (fun h => by rw [Bd.returns] at h; cases h)
  refine ⟨_, _, P3 _ ?_, hrun, hended, _, _, rfl, ?_, ⟨_, rfl⟩, hW, hsame.mono (by decide) (by decide)⟩
  · exact retI X0 hx Bd.returns (hb hby d19_58) hr
  · show Q_nbl Z _ _ h0 n0 _ s₁.heap _
    rw [e0]
    exact ⟨by rw [hrq], N0, rfl⟩
theorem pd12 : parseMethodDescriptor "(I)I" = some ⟨[.int], some .int⟩ := by decide +kernel
theorem d18_0 : decode jdk_52_method_2_code 0 = .ok (.iload_n 0, 1) := by decide +kernel
theorem d18_1 : decode jdk_52_method_2_code 1 = .ok (.invokestatic 11, 3) := by decide +kernel
theorem d18_4 : decode jdk_52_method_2_code 4 = .ok (.newarray .byte, 2) := by decide +kernel
theorem d18_6 : decode jdk_52_method_2_code 6 = .ok (.areturn, 1) := by decide +kernel
theorem ef__nbf1 (m : MethodId) (x0 : Int32) : entryFrame m #[(.int x0)] 1 = mkF m 0 #[.val (.int x0)] [] := by first | (simp [entryFrame, mkF, argsToLocals, Value.category]; done) | rfl
def Q_nbf1 (Z : State)  (h0 : Heap) (n0 : Nat) (v_ : Option Value) (h : Heap) (L_ : List Loc) : Prop := ∃ (x : Addr) (kk : ClassId), v_ = some (.ref x) ∧ Fr n0 L_ ∧ Keep h0 h [] ∧ h0.size ≤ x ∧ Arv Z h x kk .byte (2 : Int32) [(.int (0 : Int32)), (.int (0 : Int32))] (.int 0)
set_option maxRecDepth 65536 in
set_option maxHeartbeats 40000000 in
theorem rm_nbf1 (l : Launch) (Z : State) (a0 : Array Value) (hw : ∀ d ∈ tables_1, d.before a0 Z = true) (ws : List Jvm.Cond)  (h0 : Heap) (n0 : Nat) (Z0 : n0 ≤ h0.size) (O : Old Z n0 h0) :
    MetFree l (⟨"java/lang/StringUTF16", "newBytesFor", "(I)[B"⟩ : MethodName) (head1 (Jvm.Cond.code (⟨"java/lang/StringUTF16", "newBytesFor", "(I)[B"⟩ : MethodName) jdk_52_method_2_code 1 (some (.array .byte)) :: ws) ({ frames := 1, cells := 1, slots := 2, locals := 12 } : Room)) (fun a_ U_ => a_ = #[(.int (1 : Int32))] ∧ Z.Warmed39 U_.vm ∧ U_.heap = h0) (fun _ _ _ _ _ => True) (fun _ U_ o_ V_ => ∃ v_ L_, o_ = .returned v_ ∧ Q_nbf1 Z  h0 n0 v_ V_.heap L_ ∧ FrameEnd U_ o_ V_ L_ ({ frames := 1, cells := 1, slots := 2, locals := 12 } : Room).cells ({ frames := 1, cells := 1, slots := 2, locals := 12 } : Room).slots) := by
  refine MetFree.of_bodySF (plainFor_of_name pn5) hisR ?_
  intro p e s m args below meth c s₁ Bd hml0 hP hK
  obtain ⟨rfl, hZ, hh⟩ := hP
  have hx := Bd.exec
  have hby := Bd.bytes
  have hml : c.maxLocals = 1 := hml0
  have hown : s.vm.findClass "java/lang/StringUTF16" = some m.cls := findClass_of_methodNamed Bd.named
  have hnm := (name_of_methodNamed Bd.named Bd.method).1
  have X0 : Stand p l e ({ frames := 1, cells := 1, slots := 2, locals := 12 } : Room) s m #[(.int (1 : Int32))] below meth c s₁ [] 0 0 := Stand.of_body Bd
  have e0 : s₁.heap = h0 := by rw [← hh, Bd.state]; rfl
  have N0 := Fr.nil n0
  have pre0 : own_Go p e below (s₁.setTop (entryFrame m #[(.int (1 : Int32))] 1)) (s₁.setTop (mkF m 0 #[.val (.int (1 : Int32))] [])) := fun t_ k_ => castTop (ef__nbf1 m (1 : Int32)) k_
  have P1 := own_step (C := s₁.setTop (mkF m 1 #[.val (.int (1 : Int32))] [(.int (1 : Int32))])) pre0 (by
    intro tt_ kk_
    refine XS.iloadN X0.here hx rfl (hb hby d18_0) rfl ?_
    exact kk_)
  obtain ⟨_, _, ⟨T2, L2, k2, n2⟩, -, X2, ⟨Lc2, hQ2, l2, y2, z2⟩, st2⟩ := Jvm.LawKit.callS X0 hx (y := (⟨"java/lang/StringUTF16", "newBytesLength", "(I)I"⟩ : MethodName)) hown (mvT hZ (hw _ (List.mem_of_getElem? (i := 84) rfl))) (mvT hZ (hw _ (List.mem_of_getElem? (i := 85) rfl))) (mvT hZ (hw _ (List.mem_of_getElem? (i := 34) rfl))) (mvT hZ (hw _ (List.mem_of_getElem? (i := 86) rfl))) (by decide) (backOf (W := 0) (rm_nbl l Z a0 hw [] (1 : Int32) (2 : Int32) h0 n0 Z0 (by decide) (by decide) (by decide)) hZ (hw _ (List.mem_of_getElem? (i := 86) rfl)) (hw _ (List.mem_of_getElem? (i := 34) rfl)) (by decide) (by decide)) (g := (mkF m 1 #[.val (.int (1 : Int32))] [(.int (1 : Int32))])) rfl (by rw [hml]; rfl) (argsL := [(.int (1 : Int32))]) (rest := []) (lenOf pd12 rfl) rfl (by show 2 * 0 + _ ≤ _; exact Nat.le_of_eq rfl) (hb hby d18_1) (fun _ _ => ⟨rfl, e0, (by decide : 0 + 0 ≤ _), (by decide : 0 + 0 ≤ _)⟩)
  dsimp only [Pt.U, Pt.locs, Pt.cells, Pt.slots] at X2 l2 y2 z2 st2 hQ2
  subst l2 y2 z2
  obtain ⟨rfl, N2q, e2⟩ := hQ2
  have N2 := Fr.app N0 N2q
  have P3 := own_step (C := T2.setTop (mkF m 4 #[.val (.int (1 : Int32))] [(.int (2 : Int32))])) P1 (fun t_ k_ => st2 t_ k_)
  obtain ⟨T4, h4, k4, X4, e4, E4, A4, st4⟩ := newP X2 hx hZ (hw _ (List.mem_of_getElem? (i := 15) rfl)) e2 (g := (mkF m 4 #[.val (.int (1 : Int32))] [(.int (2 : Int32))])) rfl (hb hby d18_4) rfl (by decide) (cap := 2) (by decide) (by decide) (by decide) (by decide)
  obtain ⟨b4, g4⟩ : ∃ z, z = h0.size := ⟨_, rfl⟩
  rw [← g4] at A4 st4
  have g_b4 : n0 ≤ b4 := Nat.le_trans Z0 (Nat.le_of_eq g4.symm)
  have sz_b4 : h0.size ≤ b4 := Nat.le_trans (Keep.refl h0 []).1 (Nat.le_of_eq g4.symm)
  have f5 := O.ext E4
  have f6 := (Keep.refl h0 []).ext E4
  have Z7 : n0 ≤ h4.size := Nat.le_trans Z0 E4.1
  have V4 : Arv Z h4 b4 k4 .byte (2 : Int32) [(.int (0 : Int32)), (.int (0 : Int32))] (.int (0 : Int32)) := (Arv.new A4 (by decide)).pad (pad_rep [] _ 2)
  have P8 := own_step (C := T4.setTop (mkF m 6 #[.val (.int (1 : Int32))] [(.ref b4)])) P3 (fun t_ k_ => st4 t_ k_)
  obtain ⟨fs, hr, hrun, hended, hW, hsame⟩ := X4.leave (v := some (.ref b4)) (fun h => by rw [Bd.returns] at h; cases h)
  refine ⟨_, _, P8 _ ?_, hrun, hended, _, _, rfl, ?_, ⟨_, rfl⟩, hW, hsame.mono (by decide) (by decide)⟩
  · jvm_step X4.here [X4.here.top, hx, (hb hby d18_6), X4.method', Bd.returns, Value.isRef, FieldType.isReference]
    first | (intro acts; rw [hr _ acts rfl rfl rfl]) | rw [hr _ _ rfl rfl rfl]
    exact Steps.refl _
  · show Q_nbf1 Z  h0 n0 _ T4.heap _
    rw [e4]
    exact ⟨b4, k4, rfl, N2, f6, sz_b4, V4⟩
theorem d20_0 : decode jdk_52_method_4_code 0 = .ok (.getstatic 44, 3) := by decide +kernel
theorem d20_3 : decode jdk_52_method_4_code 3 = .ok (.ifCond .ne 25, 3) := by decide +kernel
theorem d20_28 : decode jdk_52_method_4_code 28 = .ok (.iload_n 1, 1) := by decide +kernel
theorem d20_29 : decode jdk_52_method_4_code 29 = .ok (.iconst 1, 1) := by decide +kernel
theorem d20_30 : decode jdk_52_method_4_code 30 = .ok (.ishl, 1) := by decide +kernel
theorem d20_31 : decode jdk_52_method_4_code 31 = .ok (.istore_n 1, 1) := by decide +kernel
theorem d20_32 : decode jdk_52_method_4_code 32 = .ok (.aload_n 0, 1) := by decide +kernel
theorem d20_33 : decode jdk_52_method_4_code 33 = .ok (.iload_n 1, 1) := by decide +kernel
theorem d20_34 : decode jdk_52_method_4_code 34 = .ok (.iinc 1 1, 3) := by decide +kernel
theorem d20_37 : decode jdk_52_method_4_code 37 = .ok (.iload_n 2, 1) := by decide +kernel
theorem d20_38 : decode jdk_52_method_4_code 38 = .ok (.getstatic 59, 3) := by decide +kernel
theorem d20_41 : decode jdk_52_method_4_code 41 = .ok (.ishr, 1) := by decide +kernel
theorem d20_42 : decode jdk_52_method_4_code 42 = .ok (.i2b, 1) := by decide +kernel
theorem d20_43 : decode jdk_52_method_4_code 43 = .ok (.bastore, 1) := by decide +kernel
theorem d20_44 : decode jdk_52_method_4_code 44 = .ok (.aload_n 0, 1) := by decide +kernel
theorem d20_45 : decode jdk_52_method_4_code 45 = .ok (.iload_n 1, 1) := by decide +kernel
theorem d20_46 : decode jdk_52_method_4_code 46 = .ok (.iload_n 2, 1) := by decide +kernel
theorem d20_47 : decode jdk_52_method_4_code 47 = .ok (.getstatic 63, 3) := by decide +kernel
theorem d20_50 : decode jdk_52_method_4_code 50 = .ok (.ishr, 1) := by decide +kernel
theorem d20_51 : decode jdk_52_method_4_code 51 = .ok (.i2b, 1) := by decide +kernel
theorem d20_52 : decode jdk_52_method_4_code 52 = .ok (.bastore, 1) := by decide +kernel
theorem d20_53 : decode jdk_52_method_4_code 53 = .ok (.return_, 1) := by decide +kernel
theorem ef__putC (m : MethodId) (x0 : Addr) (x1 : Int32) (x2 : Int32) : entryFrame m #[(.ref x0), (.int x1), (.int x2)] 3 = mkF m 0 #[.val (.ref x0), .val (.int x1), .val (.int x2)] [] := by first | (simp [entryFrame, mkF, argsToLocals, Value.category]; done) | rfl
def Q_putC (Z : State) (b : Addr) (kb : ClassId) (zz : Int32) (vs : List Value) (iq : Int32) (cx : Int32) (k0 : Nat) (k1 : Nat) (h0 : Heap) (n0 : Nat) (v_ : Option Value) (h : Heap) (L_ : List Loc) : Prop := v_ = none ∧ Fr n0 L_ ∧ Keep h0 h [b] ∧ Arv Z h b kb .byte zz ((vs.set k0 (.int (own_b0 cx))).set k1 (.int (own_b1 cx))) (.int 0)
set_option maxRecDepth 65536 in
set_option maxHeartbeats 40000000 in
theorem rm_putC (l : Launch) (Z : State) (a0 : Array Value) (hw : ∀ d ∈ tables_1, d.before a0 Z = true) (ws : List Jvm.Cond) (b : Addr) (kb : ClassId) (zz : Int32) (vs : List Value) (iq : Int32) (cx : Int32) (k0 : Nat) (k1 : Nat) (h0 : Heap) (n0 : Nat) (Z0 : n0 ≤ h0.size) (O : Old Z n0 h0) (Sad : Sta Z Z.heap "java/lang/StringUTF16" "$assertionsDisabled" "Z" (.int (1 : Int32))) (Shi : Sta Z Z.heap "java/lang/StringUTF16" "HI_BYTE_SHIFT" "I" (.int (0 : Int32))) (Slo : Sta Z Z.heap "java/lang/StringUTF16" "LO_BYTE_SHIFT" "I" (.int (8 : Int32))) (Vb : Arv Z h0 b kb .byte zz vs (.int 0)) (gb : n0 ≤ b) (hi0 : ¬ (iq <<< ((1 : Int32) &&& 31)) < 0 ∧ (iq <<< ((1 : Int32) &&& 31)) < zz) (hi1 : ¬ ((iq <<< ((1 : Int32) &&& 31)) + (1 : Int32)) < 0 ∧ ((iq <<< ((1 : Int32) &&& 31)) + (1 : Int32)) < zz) (hk0 : (iq <<< ((1 : Int32) &&& 31)).toNatClampNeg = k0) (hk1 : ((iq <<< ((1 : Int32) &&& 31)) + (1 : Int32)).toNatClampNeg = k1) (hl0 : k0 < vs.length) (hl1 : k1 < vs.length) :
    MetFree l (⟨"java/lang/StringUTF16", "putChar", "([BII)V"⟩ : MethodName) (head1 (Jvm.Cond.code (⟨"java/lang/StringUTF16", "putChar", "([BII)V"⟩ : MethodName) jdk_52_method_4_code 3 none :: ws) ({ frames := 0, cells := 0, slots := 0, locals := 0 } : Room)) (fun a_ U_ => a_ = #[(.ref b), (.int iq), (.int cx)] ∧ Z.Warmed39 U_.vm ∧ U_.heap = h0) (fun _ _ _ _ _ => True) (fun _ U_ o_ V_ => ∃ v_ L_, o_ = .returned v_ ∧ Q_putC Z b kb zz vs iq cx k0 k1 h0 n0 v_ V_.heap L_ ∧ FrameEnd U_ o_ V_ L_ ({ frames := 0, cells := 0, slots := 0, locals := 0 } : Room).cells ({ frames := 0, cells := 0, slots := 0, locals := 0 } : Room).slots) := by
  refine MetFree.of_bodySF (plainFor_of_name pn5) hisR ?_
  intro p e s m args below meth c s₁ Bd hml0 hP hK
  obtain ⟨rfl, hZ, hh⟩ := hP
  have hx := Bd.exec
  have hby := Bd.bytes
  have hml : c.maxLocals = 3 := hml0
  have hown : s.vm.findClass "java/lang/StringUTF16" = some m.cls := findClass_of_methodNamed Bd.named
  have hnm := (name_of_methodNamed Bd.named Bd.method).1
  have X0 : Stand p l e ({ frames := 0, cells := 0, slots := 0, locals := 0 } : Room) s m #[(.ref b), (.int iq), (.int cx)] below meth c s₁ [] 0 0 := Stand.of_body Bd
  have e0 : s₁.heap = h0 := by rw [← hh, Bd.state]; rfl
  have N0 := Fr.nil n0
  have pre0 : own_Go p e below (s₁.setTop (entryFrame m #[(.ref b), (.int iq), (.int cx)] 3)) (s₁.setTop (mkF m 0 #[.val (.ref b), .val (.int iq), .val (.int cx)] [])) := fun t_ k_ => castTop (ef__putC m b iq cx) k_
  obtain ⟨T1, X1, e1, st1⟩ := getS2 X0 hx hZ hown (host := "") (Or.inl (hw _ (List.mem_of_getElem? (i := 91) rfl))) Via.refl e0 (Sad.ext O.2) (g := (mkF m 0 #[.val (.ref b), .val (.int iq), .val (.int cx)] [])) rfl (hb hby d20_0)
  have P2 := own_step (C := T1.setTop (mkF m 3 #[.val (.ref b), .val (.int iq), .val (.int cx)] [(.int (1 : Int32))])) pre0 (fun t_ k_ => st1 t_ k_)
  have P3 := own_step (C := T1.setTop (mkF m 38 #[.val (.ref b), .val (.int ((iq <<< ((1 : Int32) &&& 31)) + (1 : Int32))), .val (.int cx)] [(.int cx), (.int (iq <<< ((1 : Int32) &&& 31))), (.ref b)])) P2 (by
    intro tt_ kk_
    refine XS.ifYes X1.here hx rfl (pc0 := 3) (pc' := 28) rfl (hb hby d20_3) rfl ((if0 _ _).trans (feq (by decide : ¬ ((1 : Int32) = (0 : Int32)))).2) (by decide) (by decide) ?_
    refine XS.iloadN X1.here hx rfl (hb hby d20_28) rfl ?_
    refine XS.iconst X1.here hx rfl (hb hby d20_29) ?_
    refine XS.ishl X1.here hx rfl (hb hby d20_30) rfl ?_
    refine XS.istoreN X1.here hx rfl (hb hby d20_31) rfl (l' := #[.val (.ref b), .val (.int (iq <<< ((1 : Int32) &&& 31))), .val (.int cx)]) rfl ?_
    refine XS.aloadN X1.here hx rfl (hb hby d20_32) rfl rfl ?_
    refine XS.iloadN X1.here hx rfl (hb hby d20_33) rfl ?_
    refine XS.iinc X1.here hx rfl (hb hby d20_34) rfl (l' := #[.val (.ref b), .val (.int ((iq <<< ((1 : Int32) &&& 31)) + (1 : Int32))), .val (.int cx)]) rfl ?_
    refine XS.iloadN X1.here hx rfl (hb hby d20_37) rfl ?_
    exact kk_)
  obtain ⟨T4, X4, e4, st4⟩ := getS2 X1 hx hZ hown (host := "") (Or.inl (hw _ (List.mem_of_getElem? (i := 92) rfl))) Via.refl e1 (Shi.ext O.2) (g := (mkF m 38 #[.val (.ref b), .val (.int ((iq <<< ((1 : Int32) &&& 31)) + (1 : Int32))), .val (.int cx)] [(.int cx), (.int (iq <<< ((1 : Int32) &&& 31))), (.ref b)])) rfl (hb hby d20_38)
  have P5 := own_step (C := T4.setTop (mkF m 41 #[.val (.ref b), .val (.int ((iq <<< ((1 : Int32) &&& 31)) + (1 : Int32))), .val (.int cx)] [(.int (0 : Int32)), (.int cx), (.int (iq <<< ((1 : Int32) &&& 31))), (.ref b)])) P3 (fun t_ k_ => st4 t_ k_)
  have P6 := own_step (C := T4.setTop (mkF m 43 #[.val (.ref b), .val (.int ((iq <<< ((1 : Int32) &&& 31)) + (1 : Int32))), .val (.int cx)] [(.int ((cx >>> ((0 : Int32) &&& 31)).toInt8.toInt32)), (.int (iq <<< ((1 : Int32) &&& 31))), (.ref b)])) P5 (by
    intro tt_ kk_
    refine XS.ishr X4.here hx rfl (hb hby d20_41) rfl ?_
    refine XS.i2b X4.here hx rfl (hb hby d20_42) rfl ?_
    exact kk_)
  obtain ⟨cl7, Ar7, q7, S7, M7, H7, G7⟩ := id Vb
  obtain ⟨T8, h8, X8, e8, W8, st8⟩ := stB X4 hx hZ e4 Ar7 (j := (iq <<< ((1 : Int32) &&& 31))) (inb_of S7 hi0) (g := (mkF m 43 #[.val (.ref b), .val (.int ((iq <<< ((1 : Int32) &&& 31)) + (1 : Int32))), .val (.int cx)] [(.int ((cx >>> ((0 : Int32) &&& 31)).toInt8.toInt32)), (.int (iq <<< ((1 : Int32) &&& 31))), (.ref b)])) rfl rfl (hb hby d20_43)
  have f9 := O.wr W8 gb
  have f11 := (Keep.refl h0 [b]).wr W8 (Or.inl (List.mem_of_getElem? (i := 0) rfl))
  have Z12 : n0 ≤ h8.size := Nat.le_trans Z0 (Keep.of_wr W8).1
  have V8 : Arv Z h8 b kb .byte zz (vs.set k0 (.int ((cx >>> ((0 : Int32) &&& 31)).toInt8.toInt32).toInt8.toInt32)) (.int 0) := Arv.set Ar7 q7 S7 M7 H7 G7 (fits_nar_byte _) W8 k0 hk0 hl0
  have N8 := Fr.snoc X8 N0 gb
  have P13 := own_step (C := T8.setTop (mkF m 44 #[.val (.ref b), .val (.int ((iq <<< ((1 : Int32) &&& 31)) + (1 : Int32))), .val (.int cx)] [])) P6 (fun t_ k_ => st8 t_ k_)
  have P14 := own_step (C := T8.setTop (mkF m 47 #[.val (.ref b), .val (.int ((iq <<< ((1 : Int32) &&& 31)) + (1 : Int32))), .val (.int cx)] [(.int cx), (.int ((iq <<< ((1 : Int32) &&& 31)) + (1 : Int32))), (.ref b)])) P13 (by
    intro tt_ kk_
    refine XS.aloadN X8.here hx rfl (hb hby d20_44) rfl rfl ?_
    refine XS.iloadN X8.here hx rfl (hb hby d20_45) rfl ?_
    refine XS.iloadN X8.here hx rfl (hb hby d20_46) rfl ?_
    exact kk_)
  obtain ⟨T15, X15, e15, st15⟩ := getS2 X8 hx hZ hown (host := "") (Or.inl (hw _ (List.mem_of_getElem? (i := 93) rfl))) Via.refl e8 (Slo.ext f9.2) (g := (mkF m 47 #[.val (.ref b), .val (.int ((iq <<< ((1 : Int32) &&& 31)) + (1 : Int32))), .val (.int cx)] [(.int cx), (.int ((iq <<< ((1 : Int32) &&& 31)) + (1 : Int32))), (.ref b)])) rfl (hb hby d20_47)
  have P16 := own_step (C := T15.setTop (mkF m 50 #[.val (.ref b), .val (.int ((iq <<< ((1 : Int32) &&& 31)) + (1 : Int32))), .val (.int cx)] [(.int (8 : Int32)), (.int cx), (.int ((iq <<< ((1 : Int32) &&& 31)) + (1 : Int32))), (.ref b)])) P14 (fun t_ k_ => st15 t_ k_)
  have P17 := own_step (C := T15.setTop (mkF m 52 #[.val (.ref b), .val (.int ((iq <<< ((1 : Int32) &&& 31)) + (1 : Int32))), .val (.int cx)] [(.int ((cx >>> ((8 : Int32) &&& 31)).toInt8.toInt32)), (.int ((iq <<< ((1 : Int32) &&& 31)) + (1 : Int32))), (.ref b)])) P16 (by
    intro tt_ kk_
    refine XS.ishr X15.here hx rfl (hb hby d20_50) rfl ?_
    refine XS.i2b X15.here hx rfl (hb hby d20_51) rfl ?_
    exact kk_)
  obtain ⟨cl18, Ar18, q18, S18, M18, H18, G18⟩ := id V8
  obtain ⟨T19, h19, X19, e19, W19, st19⟩ := stB X15 hx hZ e15 Ar18 (j := ((iq <<< ((1 : Int32) &&& 31)) + (1 : Int32))) (inb_of S18 hi1) (g := (mkF m 52 #[.val (.ref b), .val (.int ((iq <<< ((1 : Int32) &&& 31)) + (1 : Int32))), .val (.int cx)] [(.int ((cx >>> ((8 : Int32) &&& 31)).toInt8.toInt32)), (.int ((iq <<< ((1 : Int32) &&& 31)) + (1 : Int32))), (.ref b)])) rfl rfl (hb hby d20_52)
  have f20 := f9.wr W19 gb
  have f22 := f11.wr W19 (Or.inl (List.mem_of_getElem? (i := 0) rfl))
  have Z23 : n0 ≤ h19.size := Nat.le_trans Z12 (Keep.of_wr W19).1
  have V19 : Arv Z h19 b kb .byte zz ((vs.set k0 (.int ((cx >>> ((0 : Int32) &&& 31)).toInt8.toInt32).toInt8.toInt32)).set k1 (.int ((cx >>> ((8 : Int32) &&& 31)).toInt8.toInt32).toInt8.toInt32)) (.int 0) := Arv.set Ar18 q18 S18 M18 H18 G18 (fits_nar_byte _) W19 k1 hk1 (by rw [List.length_set]; exact hl1)
  have N19 := Fr.snoc X19 N8 gb
  have P24 := own_step (C := T19.setTop (mkF m 53 #[.val (.ref b), .val (.int ((iq <<< ((1 : Int32) &&& 31)) + (1 : Int32))), .val (.int cx)] [])) P17 (fun t_ k_ => st19 t_ k_)
  obtain ⟨fs, hr, hrun, hended, hW, hsame⟩ := X19.leave (v := none) (fun _ => rfl)
  refine ⟨_, _, P24 _ ?_, hrun, hended, _, _, rfl, ?_, ⟨_, rfl⟩, hW, hsame.mono (by decide) (by decide)⟩
  · exact X19.returnOut hx Bd.returns (hb hby d20_53) hr
  · show Q_putC Z _ _ _ _ _ _ _ _ h0 n0 _ T19.heap _
    rw [e19]
    exact ⟨rfl, N19, f22, V19⟩
theorem pd13 : parseMethodDescriptor "(I)[B" = some ⟨[.int], some (.array .byte)⟩ := by decide +kernel
theorem pd14 : parseMethodDescriptor "([BII)V" = some ⟨[(.array .byte), .int, .int], none⟩ := by decide +kernel
theorem d17_0 : decode jdk_52_method_14_code 0 = .ok (.iload_n 2, 1) := by decide +kernel
theorem d17_1 : decode jdk_52_method_14_code 1 = .ok (.invokestatic 107, 3) := by decide +kernel
theorem d17_4 : decode jdk_52_method_14_code 4 = .ok (.astore_n 3, 1) := by decide +kernel
theorem d17_5 : decode jdk_52_method_14_code 5 = .ok (.iconst 0, 1) := by decide +kernel
theorem d17_6 : decode jdk_52_method_14_code 6 = .ok (.istore 4, 2) := by decide +kernel
theorem d17_8 : decode jdk_52_method_14_code 8 = .ok (.iload 4, 2) := by decide +kernel
theorem d17_10 : decode jdk_52_method_14_code 10 = .ok (.iload_n 2, 1) := by decide +kernel
theorem d17_11 : decode jdk_52_method_14_code 11 = .ok (.if_icmp .ge 21, 3) := by decide +kernel
theorem d17_14 : decode jdk_52_method_14_code 14 = .ok (.aload_n 3, 1) := by decide +kernel
theorem d17_15 : decode jdk_52_method_14_code 15 = .ok (.iload 4, 2) := by decide +kernel
theorem d17_17 : decode jdk_52_method_14_code 17 = .ok (.aload_n 0, 1) := by decide +kernel
theorem d17_18 : decode jdk_52_method_14_code 18 = .ok (.iload_n 1, 1) := by decide +kernel
theorem d17_19 : decode jdk_52_method_14_code 19 = .ok (.caload, 1) := by decide +kernel
theorem d17_20 : decode jdk_52_method_14_code 20 = .ok (.invokestatic 111, 3) := by decide +kernel
theorem d17_23 : decode jdk_52_method_14_code 23 = .ok (.iinc 1 1, 3) := by decide +kernel
theorem d17_26 : decode jdk_52_method_14_code 26 = .ok (.iinc 4 1, 3) := by decide +kernel
theorem d17_29 : decode jdk_52_method_14_code 29 = .ok (.goto (-21), 3) := by decide +kernel
theorem d17_32 : decode jdk_52_method_14_code 32 = .ok (.aload_n 3, 1) := by decide +kernel
theorem d17_33 : decode jdk_52_method_14_code 33 = .ok (.areturn, 1) := by decide +kernel
theorem ef__toBU1 (m : MethodId) (x0 : Addr) (x1 : Int32) (x2 : Int32) : entryFrame m #[(.ref x0), (.int x1), (.int x2)] 5 = mkF m 0 #[.val (.ref x0), .val (.int x1), .val (.int x2), .unset, .unset] [] := by first | (simp [entryFrame, mkF, argsToLocals, Value.category]; done) | rfl
def Q_toBU1 (Z : State) (a : Addr) (ka : ClassId) (c0 : Int32) (h0 : Heap) (n0 : Nat) (v_ : Option Value) (h : Heap) (L_ : List Loc) : Prop := ∃ (x : Addr) (kk : ClassId), v_ = some (.ref x) ∧ Fr n0 L_ ∧ Keep h0 h [] ∧ h0.size ≤ x ∧ Arv Z h x kk .byte (2 : Int32) [(.int (own_b0 c0)), (.int (own_b1 c0))] (.int 0)
set_option maxRecDepth 65536 in
set_option maxHeartbeats 40000000 in
theorem rm_toBU1 (l : Launch) (Z : State) (a0 : Array Value) (hw : ∀ d ∈ tables_1, d.before a0 Z = true) (ws : List Jvm.Cond) (a : Addr) (ka : ClassId) (c0 : Int32) (h0 : Heap) (n0 : Nat) (Z0 : n0 ≤ h0.size) (O : Old Z n0 h0) (Sad : Sta Z Z.heap "java/lang/StringUTF16" "$assertionsDisabled" "Z" (.int (1 : Int32))) (Shi : Sta Z Z.heap "java/lang/StringUTF16" "HI_BYTE_SHIFT" "I" (.int (0 : Int32))) (Slo : Sta Z Z.heap "java/lang/StringUTF16" "LO_BYTE_SHIFT" "I" (.int (8 : Int32))) (Va : Arv Z h0 a ka .char (1 : Int32) [(.int c0)] (.int 0)) :
    MetFree l (⟨"java/lang/StringUTF16", "toBytes", "([CII)[B"⟩ : MethodName) (head1 (Jvm.Cond.code (⟨"java/lang/StringUTF16", "toBytes", "([CII)[B"⟩ : MethodName) jdk_52_method_14_code 5 (some (.array .byte)) :: ws) ({ frames := 2, cells := 1, slots := 2, locals := 24 } : Room)) (fun a_ U_ => a_ = #[(.ref a), (.int (0 : Int32)), (.int (1 : Int32))] ∧ Z.Warmed39 U_.vm ∧ U_.heap = h0) (fun _ _ _ _ _ => True) (fun _ U_ o_ V_ => ∃ v_ L_, o_ = .returned v_ ∧ Q_toBU1 Z a ka c0 h0 n0 v_ V_.heap L_ ∧ FrameEnd U_ o_ V_ L_ ({ frames := 2, cells := 1, slots := 2, locals := 24 } : Room).cells ({ frames := 2, cells := 1, slots := 2, locals := 24 } : Room).slots) := by
  refine MetFree.of_bodySF (plainFor_of_name pn5) hisR ?_
  intro p e s m args below meth c s₁ Bd hml0 hP hK
  obtain ⟨rfl, hZ, hh⟩ := hP
  have hx := Bd.exec
  have hby := Bd.bytes
  have hml : c.maxLocals = 5 := hml0
  have hown : s.vm.findClass "java/lang/StringUTF16" = some m.cls := findClass_of_methodNamed Bd.named
  have hnm := (name_of_methodNamed Bd.named Bd.method).1
  have X0 : Stand p l e ({ frames := 2, cells := 1, slots := 2, locals := 24 } : Room) s m #[(.ref a), (.int (0 : Int32)), (.int (1 : Int32))] below meth c s₁ [] 0 0 := Stand.of_body Bd
  have e0 : s₁.heap = h0 := by rw [← hh, Bd.state]; rfl
  have N0 := Fr.nil n0
  have pre0 : own_Go p e below (s₁.setTop (entryFrame m #[(.ref a), (.int (0 : Int32)), (.int (1 : Int32))] 5)) (s₁.setTop (mkF m 0 #[.val (.ref a), .val (.int (0 : Int32)), .val (.int (1 : Int32)), .unset, .unset] [])) := fun t_ k_ => castTop (ef__toBU1 m a (0 : Int32) (1 : Int32)) k_
  have P1 := own_step (C := s₁.setTop (mkF m 1 #[.val (.ref a), .val (.int (0 : Int32)), .val (.int (1 : Int32)), .unset, .unset] [(.int (1 : Int32))])) pre0 (by
    intro tt_ kk_
    refine XS.iloadN X0.here hx rfl (hb hby d17_0) rfl ?_
    exact kk_)
  obtain ⟨_, _, ⟨T2, L2, k2, n2⟩, -, X2, ⟨Lc2, hQ2, l2, y2, z2⟩, st2⟩ := Jvm.LawKit.callS X0 hx (y := (⟨"java/lang/StringUTF16", "newBytesFor", "(I)[B"⟩ : MethodName)) hown (mvT hZ (hw _ (List.mem_of_getElem? (i := 81) rfl))) (mvT hZ (hw _ (List.mem_of_getElem? (i := 82) rfl))) (mvT hZ (hw _ (List.mem_of_getElem? (i := 34) rfl))) (mvT hZ (hw _ (List.mem_of_getElem? (i := 83) rfl))) (by decide) (backOf (W := 0) (rm_nbf1 l Z a0 hw []  h0 n0 Z0 O) hZ (hw _ (List.mem_of_getElem? (i := 83) rfl)) (hw _ (List.mem_of_getElem? (i := 34) rfl)) (by decide) (by decide)) (g := (mkF m 1 #[.val (.ref a), .val (.int (0 : Int32)), .val (.int (1 : Int32)), .unset, .unset] [(.int (1 : Int32))])) rfl (by rw [hml]; rfl) (argsL := [(.int (1 : Int32))]) (rest := []) (lenOf pd13 rfl) rfl (by show 2 * 0 + _ ≤ _; exact Nat.le_of_eq rfl) (hb hby d17_1) (fun _ _ => ⟨rfl, e0, (by decide : 0 + 1 ≤ _), (by decide : 0 + 2 ≤ _)⟩)
  dsimp only [Pt.U, Pt.locs, Pt.cells, Pt.slots] at X2 l2 y2 z2 st2 hQ2
  subst l2 y2 z2
  obtain ⟨x2, kk2, rfl, N2q, K2, f3, f4⟩ := hQ2
  have N2 := Fr.app N0 N2q
  have ne_a_x2 : a ≠ x2 := Nat.ne_of_lt (Nat.lt_of_lt_of_le Va.lt f3)
  have g_x2 : n0 ≤ x2 := Nat.le_trans Z0 f3
  have sz_x2 : h0.size ≤ x2 := Nat.le_trans (Keep.refl h0 []).1 f3
  have f5 := O.keep K2 all0
  have f6 := (Keep.refl h0 []).trans K2 all0
  have f7 := Va.keep K2 nin0
  have Z8 : n0 ≤ T2.heap.size := Nat.le_trans Z0 K2.1
  have P9 := own_step (C := T2.setTop (mkF m 4 #[.val (.ref a), .val (.int (0 : Int32)), .val (.int (1 : Int32)), .unset, .unset] [(.ref x2)])) P1 (fun t_ k_ => st2 t_ k_)
  have P10 := own_step (C := T2.setTop (mkF m 11 #[.val (.ref a), .val (.int (0 : Int32)), .val (.int (1 : Int32)), .val (.ref x2), .val (.int (0 : Int32))] [(.int (1 : Int32)), (.int (0 : Int32))])) P9 (by
    intro tt_ kk_
    refine XS.astoreN X2.here hx rfl (hb hby d17_4) rfl rfl (l' := #[.val (.ref a), .val (.int (0 : Int32)), .val (.int (1 : Int32)), .val (.ref x2), .unset]) rfl ?_
    refine XS.iconst X2.here hx rfl (hb hby d17_5) ?_
    refine XS.istore X2.here hx rfl (hb hby d17_6) rfl (l' := #[.val (.ref a), .val (.int (0 : Int32)), .val (.int (1 : Int32)), .val (.ref x2), .val (.int (0 : Int32))]) rfl ?_
    refine XS.iload X2.here hx rfl (hb hby d17_8) rfl ?_
    refine XS.iloadN X2.here hx rfl (hb hby d17_10) rfl ?_
    exact kk_)
  have P11 := own_step (C := T2.setTop (mkF m 19 #[.val (.ref a), .val (.int (0 : Int32)), .val (.int (1 : Int32)), .val (.ref x2), .val (.int (0 : Int32))] [(.int (0 : Int32)), (.ref a), (.int (0 : Int32)), (.ref x2)])) P10 (by
    intro tt_ kk_
    refine XS.icmpNo X2.here hx rfl (hb hby d17_11) rfl (tlt (by decide : (0 : Int32) < (1 : Int32))).2.1 ?_
    refine XS.aloadN X2.here hx rfl (hb hby d17_14) rfl rfl ?_
    refine XS.iload X2.here hx rfl (hb hby d17_15) rfl ?_
    refine XS.aloadN X2.here hx rfl (hb hby d17_17) rfl rfl ?_
    refine XS.iloadN X2.here hx rfl (hb hby d17_18) rfl ?_
    exact kk_)
  obtain ⟨cl12, Ar12, q12, S12, M12, H12, G12⟩ := id f7
  have hin12 := inb_of S12 (by decide : ¬ (0 : Int32) < 0 ∧ (0 : Int32) < (1 : Int32))
  have hat12 := Has.at H12 hin12 (v := .int c0) rfl
  have P13 := own_step (C := T2.setTop (mkF m 20 #[.val (.ref a), .val (.int (0 : Int32)), .val (.int (1 : Int32)), .val (.ref x2), .val (.int (0 : Int32))] [(.int c0), (.int (0 : Int32)), (.ref x2)])) P11 (by
    intro tt_ kk_
    refine X2.caload hx (j := (0 : Int32)) (v := (.int c0)) Ar12.1 (State.isArrayOf_alike hZ.alike Ar12.2.1) Ar12.2.2 hin12 hat12 (g := (mkF m 19 #[.val (.ref a), .val (.int (0 : Int32)), .val (.int (1 : Int32)), .val (.ref x2), .val (.int (0 : Int32))] [(.int (0 : Int32)), (.ref a), (.int (0 : Int32)), (.ref x2)])) rfl rfl (hb hby d17_19) _ ?_
    exact kk_)
  obtain ⟨_, _, ⟨T14, L14, k14, n14⟩, -, X14, ⟨Lc14, hQ14, l14, y14, z14⟩, st14⟩ := Jvm.LawKit.callS X2 hx (y := (⟨"java/lang/StringUTF16", "putChar", "([BII)V"⟩ : MethodName)) hown (mvT hZ (hw _ (List.mem_of_getElem? (i := 88) rfl))) (mvT hZ (hw _ (List.mem_of_getElem? (i := 89) rfl))) (mvT hZ (hw _ (List.mem_of_getElem? (i := 34) rfl))) (mvT hZ (hw _ (List.mem_of_getElem? (i := 90) rfl))) (by decide) (backOf (W := 0) (rm_putC l Z a0 hw [] x2 kk2 (2 : Int32) _ (0 : Int32) c0 0 1 T2.heap n0 Z8 f5 Sad Shi Slo f4 g_x2 (by decide) (by decide) (by decide) (by decide) (Nat.le_of_ble_eq_true rfl) (Nat.le_of_ble_eq_true rfl)) hZ (hw _ (List.mem_of_getElem? (i := 90) rfl)) (hw _ (List.mem_of_getElem? (i := 34) rfl)) (by decide) (by decide)) (g := (mkF m 20 #[.val (.ref a), .val (.int (0 : Int32)), .val (.int (1 : Int32)), .val (.ref x2), .val (.int (0 : Int32))] [(.int c0), (.int (0 : Int32)), (.ref x2)])) rfl (by rw [hml]; rfl) (argsL := [(.ref x2), (.int (0 : Int32)), (.int c0)]) (rest := []) (lenOf pd14 rfl) rfl (by show 2 * 0 + _ ≤ _; exact Nat.le_of_eq rfl) (hb hby d17_20) (fun _ _ => ⟨rfl, rfl, (by decide : 1 + 0 ≤ _), (by decide : 2 + 0 ≤ _)⟩)
  dsimp only [Pt.U, Pt.locs, Pt.cells, Pt.slots] at X14 l14 y14 z14 st14 hQ14
  subst l14 y14 z14
  obtain ⟨rfl, N14q, K14, f15⟩ := hQ14
  have N14 := Fr.app N2 N14q
  have f16 := f5.keep K14 (allS g_x2 all0)
  have f17 := f6.trans K14 (allS (Or.inr sz_x2) all0)
  have f18 := f7.keep K14 (ninS ne_a_x2 nin0)
  have Z20 : n0 ≤ T14.heap.size := Nat.le_trans Z8 K14.1
  have P21 := own_step (C := T14.setTop (mkF m 23 #[.val (.ref a), .val (.int (0 : Int32)), .val (.int (1 : Int32)), .val (.ref x2), .val (.int (0 : Int32))] [])) P13 (fun t_ k_ => st14 t_ k_)
  have f22 : Arv Z T14.heap x2 kk2 .byte (2 : Int32) [(.int (own_b0 c0)), (.int (own_b1 c0))] (.int 0) := f15
  have P23 := own_step (C := T14.setTop (mkF m 11 #[.val (.ref a), .val (.int (1 : Int32)), .val (.int (1 : Int32)), .val (.ref x2), .val (.int (1 : Int32))] [(.int (1 : Int32)), (.int (1 : Int32))])) P21 (by
    intro tt_ kk_
    refine XS.iinc X14.here hx rfl (hb hby d17_23) rfl (l' := #[.val (.ref a), .val (.int (1 : Int32)), .val (.int (1 : Int32)), .val (.ref x2), .val (.int (0 : Int32))]) rfl ?_
    show Steps p.tables e below (T14.setTop (mkF m 26 #[.val (.ref a), .val (.int (1 : Int32)), .val (.int (1 : Int32)), .val (.ref x2), .val (.int (0 : Int32))] [])) _
    refine XS.iinc X14.here hx rfl (hb hby d17_26) rfl (l' := #[.val (.ref a), .val (.int (1 : Int32)), .val (.int (1 : Int32)), .val (.ref x2), .val (.int (1 : Int32))]) rfl ?_
    show Steps p.tables e below (T14.setTop (mkF m 29 #[.val (.ref a), .val (.int (1 : Int32)), .val (.int (1 : Int32)), .val (.ref x2), .val (.int (1 : Int32))] [])) _
    refine XS.goto X14.here hx rfl (pc0 := 29) (pc' := 8) rfl (hb hby d17_29) (by decide) (by decide) ?_
    refine XS.iload X14.here hx rfl (hb hby d17_8) rfl ?_
    refine XS.iloadN X14.here hx rfl (hb hby d17_10) rfl ?_
    exact kk_)
  have P24 := own_step (C := T14.setTop (mkF m 33 #[.val (.ref a), .val (.int (1 : Int32)), .val (.int (1 : Int32)), .val (.ref x2), .val (.int (1 : Int32))] [(.ref x2)])) P23 (by
    intro tt_ kk_
    refine XS.icmpYes X14.here hx rfl (pc0 := 11) (pc' := 32) rfl (hb hby d17_11) rfl (flt (by decide : ¬ ((1 : Int32) < (1 : Int32)))).2.1 (by decide) (by decide) ?_
    refine XS.aloadN X14.here hx rfl (hb hby d17_32) rfl rfl ?_
    exact kk_)
  obtain ⟨fs, hr, hrun, hended, hW, hsame⟩ := X14.leave (v := some (.ref x2)) (fun h => by rw [Bd.returns] at h; cases h)
  refine ⟨_, _, P24 _ ?_, hrun, hended, _, _, rfl, ?_, ⟨_, rfl⟩, hW, hsame.mono (by decide) (by decide)⟩
  · jvm_step X14.here [X14.here.top, hx, (hb hby d17_33), X14.method', Bd.returns, Value.isRef, FieldType.isReference]
    first | (intro acts; rw [hr _ acts rfl rfl rfl]) | rw [hr _ _ rfl rfl rfl]
    exact Steps.refl _
  · show Q_toBU1 Z _ _ _ h0 n0 _ T14.heap _
    exact ⟨x2, kk2, rfl, N14, f17, sz_x2, f22⟩
theorem d6_20 : decode jdk_52_method_16_code 20 = .ok (.aload_n 0, 1) := by decide +kernel
theorem d6_21 : decode jdk_52_method_16_code 21 = .ok (.iload_n 1, 1) := by decide +kernel
theorem d6_22 : decode jdk_52_method_16_code 22 = .ok (.iload_n 2, 1) := by decide +kernel
theorem d6_23 : decode jdk_52_method_16_code 23 = .ok (.invokestatic 119, 3) := by decide +kernel
theorem d6_26 : decode jdk_52_method_16_code 26 = .ok (.astore 5, 2) := by decide +kernel
theorem d6_28 : decode jdk_52_method_16_code 28 = .ok (.aload 5, 2) := by decide +kernel
theorem d6_30 : decode jdk_52_method_16_code 30 = .ok (.iload 4, 2) := by decide +kernel
theorem d6_32 : decode jdk_52_method_16_code 32 = .ok (.invokestatic 71, 3) := by decide +kernel
theorem d6_35 : decode jdk_52_method_16_code 35 = .ok (.sipush 255, 3) := by decide +kernel
theorem d6_38 : decode jdk_52_method_16_code 38 = .ok (.if_icmp .gt 16, 3) := by decide +kernel
theorem d6_54 : decode jdk_52_method_16_code 54 = .ok (.aload 5, 2) := by decide +kernel
theorem d6_56 : decode jdk_52_method_16_code 56 = .ok (.areturn, 1) := by decide +kernel
theorem ef__compU_1 (m : MethodId) (x0 : Addr) (x1 : Int32) (x2 : Int32) : entryFrame m #[(.ref x0), (.int x1), (.int x2)] 6 = mkF m 0 #[.val (.ref x0), .val (.int x1), .val (.int x2), .unset, .unset, .unset] [] := by first | (simp [entryFrame, mkF, argsToLocals, Value.category]; done) | rfl
def Q_compU_1 (Z : State) (a : Addr) (ka : ClassId) (c0 : Int32) (h0 : Heap) (n0 : Nat) (v_ : Option Value) (h : Heap) (L_ : List Loc) : Prop := ∃ (x : Addr) (kk : ClassId), v_ = some (.ref x) ∧ Fr n0 L_ ∧ Keep h0 h [] ∧ h0.size ≤ x ∧ Arv Z h x kk .byte (2 : Int32) [(.int (own_b0 c0)), (.int (own_b1 c0))] (.int 0)
set_option maxRecDepth 65536 in
set_option maxHeartbeats 40000000 in
theorem rm_compU_1 (l : Launch) (Z : State) (a0 : Array Value) (hw : ∀ d ∈ tables_1, d.before a0 Z = true) (ws : List Jvm.Cond) (a : Addr) (ka : ClassId) (c0 : Int32) (h0 : Heap) (n0 : Nat) (Z0 : n0 ≤ h0.size) (O : Old Z n0 h0) (Sad : Sta Z Z.heap "java/lang/StringUTF16" "$assertionsDisabled" "Z" (.int (1 : Int32))) (Shi : Sta Z Z.heap "java/lang/StringUTF16" "HI_BYTE_SHIFT" "I" (.int (0 : Int32))) (Slo : Sta Z Z.heap "java/lang/StringUTF16" "LO_BYTE_SHIFT" "I" (.int (8 : Int32))) (Va : Arv Z h0 a ka .char (1 : Int32) [(.int c0)] (.int 0)) (hU : (255 : Int32) < c0) (gc0 : own_C c0) :
    MetFree l (⟨"java/lang/StringUTF16", "compress", "([CII)[B"⟩ : MethodName) (head1 (Jvm.Cond.code (⟨"java/lang/StringUTF16", "compress", "([CII)[B"⟩ : MethodName) jdk_52_method_16_code 6 (some (.array .byte)) :: ws) ({ frames := 3, cells := 2, slots := 3, locals := 40 } : Room)) (fun a_ U_ => a_ = #[(.ref a), (.int (0 : Int32)), (.int (1 : Int32))] ∧ Z.Warmed39 U_.vm ∧ U_.heap = h0) (fun _ _ _ _ _ => True) (fun _ U_ o_ V_ => ∃ v_ L_, o_ = .returned v_ ∧ Q_compU_1 Z a ka c0 h0 n0 v_ V_.heap L_ ∧ FrameEnd U_ o_ V_ L_ ({ frames := 3, cells := 2, slots := 3, locals := 40 } : Room).cells ({ frames := 3, cells := 2, slots := 3, locals := 40 } : Room).slots) := by
  refine MetFree.of_bodySF (plainFor_of_name pn5) hisR ?_
  intro p e s m args below meth c s₁ Bd hml0 hP hK
  obtain ⟨rfl, hZ, hh⟩ := hP
  have hx := Bd.exec
  have hby := Bd.bytes
  have hml : c.maxLocals = 6 := hml0
  have hown : s.vm.findClass "java/lang/StringUTF16" = some m.cls := findClass_of_methodNamed Bd.named
  have hnm := (name_of_methodNamed Bd.named Bd.method).1
  have X0 : Stand p l e ({ frames := 3, cells := 2, slots := 3, locals := 40 } : Room) s m #[(.ref a), (.int (0 : Int32)), (.int (1 : Int32))] below meth c s₁ [] 0 0 := Stand.of_body Bd
  have e0 : s₁.heap = h0 := by rw [← hh, Bd.state]; rfl
  have N0 := Fr.nil n0
  have pre0 : own_Go p e below (s₁.setTop (entryFrame m #[(.ref a), (.int (0 : Int32)), (.int (1 : Int32))] 6)) (s₁.setTop (mkF m 0 #[.val (.ref a), .val (.int (0 : Int32)), .val (.int (1 : Int32)), .unset, .unset, .unset] [])) := fun t_ k_ => castTop (ef__compU_1 m a (0 : Int32) (1 : Int32)) k_
  have P1 := own_step (C := s₁.setTop (mkF m 1 #[.val (.ref a), .val (.int (0 : Int32)), .val (.int (1 : Int32)), .unset, .unset, .unset] [(.int (1 : Int32))])) pre0 (by
    intro tt_ kk_
    refine XS.iloadN X0.here hx rfl (hb hby d6_0) rfl ?_
    exact kk_)
  obtain ⟨T2, h2, k2, X2, e2, E2, A2, st2⟩ := newP X0 hx hZ (hw _ (List.mem_of_getElem? (i := 15) rfl)) e0 (g := (mkF m 1 #[.val (.ref a), .val (.int (0 : Int32)), .val (.int (1 : Int32)), .unset, .unset, .unset] [(.int (1 : Int32))])) rfl (hb hby d6_1) rfl (by decide) (cap := 1) (by decide) (by decide) (by decide) (by decide)
  obtain ⟨b2, g2⟩ : ∃ z, z = h0.size := ⟨_, rfl⟩
  rw [← g2] at A2 st2
  have ne_a_b2 : a ≠ b2 := Nat.ne_of_lt (Nat.lt_of_lt_of_le Va.lt (Nat.le_of_eq g2.symm))
  have g_b2 : n0 ≤ b2 := Nat.le_trans Z0 (Nat.le_of_eq g2.symm)
  have sz_b2 : h0.size ≤ b2 := Nat.le_trans (Keep.refl h0 []).1 (Nat.le_of_eq g2.symm)
  have f3 := O.ext E2
  have f4 := (Keep.refl h0 []).ext E2
  have f5 := Va.ext E2
  have Z6 : n0 ≤ h2.size := Nat.le_trans Z0 E2.1
  have V2 : Arv Z h2 b2 k2 .byte (1 : Int32) [(.int (0 : Int32))] (.int (0 : Int32)) := (Arv.new A2 (by decide)).pad (pad_rep [] _ 1)
  have P7 := own_step (C := T2.setTop (mkF m 3 #[.val (.ref a), .val (.int (0 : Int32)), .val (.int (1 : Int32)), .unset, .unset, .unset] [(.ref b2)])) P1 (fun t_ k_ => st2 t_ k_)
  have P8 := own_step (C := T2.setTop (mkF m 9 #[.val (.ref a), .val (.int (0 : Int32)), .val (.int (1 : Int32)), .val (.ref b2), .unset, .unset] [(.int (1 : Int32)), (.int (0 : Int32)), (.ref b2), (.int (0 : Int32)), (.ref a)])) P7 (by
    intro tt_ kk_
    refine XS.astoreN X2.here hx rfl (hb hby d6_3) rfl rfl (l' := #[.val (.ref a), .val (.int (0 : Int32)), .val (.int (1 : Int32)), .val (.ref b2), .unset, .unset]) rfl ?_
    refine XS.aloadN X2.here hx rfl (hb hby d6_4) rfl rfl ?_
    refine XS.iloadN X2.here hx rfl (hb hby d6_5) rfl ?_
    refine XS.aloadN X2.here hx rfl (hb hby d6_6) rfl rfl ?_
    refine XS.iconst X2.here hx rfl (hb hby d6_7) ?_
    refine XS.iloadN X2.here hx rfl (hb hby d6_8) rfl ?_
    exact kk_)
  obtain ⟨_, _, ⟨T9, L9, k9, n9⟩, -, X9, ⟨Lc9, hQ9, l9, y9, z9⟩, st9⟩ := Jvm.LawKit.callS X2 hx (y := (⟨"java/lang/StringUTF16", "compress", "([CI[BII)I"⟩ : MethodName)) hown (mvT hZ (hw _ (List.mem_of_getElem? (i := 36) rfl))) (mvT hZ (hw _ (List.mem_of_getElem? (i := 37) rfl))) (mvT hZ (hw _ (List.mem_of_getElem? (i := 34) rfl))) (mvT hZ (hw _ (List.mem_of_getElem? (i := 38) rfl))) (by decide) (backOf (W := 0) (rm_comp2U_1 l Z a0 hw [] a ka b2 k2 c0 h2 n0 Z6 f3 f5 V2 ne_a_b2 g_b2) hZ (hw _ (List.mem_of_getElem? (i := 38) rfl)) (hw _ (List.mem_of_getElem? (i := 34) rfl)) (by decide) (by decide)) (g := (mkF m 9 #[.val (.ref a), .val (.int (0 : Int32)), .val (.int (1 : Int32)), .val (.ref b2), .unset, .unset] [(.int (1 : Int32)), (.int (0 : Int32)), (.ref b2), (.int (0 : Int32)), (.ref a)])) rfl (by rw [hml]; rfl) (argsL := [(.ref a), (.int (0 : Int32)), (.ref b2), (.int (0 : Int32)), (.int (1 : Int32))]) (rest := []) (lenOf pd9 rfl) rfl (by show 2 * 0 + _ ≤ _; exact Nat.le_of_eq rfl) (hb hby d6_9) (fun _ _ => ⟨rfl, e2, (by decide : 1 + 0 ≤ _), (by decide : 1 + 0 ≤ _)⟩)
  dsimp only [Pt.U, Pt.locs, Pt.cells, Pt.slots] at X9 l9 y9 z9 st9 hQ9
  subst l9 y9 z9
  obtain ⟨r9, rfl, N9q, K9, f10⟩ := hQ9
  have N9 := Fr.app N0 N9q
  have f11 := f3.keep K9 (allS g_b2 all0)
  have f12 := f4.trans K9 (allS (Or.inr sz_b2) all0)
  have f13 := f5.keep K9 (ninS ne_a_b2 nin0)
  have Z15 : n0 ≤ T9.heap.size := Nat.le_trans Z6 K9.1
  have P16 := own_step (C := T9.setTop (mkF m 12 #[.val (.ref a), .val (.int (0 : Int32)), .val (.int (1 : Int32)), .val (.ref b2), .unset, .unset] [(.int r9)])) P8 (fun t_ k_ => st9 t_ k_)
  have f17 : (r9 = (0 : Int32) ∧ (255 : Int32) < c0) := by
    rcases f10 with hq | ⟨-, hq⟩
    · exact hq
    · exfalso; exact hq.1 hU
  have P18 := own_step (C := T9.setTop (mkF m 17 #[.val (.ref a), .val (.int (0 : Int32)), .val (.int (1 : Int32)), .val (.ref b2), .val (.int r9), .unset] [(.int (1 : Int32)), (.int r9)])) P16 (by
    intro tt_ kk_
    refine XS.istore X9.here hx rfl (hb hby d6_12) rfl (l' := #[.val (.ref a), .val (.int (0 : Int32)), .val (.int (1 : Int32)), .val (.ref b2), .val (.int r9), .unset]) rfl ?_
    refine XS.iload X9.here hx rfl (hb hby d6_14) rfl ?_
    refine XS.iloadN X9.here hx rfl (hb hby d6_16) rfl ?_
    exact kk_)
  have hrn : ¬ (r9 = (1 : Int32)) := by rw [f17.1]; decide
  have P19 := own_step (C := T9.setTop (mkF m 23 #[.val (.ref a), .val (.int (0 : Int32)), .val (.int (1 : Int32)), .val (.ref b2), .val (.int r9), .unset] [(.int (1 : Int32)), (.int (0 : Int32)), (.ref a)])) P18 (by
    intro tt_ kk_
    refine XS.icmpNo X9.here hx rfl (hb hby d6_17) rfl (feq hrn).1 ?_
    refine XS.aloadN X9.here hx rfl (hb hby d6_20) rfl rfl ?_
    refine XS.iloadN X9.here hx rfl (hb hby d6_21) rfl ?_
    refine XS.iloadN X9.here hx rfl (hb hby d6_22) rfl ?_
    exact kk_)
  obtain ⟨_, _, ⟨T20, L20, k20, n20⟩, -, X20, ⟨Lc20, hQ20, l20, y20, z20⟩, st20⟩ := Jvm.LawKit.callS X9 hx (y := (⟨"java/lang/StringUTF16", "toBytes", "([CII)[B"⟩ : MethodName)) hown (mvT hZ (hw _ (List.mem_of_getElem? (i := 78) rfl))) (mvT hZ (hw _ (List.mem_of_getElem? (i := 79) rfl))) (mvT hZ (hw _ (List.mem_of_getElem? (i := 34) rfl))) (mvT hZ (hw _ (List.mem_of_getElem? (i := 80) rfl))) (by decide) (backOf (W := 0) (rm_toBU1 l Z a0 hw [] a ka c0 T9.heap n0 Z15 f11 Sad Shi Slo f13) hZ (hw _ (List.mem_of_getElem? (i := 80) rfl)) (hw _ (List.mem_of_getElem? (i := 34) rfl)) (by decide) (by decide)) (g := (mkF m 23 #[.val (.ref a), .val (.int (0 : Int32)), .val (.int (1 : Int32)), .val (.ref b2), .val (.int r9), .unset] [(.int (1 : Int32)), (.int (0 : Int32)), (.ref a)])) rfl (by rw [hml]; rfl) (argsL := [(.ref a), (.int (0 : Int32)), (.int (1 : Int32))]) (rest := []) (lenOf pd10 rfl) rfl (by show 2 * 0 + _ ≤ _; exact Nat.le_of_eq rfl) (hb hby d6_23) (fun _ _ => ⟨rfl, rfl, (by decide : 1 + 1 ≤ _), (by decide : 1 + 2 ≤ _)⟩)
  dsimp only [Pt.U, Pt.locs, Pt.cells, Pt.slots] at X20 l20 y20 z20 st20 hQ20
  subst l20 y20 z20
  obtain ⟨x20, kk20, rfl, N20q, K20, f21, f22⟩ := hQ20
  have N20 := Fr.app N9 N20q
  have ne_a_x20 : a ≠ x20 := Nat.ne_of_lt (Nat.lt_of_lt_of_le f13.lt f21)
  have g_x20 : n0 ≤ x20 := Nat.le_trans Z15 f21
  have sz_x20 : h0.size ≤ x20 := Nat.le_trans f12.1 f21
  have f23 := f11.keep K20 all0
  have f24 := f12.trans K20 all0
  have f25 := f13.keep K20 nin0
  have Z26 : n0 ≤ T20.heap.size := Nat.le_trans Z15 K20.1
  have P27 := own_step (C := T20.setTop (mkF m 26 #[.val (.ref a), .val (.int (0 : Int32)), .val (.int (1 : Int32)), .val (.ref b2), .val (.int r9), .unset] [(.ref x20)])) P19 (fun t_ k_ => st20 t_ k_)
  have P28 := own_step (C := T20.setTop (mkF m 32 #[.val (.ref a), .val (.int (0 : Int32)), .val (.int (1 : Int32)), .val (.ref b2), .val (.int r9), .val (.ref x20)] [(.int r9), (.ref x20)])) P27 (by
    intro tt_ kk_
    refine XS.astore X20.here hx rfl (hb hby d6_26) rfl rfl (l' := #[.val (.ref a), .val (.int (0 : Int32)), .val (.int (1 : Int32)), .val (.ref b2), .val (.int r9), .val (.ref x20)]) rfl ?_
    refine XS.aload X20.here hx rfl (hb hby d6_28) rfl rfl ?_
    refine XS.iload X20.here hx rfl (hb hby d6_30) rfl ?_
    exact kk_)
  rcases f17 with ⟨hrr, hbig⟩
  subst hrr
  obtain ⟨_, _, ⟨T29, L29, k29, n29⟩, -, X29, ⟨Lc29, hQ29, l29, y29, z29⟩, st29⟩ := Jvm.LawKit.callS X20 hx (y := (⟨"java/lang/StringUTF16", "getChar", "([BI)C"⟩ : MethodName)) hown (mvT hZ (hw _ (List.mem_of_getElem? (i := 94) rfl))) (mvT hZ (hw _ (List.mem_of_getElem? (i := 95) rfl))) (mvT hZ (hw _ (List.mem_of_getElem? (i := 34) rfl))) (mvT hZ (hw _ (List.mem_of_getElem? (i := 96) rfl))) (by decide) (backOf (W := 0) (rm_getC l Z a0 hw [] x20 kk20 (2 : Int32) _ (0 : Int32) (own_b0 c0) (own_b1 c0) T20.heap n0 Z26 f23 Sad Shi Slo f22 (by decide) (by decide) rfl rfl) hZ (hw _ (List.mem_of_getElem? (i := 96) rfl)) (hw _ (List.mem_of_getElem? (i := 34) rfl)) (by decide) (by decide)) (g := (mkF m 32 #[.val (.ref a), .val (.int (0 : Int32)), .val (.int (1 : Int32)), .val (.ref b2), .val (.int (0 : Int32)), .val (.ref x20)] [(.int (0 : Int32)), (.ref x20)])) rfl (by rw [hml]; rfl) (argsL := [(.ref x20), (.int (0 : Int32))]) (rest := []) (lenOf pd6 rfl) rfl (by show 2 * 0 + _ ≤ _; exact Nat.le_of_eq rfl) (hb hby d6_32) (fun _ _ => ⟨rfl, rfl, (by decide : 2 + 0 ≤ _), (by decide : 3 + 0 ≤ _)⟩)
  dsimp only [Pt.U, Pt.locs, Pt.cells, Pt.slots] at X29 l29 y29 z29 st29 hQ29
  subst l29 y29 z29
  obtain ⟨rfl, N29q, e29⟩ := hQ29
  have N29 := Fr.app N20 N29q
  have P30 := own_step (C := T29.setTop (mkF m 35 #[.val (.ref a), .val (.int (0 : Int32)), .val (.int (1 : Int32)), .val (.ref b2), .val (.int (0 : Int32)), .val (.ref x20)] [(.int (own_gc (own_b0 c0) (own_b1 c0)))])) P28 (fun t_ k_ => st29 t_ k_)
  have P31 := own_step (C := T29.setTop (mkF m 38 #[.val (.ref a), .val (.int (0 : Int32)), .val (.int (1 : Int32)), .val (.ref b2), .val (.int (0 : Int32)), .val (.ref x20)] [(.int (255 : Int32)), (.int (own_gc (own_b0 c0) (own_b1 c0)))])) P30 (by
    intro tt_ kk_
    refine XS.sipush X29.here hx rfl (hb hby d6_35) ?_
    exact kk_)
  have P32 := own_step (C := T29.setTop (mkF m 56 #[.val (.ref a), .val (.int (0 : Int32)), .val (.int (1 : Int32)), .val (.ref b2), .val (.int (0 : Int32)), .val (.ref x20)] [(.ref x20)])) P31 (by
    intro tt_ kk_
    refine XS.icmpYes X29.here hx rfl (pc0 := 38) (pc' := 54) rfl (hb hby d6_38) rfl (tlt (own_big gc0 hbig)).2.2.1 (by decide) (by decide) ?_
    refine XS.aload X29.here hx rfl (hb hby d6_54) rfl rfl ?_
    exact kk_)
  obtain ⟨fs, hr, hrun, hended, hW, hsame⟩ := X29.leave (v := some (.ref x20)) (fun h => by rw [Bd.returns] at h; cases h)
  refine ⟨_, _, P32 _ ?_, hrun, hended, _, _, rfl, ?_, ⟨_, rfl⟩, hW, hsame.mono (by decide) (by decide)⟩
  · jvm_step X29.here [X29.here.top, hx, (hb hby d6_56), X29.method', Bd.returns, Value.isRef, FieldType.isReference]
    first | (intro acts; rw [hr _ acts rfl rfl rfl]) | rw [hr _ _ rfl rfl rfl]
    exact Steps.refl _
  · show Q_compU_1 Z _ _ _ h0 n0 _ T29.heap _
    rw [e29]
    exact ⟨x20, kk20, rfl, N29, f24, sz_x20, f22⟩
theorem ef__initVU_1 (m : MethodId) (x0 : Addr) (x1 : Addr) (x2 : Int32) (x3 : Int32) : entryFrame m #[(.ref x0), (.ref x1), (.int x2), (.int x3), .null] 6 = mkF m 0 #[.val (.ref x0), .val (.ref x1), .val (.int x2), .val (.int x3), .val .null, .unset] [] := by first | (simp [entryFrame, mkF, argsToLocals, Value.category]; done) | rfl
def Q_initVU_1 (Z : State) (a : Addr) (ca : Addr) (ka : ClassId) (c0 : Int32) (cs : Int32) (h0 : Heap) (n0 : Nat) (v_ : Option Value) (h : Heap) (L_ : List Loc) : Prop := ∃ (x : Addr) (kk : ClassId), v_ = none ∧ Fr n0 L_ ∧ Keep h0 h [a] ∧ Exa Z h a "java/lang/String" ∧ Fld Z h a "java/lang/String" "coder" "B" (.int (1 : Int32)) ∧ Fld Z h a "java/lang/String" "value" "[B" (.ref x) ∧ Arv Z h x kk .byte (2 : Int32) [(.int (own_b0 c0)), (.int (own_b1 c0))] (.int 0) ∧ h0.size ≤ x
set_option maxRecDepth 65536 in
set_option maxHeartbeats 40000000 in
theorem rm_initVU_1 (l : Launch) (Z : State) (a0 : Array Value) (hw : ∀ d ∈ tables_1, d.before a0 Z = true) (ws : List Jvm.Cond) (a : Addr) (ca : Addr) (ka : ClassId) (c0 : Int32) (cs : Int32) (h0 : Heap) (n0 : Nat) (Z0 : n0 ≤ h0.size) (O : Old Z n0 h0) (Scs : Sta Z Z.heap "java/lang/String" "COMPACT_STRINGS" "Z" (.int cs)) (hcs : ¬ (cs = (0 : Int32))) (Ea : Exa Z h0 a "java/lang/String") (Fv : Fld Z h0 a "java/lang/String" "value" "[B" .null) (Fc : Fld Z h0 a "java/lang/String" "coder" "B" (.int (0 : Int32))) (ga : n0 ≤ a) (Vs : Arv Z h0 ca ka .char (1 : Int32) [(.int c0)] (.int 0)) (Sad : Sta Z Z.heap "java/lang/StringUTF16" "$assertionsDisabled" "Z" (.int (1 : Int32))) (Shi : Sta Z Z.heap "java/lang/StringUTF16" "HI_BYTE_SHIFT" "I" (.int (0 : Int32))) (Slo : Sta Z Z.heap "java/lang/StringUTF16" "LO_BYTE_SHIFT" "I" (.int (8 : Int32))) (hU : (255 : Int32) < c0) (gc0 : own_C c0) :
    MetFree l (⟨"java/lang/String", "<init>", "([CIILjava/lang/Void;)V"⟩ : MethodName) (head1 (Jvm.Cond.code (⟨"java/lang/String", "<init>", "([CIILjava/lang/Void;)V"⟩ : MethodName) jdk_42_method_149_code 6 none :: ws) ({ frames := 4, cells := 2, slots := 3, locals := 57 } : Room)) (fun a_ U_ => a_ = #[(.ref a), (.ref ca), (.int (0 : Int32)), (.int (1 : Int32)), .null] ∧ Z.Warmed39 U_.vm ∧ U_.heap = h0) (fun _ _ _ _ _ => True) (fun _ U_ o_ V_ => ∃ v_ L_, o_ = .returned v_ ∧ Q_initVU_1 Z a ca ka c0 cs h0 n0 v_ V_.heap L_ ∧ FrameEnd U_ o_ V_ L_ ({ frames := 4, cells := 2, slots := 3, locals := 57 } : Room).cells ({ frames := 4, cells := 2, slots := 3, locals := 57 } : Room).slots) := by
  refine MetFree.of_bodySF (plainFor_of_name pn1) hisR ?_
  intro p e s m args below meth c s₁ Bd hml0 hP hK
  obtain ⟨rfl, hZ, hh⟩ := hP
  have hx := Bd.exec
  have hby := Bd.bytes
  have hml : c.maxLocals = 6 := hml0
  have hown : s.vm.findClass "java/lang/String" = some m.cls := findClass_of_methodNamed Bd.named
  have hnm := (name_of_methodNamed Bd.named Bd.method).1
  have X0 : Stand p l e ({ frames := 4, cells := 2, slots := 3, locals := 57 } : Room) s m #[(.ref a), (.ref ca), (.int (0 : Int32)), (.int (1 : Int32)), .null] below meth c s₁ [] 0 0 := Stand.of_body Bd
  have e0 : s₁.heap = h0 := by rw [← hh, Bd.state]; rfl
  have N0 := Fr.nil n0
  have pre0 : own_Go p e below (s₁.setTop (entryFrame m #[(.ref a), (.ref ca), (.int (0 : Int32)), (.int (1 : Int32)), .null] 6)) (s₁.setTop (mkF m 0 #[.val (.ref a), .val (.ref ca), .val (.int (0 : Int32)), .val (.int (1 : Int32)), .val .null, .unset] [])) := fun t_ k_ => castTop (ef__initVU_1 m a ca (0 : Int32) (1 : Int32)) k_
  obtain ⟨clV, ArV, -⟩ := id Vs
  have ne_ca_a : ca ≠ a := Ne.symm (ne_arr Ea (hw _ (List.mem_of_getElem? (i := 1) rfl)) ArV)
  have P1 := own_step (C := s₁.setTop (mkF m 1 #[.val (.ref a), .val (.ref ca), .val (.int (0 : Int32)), .val (.int (1 : Int32)), .val .null, .unset] [(.ref a)])) pre0 (by
    intro tt_ kk_
    refine XS.aloadN X0.here hx rfl (hb hby d2_0) rfl rfl ?_
    exact kk_)
  obtain ⟨T2, X2, e2, st2⟩ := initO X0 hx hZ hown (hw _ (List.mem_of_getElem? (i := 11) rfl)) (hw _ (List.mem_of_getElem? (i := 12) rfl)) (hw _ (List.mem_of_getElem? (i := 13) rfl)) e0 (g := (mkF m 1 #[.val (.ref a), .val (.ref ca), .val (.int (0 : Int32)), .val (.int (1 : Int32)), .val .null, .unset] [(.ref a)])) rfl (by rw [hml]; rfl) rfl (hb hby d2_1) (by decide) (W := 0) (by show 2 * 0 + _ ≤ _; exact Nat.le_of_eq rfl) (by decide)
  have P3 := own_step (C := T2.setTop (mkF m 4 #[.val (.ref a), .val (.ref ca), .val (.int (0 : Int32)), .val (.int (1 : Int32)), .val .null, .unset] [])) P1 (fun t_ k_ => st2 t_ k_)
  have P4 := own_step (C := T2.setTop (mkF m 5 #[.val (.ref a), .val (.ref ca), .val (.int (0 : Int32)), .val (.int (1 : Int32)), .val .null, .unset] [(.int (1 : Int32))])) P3 (by
    intro tt_ kk_
    refine XS.iloadN X2.here hx rfl (hb hby d2_4) rfl ?_
    exact kk_)
  have P5 := own_step (C := T2.setTop (mkF m 27 #[.val (.ref a), .val (.ref ca), .val (.int (0 : Int32)), .val (.int (1 : Int32)), .val .null, .unset] [])) P4 (by
    intro tt_ kk_
    refine XS.ifYes X2.here hx rfl (pc0 := 5) (pc' := 27) rfl (hb hby d2_5) rfl ((if0 _ _).trans (feq (by decide : ¬ ((1 : Int32) = (0 : Int32)))).2) (by decide) (by decide) ?_
    exact kk_)
  obtain ⟨T6, X6, e6, st6⟩ := getS2 X2 hx hZ hown (host := "") (Or.inl (hw _ (List.mem_of_getElem? (i := 31) rfl))) Via.refl e2 (Scs.ext O.2) (g := (mkF m 27 #[.val (.ref a), .val (.ref ca), .val (.int (0 : Int32)), .val (.int (1 : Int32)), .val .null, .unset] [])) rfl (hb hby d2_27)
  have P7 := own_step (C := T6.setTop (mkF m 30 #[.val (.ref a), .val (.ref ca), .val (.int (0 : Int32)), .val (.int (1 : Int32)), .val .null, .unset] [(.int cs)])) P5 (fun t_ k_ => st6 t_ k_)
  have P8 := own_step (C := T6.setTop (mkF m 36 #[.val (.ref a), .val (.ref ca), .val (.int (0 : Int32)), .val (.int (1 : Int32)), .val .null, .unset] [(.int (1 : Int32)), (.int (0 : Int32)), (.ref ca)])) P7 (by
    intro tt_ kk_
    refine XS.ifNo X6.here hx rfl (hb hby d2_30) rfl ((if0 _ _).trans (feq hcs).1) ?_
    refine XS.aloadN X6.here hx rfl (hb hby d2_33) rfl rfl ?_
    refine XS.iloadN X6.here hx rfl (hb hby d2_34) rfl ?_
    refine XS.iloadN X6.here hx rfl (hb hby d2_35) rfl ?_
    exact kk_)
  obtain ⟨_, _, ⟨T9, L9, k9, n9⟩, -, X9, ⟨Lc9, hQ9, l9, y9, z9⟩, st9⟩ := Jvm.LawKit.callS X6 hx (y := (⟨"java/lang/StringUTF16", "compress", "([CII)[B"⟩ : MethodName)) hown (mvT hZ (hw _ (List.mem_of_getElem? (i := 32) rfl))) (mvT hZ (hw _ (List.mem_of_getElem? (i := 33) rfl))) (mvT hZ (hw _ (List.mem_of_getElem? (i := 34) rfl))) (mvT hZ (hw _ (List.mem_of_getElem? (i := 35) rfl))) (by decide) (backOf (W := 0) (rm_compU_1 l Z a0 hw [] ca ka c0 h0 n0 Z0 O Sad Shi Slo Vs hU gc0) hZ (hw _ (List.mem_of_getElem? (i := 35) rfl)) (hw _ (List.mem_of_getElem? (i := 34) rfl)) (by decide) (by decide)) (g := (mkF m 36 #[.val (.ref a), .val (.ref ca), .val (.int (0 : Int32)), .val (.int (1 : Int32)), .val .null, .unset] [(.int (1 : Int32)), (.int (0 : Int32)), (.ref ca)])) rfl (by rw [hml]; rfl) (argsL := [(.ref ca), (.int (0 : Int32)), (.int (1 : Int32))]) (rest := []) (lenOf pd10 rfl) rfl (by show 2 * 0 + _ ≤ _; exact Nat.le_of_eq rfl) (hb hby d2_36) (fun _ _ => ⟨rfl, e6, (by decide : 0 + 2 ≤ _), (by decide : 0 + 3 ≤ _)⟩)
  dsimp only [Pt.U, Pt.locs, Pt.cells, Pt.slots] at X9 l9 y9 z9 st9 hQ9
  subst l9 y9 z9
  obtain ⟨x9, kk9, rfl, N9q, K9, f10, f11⟩ := hQ9
  have N9 := Fr.app N0 N9q
  have ne_a_x9 : a ≠ x9 := Nat.ne_of_lt (Nat.lt_of_lt_of_le Ea.lt f10)
  have ne_ca_x9 : ca ≠ x9 := Nat.ne_of_lt (Nat.lt_of_lt_of_le Vs.lt f10)
  have g_x9 : n0 ≤ x9 := Nat.le_trans Z0 f10
  have sz_x9 : h0.size ≤ x9 := Nat.le_trans (Keep.refl h0 [a]).1 f10
  have f12 := O.keep K9 all0
  have f13 := Ea.keep K9
  have f14 := Fc.keep K9 nin0
  have f15 := Fv.keep K9 nin0
  have f16 := (Keep.refl h0 [a]).trans K9 all0
  have f17 := Vs.keep K9 nin0
  have Z18 : n0 ≤ T9.heap.size := Nat.le_trans Z0 K9.1
  have P19 := own_step (C := T9.setTop (mkF m 39 #[.val (.ref a), .val (.ref ca), .val (.int (0 : Int32)), .val (.int (1 : Int32)), .val .null, .unset] [(.ref x9)])) P8 (fun t_ k_ => st9 t_ k_)
  have P20 := own_step (C := T9.setTop (mkF m 45 #[.val (.ref a), .val (.ref ca), .val (.int (0 : Int32)), .val (.int (1 : Int32)), .val .null, .val (.ref x9)] [(.int (1 : Int32)), (.ref x9), (.ref a)])) P19 (by
    intro tt_ kk_
    refine XS.astore X9.here hx rfl (hb hby d2_39) rfl rfl (l' := #[.val (.ref a), .val (.ref ca), .val (.int (0 : Int32)), .val (.int (1 : Int32)), .val .null, .val (.ref x9)]) rfl ?_
    refine XS.aloadN X9.here hx rfl (hb hby d2_41) rfl rfl ?_
    refine XS.aload X9.here hx rfl (hb hby d2_42) rfl rfl ?_
    refine XS.iloadN X9.here hx rfl (hb hby d2_44) rfl ?_
    exact kk_)
  obtain ⟨_, _, ⟨T21, L21, k21, n21⟩, -, X21, ⟨Lc21, hQ21, l21, y21, z21⟩, st21⟩ := Jvm.LawKit.callS X9 hx (y := (⟨"java/lang/StringUTF16", "coderFromArrayLen", "([BI)B"⟩ : MethodName)) hown (mvT hZ (hw _ (List.mem_of_getElem? (i := 39) rfl))) (mvT hZ (hw _ (List.mem_of_getElem? (i := 40) rfl))) (mvT hZ (hw _ (List.mem_of_getElem? (i := 34) rfl))) (mvT hZ (hw _ (List.mem_of_getElem? (i := 41) rfl))) (by decide) (backOf (W := 1) (rm_cfa l Z a0 hw [] x9 kk9 (2 : Int32) _ (1 : Int32) (1 : Int32) T9.heap n0 Z18 f11 (by decide +kernel)) hZ (hw _ (List.mem_of_getElem? (i := 41) rfl)) (hw _ (List.mem_of_getElem? (i := 34) rfl)) (by decide) (by decide)) (g := (mkF m 45 #[.val (.ref a), .val (.ref ca), .val (.int (0 : Int32)), .val (.int (1 : Int32)), .val .null, .val (.ref x9)] [(.int (1 : Int32)), (.ref x9), (.ref a)])) rfl (by rw [hml]; rfl) (argsL := [(.ref x9), (.int (1 : Int32))]) (rest := [(.ref a)]) (lenOf pd11 rfl) rfl (by show 2 * 0 + _ ≤ _; exact Nat.le_of_eq rfl) (hb hby d2_45) (fun _ _ => ⟨rfl, rfl, (by decide : 2 + 0 ≤ _), (by decide : 3 + 0 ≤ _)⟩)
  dsimp only [Pt.U, Pt.locs, Pt.cells, Pt.slots] at X21 l21 y21 z21 st21 hQ21
  subst l21 y21 z21
  obtain ⟨rfl, N21q, e21⟩ := hQ21
  have N21 := Fr.app N9 N21q
  have P22 := own_step (C := T21.setTop (mkF m 48 #[.val (.ref a), .val (.ref ca), .val (.int (0 : Int32)), .val (.int (1 : Int32)), .val .null, .val (.ref x9)] [(.int (1 : Int32)), (.ref a)])) P20 (fun t_ k_ => st21 t_ k_)
  obtain ⟨T23, h23, X23, e23, W23, st23⟩ := putFN X21 hx hZ hown (hw _ (List.mem_of_getElem? (i := 21) rfl)) Via.refl e21 f14 f13 (Or.inr ⟨(hw _ (List.mem_of_getElem? (i := 17) rfl)), rfl, hnm⟩) (hw _ (List.mem_of_getElem? (i := 1) rfl)) (ty := .byte) (v' := (.int (1 : Int32).toInt8.toInt32)) (by decide) rfl (fits_nar_byte _) (g := (mkF m 48 #[.val (.ref a), .val (.ref ca), .val (.int (0 : Int32)), .val (.int (1 : Int32)), .val .null, .val (.ref x9)] [(.int (1 : Int32)), (.ref a)])) rfl rfl (hb hby d2_48)
  have f24 := f12.wr W23 ga
  have f25 := f13.wr W23
  have f26 := f14.same W23
  have f27 := f15.other W23 (Or.inr (slot_ne (Or.inr (hw _ (List.mem_of_getElem? (i := 16) rfl))) (Or.inr (hw _ (List.mem_of_getElem? (i := 17) rfl))) (by decide) (t := (.array .byte)) (t' := .byte) (by decide) (by decide)))
  have f28 := f16.wr W23 (Or.inl (List.mem_of_getElem? (i := 0) rfl))
  have f29 := f17.other W23 ne_ca_a
  have f30 := f11.other W23 (Ne.symm ne_a_x9)
  have Z31 : n0 ≤ h23.size := Nat.le_trans Z18 (Keep.of_wr W23).1
  have N23 := Fr.snoc X23 N21 ga
  have P32 := own_step (C := T23.setTop (mkF m 51 #[.val (.ref a), .val (.ref ca), .val (.int (0 : Int32)), .val (.int (1 : Int32)), .val .null, .val (.ref x9)] [])) P22 (fun t_ k_ => st23 t_ k_)
  have P33 := own_step (C := T23.setTop (mkF m 54 #[.val (.ref a), .val (.ref ca), .val (.int (0 : Int32)), .val (.int (1 : Int32)), .val .null, .val (.ref x9)] [(.ref x9), (.ref a)])) P32 (by
    intro tt_ kk_
    refine XS.aloadN X23.here hx rfl (hb hby d2_51) rfl rfl ?_
    refine XS.aload X23.here hx rfl (hb hby d2_52) rfl rfl ?_
    exact kk_)
  obtain ⟨T34, h34, X34, e34, W34, st34⟩ := putF X23 hx hZ hown (host := "") (Or.inl (hw _ (List.mem_of_getElem? (i := 20) rfl))) Via.refl e23 f27 f25 (Or.inr ⟨(hw _ (List.mem_of_getElem? (i := 16) rfl)), rfl, hnm⟩) (hw _ (List.mem_of_getElem? (i := 1) rfl)) (ty := (.array .byte)) (by decide) rfl rfl (g := (mkF m 54 #[.val (.ref a), .val (.ref ca), .val (.int (0 : Int32)), .val (.int (1 : Int32)), .val .null, .val (.ref x9)] [(.ref x9), (.ref a)])) rfl rfl (hb hby d2_54)
  have f35 := f24.wr W34 ga
  have f36 := f25.wr W34
  have f37 := f26.other W34 (Or.inr (slot_ne (Or.inr (hw _ (List.mem_of_getElem? (i := 17) rfl))) (Or.inr (hw _ (List.mem_of_getElem? (i := 16) rfl))) (by decide) (t := .byte) (t' := (.array .byte)) (by decide) (by decide)))
  have f38 := f27.same W34
  have f39 := f28.wr W34 (Or.inl (List.mem_of_getElem? (i := 0) rfl))
  have f40 := f29.other W34 ne_ca_a
  have f41 := f30.other W34 (Ne.symm ne_a_x9)
  have Z42 : n0 ≤ h34.size := Nat.le_trans Z31 (Keep.of_wr W34).1
  have N34 := Fr.snoc X34 N23 ga
  have P43 := own_step (C := T34.setTop (mkF m 57 #[.val (.ref a), .val (.ref ca), .val (.int (0 : Int32)), .val (.int (1 : Int32)), .val .null, .val (.ref x9)] [])) P33 (fun t_ k_ => st34 t_ k_)
  obtain ⟨fs, hr, hrun, hended, hW, hsame⟩ := X34.leave (v := none) (fun _ => rfl)
  refine ⟨_, _, P43 _ ?_, hrun, hended, _, _, rfl, ?_, ⟨_, rfl⟩, hW, hsame.mono (by decide) (by decide)⟩
  · exact X34.returnOut hx Bd.returns (hb hby d2_57) hr
  · show Q_initVU_1 Z _ _ _ _ _ h0 n0 _ T34.heap _
    rw [e34]
    exact ⟨x9, kk9, rfl, N34, f39, f36, f37, f38, f41, sz_x9⟩
theorem pd15 : parseMethodDescriptor "([CIILjava/lang/Void;)V" = some ⟨[(.array .char), .int, .int, (.object "java/lang/Void")], none⟩ := by decide +kernel
theorem d1_0 : decode jdk_42_method_3_code 0 = .ok (.aload_n 0, 1) := by decide +kernel
theorem d1_1 : decode jdk_42_method_3_code 1 = .ok (.aload_n 1, 1) := by decide +kernel
theorem d1_2 : decode jdk_42_method_3_code 2 = .ok (.iconst 0, 1) := by decide +kernel
theorem d1_3 : decode jdk_42_method_3_code 3 = .ok (.aload_n 1, 1) := by decide +kernel
theorem d1_4 : decode jdk_42_method_3_code 4 = .ok (.arraylength, 1) := by decide +kernel
theorem d1_5 : decode jdk_42_method_3_code 5 = .ok (.aconst_null, 1) := by decide +kernel
theorem d1_6 : decode jdk_42_method_3_code 6 = .ok (.invokespecial 27, 3) := by decide +kernel
theorem d1_9 : decode jdk_42_method_3_code 9 = .ok (.return_, 1) := by decide +kernel
theorem ef__initA_1 (m : MethodId) (x0 : Addr) (x1 : Addr) : entryFrame m #[(.ref x0), (.ref x1)] 2 = mkF m 0 #[.val (.ref x0), .val (.ref x1)] [] := by first | (simp [entryFrame, mkF, argsToLocals, Value.category]; done) | rfl
def Q_initA_1 (Z : State) (a : Addr) (ca : Addr) (ka : ClassId) (c0 : Int32) (cs : Int32) (h0 : Heap) (n0 : Nat) (v_ : Option Value) (h : Heap) (L_ : List Loc) : Prop := v_ = none ∧ Fr n0 L_ ∧ Keep h0 h [a] ∧ own_S Z h a (1 : Int32) [c0]
set_option maxRecDepth 65536 in
set_option maxHeartbeats 40000000 in
theorem rm_initA_1 (l : Launch) (Z : State) (a0 : Array Value) (hw : ∀ d ∈ tables_1, d.before a0 Z = true) (ws : List Jvm.Cond) (a : Addr) (ca : Addr) (ka : ClassId) (c0 : Int32) (cs : Int32) (h0 : Heap) (n0 : Nat) (Z0 : n0 ≤ h0.size) (O : Old Z n0 h0) (Scs : Sta Z Z.heap "java/lang/String" "COMPACT_STRINGS" "Z" (.int cs)) (hcs : ¬ (cs = (0 : Int32))) (Ea : Exa Z h0 a "java/lang/String") (Fv : Fld Z h0 a "java/lang/String" "value" "[B" .null) (Fc : Fld Z h0 a "java/lang/String" "coder" "B" (.int (0 : Int32))) (ga : n0 ≤ a) (Vs : Arv Z h0 ca ka .char (1 : Int32) [(.int c0)] (.int 0)) (Sad : Sta Z Z.heap "java/lang/StringUTF16" "$assertionsDisabled" "Z" (.int (1 : Int32))) (Shi : Sta Z Z.heap "java/lang/StringUTF16" "HI_BYTE_SHIFT" "I" (.int (0 : Int32))) (Slo : Sta Z Z.heap "java/lang/StringUTF16" "LO_BYTE_SHIFT" "I" (.int (8 : Int32))) (gc0 : own_C c0) :
    MetFree l (⟨"java/lang/String", "<init>", "([C)V"⟩ : MethodName) (head1 (Jvm.Cond.code (⟨"java/lang/String", "<init>", "([C)V"⟩ : MethodName) jdk_42_method_3_code 2 none :: ws) ({ frames := 5, cells := 2, slots := 3, locals := 74 } : Room)) (fun a_ U_ => a_ = #[(.ref a), (.ref ca)] ∧ Z.Warmed39 U_.vm ∧ U_.heap = h0) (fun _ _ _ _ _ => True) (fun _ U_ o_ V_ => ∃ v_ L_, o_ = .returned v_ ∧ Q_initA_1 Z a ca ka c0 cs h0 n0 v_ V_.heap L_ ∧ FrameEnd U_ o_ V_ L_ ({ frames := 5, cells := 2, slots := 3, locals := 74 } : Room).cells ({ frames := 5, cells := 2, slots := 3, locals := 74 } : Room).slots) := by
  refine MetFree.of_bodySF (plainFor_of_name pn1) hisR ?_
  intro p e s m args below meth c s₁ Bd hml0 hP hK
  obtain ⟨rfl, hZ, hh⟩ := hP
  have hx := Bd.exec
  have hby := Bd.bytes
  have hml : c.maxLocals = 2 := hml0
  have hown : s.vm.findClass "java/lang/String" = some m.cls := findClass_of_methodNamed Bd.named
  have hnm := (name_of_methodNamed Bd.named Bd.method).1
  have X0 : Stand p l e ({ frames := 5, cells := 2, slots := 3, locals := 74 } : Room) s m #[(.ref a), (.ref ca)] below meth c s₁ [] 0 0 := Stand.of_body Bd
  have e0 : s₁.heap = h0 := by rw [← hh, Bd.state]; rfl
  have N0 := Fr.nil n0
  have pre0 : own_Go p e below (s₁.setTop (entryFrame m #[(.ref a), (.ref ca)] 2)) (s₁.setTop (mkF m 0 #[.val (.ref a), .val (.ref ca)] [])) := fun t_ k_ => castTop (ef__initA_1 m a ca) k_
  obtain ⟨clV, ArV, -⟩ := id Vs
  have ne_ca_a : ca ≠ a := Ne.symm (ne_arr Ea (hw _ (List.mem_of_getElem? (i := 1) rfl)) ArV)
  have P1 := own_step (C := s₁.setTop (mkF m 4 #[.val (.ref a), .val (.ref ca)] [(.ref ca), (.int (0 : Int32)), (.ref ca), (.ref a)])) pre0 (by
    intro tt_ kk_
    refine XS.aloadN X0.here hx rfl (hb hby d1_0) rfl rfl ?_
    refine XS.aloadN X0.here hx rfl (hb hby d1_1) rfl rfl ?_
    refine XS.iconst X0.here hx rfl (hb hby d1_2) ?_
    refine XS.aloadN X0.here hx rfl (hb hby d1_3) rfl rfl ?_
    exact kk_)
  obtain ⟨cl2, Ar2, q2, S2, M2, H2, G2⟩ := id Vs
  have P3 := own_step (C := s₁.setTop (mkF m 5 #[.val (.ref a), .val (.ref ca)] [(.int (1 : Int32)), (.int (0 : Int32)), (.ref ca), (.ref a)])) P1 (by
    intro tt_ kk_
    refine X0.arraylength hx (by rw [e0]; exact Ar2.1) (State.isArrayOf_alike hZ.alike Ar2.2.1) (g := (mkF m 4 #[.val (.ref a), .val (.ref ca)] [(.ref ca), (.int (0 : Int32)), (.ref ca), (.ref a)])) rfl rfl (hb hby d1_4) _ ?_
    rw [len_of S2 M2]
    exact kk_)
  have P4 := own_step (C := s₁.setTop (mkF m 6 #[.val (.ref a), .val (.ref ca)] [.null, (.int (1 : Int32)), (.int (0 : Int32)), (.ref ca), (.ref a)])) P3 (by
    intro tt_ kk_
    refine XS.aconstNull X0.here hx rfl (hb hby d1_5) ?_
    exact kk_)
  by_cases hU : (255 : Int32) < c0
  · obtain ⟨_, _, ⟨T5, L5, k5, n5⟩, -, X5, ⟨Lc5, hQ5, l5, y5, z5⟩, st5⟩ := X0.specialBack hx (y := (⟨"java/lang/String", "<init>", "([CIILjava/lang/Void;)V"⟩ : MethodName)) rfl hown (mvT hZ (hw _ (List.mem_of_getElem? (i := 7) rfl))) (mvT hZ (hw _ (List.mem_of_getElem? (i := 8) rfl))) (mvT hZ (hw _ (List.mem_of_getElem? (i := 10) rfl))) (by decide) (backOf (W := 0) (rm_initVU_1 l Z a0 hw [] a ca ka c0 cs h0 n0 Z0 O Scs hcs Ea Fv Fc ga Vs Sad Shi Slo hU gc0) hZ (hw _ (List.mem_of_getElem? (i := 10) rfl)) (hw _ (List.mem_of_getElem? (i := 2) rfl)) (by decide) (by decide)) (g := (mkF m 6 #[.val (.ref a), .val (.ref ca)] [.null, (.int (1 : Int32)), (.int (0 : Int32)), (.ref ca), (.ref a)])) rfl (by rw [hml]; rfl) (Steps.refl _) (a := a) (argsL := [(.ref ca), (.int (0 : Int32)), (.int (1 : Int32)), .null]) (rest := []) (lenOf pd15 rfl) rfl (by show 2 * 0 + _ ≤ _; exact Nat.le_of_eq rfl) (hb hby d1_6) (fun _ _ => ⟨rfl, e0, (by decide : 0 + 2 ≤ _), (by decide : 0 + 3 ≤ _)⟩)
    dsimp only [Pt.U, Pt.locs, Pt.cells, Pt.slots] at X5 l5 y5 z5 st5 hQ5
    subst l5 y5 z5
    obtain ⟨x5, kk5, rfl, N5q, K5, f6, f7, f8, f9, f10⟩ := hQ5
    have N5 := Fr.app N0 N5q
    have ne_a_x5 : a ≠ x5 := Nat.ne_of_lt (Nat.lt_of_lt_of_le Ea.lt f10)
    have ne_ca_x5 : ca ≠ x5 := Nat.ne_of_lt (Nat.lt_of_lt_of_le Vs.lt f10)
    have g_x5 : n0 ≤ x5 := Nat.le_trans Z0 f10
    have sz_x5 : h0.size ≤ x5 := Nat.le_trans (Keep.refl h0 [a]).1 f10
    have f11 := O.keep K5 (allS ga all0)
    have f12 := Ea.keep K5
    have f15 := (Keep.refl h0 [a]).trans K5 (allS (Or.inl (List.mem_of_getElem? (i := 0) rfl)) all0)
    have f16 := Vs.keep K5 (ninS ne_ca_a nin0)
    have Z17 : n0 ≤ T5.heap.size := Nat.le_trans Z0 K5.1
    have P18 := own_step (C := T5.setTop (mkF m 9 #[.val (.ref a), .val (.ref ca)] [])) P4 (fun t_ k_ => st5.trans k_)
    obtain ⟨fs, hr, hrun, hended, hW, hsame⟩ := X5.leave (v := none) (fun _ => rfl)
    refine ⟨_, _, P18 _ ?_, hrun, hended, _, _, rfl, ?_, ⟨_, rfl⟩, hW, hsame.mono (by decide) (by decide)⟩
    · exact X5.returnOut hx Bd.returns (hb hby d1_9) hr
    · show Q_initA_1 Z _ _ _ _ _ h0 n0 _ T5.heap _
      exact ⟨rfl, N5, f15, ⟨x5, kk5, f6, f8, Or.inr ⟨f7, f9⟩⟩⟩
  · have hc0 : ¬ ((255 : Int32) < c0) := fun q => hU (q)
    have hall : ∀ c ∈ [c0], ¬ ((255 : Int32) < c) := by intro c hc; simp only [List.mem_cons, List.not_mem_nil, or_false] at hc; rcases hc with rfl <;> assumption
    obtain ⟨_, _, ⟨T19, L19, k19, n19⟩, -, X19, ⟨Lc19, hQ19, l19, y19, z19⟩, st19⟩ := X0.specialBack hx (y := (⟨"java/lang/String", "<init>", "([CIILjava/lang/Void;)V"⟩ : MethodName)) rfl hown (mvT hZ (hw _ (List.mem_of_getElem? (i := 7) rfl))) (mvT hZ (hw _ (List.mem_of_getElem? (i := 8) rfl))) (mvT hZ (hw _ (List.mem_of_getElem? (i := 10) rfl))) (by decide) (backOf (W := 0) (rm_initV_1 l Z a0 hw [] a ca ka c0 cs h0 n0 Z0 O Scs hcs Ea Fv Fc ga Vs hc0) hZ (hw _ (List.mem_of_getElem? (i := 10) rfl)) (hw _ (List.mem_of_getElem? (i := 2) rfl)) (by decide) (by decide)) (g := (mkF m 6 #[.val (.ref a), .val (.ref ca)] [.null, (.int (1 : Int32)), (.int (0 : Int32)), (.ref ca), (.ref a)])) rfl (by rw [hml]; rfl) (Steps.refl _) (a := a) (argsL := [(.ref ca), (.int (0 : Int32)), (.int (1 : Int32)), .null]) (rest := []) (lenOf pd15 rfl) rfl (by show 2 * 0 + _ ≤ _; exact Nat.le_of_eq rfl) (hb hby d1_6) (fun _ _ => ⟨rfl, e0, (by decide : 0 + 1 ≤ _), (by decide : 0 + 1 ≤ _)⟩)
    dsimp only [Pt.U, Pt.locs, Pt.cells, Pt.slots] at X19 l19 y19 z19 st19 hQ19
    subst l19 y19 z19
    obtain ⟨x19, kk19, rfl, N19q, K19, f20, f21, f22, f23, f24⟩ := hQ19
    have N19 := Fr.app N0 N19q
    have ne_a_x19 : a ≠ x19 := Nat.ne_of_lt (Nat.lt_of_lt_of_le Ea.lt f24)
    have ne_ca_x19 : ca ≠ x19 := Nat.ne_of_lt (Nat.lt_of_lt_of_le Vs.lt f24)
    have g_x19 : n0 ≤ x19 := Nat.le_trans Z0 f24
    have sz_x19 : h0.size ≤ x19 := Nat.le_trans (Keep.refl h0 [a]).1 f24
    have f25 := O.keep K19 (allS ga all0)
    have f26 := Ea.keep K19
    have f29 := (Keep.refl h0 [a]).trans K19 (allS (Or.inl (List.mem_of_getElem? (i := 0) rfl)) all0)
    have f30 := Vs.keep K19 (ninS ne_ca_a nin0)
    have Z31 : n0 ≤ T19.heap.size := Nat.le_trans Z0 K19.1
    have P32 := own_step (C := T19.setTop (mkF m 9 #[.val (.ref a), .val (.ref ca)] [])) P4 (fun t_ k_ => st19.trans k_)
    obtain ⟨fs, hr, hrun, hended, hW, hsame⟩ := X19.leave (v := none) (fun _ => rfl)
    refine ⟨_, _, P32 _ ?_, hrun, hended, _, _, rfl, ?_, ⟨_, rfl⟩, hW, hsame.mono (by decide) (by decide)⟩
    · exact X19.returnOut hx Bd.returns (hb hby d1_9) hr
    · show Q_initA_1 Z _ _ _ _ _ h0 n0 _ T19.heap _
      exact ⟨rfl, N19, f29, ⟨x19, kk19, f20, f22, Or.inl ⟨hall, f21, f23⟩⟩⟩
theorem ef__comp2U_2 (m : MethodId) (x0 : Addr) (x1 : Int32) (x2 : Addr) (x3 : Int32) (x4 : Int32) : entryFrame m #[(.ref x0), (.int x1), (.ref x2), (.int x3), (.int x4)] 7 = mkF m 0 #[.val (.ref x0), .val (.int x1), .val (.ref x2), .val (.int x3), .val (.int x4), .unset, .unset] [] := by first | (simp [entryFrame, mkF, argsToLocals, Value.category]; done) | rfl
def Q_comp2U_2 (Z : State) (a : Addr) (ka : ClassId) (d : Addr) (kd : ClassId) (c0 : Int32) (c1 : Int32) (h0 : Heap) (n0 : Nat) (v_ : Option Value) (h : Heap) (L_ : List Loc) : Prop := ∃ (r : Int32), v_ = some (.int r) ∧ Fr n0 L_ ∧ Keep h0 h [d] ∧ ((r = (0 : Int32) ∧ (255 : Int32) < c0) ∨ (r = (1 : Int32) ∧ (255 : Int32) < c1) ∨ (r = (2 : Int32) ∧ ¬ ((255 : Int32) < c0) ∧ ¬ ((255 : Int32) < c1) ∧ Arv Z h d kd .byte (2 : Int32) [(.int (c0.toInt8.toInt32).toInt8.toInt32), (.int (c1.toInt8.toInt32).toInt8.toInt32)] (.int 0)))
set_option maxRecDepth 65536 in
set_option maxHeartbeats 40000000 in
theorem rm_comp2U_2 (l : Launch) (Z : State) (a0 : Array Value) (hw : ∀ d ∈ tables_1, d.before a0 Z = true) (ws : List Jvm.Cond) (a : Addr) (ka : ClassId) (d : Addr) (kd : ClassId) (c0 : Int32) (c1 : Int32) (h0 : Heap) (n0 : Nat) (Z0 : n0 ≤ h0.size) (O : Old Z n0 h0) (Va : Arv Z h0 a ka .char (2 : Int32) [(.int c0), (.int c1)] (.int 0)) (Vd : Arv Z h0 d kd .byte (2 : Int32) [(.int (0 : Int32)), (.int (0 : Int32))] (.int 0)) (nad : a ≠ d) (gd : n0 ≤ d) :
    MetFree l (⟨"java/lang/StringUTF16", "compress", "([CI[BII)I"⟩ : MethodName) (head1 (Jvm.Cond.code (⟨"java/lang/StringUTF16", "compress", "([CI[BII)I"⟩ : MethodName) jdk_52_method_21_code 7 (some .int) :: ws) ({ frames := 0, cells := 0, slots := 0, locals := 0 } : Room)) (fun a_ U_ => a_ = #[(.ref a), (.int (0 : Int32)), (.ref d), (.int (0 : Int32)), (.int (2 : Int32))] ∧ Z.Warmed39 U_.vm ∧ U_.heap = h0) (fun _ _ _ _ _ => True) (fun _ U_ o_ V_ => ∃ v_ L_, o_ = .returned v_ ∧ Q_comp2U_2 Z a ka d kd c0 c1 h0 n0 v_ V_.heap L_ ∧ FrameEnd U_ o_ V_ L_ ({ frames := 0, cells := 0, slots := 0, locals := 0 } : Room).cells ({ frames := 0, cells := 0, slots := 0, locals := 0 } : Room).slots) := by
  refine MetFree.of_bodySF (plainFor_of_name pn5) hisR ?_
  intro p e s m args below meth c s₁ Bd hml0 hP hK
  obtain ⟨rfl, hZ, hh⟩ := hP
  have hx := Bd.exec
  have hby := Bd.bytes
  have hml : c.maxLocals = 7 := hml0
  have hown : s.vm.findClass "java/lang/StringUTF16" = some m.cls := findClass_of_methodNamed Bd.named
  have hnm := (name_of_methodNamed Bd.named Bd.method).1
  have X0 : Stand p l e ({ frames := 0, cells := 0, slots := 0, locals := 0 } : Room) s m #[(.ref a), (.int (0 : Int32)), (.ref d), (.int (0 : Int32)), (.int (2 : Int32))] below meth c s₁ [] 0 0 := Stand.of_body Bd
  have e0 : s₁.heap = h0 := by rw [← hh, Bd.state]; rfl
  have N0 := Fr.nil n0
  have pre0 : own_Go p e below (s₁.setTop (entryFrame m #[(.ref a), (.int (0 : Int32)), (.ref d), (.int (0 : Int32)), (.int (2 : Int32))] 7)) (s₁.setTop (mkF m 0 #[.val (.ref a), .val (.int (0 : Int32)), .val (.ref d), .val (.int (0 : Int32)), .val (.int (2 : Int32)), .unset, .unset] [])) := fun t_ k_ => castTop (ef__comp2U_2 m a (0 : Int32) d (0 : Int32) (2 : Int32)) k_
  have P1 := own_step (C := s₁.setTop (mkF m 7 #[.val (.ref a), .val (.int (0 : Int32)), .val (.ref d), .val (.int (0 : Int32)), .val (.int (2 : Int32)), .val (.int (0 : Int32)), .unset] [(.int (2 : Int32)), (.int (0 : Int32))])) pre0 (by
    intro tt_ kk_
    refine XS.iconst X0.here hx rfl (hb hby d7_0) ?_
    refine XS.istore X0.here hx rfl (hb hby d7_1) rfl (l' := #[.val (.ref a), .val (.int (0 : Int32)), .val (.ref d), .val (.int (0 : Int32)), .val (.int (2 : Int32)), .val (.int (0 : Int32)), .unset]) rfl ?_
    refine XS.iload X0.here hx rfl (hb hby d7_3) rfl ?_
    refine XS.iload X0.here hx rfl (hb hby d7_5) rfl ?_
    exact kk_)
  have P2 := own_step (C := s₁.setTop (mkF m 12 #[.val (.ref a), .val (.int (0 : Int32)), .val (.ref d), .val (.int (0 : Int32)), .val (.int (2 : Int32)), .val (.int (0 : Int32)), .unset] [(.int (0 : Int32)), (.ref a)])) P1 (by
    intro tt_ kk_
    refine XS.icmpNo X0.here hx rfl (hb hby d7_7) rfl (tlt (by decide : (0 : Int32) < (2 : Int32))).2.1 ?_
    refine XS.aloadN X0.here hx rfl (hb hby d7_10) rfl rfl ?_
    refine XS.iloadN X0.here hx rfl (hb hby d7_11) rfl ?_
    exact kk_)
  obtain ⟨cl3, Ar3, q3, S3, M3, H3, G3⟩ := id Va
  have hin3 := inb_of S3 (by decide : ¬ (0 : Int32) < 0 ∧ (0 : Int32) < (2 : Int32))
  have hat3 := Has.at H3 hin3 (v := .int c0) rfl
  have P4 := own_step (C := s₁.setTop (mkF m 13 #[.val (.ref a), .val (.int (0 : Int32)), .val (.ref d), .val (.int (0 : Int32)), .val (.int (2 : Int32)), .val (.int (0 : Int32)), .unset] [(.int c0)])) P2 (by
    intro tt_ kk_
    refine X0.caload hx (j := (0 : Int32)) (v := (.int c0)) (by rw [e0]; exact Ar3.1) (State.isArrayOf_alike hZ.alike Ar3.2.1) Ar3.2.2 hin3 hat3 (g := (mkF m 12 #[.val (.ref a), .val (.int (0 : Int32)), .val (.ref d), .val (.int (0 : Int32)), .val (.int (2 : Int32)), .val (.int (0 : Int32)), .unset] [(.int (0 : Int32)), (.ref a)])) rfl rfl (hb hby d7_12) _ ?_
    exact kk_)
  have P5 := own_step (C := s₁.setTop (mkF m 20 #[.val (.ref a), .val (.int (0 : Int32)), .val (.ref d), .val (.int (0 : Int32)), .val (.int (2 : Int32)), .val (.int (0 : Int32)), .val (.int c0)] [(.int (255 : Int32)), (.int c0)])) P4 (by
    intro tt_ kk_
    refine XS.istore X0.here hx rfl (hb hby d7_13) rfl (l' := #[.val (.ref a), .val (.int (0 : Int32)), .val (.ref d), .val (.int (0 : Int32)), .val (.int (2 : Int32)), .val (.int (0 : Int32)), .val (.int c0)]) rfl ?_
    refine XS.iload X0.here hx rfl (hb hby d7_15) rfl ?_
    refine XS.sipush X0.here hx rfl (hb hby d7_17) ?_
    exact kk_)
  by_cases c6 : (255 : Int32) < c0
  · have P7 := own_step (C := s₁.setTop (mkF m 25 #[.val (.ref a), .val (.int (0 : Int32)), .val (.ref d), .val (.int (0 : Int32)), .val (.int (2 : Int32)), .val (.int (0 : Int32)), .val (.int c0)] [(.int (0 : Int32))])) P5 (by
      intro tt_ kk_
      refine XS.icmpNo X0.here hx rfl (hb hby d7_20) rfl (tlt c6).2.2.2 ?_
      refine XS.iload X0.here hx rfl (hb hby d7_23) rfl ?_
      exact kk_)
    obtain ⟨fs, hr, hrun, hended, hW, hsame⟩ := X0.leave (v := some (.int (0 : Int32))) (fun h => by rw [Bd.returns] at h; cases h)
    refine ⟨_, _, P7 _ ?_, hrun, hended, _, _, rfl, ?_, ⟨_, rfl⟩, hW, hsame.mono (by decide) (by decide)⟩
    · exact retI X0 hx Bd.returns (hb hby d7_25) hr
    · show Q_comp2U_2 Z _ _ _ _ _ _ h0 n0 _ s₁.heap _
      rw [e0]
      exact ⟨(0 : Int32), rfl, N0, (Keep.refl h0 [d]), Or.inl ⟨rfl, c6⟩⟩
  · have P8 := own_step (C := s₁.setTop (mkF m 31 #[.val (.ref a), .val (.int (0 : Int32)), .val (.ref d), .val (.int (0 : Int32)), .val (.int (2 : Int32)), .val (.int (0 : Int32)), .val (.int c0)] [(.int (c0.toInt8.toInt32)), (.int (0 : Int32)), (.ref d)])) P5 (by
      intro tt_ kk_
      refine XS.icmpYes X0.here hx rfl (pc0 := 20) (pc' := 26) rfl (hb hby d7_20) rfl (flt c6).2.2.2 (by decide) (by decide) ?_
      refine XS.aloadN X0.here hx rfl (hb hby d7_26) rfl rfl ?_
      refine XS.iloadN X0.here hx rfl (hb hby d7_27) rfl ?_
      refine XS.iload X0.here hx rfl (hb hby d7_28) rfl ?_
      refine XS.i2b X0.here hx rfl (hb hby d7_30) rfl ?_
      exact kk_)
    obtain ⟨cl9, Ar9, q9, S9, M9, H9, G9⟩ := id Vd
    obtain ⟨T10, h10, X10, e10, W10, st10⟩ := stB X0 hx hZ e0 Ar9 (j := (0 : Int32)) (inb_of S9 (by decide : ¬ (0 : Int32) < 0 ∧ (0 : Int32) < (2 : Int32))) (g := (mkF m 31 #[.val (.ref a), .val (.int (0 : Int32)), .val (.ref d), .val (.int (0 : Int32)), .val (.int (2 : Int32)), .val (.int (0 : Int32)), .val (.int c0)] [(.int (c0.toInt8.toInt32)), (.int (0 : Int32)), (.ref d)])) rfl rfl (hb hby d7_31)
    have f11 := O.wr W10 gd
    have f12 := Va.other W10 nad
    have f14 := (Keep.refl h0 [d]).wr W10 (Or.inl (List.mem_of_getElem? (i := 0) rfl))
    have Z15 : n0 ≤ h10.size := Nat.le_trans Z0 (Keep.of_wr W10).1
    have V10 : Arv Z h10 d kd .byte (2 : Int32) [(.int (c0.toInt8.toInt32).toInt8.toInt32), (.int (0 : Int32))] (.int 0) := Arv.set Ar9 q9 S9 M9 H9 G9 (fits_nar_byte _) W10 0 rfl (Nat.le_of_ble_eq_true rfl)
    have N10 := Fr.snoc X10 N0 gd
    have P16 := own_step (C := T10.setTop (mkF m 32 #[.val (.ref a), .val (.int (0 : Int32)), .val (.ref d), .val (.int (0 : Int32)), .val (.int (2 : Int32)), .val (.int (0 : Int32)), .val (.int c0)] [])) P8 (fun t_ k_ => st10 t_ k_)
    have P17 := own_step (C := T10.setTop (mkF m 7 #[.val (.ref a), .val (.int (1 : Int32)), .val (.ref d), .val (.int (1 : Int32)), .val (.int (2 : Int32)), .val (.int (1 : Int32)), .val (.int c0)] [(.int (2 : Int32)), (.int (1 : Int32))])) P16 (by
      intro tt_ kk_
      refine XS.iinc X10.here hx rfl (hb hby d7_32) rfl (l' := #[.val (.ref a), .val (.int (1 : Int32)), .val (.ref d), .val (.int (0 : Int32)), .val (.int (2 : Int32)), .val (.int (0 : Int32)), .val (.int c0)]) rfl ?_
      show Steps p.tables e below (T10.setTop (mkF m 35 #[.val (.ref a), .val (.int (1 : Int32)), .val (.ref d), .val (.int (0 : Int32)), .val (.int (2 : Int32)), .val (.int (0 : Int32)), .val (.int c0)] [])) _
      refine XS.iinc X10.here hx rfl (hb hby d7_35) rfl (l' := #[.val (.ref a), .val (.int (1 : Int32)), .val (.ref d), .val (.int (1 : Int32)), .val (.int (2 : Int32)), .val (.int (0 : Int32)), .val (.int c0)]) rfl ?_
      show Steps p.tables e below (T10.setTop (mkF m 38 #[.val (.ref a), .val (.int (1 : Int32)), .val (.ref d), .val (.int (1 : Int32)), .val (.int (2 : Int32)), .val (.int (0 : Int32)), .val (.int c0)] [])) _
      refine XS.iinc X10.here hx rfl (hb hby d7_38) rfl (l' := #[.val (.ref a), .val (.int (1 : Int32)), .val (.ref d), .val (.int (1 : Int32)), .val (.int (2 : Int32)), .val (.int (1 : Int32)), .val (.int c0)]) rfl ?_
      show Steps p.tables e below (T10.setTop (mkF m 41 #[.val (.ref a), .val (.int (1 : Int32)), .val (.ref d), .val (.int (1 : Int32)), .val (.int (2 : Int32)), .val (.int (1 : Int32)), .val (.int c0)] [])) _
      refine XS.goto X10.here hx rfl (pc0 := 41) (pc' := 3) rfl (hb hby d7_41) (by decide) (by decide) ?_
      refine XS.iload X10.here hx rfl (hb hby d7_3) rfl ?_
      refine XS.iload X10.here hx rfl (hb hby d7_5) rfl ?_
      exact kk_)
    have P18 := own_step (C := T10.setTop (mkF m 12 #[.val (.ref a), .val (.int (1 : Int32)), .val (.ref d), .val (.int (1 : Int32)), .val (.int (2 : Int32)), .val (.int (1 : Int32)), .val (.int c0)] [(.int (1 : Int32)), (.ref a)])) P17 (by
      intro tt_ kk_
      refine XS.icmpNo X10.here hx rfl (hb hby d7_7) rfl (tlt (by decide : (1 : Int32) < (2 : Int32))).2.1 ?_
      refine XS.aloadN X10.here hx rfl (hb hby d7_10) rfl rfl ?_
      refine XS.iloadN X10.here hx rfl (hb hby d7_11) rfl ?_
      exact kk_)
    obtain ⟨cl19, Ar19, q19, S19, M19, H19, G19⟩ := id f12
    have hin19 := inb_of S19 (by decide : ¬ (1 : Int32) < 0 ∧ (1 : Int32) < (2 : Int32))
    have hat19 := Has.at H19 hin19 (v := .int c1) rfl
    have P20 := own_step (C := T10.setTop (mkF m 13 #[.val (.ref a), .val (.int (1 : Int32)), .val (.ref d), .val (.int (1 : Int32)), .val (.int (2 : Int32)), .val (.int (1 : Int32)), .val (.int c0)] [(.int c1)])) P18 (by
      intro tt_ kk_
      refine X10.caload hx (j := (1 : Int32)) (v := (.int c1)) (by rw [e10]; exact Ar19.1) (State.isArrayOf_alike hZ.alike Ar19.2.1) Ar19.2.2 hin19 hat19 (g := (mkF m 12 #[.val (.ref a), .val (.int (1 : Int32)), .val (.ref d), .val (.int (1 : Int32)), .val (.int (2 : Int32)), .val (.int (1 : Int32)), .val (.int c0)] [(.int (1 : Int32)), (.ref a)])) rfl rfl (hb hby d7_12) _ ?_
      exact kk_)
    have P21 := own_step (C := T10.setTop (mkF m 20 #[.val (.ref a), .val (.int (1 : Int32)), .val (.ref d), .val (.int (1 : Int32)), .val (.int (2 : Int32)), .val (.int (1 : Int32)), .val (.int c1)] [(.int (255 : Int32)), (.int c1)])) P20 (by
      intro tt_ kk_
      refine XS.istore X10.here hx rfl (hb hby d7_13) rfl (l' := #[.val (.ref a), .val (.int (1 : Int32)), .val (.ref d), .val (.int (1 : Int32)), .val (.int (2 : Int32)), .val (.int (1 : Int32)), .val (.int c1)]) rfl ?_
      refine XS.iload X10.here hx rfl (hb hby d7_15) rfl ?_
      refine XS.sipush X10.here hx rfl (hb hby d7_17) ?_
      exact kk_)
    by_cases c22 : (255 : Int32) < c1
    · have P23 := own_step (C := T10.setTop (mkF m 25 #[.val (.ref a), .val (.int (1 : Int32)), .val (.ref d), .val (.int (1 : Int32)), .val (.int (2 : Int32)), .val (.int (1 : Int32)), .val (.int c1)] [(.int (1 : Int32))])) P21 (by
        intro tt_ kk_
        refine XS.icmpNo X10.here hx rfl (hb hby d7_20) rfl (tlt c22).2.2.2 ?_
        refine XS.iload X10.here hx rfl (hb hby d7_23) rfl ?_
        exact kk_)
      obtain ⟨fs, hr, hrun, hended, hW, hsame⟩ := X10.leave (v := some (.int (1 : Int32))) (fun h => by rw [Bd.returns] at h; cases h)
      refine ⟨_, _, P23 _ ?_, hrun, hended, _, _, rfl, ?_, ⟨_, rfl⟩, hW, hsame.mono (by decide) (by decide)⟩
      · exact retI X10 hx Bd.returns (hb hby d7_25) hr
      · show Q_comp2U_2 Z _ _ _ _ _ _ h0 n0 _ T10.heap _
        rw [e10]
        exact ⟨(1 : Int32), rfl, N10, f14, Or.inr (Or.inl ⟨rfl, c22⟩)⟩
    · have P24 := own_step (C := T10.setTop (mkF m 31 #[.val (.ref a), .val (.int (1 : Int32)), .val (.ref d), .val (.int (1 : Int32)), .val (.int (2 : Int32)), .val (.int (1 : Int32)), .val (.int c1)] [(.int (c1.toInt8.toInt32)), (.int (1 : Int32)), (.ref d)])) P21 (by
        intro tt_ kk_
        refine XS.icmpYes X10.here hx rfl (pc0 := 20) (pc' := 26) rfl (hb hby d7_20) rfl (flt c22).2.2.2 (by decide) (by decide) ?_
        refine XS.aloadN X10.here hx rfl (hb hby d7_26) rfl rfl ?_
        refine XS.iloadN X10.here hx rfl (hb hby d7_27) rfl ?_
        refine XS.iload X10.here hx rfl (hb hby d7_28) rfl ?_
        refine XS.i2b X10.here hx rfl (hb hby d7_30) rfl ?_
        exact kk_)
      obtain ⟨cl25, Ar25, q25, S25, M25, H25, G25⟩ := id V10
      obtain ⟨T26, h26, X26, e26, W26, st26⟩ := stB X10 hx hZ e10 Ar25 (j := (1 : Int32)) (inb_of S25 (by decide : ¬ (1 : Int32) < 0 ∧ (1 : Int32) < (2 : Int32))) (g := (mkF m 31 #[.val (.ref a), .val (.int (1 : Int32)), .val (.ref d), .val (.int (1 : Int32)), .val (.int (2 : Int32)), .val (.int (1 : Int32)), .val (.int c1)] [(.int (c1.toInt8.toInt32)), (.int (1 : Int32)), (.ref d)])) rfl rfl (hb hby d7_31)
      have f27 := f11.wr W26 gd
      have f28 := f12.other W26 nad
      have f30 := f14.wr W26 (Or.inl (List.mem_of_getElem? (i := 0) rfl))
      have Z31 : n0 ≤ h26.size := Nat.le_trans Z15 (Keep.of_wr W26).1
      have V26 : Arv Z h26 d kd .byte (2 : Int32) [(.int (c0.toInt8.toInt32).toInt8.toInt32), (.int (c1.toInt8.toInt32).toInt8.toInt32)] (.int 0) := Arv.set Ar25 q25 S25 M25 H25 G25 (fits_nar_byte _) W26 1 rfl (Nat.le_of_ble_eq_true rfl)
      have N26 := Fr.snoc X26 N10 gd
      have P32 := own_step (C := T26.setTop (mkF m 32 #[.val (.ref a), .val (.int (1 : Int32)), .val (.ref d), .val (.int (1 : Int32)), .val (.int (2 : Int32)), .val (.int (1 : Int32)), .val (.int c1)] [])) P24 (fun t_ k_ => st26 t_ k_)
      have P33 := own_step (C := T26.setTop (mkF m 7 #[.val (.ref a), .val (.int (2 : Int32)), .val (.ref d), .val (.int (2 : Int32)), .val (.int (2 : Int32)), .val (.int (2 : Int32)), .val (.int c1)] [(.int (2 : Int32)), (.int (2 : Int32))])) P32 (by
        intro tt_ kk_
        refine XS.iinc X26.here hx rfl (hb hby d7_32) rfl (l' := #[.val (.ref a), .val (.int (2 : Int32)), .val (.ref d), .val (.int (1 : Int32)), .val (.int (2 : Int32)), .val (.int (1 : Int32)), .val (.int c1)]) rfl ?_
        show Steps p.tables e below (T26.setTop (mkF m 35 #[.val (.ref a), .val (.int (2 : Int32)), .val (.ref d), .val (.int (1 : Int32)), .val (.int (2 : Int32)), .val (.int (1 : Int32)), .val (.int c1)] [])) _
        refine XS.iinc X26.here hx rfl (hb hby d7_35) rfl (l' := #[.val (.ref a), .val (.int (2 : Int32)), .val (.ref d), .val (.int (2 : Int32)), .val (.int (2 : Int32)), .val (.int (1 : Int32)), .val (.int c1)]) rfl ?_
        show Steps p.tables e below (T26.setTop (mkF m 38 #[.val (.ref a), .val (.int (2 : Int32)), .val (.ref d), .val (.int (2 : Int32)), .val (.int (2 : Int32)), .val (.int (1 : Int32)), .val (.int c1)] [])) _
        refine XS.iinc X26.here hx rfl (hb hby d7_38) rfl (l' := #[.val (.ref a), .val (.int (2 : Int32)), .val (.ref d), .val (.int (2 : Int32)), .val (.int (2 : Int32)), .val (.int (2 : Int32)), .val (.int c1)]) rfl ?_
        show Steps p.tables e below (T26.setTop (mkF m 41 #[.val (.ref a), .val (.int (2 : Int32)), .val (.ref d), .val (.int (2 : Int32)), .val (.int (2 : Int32)), .val (.int (2 : Int32)), .val (.int c1)] [])) _
        refine XS.goto X26.here hx rfl (pc0 := 41) (pc' := 3) rfl (hb hby d7_41) (by decide) (by decide) ?_
        refine XS.iload X26.here hx rfl (hb hby d7_3) rfl ?_
        refine XS.iload X26.here hx rfl (hb hby d7_5) rfl ?_
        exact kk_)
      have P34 := own_step (C := T26.setTop (mkF m 46 #[.val (.ref a), .val (.int (2 : Int32)), .val (.ref d), .val (.int (2 : Int32)), .val (.int (2 : Int32)), .val (.int (2 : Int32)), .val (.int c1)] [(.int (2 : Int32))])) P33 (by
        intro tt_ kk_
        refine XS.icmpYes X26.here hx rfl (pc0 := 7) (pc' := 44) rfl (hb hby d7_7) rfl (flt (by decide : ¬ ((2 : Int32) < (2 : Int32)))).2.1 (by decide) (by decide) ?_
        refine XS.iload X26.here hx rfl (hb hby d7_44) rfl ?_
        exact kk_)
      obtain ⟨fs, hr, hrun, hended, hW, hsame⟩ := X26.leave (v := some (.int (2 : Int32))) (fun h => by rw [Bd.returns] at h; cases h)
      refine ⟨_, _, P34 _ ?_, hrun, hended, _, _, rfl, ?_, ⟨_, rfl⟩, hW, hsame.mono (by decide) (by decide)⟩
      · exact retI X26 hx Bd.returns (hb hby d7_46) hr
      · show Q_comp2U_2 Z _ _ _ _ _ _ h0 n0 _ T26.heap _
        rw [e26]
        exact ⟨(2 : Int32), rfl, N26, f30, Or.inr (Or.inr (⟨rfl, c6, c22, V26⟩))⟩
theorem ef__comp_2 (m : MethodId) (x0 : Addr) (x1 : Int32) (x2 : Int32) : entryFrame m #[(.ref x0), (.int x1), (.int x2)] 6 = mkF m 0 #[.val (.ref x0), .val (.int x1), .val (.int x2), .unset, .unset, .unset] [] := by first | (simp [entryFrame, mkF, argsToLocals, Value.category]; done) | rfl
def Q_comp_2 (Z : State) (a : Addr) (ka : ClassId) (c0 : Int32) (c1 : Int32) (h0 : Heap) (n0 : Nat) (v_ : Option Value) (h : Heap) (L_ : List Loc) : Prop := ∃ (x : Addr) (kk : ClassId), v_ = some (.ref x) ∧ Fr n0 L_ ∧ Keep h0 h [] ∧ h0.size ≤ x ∧ Arv Z h x kk .byte (2 : Int32) [(.int (c0.toInt8.toInt32).toInt8.toInt32), (.int (c1.toInt8.toInt32).toInt8.toInt32)] (.int 0)
set_option maxRecDepth 65536 in
set_option maxHeartbeats 40000000 in
theorem rm_comp_2 (l : Launch) (Z : State) (a0 : Array Value) (hw : ∀ d ∈ tables_1, d.before a0 Z = true) (ws : List Jvm.Cond) (a : Addr) (ka : ClassId) (c0 : Int32) (c1 : Int32) (h0 : Heap) (n0 : Nat) (Z0 : n0 ≤ h0.size) (O : Old Z n0 h0) (Va : Arv Z h0 a ka .char (2 : Int32) [(.int c0), (.int c1)] (.int 0)) (hc0 : ¬ ((255 : Int32) < c0)) (hc1 : ¬ ((255 : Int32) < c1)) :
    MetFree l (⟨"java/lang/StringUTF16", "compress", "([CII)[B"⟩ : MethodName) (head1 (Jvm.Cond.code (⟨"java/lang/StringUTF16", "compress", "([CII)[B"⟩ : MethodName) jdk_52_method_16_code 6 (some (.array .byte)) :: ws) ({ frames := 1, cells := 1, slots := 2, locals := 18 } : Room)) (fun a_ U_ => a_ = #[(.ref a), (.int (0 : Int32)), (.int (2 : Int32))] ∧ Z.Warmed39 U_.vm ∧ U_.heap = h0) (fun _ _ _ _ _ => True) (fun _ U_ o_ V_ => ∃ v_ L_, o_ = .returned v_ ∧ Q_comp_2 Z a ka c0 c1 h0 n0 v_ V_.heap L_ ∧ FrameEnd U_ o_ V_ L_ ({ frames := 1, cells := 1, slots := 2, locals := 18 } : Room).cells ({ frames := 1, cells := 1, slots := 2, locals := 18 } : Room).slots) := by
  refine MetFree.of_bodySF (plainFor_of_name pn5) hisR ?_
  intro p e s m args below meth c s₁ Bd hml0 hP hK
  obtain ⟨rfl, hZ, hh⟩ := hP
  have hx := Bd.exec
  have hby := Bd.bytes
  have hml : c.maxLocals = 6 := hml0
  have hown : s.vm.findClass "java/lang/StringUTF16" = some m.cls := findClass_of_methodNamed Bd.named
  have hnm := (name_of_methodNamed Bd.named Bd.method).1
  have X0 : Stand p l e ({ frames := 1, cells := 1, slots := 2, locals := 18 } : Room) s m #[(.ref a), (.int (0 : Int32)), (.int (2 : Int32))] below meth c s₁ [] 0 0 := Stand.of_body Bd
  have e0 : s₁.heap = h0 := by rw [← hh, Bd.state]; rfl
  have N0 := Fr.nil n0
  have pre0 : own_Go p e below (s₁.setTop (entryFrame m #[(.ref a), (.int (0 : Int32)), (.int (2 : Int32))] 6)) (s₁.setTop (mkF m 0 #[.val (.ref a), .val (.int (0 : Int32)), .val (.int (2 : Int32)), .unset, .unset, .unset] [])) := fun t_ k_ => castTop (ef__comp_2 m a (0 : Int32) (2 : Int32)) k_
  have P1 := own_step (C := s₁.setTop (mkF m 1 #[.val (.ref a), .val (.int (0 : Int32)), .val (.int (2 : Int32)), .unset, .unset, .unset] [(.int (2 : Int32))])) pre0 (by
    intro tt_ kk_
    refine XS.iloadN X0.here hx rfl (hb hby d6_0) rfl ?_
    exact kk_)
  obtain ⟨T2, h2, k2, X2, e2, E2, A2, st2⟩ := newP X0 hx hZ (hw _ (List.mem_of_getElem? (i := 15) rfl)) e0 (g := (mkF m 1 #[.val (.ref a), .val (.int (0 : Int32)), .val (.int (2 : Int32)), .unset, .unset, .unset] [(.int (2 : Int32))])) rfl (hb hby d6_1) rfl (by decide) (cap := 2) (by decide) (by decide) (by decide) (by decide)
  obtain ⟨b2, g2⟩ : ∃ z, z = h0.size := ⟨_, rfl⟩
  rw [← g2] at A2 st2
  have ne_a_b2 : a ≠ b2 := Nat.ne_of_lt (Nat.lt_of_lt_of_le Va.lt (Nat.le_of_eq g2.symm))
  have g_b2 : n0 ≤ b2 := Nat.le_trans Z0 (Nat.le_of_eq g2.symm)
  have sz_b2 : h0.size ≤ b2 := Nat.le_trans (Keep.refl h0 []).1 (Nat.le_of_eq g2.symm)
  have f3 := O.ext E2
  have f4 := (Keep.refl h0 []).ext E2
  have f5 := Va.ext E2
  have Z6 : n0 ≤ h2.size := Nat.le_trans Z0 E2.1
  have V2 : Arv Z h2 b2 k2 .byte (2 : Int32) [(.int (0 : Int32)), (.int (0 : Int32))] (.int (0 : Int32)) := (Arv.new A2 (by decide)).pad (pad_rep [] _ 2)
  have P7 := own_step (C := T2.setTop (mkF m 3 #[.val (.ref a), .val (.int (0 : Int32)), .val (.int (2 : Int32)), .unset, .unset, .unset] [(.ref b2)])) P1 (fun t_ k_ => st2 t_ k_)
  have P8 := own_step (C := T2.setTop (mkF m 9 #[.val (.ref a), .val (.int (0 : Int32)), .val (.int (2 : Int32)), .val (.ref b2), .unset, .unset] [(.int (2 : Int32)), (.int (0 : Int32)), (.ref b2), (.int (0 : Int32)), (.ref a)])) P7 (by
    intro tt_ kk_
    refine XS.astoreN X2.here hx rfl (hb hby d6_3) rfl rfl (l' := #[.val (.ref a), .val (.int (0 : Int32)), .val (.int (2 : Int32)), .val (.ref b2), .unset, .unset]) rfl ?_
    refine XS.aloadN X2.here hx rfl (hb hby d6_4) rfl rfl ?_
    refine XS.iloadN X2.here hx rfl (hb hby d6_5) rfl ?_
    refine XS.aloadN X2.here hx rfl (hb hby d6_6) rfl rfl ?_
    refine XS.iconst X2.here hx rfl (hb hby d6_7) ?_
    refine XS.iloadN X2.here hx rfl (hb hby d6_8) rfl ?_
    exact kk_)
  obtain ⟨_, _, ⟨T9, L9, k9, n9⟩, -, X9, ⟨Lc9, hQ9, l9, y9, z9⟩, st9⟩ := Jvm.LawKit.callS X2 hx (y := (⟨"java/lang/StringUTF16", "compress", "([CI[BII)I"⟩ : MethodName)) hown (mvT hZ (hw _ (List.mem_of_getElem? (i := 36) rfl))) (mvT hZ (hw _ (List.mem_of_getElem? (i := 37) rfl))) (mvT hZ (hw _ (List.mem_of_getElem? (i := 34) rfl))) (mvT hZ (hw _ (List.mem_of_getElem? (i := 38) rfl))) (by decide) (backOf (W := 0) (rm_comp2U_2 l Z a0 hw [] a ka b2 k2 c0 c1 h2 n0 Z6 f3 f5 V2 ne_a_b2 g_b2) hZ (hw _ (List.mem_of_getElem? (i := 38) rfl)) (hw _ (List.mem_of_getElem? (i := 34) rfl)) (by decide) (by decide)) (g := (mkF m 9 #[.val (.ref a), .val (.int (0 : Int32)), .val (.int (2 : Int32)), .val (.ref b2), .unset, .unset] [(.int (2 : Int32)), (.int (0 : Int32)), (.ref b2), (.int (0 : Int32)), (.ref a)])) rfl (by rw [hml]; rfl) (argsL := [(.ref a), (.int (0 : Int32)), (.ref b2), (.int (0 : Int32)), (.int (2 : Int32))]) (rest := []) (lenOf pd9 rfl) rfl (by show 2 * 0 + _ ≤ _; exact Nat.le_of_eq rfl) (hb hby d6_9) (fun _ _ => ⟨rfl, e2, (by decide : 1 + 0 ≤ _), (by decide : 2 + 0 ≤ _)⟩)
  dsimp only [Pt.U, Pt.locs, Pt.cells, Pt.slots] at X9 l9 y9 z9 st9 hQ9
  subst l9 y9 z9
  obtain ⟨r9, rfl, N9q, K9, f10⟩ := hQ9
  have N9 := Fr.app N0 N9q
  have f11 := f3.keep K9 (allS g_b2 all0)
  have f12 := f4.trans K9 (allS (Or.inr sz_b2) all0)
  have f13 := f5.keep K9 (ninS ne_a_b2 nin0)
  have Z15 : n0 ≤ T9.heap.size := Nat.le_trans Z6 K9.1
  have P16 := own_step (C := T9.setTop (mkF m 12 #[.val (.ref a), .val (.int (0 : Int32)), .val (.int (2 : Int32)), .val (.ref b2), .unset, .unset] [(.int r9)])) P8 (fun t_ k_ => st9 t_ k_)
  obtain ⟨hrr, Vx⟩ : r9 = (2 : Int32) ∧ Arv Z T9.heap b2 k2 .byte (2 : Int32) [(.int (c0.toInt8.toInt32).toInt8.toInt32), (.int (c1.toInt8.toInt32).toInt8.toInt32)] (.int 0) := by
    rcases f10 with ⟨-, hq⟩ | ⟨-, hq⟩ | ⟨hq, -, -, hv⟩
    · exact absurd hq hc0
    · exact absurd hq hc1
    · exact ⟨hq, hv⟩
  subst hrr
  have P17 := own_step (C := T9.setTop (mkF m 17 #[.val (.ref a), .val (.int (0 : Int32)), .val (.int (2 : Int32)), .val (.ref b2), .val (.int (2 : Int32)), .unset] [(.int (2 : Int32)), (.int (2 : Int32))])) P16 (by
    intro tt_ kk_
    refine XS.istore X9.here hx rfl (hb hby d6_12) rfl (l' := #[.val (.ref a), .val (.int (0 : Int32)), .val (.int (2 : Int32)), .val (.ref b2), .val (.int (2 : Int32)), .unset]) rfl ?_
    refine XS.iload X9.here hx rfl (hb hby d6_14) rfl ?_
    refine XS.iloadN X9.here hx rfl (hb hby d6_16) rfl ?_
    exact kk_)
  have P18 := own_step (C := T9.setTop (mkF m 58 #[.val (.ref a), .val (.int (0 : Int32)), .val (.int (2 : Int32)), .val (.ref b2), .val (.int (2 : Int32)), .unset] [(.ref b2)])) P17 (by
    intro tt_ kk_
    refine XS.icmpYes X9.here hx rfl (pc0 := 17) (pc' := 57) rfl (hb hby d6_17) rfl (teq (by decide : (2 : Int32) = (2 : Int32))).1 (by decide) (by decide) ?_
    refine XS.aloadN X9.here hx rfl (hb hby d6_57) rfl rfl ?_
    exact kk_)
  obtain ⟨fs, hr, hrun, hended, hW, hsame⟩ := X9.leave (v := some (.ref b2)) (fun h => by rw [Bd.returns] at h; cases h)
  refine ⟨_, _, P18 _ ?_, hrun, hended, _, _, rfl, ?_, ⟨_, rfl⟩, hW, hsame.mono (by decide) (by decide)⟩
  · jvm_step X9.here [X9.here.top, hx, (hb hby d6_58), X9.method', Bd.returns, Value.isRef, FieldType.isReference]
    first | (intro acts; rw [hr _ acts rfl rfl rfl]) | rw [hr _ _ rfl rfl rfl]
    exact Steps.refl _
  · show Q_comp_2 Z _ _ _ _ h0 n0 _ T9.heap _
    exact ⟨b2, k2, rfl, N9, f12, sz_b2, Vx⟩
theorem ef__initV_2 (m : MethodId) (x0 : Addr) (x1 : Addr) (x2 : Int32) (x3 : Int32) : entryFrame m #[(.ref x0), (.ref x1), (.int x2), (.int x3), .null] 6 = mkF m 0 #[.val (.ref x0), .val (.ref x1), .val (.int x2), .val (.int x3), .val .null, .unset] [] := by first | (simp [entryFrame, mkF, argsToLocals, Value.category]; done) | rfl
def Q_initV_2 (Z : State) (a : Addr) (ca : Addr) (ka : ClassId) (c0 : Int32) (c1 : Int32) (cs : Int32) (h0 : Heap) (n0 : Nat) (v_ : Option Value) (h : Heap) (L_ : List Loc) : Prop := ∃ (x : Addr) (kk : ClassId), v_ = none ∧ Fr n0 L_ ∧ Keep h0 h [a] ∧ Exa Z h a "java/lang/String" ∧ Fld Z h a "java/lang/String" "coder" "B" (.int (0 : Int32)) ∧ Fld Z h a "java/lang/String" "value" "[B" (.ref x) ∧ Arv Z h x kk .byte (2 : Int32) [(.int (c0.toInt8.toInt32).toInt8.toInt32), (.int (c1.toInt8.toInt32).toInt8.toInt32)] (.int 0) ∧ h0.size ≤ x
set_option maxRecDepth 65536 in
set_option maxHeartbeats 40000000 in
theorem rm_initV_2 (l : Launch) (Z : State) (a0 : Array Value) (hw : ∀ d ∈ tables_1, d.before a0 Z = true) (ws : List Jvm.Cond) (a : Addr) (ca : Addr) (ka : ClassId) (c0 : Int32) (c1 : Int32) (cs : Int32) (h0 : Heap) (n0 : Nat) (Z0 : n0 ≤ h0.size) (O : Old Z n0 h0) (Scs : Sta Z Z.heap "java/lang/String" "COMPACT_STRINGS" "Z" (.int cs)) (hcs : ¬ (cs = (0 : Int32))) (Ea : Exa Z h0 a "java/lang/String") (Fv : Fld Z h0 a "java/lang/String" "value" "[B" .null) (Fc : Fld Z h0 a "java/lang/String" "coder" "B" (.int (0 : Int32))) (ga : n0 ≤ a) (Vs : Arv Z h0 ca ka .char (2 : Int32) [(.int c0), (.int c1)] (.int 0)) (hc0 : ¬ ((255 : Int32) < c0)) (hc1 : ¬ ((255 : Int32) < c1)) :
    MetFree l (⟨"java/lang/String", "<init>", "([CIILjava/lang/Void;)V"⟩ : MethodName) (head1 (Jvm.Cond.code (⟨"java/lang/String", "<init>", "([CIILjava/lang/Void;)V"⟩ : MethodName) jdk_42_method_149_code 6 none :: ws) ({ frames := 2, cells := 1, slots := 2, locals := 35 } : Room)) (fun a_ U_ => a_ = #[(.ref a), (.ref ca), (.int (0 : Int32)), (.int (2 : Int32)), .null] ∧ Z.Warmed39 U_.vm ∧ U_.heap = h0) (fun _ _ _ _ _ => True) (fun _ U_ o_ V_ => ∃ v_ L_, o_ = .returned v_ ∧ Q_initV_2 Z a ca ka c0 c1 cs h0 n0 v_ V_.heap L_ ∧ FrameEnd U_ o_ V_ L_ ({ frames := 2, cells := 1, slots := 2, locals := 35 } : Room).cells ({ frames := 2, cells := 1, slots := 2, locals := 35 } : Room).slots) := by
  refine MetFree.of_bodySF (plainFor_of_name pn1) hisR ?_
  intro p e s m args below meth c s₁ Bd hml0 hP hK
  obtain ⟨rfl, hZ, hh⟩ := hP
  have hx := Bd.exec
  have hby := Bd.bytes
  have hml : c.maxLocals = 6 := hml0
  have hown : s.vm.findClass "java/lang/String" = some m.cls := findClass_of_methodNamed Bd.named
  have hnm := (name_of_methodNamed Bd.named Bd.method).1
  have X0 : Stand p l e ({ frames := 2, cells := 1, slots := 2, locals := 35 } : Room) s m #[(.ref a), (.ref ca), (.int (0 : Int32)), (.int (2 : Int32)), .null] below meth c s₁ [] 0 0 := Stand.of_body Bd
  have e0 : s₁.heap = h0 := by rw [← hh, Bd.state]; rfl
  have N0 := Fr.nil n0
  have pre0 : own_Go p e below (s₁.setTop (entryFrame m #[(.ref a), (.ref ca), (.int (0 : Int32)), (.int (2 : Int32)), .null] 6)) (s₁.setTop (mkF m 0 #[.val (.ref a), .val (.ref ca), .val (.int (0 : Int32)), .val (.int (2 : Int32)), .val .null, .unset] [])) := fun t_ k_ => castTop (ef__initV_2 m a ca (0 : Int32) (2 : Int32)) k_
  obtain ⟨clV, ArV, -⟩ := id Vs
  have ne_ca_a : ca ≠ a := Ne.symm (ne_arr Ea (hw _ (List.mem_of_getElem? (i := 1) rfl)) ArV)
  have P1 := own_step (C := s₁.setTop (mkF m 1 #[.val (.ref a), .val (.ref ca), .val (.int (0 : Int32)), .val (.int (2 : Int32)), .val .null, .unset] [(.ref a)])) pre0 (by
    intro tt_ kk_
    refine XS.aloadN X0.here hx rfl (hb hby d2_0) rfl rfl ?_
    exact kk_)
  obtain ⟨T2, X2, e2, st2⟩ := initO X0 hx hZ hown (hw _ (List.mem_of_getElem? (i := 11) rfl)) (hw _ (List.mem_of_getElem? (i := 12) rfl)) (hw _ (List.mem_of_getElem? (i := 13) rfl)) e0 (g := (mkF m 1 #[.val (.ref a), .val (.ref ca), .val (.int (0 : Int32)), .val (.int (2 : Int32)), .val .null, .unset] [(.ref a)])) rfl (by rw [hml]; rfl) rfl (hb hby d2_1) (by decide) (W := 0) (by show 2 * 0 + _ ≤ _; exact Nat.le_of_eq rfl) (by decide)
  have P3 := own_step (C := T2.setTop (mkF m 4 #[.val (.ref a), .val (.ref ca), .val (.int (0 : Int32)), .val (.int (2 : Int32)), .val .null, .unset] [])) P1 (fun t_ k_ => st2 t_ k_)
  have P4 := own_step (C := T2.setTop (mkF m 5 #[.val (.ref a), .val (.ref ca), .val (.int (0 : Int32)), .val (.int (2 : Int32)), .val .null, .unset] [(.int (2 : Int32))])) P3 (by
    intro tt_ kk_
    refine XS.iloadN X2.here hx rfl (hb hby d2_4) rfl ?_
    exact kk_)
  have P5 := own_step (C := T2.setTop (mkF m 27 #[.val (.ref a), .val (.ref ca), .val (.int (0 : Int32)), .val (.int (2 : Int32)), .val .null, .unset] [])) P4 (by
    intro tt_ kk_
    refine XS.ifYes X2.here hx rfl (pc0 := 5) (pc' := 27) rfl (hb hby d2_5) rfl ((if0 _ _).trans (feq (by decide : ¬ ((2 : Int32) = (0 : Int32)))).2) (by decide) (by decide) ?_
    exact kk_)
  obtain ⟨T6, X6, e6, st6⟩ := getS2 X2 hx hZ hown (host := "") (Or.inl (hw _ (List.mem_of_getElem? (i := 31) rfl))) Via.refl e2 (Scs.ext O.2) (g := (mkF m 27 #[.val (.ref a), .val (.ref ca), .val (.int (0 : Int32)), .val (.int (2 : Int32)), .val .null, .unset] [])) rfl (hb hby d2_27)
  have P7 := own_step (C := T6.setTop (mkF m 30 #[.val (.ref a), .val (.ref ca), .val (.int (0 : Int32)), .val (.int (2 : Int32)), .val .null, .unset] [(.int cs)])) P5 (fun t_ k_ => st6 t_ k_)
  have P8 := own_step (C := T6.setTop (mkF m 36 #[.val (.ref a), .val (.ref ca), .val (.int (0 : Int32)), .val (.int (2 : Int32)), .val .null, .unset] [(.int (2 : Int32)), (.int (0 : Int32)), (.ref ca)])) P7 (by
    intro tt_ kk_
    refine XS.ifNo X6.here hx rfl (hb hby d2_30) rfl ((if0 _ _).trans (feq hcs).1) ?_
    refine XS.aloadN X6.here hx rfl (hb hby d2_33) rfl rfl ?_
    refine XS.iloadN X6.here hx rfl (hb hby d2_34) rfl ?_
    refine XS.iloadN X6.here hx rfl (hb hby d2_35) rfl ?_
    exact kk_)
  obtain ⟨_, _, ⟨T9, L9, k9, n9⟩, -, X9, ⟨Lc9, hQ9, l9, y9, z9⟩, st9⟩ := Jvm.LawKit.callS X6 hx (y := (⟨"java/lang/StringUTF16", "compress", "([CII)[B"⟩ : MethodName)) hown (mvT hZ (hw _ (List.mem_of_getElem? (i := 32) rfl))) (mvT hZ (hw _ (List.mem_of_getElem? (i := 33) rfl))) (mvT hZ (hw _ (List.mem_of_getElem? (i := 34) rfl))) (mvT hZ (hw _ (List.mem_of_getElem? (i := 35) rfl))) (by decide) (backOf (W := 0) (rm_comp_2 l Z a0 hw [] ca ka c0 c1 h0 n0 Z0 O Vs hc0 hc1) hZ (hw _ (List.mem_of_getElem? (i := 35) rfl)) (hw _ (List.mem_of_getElem? (i := 34) rfl)) (by decide) (by decide)) (g := (mkF m 36 #[.val (.ref a), .val (.ref ca), .val (.int (0 : Int32)), .val (.int (2 : Int32)), .val .null, .unset] [(.int (2 : Int32)), (.int (0 : Int32)), (.ref ca)])) rfl (by rw [hml]; rfl) (argsL := [(.ref ca), (.int (0 : Int32)), (.int (2 : Int32))]) (rest := []) (lenOf pd10 rfl) rfl (by show 2 * 0 + _ ≤ _; exact Nat.le_of_eq rfl) (hb hby d2_36) (fun _ _ => ⟨rfl, e6, (by decide : 0 + 1 ≤ _), (by decide : 0 + 2 ≤ _)⟩)
  dsimp only [Pt.U, Pt.locs, Pt.cells, Pt.slots] at X9 l9 y9 z9 st9 hQ9
  subst l9 y9 z9
  obtain ⟨x9, kk9, rfl, N9q, K9, f10, f11⟩ := hQ9
  have N9 := Fr.app N0 N9q
  have ne_a_x9 : a ≠ x9 := Nat.ne_of_lt (Nat.lt_of_lt_of_le Ea.lt f10)
  have ne_ca_x9 : ca ≠ x9 := Nat.ne_of_lt (Nat.lt_of_lt_of_le Vs.lt f10)
  have g_x9 : n0 ≤ x9 := Nat.le_trans Z0 f10
  have sz_x9 : h0.size ≤ x9 := Nat.le_trans (Keep.refl h0 [a]).1 f10
  have f12 := O.keep K9 all0
  have f13 := Ea.keep K9
  have f14 := Fc.keep K9 nin0
  have f15 := Fv.keep K9 nin0
  have f16 := (Keep.refl h0 [a]).trans K9 all0
  have f17 := Vs.keep K9 nin0
  have Z18 : n0 ≤ T9.heap.size := Nat.le_trans Z0 K9.1
  have P19 := own_step (C := T9.setTop (mkF m 39 #[.val (.ref a), .val (.ref ca), .val (.int (0 : Int32)), .val (.int (2 : Int32)), .val .null, .unset] [(.ref x9)])) P8 (fun t_ k_ => st9 t_ k_)
  have P20 := own_step (C := T9.setTop (mkF m 45 #[.val (.ref a), .val (.ref ca), .val (.int (0 : Int32)), .val (.int (2 : Int32)), .val .null, .val (.ref x9)] [(.int (2 : Int32)), (.ref x9), (.ref a)])) P19 (by
    intro tt_ kk_
    refine XS.astore X9.here hx rfl (hb hby d2_39) rfl rfl (l' := #[.val (.ref a), .val (.ref ca), .val (.int (0 : Int32)), .val (.int (2 : Int32)), .val .null, .val (.ref x9)]) rfl ?_
    refine XS.aloadN X9.here hx rfl (hb hby d2_41) rfl rfl ?_
    refine XS.aload X9.here hx rfl (hb hby d2_42) rfl rfl ?_
    refine XS.iloadN X9.here hx rfl (hb hby d2_44) rfl ?_
    exact kk_)
  obtain ⟨_, _, ⟨T21, L21, k21, n21⟩, -, X21, ⟨Lc21, hQ21, l21, y21, z21⟩, st21⟩ := Jvm.LawKit.callS X9 hx (y := (⟨"java/lang/StringUTF16", "coderFromArrayLen", "([BI)B"⟩ : MethodName)) hown (mvT hZ (hw _ (List.mem_of_getElem? (i := 39) rfl))) (mvT hZ (hw _ (List.mem_of_getElem? (i := 40) rfl))) (mvT hZ (hw _ (List.mem_of_getElem? (i := 34) rfl))) (mvT hZ (hw _ (List.mem_of_getElem? (i := 41) rfl))) (by decide) (backOf (W := 1) (rm_cfa l Z a0 hw [] x9 kk9 (2 : Int32) _ (2 : Int32) (0 : Int32) T9.heap n0 Z18 f11 (by decide +kernel)) hZ (hw _ (List.mem_of_getElem? (i := 41) rfl)) (hw _ (List.mem_of_getElem? (i := 34) rfl)) (by decide) (by decide)) (g := (mkF m 45 #[.val (.ref a), .val (.ref ca), .val (.int (0 : Int32)), .val (.int (2 : Int32)), .val .null, .val (.ref x9)] [(.int (2 : Int32)), (.ref x9), (.ref a)])) rfl (by rw [hml]; rfl) (argsL := [(.ref x9), (.int (2 : Int32))]) (rest := [(.ref a)]) (lenOf pd11 rfl) rfl (by show 2 * 0 + _ ≤ _; exact Nat.le_of_eq rfl) (hb hby d2_45) (fun _ _ => ⟨rfl, rfl, (by decide : 1 + 0 ≤ _), (by decide : 2 + 0 ≤ _)⟩)
  dsimp only [Pt.U, Pt.locs, Pt.cells, Pt.slots] at X21 l21 y21 z21 st21 hQ21
  subst l21 y21 z21
  obtain ⟨rfl, N21q, e21⟩ := hQ21
  have N21 := Fr.app N9 N21q
  have P22 := own_step (C := T21.setTop (mkF m 48 #[.val (.ref a), .val (.ref ca), .val (.int (0 : Int32)), .val (.int (2 : Int32)), .val .null, .val (.ref x9)] [(.int (0 : Int32)), (.ref a)])) P20 (fun t_ k_ => st21 t_ k_)
  obtain ⟨T23, h23, X23, e23, W23, st23⟩ := putFN X21 hx hZ hown (hw _ (List.mem_of_getElem? (i := 21) rfl)) Via.refl e21 f14 f13 (Or.inr ⟨(hw _ (List.mem_of_getElem? (i := 17) rfl)), rfl, hnm⟩) (hw _ (List.mem_of_getElem? (i := 1) rfl)) (ty := .byte) (v' := (.int (0 : Int32).toInt8.toInt32)) (by decide) rfl (fits_nar_byte _) (g := (mkF m 48 #[.val (.ref a), .val (.ref ca), .val (.int (0 : Int32)), .val (.int (2 : Int32)), .val .null, .val (.ref x9)] [(.int (0 : Int32)), (.ref a)])) rfl rfl (hb hby d2_48)
  have f24 := f12.wr W23 ga
  have f25 := f13.wr W23
  have f26 := f14.same W23
  have f27 := f15.other W23 (Or.inr (slot_ne (Or.inr (hw _ (List.mem_of_getElem? (i := 16) rfl))) (Or.inr (hw _ (List.mem_of_getElem? (i := 17) rfl))) (by decide) (t := (.array .byte)) (t' := .byte) (by decide) (by decide)))
  have f28 := f16.wr W23 (Or.inl (List.mem_of_getElem? (i := 0) rfl))
  have f29 := f17.other W23 ne_ca_a
  have f30 := f11.other W23 (Ne.symm ne_a_x9)
  have Z31 : n0 ≤ h23.size := Nat.le_trans Z18 (Keep.of_wr W23).1
  have N23 := Fr.snoc X23 N21 ga
  have P32 := own_step (C := T23.setTop (mkF m 51 #[.val (.ref a), .val (.ref ca), .val (.int (0 : Int32)), .val (.int (2 : Int32)), .val .null, .val (.ref x9)] [])) P22 (fun t_ k_ => st23 t_ k_)
  have P33 := own_step (C := T23.setTop (mkF m 54 #[.val (.ref a), .val (.ref ca), .val (.int (0 : Int32)), .val (.int (2 : Int32)), .val .null, .val (.ref x9)] [(.ref x9), (.ref a)])) P32 (by
    intro tt_ kk_
    refine XS.aloadN X23.here hx rfl (hb hby d2_51) rfl rfl ?_
    refine XS.aload X23.here hx rfl (hb hby d2_52) rfl rfl ?_
    exact kk_)
  obtain ⟨T34, h34, X34, e34, W34, st34⟩ := putF X23 hx hZ hown (host := "") (Or.inl (hw _ (List.mem_of_getElem? (i := 20) rfl))) Via.refl e23 f27 f25 (Or.inr ⟨(hw _ (List.mem_of_getElem? (i := 16) rfl)), rfl, hnm⟩) (hw _ (List.mem_of_getElem? (i := 1) rfl)) (ty := (.array .byte)) (by decide) rfl rfl (g := (mkF m 54 #[.val (.ref a), .val (.ref ca), .val (.int (0 : Int32)), .val (.int (2 : Int32)), .val .null, .val (.ref x9)] [(.ref x9), (.ref a)])) rfl rfl (hb hby d2_54)
  have f35 := f24.wr W34 ga
  have f36 := f25.wr W34
  have f37 := f26.other W34 (Or.inr (slot_ne (Or.inr (hw _ (List.mem_of_getElem? (i := 17) rfl))) (Or.inr (hw _ (List.mem_of_getElem? (i := 16) rfl))) (by decide) (t := .byte) (t' := (.array .byte)) (by decide) (by decide)))
  have f38 := f27.same W34
  have f39 := f28.wr W34 (Or.inl (List.mem_of_getElem? (i := 0) rfl))
  have f40 := f29.other W34 ne_ca_a
  have f41 := f30.other W34 (Ne.symm ne_a_x9)
  have Z42 : n0 ≤ h34.size := Nat.le_trans Z31 (Keep.of_wr W34).1
  have N34 := Fr.snoc X34 N23 ga
  have P43 := own_step (C := T34.setTop (mkF m 57 #[.val (.ref a), .val (.ref ca), .val (.int (0 : Int32)), .val (.int (2 : Int32)), .val .null, .val (.ref x9)] [])) P33 (fun t_ k_ => st34 t_ k_)
  obtain ⟨fs, hr, hrun, hended, hW, hsame⟩ := X34.leave (v := none) (fun _ => rfl)
  refine ⟨_, _, P43 _ ?_, hrun, hended, _, _, rfl, ?_, ⟨_, rfl⟩, hW, hsame.mono (by decide) (by decide)⟩
  · exact X34.returnOut hx Bd.returns (hb hby d2_57) hr
  · show Q_initV_2 Z _ _ _ _ _ _ h0 n0 _ T34.heap _
    rw [e34]
    exact ⟨x9, kk9, rfl, N34, f39, f36, f37, f38, f41, sz_x9⟩
theorem ef__nbf2 (m : MethodId) (x0 : Int32) : entryFrame m #[(.int x0)] 1 = mkF m 0 #[.val (.int x0)] [] := by first | (simp [entryFrame, mkF, argsToLocals, Value.category]; done) | rfl
def Q_nbf2 (Z : State)  (h0 : Heap) (n0 : Nat) (v_ : Option Value) (h : Heap) (L_ : List Loc) : Prop := ∃ (x : Addr) (kk : ClassId), v_ = some (.ref x) ∧ Fr n0 L_ ∧ Keep h0 h [] ∧ h0.size ≤ x ∧ Arv Z h x kk .byte (4 : Int32) [(.int (0 : Int32)), (.int (0 : Int32)), (.int (0 : Int32)), (.int (0 : Int32))] (.int 0)
set_option maxRecDepth 65536 in
set_option maxHeartbeats 40000000 in
theorem rm_nbf2 (l : Launch) (Z : State) (a0 : Array Value) (hw : ∀ d ∈ tables_1, d.before a0 Z = true) (ws : List Jvm.Cond)  (h0 : Heap) (n0 : Nat) (Z0 : n0 ≤ h0.size) (O : Old Z n0 h0) :
    MetFree l (⟨"java/lang/StringUTF16", "newBytesFor", "(I)[B"⟩ : MethodName) (head1 (Jvm.Cond.code (⟨"java/lang/StringUTF16", "newBytesFor", "(I)[B"⟩ : MethodName) jdk_52_method_2_code 1 (some (.array .byte)) :: ws) ({ frames := 1, cells := 1, slots := 4, locals := 12 } : Room)) (fun a_ U_ => a_ = #[(.int (2 : Int32))] ∧ Z.Warmed39 U_.vm ∧ U_.heap = h0) (fun _ _ _ _ _ => True) (fun _ U_ o_ V_ => ∃ v_ L_, o_ = .returned v_ ∧ Q_nbf2 Z  h0 n0 v_ V_.heap L_ ∧ FrameEnd U_ o_ V_ L_ ({ frames := 1, cells := 1, slots := 4, locals := 12 } : Room).cells ({ frames := 1, cells := 1, slots := 4, locals := 12 } : Room).slots) := by
  refine MetFree.of_bodySF (plainFor_of_name pn5) hisR ?_
  intro p e s m args below meth c s₁ Bd hml0 hP hK
  obtain ⟨rfl, hZ, hh⟩ := hP
  have hx := Bd.exec
  have hby := Bd.bytes
  have hml : c.maxLocals = 1 := hml0
  have hown : s.vm.findClass "java/lang/StringUTF16" = some m.cls := findClass_of_methodNamed Bd.named
  have hnm := (name_of_methodNamed Bd.named Bd.method).1
  have X0 : Stand p l e ({ frames := 1, cells := 1, slots := 4, locals := 12 } : Room) s m #[(.int (2 : Int32))] below meth c s₁ [] 0 0 := Stand.of_body Bd
  have e0 : s₁.heap = h0 := by rw [← hh, Bd.state]; rfl
  have N0 := Fr.nil n0
  have pre0 : own_Go p e below (s₁.setTop (entryFrame m #[(.int (2 : Int32))] 1)) (s₁.setTop (mkF m 0 #[.val (.int (2 : Int32))] [])) := fun t_ k_ => castTop (ef__nbf2 m (2 : Int32)) k_
  have P1 := own_step (C := s₁.setTop (mkF m 1 #[.val (.int (2 : Int32))] [(.int (2 : Int32))])) pre0 (by
    intro tt_ kk_
    refine XS.iloadN X0.here hx rfl (hb hby d18_0) rfl ?_
    exact kk_)
  obtain ⟨_, _, ⟨T2, L2, k2, n2⟩, -, X2, ⟨Lc2, hQ2, l2, y2, z2⟩, st2⟩ := Jvm.LawKit.callS X0 hx (y := (⟨"java/lang/StringUTF16", "newBytesLength", "(I)I"⟩ : MethodName)) hown (mvT hZ (hw _ (List.mem_of_getElem? (i := 84) rfl))) (mvT hZ (hw _ (List.mem_of_getElem? (i := 85) rfl))) (mvT hZ (hw _ (List.mem_of_getElem? (i := 34) rfl))) (mvT hZ (hw _ (List.mem_of_getElem? (i := 86) rfl))) (by decide) (backOf (W := 0) (rm_nbl l Z a0 hw [] (2 : Int32) (4 : Int32) h0 n0 Z0 (by decide) (by decide) (by decide)) hZ (hw _ (List.mem_of_getElem? (i := 86) rfl)) (hw _ (List.mem_of_getElem? (i := 34) rfl)) (by decide) (by decide)) (g := (mkF m 1 #[.val (.int (2 : Int32))] [(.int (2 : Int32))])) rfl (by rw [hml]; rfl) (argsL := [(.int (2 : Int32))]) (rest := []) (lenOf pd12 rfl) rfl (by show 2 * 0 + _ ≤ _; exact Nat.le_of_eq rfl) (hb hby d18_1) (fun _ _ => ⟨rfl, e0, (by decide : 0 + 0 ≤ _), (by decide : 0 + 0 ≤ _)⟩)
  dsimp only [Pt.U, Pt.locs, Pt.cells, Pt.slots] at X2 l2 y2 z2 st2 hQ2
  subst l2 y2 z2
  obtain ⟨rfl, N2q, e2⟩ := hQ2
  have N2 := Fr.app N0 N2q
  have P3 := own_step (C := T2.setTop (mkF m 4 #[.val (.int (2 : Int32))] [(.int (4 : Int32))])) P1 (fun t_ k_ => st2 t_ k_)
  obtain ⟨T4, h4, k4, X4, e4, E4, A4, st4⟩ := newP X2 hx hZ (hw _ (List.mem_of_getElem? (i := 15) rfl)) e2 (g := (mkF m 4 #[.val (.int (2 : Int32))] [(.int (4 : Int32))])) rfl (hb hby d18_4) rfl (by decide) (cap := 4) (by decide) (by decide) (by decide) (by decide)
  obtain ⟨b4, g4⟩ : ∃ z, z = h0.size := ⟨_, rfl⟩
  rw [← g4] at A4 st4
  have g_b4 : n0 ≤ b4 := Nat.le_trans Z0 (Nat.le_of_eq g4.symm)
  have sz_b4 : h0.size ≤ b4 := Nat.le_trans (Keep.refl h0 []).1 (Nat.le_of_eq g4.symm)
  have f5 := O.ext E4
  have f6 := (Keep.refl h0 []).ext E4
  have Z7 : n0 ≤ h4.size := Nat.le_trans Z0 E4.1
  have V4 : Arv Z h4 b4 k4 .byte (4 : Int32) [(.int (0 : Int32)), (.int (0 : Int32)), (.int (0 : Int32)), (.int (0 : Int32))] (.int (0 : Int32)) := (Arv.new A4 (by decide)).pad (pad_rep [] _ 4)
  have P8 := own_step (C := T4.setTop (mkF m 6 #[.val (.int (2 : Int32))] [(.ref b4)])) P3 (fun t_ k_ => st4 t_ k_)
  obtain ⟨fs, hr, hrun, hended, hW, hsame⟩ := X4.leave (v := some (.ref b4)) (fun h => by rw [Bd.returns] at h; cases h)
  refine ⟨_, _, P8 _ ?_, hrun, hended, _, _, rfl, ?_, ⟨_, rfl⟩, hW, hsame.mono (by decide) (by decide)⟩
  · jvm_step X4.here [X4.here.top, hx, (hb hby d18_6), X4.method', Bd.returns, Value.isRef, FieldType.isReference]
    first | (intro acts; rw [hr _ acts rfl rfl rfl]) | rw [hr _ _ rfl rfl rfl]
    exact Steps.refl _
  · show Q_nbf2 Z  h0 n0 _ T4.heap _
    rw [e4]
    exact ⟨b4, k4, rfl, N2, f6, sz_b4, V4⟩
theorem ef__toBU2 (m : MethodId) (x0 : Addr) (x1 : Int32) (x2 : Int32) : entryFrame m #[(.ref x0), (.int x1), (.int x2)] 5 = mkF m 0 #[.val (.ref x0), .val (.int x1), .val (.int x2), .unset, .unset] [] := by first | (simp [entryFrame, mkF, argsToLocals, Value.category]; done) | rfl
def Q_toBU2 (Z : State) (a : Addr) (ka : ClassId) (c0 : Int32) (c1 : Int32) (h0 : Heap) (n0 : Nat) (v_ : Option Value) (h : Heap) (L_ : List Loc) : Prop := ∃ (x : Addr) (kk : ClassId), v_ = some (.ref x) ∧ Fr n0 L_ ∧ Keep h0 h [] ∧ h0.size ≤ x ∧ Arv Z h x kk .byte (4 : Int32) [(.int (own_b0 c0)), (.int (own_b1 c0)), (.int (own_b0 c1)), (.int (own_b1 c1))] (.int 0)
set_option maxRecDepth 65536 in
set_option maxHeartbeats 40000000 in
theorem rm_toBU2 (l : Launch) (Z : State) (a0 : Array Value) (hw : ∀ d ∈ tables_1, d.before a0 Z = true) (ws : List Jvm.Cond) (a : Addr) (ka : ClassId) (c0 : Int32) (c1 : Int32) (h0 : Heap) (n0 : Nat) (Z0 : n0 ≤ h0.size) (O : Old Z n0 h0) (Sad : Sta Z Z.heap "java/lang/StringUTF16" "$assertionsDisabled" "Z" (.int (1 : Int32))) (Shi : Sta Z Z.heap "java/lang/StringUTF16" "HI_BYTE_SHIFT" "I" (.int (0 : Int32))) (Slo : Sta Z Z.heap "java/lang/StringUTF16" "LO_BYTE_SHIFT" "I" (.int (8 : Int32))) (Va : Arv Z h0 a ka .char (2 : Int32) [(.int c0), (.int c1)] (.int 0)) :
    MetFree l (⟨"java/lang/StringUTF16", "toBytes", "([CII)[B"⟩ : MethodName) (head1 (Jvm.Cond.code (⟨"java/lang/StringUTF16", "toBytes", "([CII)[B"⟩ : MethodName) jdk_52_method_14_code 5 (some (.array .byte)) :: ws) ({ frames := 2, cells := 1, slots := 4, locals := 24 } : Room)) (fun a_ U_ => a_ = #[(.ref a), (.int (0 : Int32)), (.int (2 : Int32))] ∧ Z.Warmed39 U_.vm ∧ U_.heap = h0) (fun _ _ _ _ _ => True) (fun _ U_ o_ V_ => ∃ v_ L_, o_ = .returned v_ ∧ Q_toBU2 Z a ka c0 c1 h0 n0 v_ V_.heap L_ ∧ FrameEnd U_ o_ V_ L_ ({ frames := 2, cells := 1, slots := 4, locals := 24 } : Room).cells ({ frames := 2, cells := 1, slots := 4, locals := 24 } : Room).slots) := by
  refine MetFree.of_bodySF (plainFor_of_name pn5) hisR ?_
  intro p e s m args below meth c s₁ Bd hml0 hP hK
  obtain ⟨rfl, hZ, hh⟩ := hP
  have hx := Bd.exec
  have hby := Bd.bytes
  have hml : c.maxLocals = 5 := hml0
  have hown : s.vm.findClass "java/lang/StringUTF16" = some m.cls := findClass_of_methodNamed Bd.named
  have hnm := (name_of_methodNamed Bd.named Bd.method).1
  have X0 : Stand p l e ({ frames := 2, cells := 1, slots := 4, locals := 24 } : Room) s m #[(.ref a), (.int (0 : Int32)), (.int (2 : Int32))] below meth c s₁ [] 0 0 := Stand.of_body Bd
  have e0 : s₁.heap = h0 := by rw [← hh, Bd.state]; rfl
  have N0 := Fr.nil n0
  have pre0 : own_Go p e below (s₁.setTop (entryFrame m #[(.ref a), (.int (0 : Int32)), (.int (2 : Int32))] 5)) (s₁.setTop (mkF m 0 #[.val (.ref a), .val (.int (0 : Int32)), .val (.int (2 : Int32)), .unset, .unset] [])) := fun t_ k_ => castTop (ef__toBU2 m a (0 : Int32) (2 : Int32)) k_
  have P1 := own_step (C := s₁.setTop (mkF m 1 #[.val (.ref a), .val (.int (0 : Int32)), .val (.int (2 : Int32)), .unset, .unset] [(.int (2 : Int32))])) pre0 (by
    intro tt_ kk_
    refine XS.iloadN X0.here hx rfl (hb hby d17_0) rfl ?_
    exact kk_)
  obtain ⟨_, _, ⟨T2, L2, k2, n2⟩, -, X2, ⟨Lc2, hQ2, l2, y2, z2⟩, st2⟩ := Jvm.LawKit.callS X0 hx (y := (⟨"java/lang/StringUTF16", "newBytesFor", "(I)[B"⟩ : MethodName)) hown (mvT hZ (hw _ (List.mem_of_getElem? (i := 81) rfl))) (mvT hZ (hw _ (List.mem_of_getElem? (i := 82) rfl))) (mvT hZ (hw _ (List.mem_of_getElem? (i := 34) rfl))) (mvT hZ (hw _ (List.mem_of_getElem? (i := 83) rfl))) (by decide) (backOf (W := 0) (rm_nbf2 l Z a0 hw []  h0 n0 Z0 O) hZ (hw _ (List.mem_of_getElem? (i := 83) rfl)) (hw _ (List.mem_of_getElem? (i := 34) rfl)) (by decide) (by decide)) (g := (mkF m 1 #[.val (.ref a), .val (.int (0 : Int32)), .val (.int (2 : Int32)), .unset, .unset] [(.int (2 : Int32))])) rfl (by rw [hml]; rfl) (argsL := [(.int (2 : Int32))]) (rest := []) (lenOf pd13 rfl) rfl (by show 2 * 0 + _ ≤ _; exact Nat.le_of_eq rfl) (hb hby d17_1) (fun _ _ => ⟨rfl, e0, (by decide : 0 + 1 ≤ _), (by decide : 0 + 4 ≤ _)⟩)
  dsimp only [Pt.U, Pt.locs, Pt.cells, Pt.slots] at X2 l2 y2 z2 st2 hQ2
  subst l2 y2 z2
  obtain ⟨x2, kk2, rfl, N2q, K2, f3, f4⟩ := hQ2
  have N2 := Fr.app N0 N2q
  have ne_a_x2 : a ≠ x2 := Nat.ne_of_lt (Nat.lt_of_lt_of_le Va.lt f3)
  have g_x2 : n0 ≤ x2 := Nat.le_trans Z0 f3
  have sz_x2 : h0.size ≤ x2 := Nat.le_trans (Keep.refl h0 []).1 f3
  have f5 := O.keep K2 all0
  have f6 := (Keep.refl h0 []).trans K2 all0
  have f7 := Va.keep K2 nin0
  have Z8 : n0 ≤ T2.heap.size := Nat.le_trans Z0 K2.1
  have P9 := own_step (C := T2.setTop (mkF m 4 #[.val (.ref a), .val (.int (0 : Int32)), .val (.int (2 : Int32)), .unset, .unset] [(.ref x2)])) P1 (fun t_ k_ => st2 t_ k_)
  have P10 := own_step (C := T2.setTop (mkF m 11 #[.val (.ref a), .val (.int (0 : Int32)), .val (.int (2 : Int32)), .val (.ref x2), .val (.int (0 : Int32))] [(.int (2 : Int32)), (.int (0 : Int32))])) P9 (by
    intro tt_ kk_
    refine XS.astoreN X2.here hx rfl (hb hby d17_4) rfl rfl (l' := #[.val (.ref a), .val (.int (0 : Int32)), .val (.int (2 : Int32)), .val (.ref x2), .unset]) rfl ?_
    refine XS.iconst X2.here hx rfl (hb hby d17_5) ?_
    refine XS.istore X2.here hx rfl (hb hby d17_6) rfl (l' := #[.val (.ref a), .val (.int (0 : Int32)), .val (.int (2 : Int32)), .val (.ref x2), .val (.int (0 : Int32))]) rfl ?_
    refine XS.iload X2.here hx rfl (hb hby d17_8) rfl ?_
    refine XS.iloadN X2.here hx rfl (hb hby d17_10) rfl ?_
    exact kk_)
  have P11 := own_step (C := T2.setTop (mkF m 19 #[.val (.ref a), .val (.int (0 : Int32)), .val (.int (2 : Int32)), .val (.ref x2), .val (.int (0 : Int32))] [(.int (0 : Int32)), (.ref a), (.int (0 : Int32)), (.ref x2)])) P10 (by
    intro tt_ kk_
    refine XS.icmpNo X2.here hx rfl (hb hby d17_11) rfl (tlt (by decide : (0 : Int32) < (2 : Int32))).2.1 ?_
    refine XS.aloadN X2.here hx rfl (hb hby d17_14) rfl rfl ?_
    refine XS.iload X2.here hx rfl (hb hby d17_15) rfl ?_
    refine XS.aloadN X2.here hx rfl (hb hby d17_17) rfl rfl ?_
    refine XS.iloadN X2.here hx rfl (hb hby d17_18) rfl ?_
    exact kk_)
  obtain ⟨cl12, Ar12, q12, S12, M12, H12, G12⟩ := id f7
  have hin12 := inb_of S12 (by decide : ¬ (0 : Int32) < 0 ∧ (0 : Int32) < (2 : Int32))
  have hat12 := Has.at H12 hin12 (v := .int c0) rfl
  have P13 := own_step (C := T2.setTop (mkF m 20 #[.val (.ref a), .val (.int (0 : Int32)), .val (.int (2 : Int32)), .val (.ref x2), .val (.int (0 : Int32))] [(.int c0), (.int (0 : Int32)), (.ref x2)])) P11 (by
    intro tt_ kk_
    refine X2.caload hx (j := (0 : Int32)) (v := (.int c0)) Ar12.1 (State.isArrayOf_alike hZ.alike Ar12.2.1) Ar12.2.2 hin12 hat12 (g := (mkF m 19 #[.val (.ref a), .val (.int (0 : Int32)), .val (.int (2 : Int32)), .val (.ref x2), .val (.int (0 : Int32))] [(.int (0 : Int32)), (.ref a), (.int (0 : Int32)), (.ref x2)])) rfl rfl (hb hby d17_19) _ ?_
    exact kk_)
  obtain ⟨_, _, ⟨T14, L14, k14, n14⟩, -, X14, ⟨Lc14, hQ14, l14, y14, z14⟩, st14⟩ := Jvm.LawKit.callS X2 hx (y := (⟨"java/lang/StringUTF16", "putChar", "([BII)V"⟩ : MethodName)) hown (mvT hZ (hw _ (List.mem_of_getElem? (i := 88) rfl))) (mvT hZ (hw _ (List.mem_of_getElem? (i := 89) rfl))) (mvT hZ (hw _ (List.mem_of_getElem? (i := 34) rfl))) (mvT hZ (hw _ (List.mem_of_getElem? (i := 90) rfl))) (by decide) (backOf (W := 0) (rm_putC l Z a0 hw [] x2 kk2 (4 : Int32) _ (0 : Int32) c0 0 1 T2.heap n0 Z8 f5 Sad Shi Slo f4 g_x2 (by decide) (by decide) (by decide) (by decide) (Nat.le_of_ble_eq_true rfl) (Nat.le_of_ble_eq_true rfl)) hZ (hw _ (List.mem_of_getElem? (i := 90) rfl)) (hw _ (List.mem_of_getElem? (i := 34) rfl)) (by decide) (by decide)) (g := (mkF m 20 #[.val (.ref a), .val (.int (0 : Int32)), .val (.int (2 : Int32)), .val (.ref x2), .val (.int (0 : Int32))] [(.int c0), (.int (0 : Int32)), (.ref x2)])) rfl (by rw [hml]; rfl) (argsL := [(.ref x2), (.int (0 : Int32)), (.int c0)]) (rest := []) (lenOf pd14 rfl) rfl (by show 2 * 0 + _ ≤ _; exact Nat.le_of_eq rfl) (hb hby d17_20) (fun _ _ => ⟨rfl, rfl, (by decide : 1 + 0 ≤ _), (by decide : 4 + 0 ≤ _)⟩)
  dsimp only [Pt.U, Pt.locs, Pt.cells, Pt.slots] at X14 l14 y14 z14 st14 hQ14
  subst l14 y14 z14
  obtain ⟨rfl, N14q, K14, f15⟩ := hQ14
  have N14 := Fr.app N2 N14q
  have f16 := f5.keep K14 (allS g_x2 all0)
  have f17 := f6.trans K14 (allS (Or.inr sz_x2) all0)
  have f18 := f7.keep K14 (ninS ne_a_x2 nin0)
  have Z20 : n0 ≤ T14.heap.size := Nat.le_trans Z8 K14.1
  have P21 := own_step (C := T14.setTop (mkF m 23 #[.val (.ref a), .val (.int (0 : Int32)), .val (.int (2 : Int32)), .val (.ref x2), .val (.int (0 : Int32))] [])) P13 (fun t_ k_ => st14 t_ k_)
  have f22 : Arv Z T14.heap x2 kk2 .byte (4 : Int32) [(.int (own_b0 c0)), (.int (own_b1 c0)), (.int (0 : Int32)), (.int (0 : Int32))] (.int 0) := f15
  have P23 := own_step (C := T14.setTop (mkF m 11 #[.val (.ref a), .val (.int (1 : Int32)), .val (.int (2 : Int32)), .val (.ref x2), .val (.int (1 : Int32))] [(.int (2 : Int32)), (.int (1 : Int32))])) P21 (by
    intro tt_ kk_
    refine XS.iinc X14.here hx rfl (hb hby d17_23) rfl (l' := #[.val (.ref a), .val (.int (1 : Int32)), .val (.int (2 : Int32)), .val (.ref x2), .val (.int (0 : Int32))]) rfl ?_
    show Steps p.tables e below (T14.setTop (mkF m 26 #[.val (.ref a), .val (.int (1 : Int32)), .val (.int (2 : Int32)), .val (.ref x2), .val (.int (0 : Int32))] [])) _
    refine XS.iinc X14.here hx rfl (hb hby d17_26) rfl (l' := #[.val (.ref a), .val (.int (1 : Int32)), .val (.int (2 : Int32)), .val (.ref x2), .val (.int (1 : Int32))]) rfl ?_
    show Steps p.tables e below (T14.setTop (mkF m 29 #[.val (.ref a), .val (.int (1 : Int32)), .val (.int (2 : Int32)), .val (.ref x2), .val (.int (1 : Int32))] [])) _
    refine XS.goto X14.here hx rfl (pc0 := 29) (pc' := 8) rfl (hb hby d17_29) (by decide) (by decide) ?_
    refine XS.iload X14.here hx rfl (hb hby d17_8) rfl ?_
    refine XS.iloadN X14.here hx rfl (hb hby d17_10) rfl ?_
    exact kk_)
  have P24 := own_step (C := T14.setTop (mkF m 19 #[.val (.ref a), .val (.int (1 : Int32)), .val (.int (2 : Int32)), .val (.ref x2), .val (.int (1 : Int32))] [(.int (1 : Int32)), (.ref a), (.int (1 : Int32)), (.ref x2)])) P23 (by
    intro tt_ kk_
    refine XS.icmpNo X14.here hx rfl (hb hby d17_11) rfl (tlt (by decide : (1 : Int32) < (2 : Int32))).2.1 ?_
    refine XS.aloadN X14.here hx rfl (hb hby d17_14) rfl rfl ?_
    refine XS.iload X14.here hx rfl (hb hby d17_15) rfl ?_
    refine XS.aloadN X14.here hx rfl (hb hby d17_17) rfl rfl ?_
    refine XS.iloadN X14.here hx rfl (hb hby d17_18) rfl ?_
    exact kk_)
  obtain ⟨cl25, Ar25, q25, S25, M25, H25, G25⟩ := id f18
  have hin25 := inb_of S25 (by decide : ¬ (1 : Int32) < 0 ∧ (1 : Int32) < (2 : Int32))
  have hat25 := Has.at H25 hin25 (v := .int c1) rfl
  have P26 := own_step (C := T14.setTop (mkF m 20 #[.val (.ref a), .val (.int (1 : Int32)), .val (.int (2 : Int32)), .val (.ref x2), .val (.int (1 : Int32))] [(.int c1), (.int (1 : Int32)), (.ref x2)])) P24 (by
    intro tt_ kk_
    refine X14.caload hx (j := (1 : Int32)) (v := (.int c1)) Ar25.1 (State.isArrayOf_alike hZ.alike Ar25.2.1) Ar25.2.2 hin25 hat25 (g := (mkF m 19 #[.val (.ref a), .val (.int (1 : Int32)), .val (.int (2 : Int32)), .val (.ref x2), .val (.int (1 : Int32))] [(.int (1 : Int32)), (.ref a), (.int (1 : Int32)), (.ref x2)])) rfl rfl (hb hby d17_19) _ ?_
    exact kk_)
  obtain ⟨_, _, ⟨T27, L27, k27, n27⟩, -, X27, ⟨Lc27, hQ27, l27, y27, z27⟩, st27⟩ := Jvm.LawKit.callS X14 hx (y := (⟨"java/lang/StringUTF16", "putChar", "([BII)V"⟩ : MethodName)) hown (mvT hZ (hw _ (List.mem_of_getElem? (i := 88) rfl))) (mvT hZ (hw _ (List.mem_of_getElem? (i := 89) rfl))) (mvT hZ (hw _ (List.mem_of_getElem? (i := 34) rfl))) (mvT hZ (hw _ (List.mem_of_getElem? (i := 90) rfl))) (by decide) (backOf (W := 0) (rm_putC l Z a0 hw [] x2 kk2 (4 : Int32) _ (1 : Int32) c1 2 3 T14.heap n0 Z20 f16 Sad Shi Slo f22 g_x2 (by decide) (by decide) (by decide) (by decide) (Nat.le_of_ble_eq_true rfl) (Nat.le_of_ble_eq_true rfl)) hZ (hw _ (List.mem_of_getElem? (i := 90) rfl)) (hw _ (List.mem_of_getElem? (i := 34) rfl)) (by decide) (by decide)) (g := (mkF m 20 #[.val (.ref a), .val (.int (1 : Int32)), .val (.int (2 : Int32)), .val (.ref x2), .val (.int (1 : Int32))] [(.int c1), (.int (1 : Int32)), (.ref x2)])) rfl (by rw [hml]; rfl) (argsL := [(.ref x2), (.int (1 : Int32)), (.int c1)]) (rest := []) (lenOf pd14 rfl) rfl (by show 2 * 0 + _ ≤ _; exact Nat.le_of_eq rfl) (hb hby d17_20) (fun _ _ => ⟨rfl, rfl, (by decide : 1 + 0 ≤ _), (by decide : 4 + 0 ≤ _)⟩)
  dsimp only [Pt.U, Pt.locs, Pt.cells, Pt.slots] at X27 l27 y27 z27 st27 hQ27
  subst l27 y27 z27
  obtain ⟨rfl, N27q, K27, f28⟩ := hQ27
  have N27 := Fr.app N14 N27q
  have f29 := f16.keep K27 (allS g_x2 all0)
  have f30 := f17.trans K27 (allS (Or.inr sz_x2) all0)
  have f31 := f18.keep K27 (ninS ne_a_x2 nin0)
  have Z33 : n0 ≤ T27.heap.size := Nat.le_trans Z20 K27.1
  have P34 := own_step (C := T27.setTop (mkF m 23 #[.val (.ref a), .val (.int (1 : Int32)), .val (.int (2 : Int32)), .val (.ref x2), .val (.int (1 : Int32))] [])) P26 (fun t_ k_ => st27 t_ k_)
  have f35 : Arv Z T27.heap x2 kk2 .byte (4 : Int32) [(.int (own_b0 c0)), (.int (own_b1 c0)), (.int (own_b0 c1)), (.int (own_b1 c1))] (.int 0) := f28
  have P36 := own_step (C := T27.setTop (mkF m 11 #[.val (.ref a), .val (.int (2 : Int32)), .val (.int (2 : Int32)), .val (.ref x2), .val (.int (2 : Int32))] [(.int (2 : Int32)), (.int (2 : Int32))])) P34 (by
    intro tt_ kk_
    refine XS.iinc X27.here hx rfl (hb hby d17_23) rfl (l' := #[.val (.ref a), .val (.int (2 : Int32)), .val (.int (2 : Int32)), .val (.ref x2), .val (.int (1 : Int32))]) rfl ?_
    show Steps p.tables e below (T27.setTop (mkF m 26 #[.val (.ref a), .val (.int (2 : Int32)), .val (.int (2 : Int32)), .val (.ref x2), .val (.int (1 : Int32))] [])) _
    refine XS.iinc X27.here hx rfl (hb hby d17_26) rfl (l' := #[.val (.ref a), .val (.int (2 : Int32)), .val (.int (2 : Int32)), .val (.ref x2), .val (.int (2 : Int32))]) rfl ?_
    show Steps p.tables e below (T27.setTop (mkF m 29 #[.val (.ref a), .val (.int (2 : Int32)), .val (.int (2 : Int32)), .val (.ref x2), .val (.int (2 : Int32))] [])) _
    refine XS.goto X27.here hx rfl (pc0 := 29) (pc' := 8) rfl (hb hby d17_29) (by decide) (by decide) ?_
    refine XS.iload X27.here hx rfl (hb hby d17_8) rfl ?_
    refine XS.iloadN X27.here hx rfl (hb hby d17_10) rfl ?_
    exact kk_)
  have P37 := own_step (C := T27.setTop (mkF m 33 #[.val (.ref a), .val (.int (2 : Int32)), .val (.int (2 : Int32)), .val (.ref x2), .val (.int (2 : Int32))] [(.ref x2)])) P36 (by
    intro tt_ kk_
    refine XS.icmpYes X27.here hx rfl (pc0 := 11) (pc' := 32) rfl (hb hby d17_11) rfl (flt (by decide : ¬ ((2 : Int32) < (2 : Int32)))).2.1 (by decide) (by decide) ?_
    refine XS.aloadN X27.here hx rfl (hb hby d17_32) rfl rfl ?_
    exact kk_)
  obtain ⟨fs, hr, hrun, hended, hW, hsame⟩ := X27.leave (v := some (.ref x2)) (fun h => by rw [Bd.returns] at h; cases h)
  refine ⟨_, _, P37 _ ?_, hrun, hended, _, _, rfl, ?_, ⟨_, rfl⟩, hW, hsame.mono (by decide) (by decide)⟩
  · jvm_step X27.here [X27.here.top, hx, (hb hby d17_33), X27.method', Bd.returns, Value.isRef, FieldType.isReference]
    first | (intro acts; rw [hr _ acts rfl rfl rfl]) | rw [hr _ _ rfl rfl rfl]
    exact Steps.refl _
  · show Q_toBU2 Z _ _ _ _ h0 n0 _ T27.heap _
    exact ⟨x2, kk2, rfl, N27, f30, sz_x2, f35⟩
theorem ef__compU_2 (m : MethodId) (x0 : Addr) (x1 : Int32) (x2 : Int32) : entryFrame m #[(.ref x0), (.int x1), (.int x2)] 6 = mkF m 0 #[.val (.ref x0), .val (.int x1), .val (.int x2), .unset, .unset, .unset] [] := by first | (simp [entryFrame, mkF, argsToLocals, Value.category]; done) | rfl
def Q_compU_2 (Z : State) (a : Addr) (ka : ClassId) (c0 : Int32) (c1 : Int32) (h0 : Heap) (n0 : Nat) (v_ : Option Value) (h : Heap) (L_ : List Loc) : Prop := ∃ (x : Addr) (kk : ClassId), v_ = some (.ref x) ∧ Fr n0 L_ ∧ Keep h0 h [] ∧ h0.size ≤ x ∧ Arv Z h x kk .byte (4 : Int32) [(.int (own_b0 c0)), (.int (own_b1 c0)), (.int (own_b0 c1)), (.int (own_b1 c1))] (.int 0)
set_option maxRecDepth 65536 in
set_option maxHeartbeats 40000000 in
theorem rm_compU_2 (l : Launch) (Z : State) (a0 : Array Value) (hw : ∀ d ∈ tables_1, d.before a0 Z = true) (ws : List Jvm.Cond) (a : Addr) (ka : ClassId) (c0 : Int32) (c1 : Int32) (h0 : Heap) (n0 : Nat) (Z0 : n0 ≤ h0.size) (O : Old Z n0 h0) (Sad : Sta Z Z.heap "java/lang/StringUTF16" "$assertionsDisabled" "Z" (.int (1 : Int32))) (Shi : Sta Z Z.heap "java/lang/StringUTF16" "HI_BYTE_SHIFT" "I" (.int (0 : Int32))) (Slo : Sta Z Z.heap "java/lang/StringUTF16" "LO_BYTE_SHIFT" "I" (.int (8 : Int32))) (Va : Arv Z h0 a ka .char (2 : Int32) [(.int c0), (.int c1)] (.int 0)) (hU : (255 : Int32) < c0 ∨ (255 : Int32) < c1) (gc0 : own_C c0) (gc1 : own_C c1) :
    MetFree l (⟨"java/lang/StringUTF16", "compress", "([CII)[B"⟩ : MethodName) (head1 (Jvm.Cond.code (⟨"java/lang/StringUTF16", "compress", "([CII)[B"⟩ : MethodName) jdk_52_method_16_code 6 (some (.array .byte)) :: ws) ({ frames := 3, cells := 2, slots := 6, locals := 40 } : Room)) (fun a_ U_ => a_ = #[(.ref a), (.int (0 : Int32)), (.int (2 : Int32))] ∧ Z.Warmed39 U_.vm ∧ U_.heap = h0) (fun _ _ _ _ _ => True) (fun _ U_ o_ V_ => ∃ v_ L_, o_ = .returned v_ ∧ Q_compU_2 Z a ka c0 c1 h0 n0 v_ V_.heap L_ ∧ FrameEnd U_ o_ V_ L_ ({ frames := 3, cells := 2, slots := 6, locals := 40 } : Room).cells ({ frames := 3, cells := 2, slots := 6, locals := 40 } : Room).slots) := by
  refine MetFree.of_bodySF (plainFor_of_name pn5) hisR ?_
  intro p e s m args below meth c s₁ Bd hml0 hP hK
  obtain ⟨rfl, hZ, hh⟩ := hP
  have hx := Bd.exec
  have hby := Bd.bytes
  have hml : c.maxLocals = 6 := hml0
  have hown : s.vm.findClass "java/lang/StringUTF16" = some m.cls := findClass_of_methodNamed Bd.named
  have hnm := (name_of_methodNamed Bd.named Bd.method).1
  have X0 : Stand p l e ({ frames := 3, cells := 2, slots := 6, locals := 40 } : Room) s m #[(.ref a), (.int (0 : Int32)), (.int (2 : Int32))] below meth c s₁ [] 0 0 := Stand.of_body Bd
  have e0 : s₁.heap = h0 := by rw [← hh, Bd.state]; rfl
  have N0 := Fr.nil n0
  have pre0 : own_Go p e below (s₁.setTop (entryFrame m #[(.ref a), (.int (0 : Int32)), (.int (2 : Int32))] 6)) (s₁.setTop (mkF m 0 #[.val (.ref a), .val (.int (0 : Int32)), .val (.int (2 : Int32)), .unset, .unset, .unset] [])) := fun t_ k_ => castTop (ef__compU_2 m a (0 : Int32) (2 : Int32)) k_
  have P1 := own_step (C := s₁.setTop (mkF m 1 #[.val (.ref a), .val (.int (0 : Int32)), .val (.int (2 : Int32)), .unset, .unset, .unset] [(.int (2 : Int32))])) pre0 (by
    intro tt_ kk_
    refine XS.iloadN X0.here hx rfl (hb hby d6_0) rfl ?_
    exact kk_)
  obtain ⟨T2, h2, k2, X2, e2, E2, A2, st2⟩ := newP X0 hx hZ (hw _ (List.mem_of_getElem? (i := 15) rfl)) e0 (g := (mkF m 1 #[.val (.ref a), .val (.int (0 : Int32)), .val (.int (2 : Int32)), .unset, .unset, .unset] [(.int (2 : Int32))])) rfl (hb hby d6_1) rfl (by decide) (cap := 2) (by decide) (by decide) (by decide) (by decide)
  obtain ⟨b2, g2⟩ : ∃ z, z = h0.size := ⟨_, rfl⟩
  rw [← g2] at A2 st2
  have ne_a_b2 : a ≠ b2 := Nat.ne_of_lt (Nat.lt_of_lt_of_le Va.lt (Nat.le_of_eq g2.symm))
  have g_b2 : n0 ≤ b2 := Nat.le_trans Z0 (Nat.le_of_eq g2.symm)
  have sz_b2 : h0.size ≤ b2 := Nat.le_trans (Keep.refl h0 []).1 (Nat.le_of_eq g2.symm)
  have f3 := O.ext E2
  have f4 := (Keep.refl h0 []).ext E2
  have f5 := Va.ext E2
  have Z6 : n0 ≤ h2.size := Nat.le_trans Z0 E2.1
  have V2 : Arv Z h2 b2 k2 .byte (2 : Int32) [(.int (0 : Int32)), (.int (0 : Int32))] (.int (0 : Int32)) := (Arv.new A2 (by decide)).pad (pad_rep [] _ 2)
  have P7 := own_step (C := T2.setTop (mkF m 3 #[.val (.ref a), .val (.int (0 : Int32)), .val (.int (2 : Int32)), .unset, .unset, .unset] [(.ref b2)])) P1 (fun t_ k_ => st2 t_ k_)
  have P8 := own_step (C := T2.setTop (mkF m 9 #[.val (.ref a), .val (.int (0 : Int32)), .val (.int (2 : Int32)), .val (.ref b2), .unset, .unset] [(.int (2 : Int32)), (.int (0 : Int32)), (.ref b2), (.int (0 : Int32)), (.ref a)])) P7 (by
    intro tt_ kk_
    refine XS.astoreN X2.here hx rfl (hb hby d6_3) rfl rfl (l' := #[.val (.ref a), .val (.int (0 : Int32)), .val (.int (2 : Int32)), .val (.ref b2), .unset, .unset]) rfl ?_
    refine XS.aloadN X2.here hx rfl (hb hby d6_4) rfl rfl ?_
    refine XS.iloadN X2.here hx rfl (hb hby d6_5) rfl ?_
    refine XS.aloadN X2.here hx rfl (hb hby d6_6) rfl rfl ?_
    refine XS.iconst X2.here hx rfl (hb hby d6_7) ?_
    refine XS.iloadN X2.here hx rfl (hb hby d6_8) rfl ?_
    exact kk_)
  obtain ⟨_, _, ⟨T9, L9, k9, n9⟩, -, X9, ⟨Lc9, hQ9, l9, y9, z9⟩, st9⟩ := Jvm.LawKit.callS X2 hx (y := (⟨"java/lang/StringUTF16", "compress", "([CI[BII)I"⟩ : MethodName)) hown (mvT hZ (hw _ (List.mem_of_getElem? (i := 36) rfl))) (mvT hZ (hw _ (List.mem_of_getElem? (i := 37) rfl))) (mvT hZ (hw _ (List.mem_of_getElem? (i := 34) rfl))) (mvT hZ (hw _ (List.mem_of_getElem? (i := 38) rfl))) (by decide) (backOf (W := 0) (rm_comp2U_2 l Z a0 hw [] a ka b2 k2 c0 c1 h2 n0 Z6 f3 f5 V2 ne_a_b2 g_b2) hZ (hw _ (List.mem_of_getElem? (i := 38) rfl)) (hw _ (List.mem_of_getElem? (i := 34) rfl)) (by decide) (by decide)) (g := (mkF m 9 #[.val (.ref a), .val (.int (0 : Int32)), .val (.int (2 : Int32)), .val (.ref b2), .unset, .unset] [(.int (2 : Int32)), (.int (0 : Int32)), (.ref b2), (.int (0 : Int32)), (.ref a)])) rfl (by rw [hml]; rfl) (argsL := [(.ref a), (.int (0 : Int32)), (.ref b2), (.int (0 : Int32)), (.int (2 : Int32))]) (rest := []) (lenOf pd9 rfl) rfl (by show 2 * 0 + _ ≤ _; exact Nat.le_of_eq rfl) (hb hby d6_9) (fun _ _ => ⟨rfl, e2, (by decide : 1 + 0 ≤ _), (by decide : 2 + 0 ≤ _)⟩)
  dsimp only [Pt.U, Pt.locs, Pt.cells, Pt.slots] at X9 l9 y9 z9 st9 hQ9
  subst l9 y9 z9
  obtain ⟨r9, rfl, N9q, K9, f10⟩ := hQ9
  have N9 := Fr.app N0 N9q
  have f11 := f3.keep K9 (allS g_b2 all0)
  have f12 := f4.trans K9 (allS (Or.inr sz_b2) all0)
  have f13 := f5.keep K9 (ninS ne_a_b2 nin0)
  have Z15 : n0 ≤ T9.heap.size := Nat.le_trans Z6 K9.1
  have P16 := own_step (C := T9.setTop (mkF m 12 #[.val (.ref a), .val (.int (0 : Int32)), .val (.int (2 : Int32)), .val (.ref b2), .unset, .unset] [(.int r9)])) P8 (fun t_ k_ => st9 t_ k_)
  have f17 : (r9 = (0 : Int32) ∧ (255 : Int32) < c0) ∨ (r9 = (1 : Int32) ∧ (255 : Int32) < c1) := by
    rcases f10 with hq | hq | ⟨-, hq⟩
    · exact Or.inl hq
    · exact Or.inr (hq)
    · exfalso; rcases hU with hz | hz
      · exact hq.1 hz
      · exact hq.2.1 hz
  have P18 := own_step (C := T9.setTop (mkF m 17 #[.val (.ref a), .val (.int (0 : Int32)), .val (.int (2 : Int32)), .val (.ref b2), .val (.int r9), .unset] [(.int (2 : Int32)), (.int r9)])) P16 (by
    intro tt_ kk_
    refine XS.istore X9.here hx rfl (hb hby d6_12) rfl (l' := #[.val (.ref a), .val (.int (0 : Int32)), .val (.int (2 : Int32)), .val (.ref b2), .val (.int r9), .unset]) rfl ?_
    refine XS.iload X9.here hx rfl (hb hby d6_14) rfl ?_
    refine XS.iloadN X9.here hx rfl (hb hby d6_16) rfl ?_
    exact kk_)
  have hrn : ¬ (r9 = (2 : Int32)) := by rcases f17 with h | h <;> (rw [h.1]; decide)
  have P19 := own_step (C := T9.setTop (mkF m 23 #[.val (.ref a), .val (.int (0 : Int32)), .val (.int (2 : Int32)), .val (.ref b2), .val (.int r9), .unset] [(.int (2 : Int32)), (.int (0 : Int32)), (.ref a)])) P18 (by
    intro tt_ kk_
    refine XS.icmpNo X9.here hx rfl (hb hby d6_17) rfl (feq hrn).1 ?_
    refine XS.aloadN X9.here hx rfl (hb hby d6_20) rfl rfl ?_
    refine XS.iloadN X9.here hx rfl (hb hby d6_21) rfl ?_
    refine XS.iloadN X9.here hx rfl (hb hby d6_22) rfl ?_
    exact kk_)
  obtain ⟨_, _, ⟨T20, L20, k20, n20⟩, -, X20, ⟨Lc20, hQ20, l20, y20, z20⟩, st20⟩ := Jvm.LawKit.callS X9 hx (y := (⟨"java/lang/StringUTF16", "toBytes", "([CII)[B"⟩ : MethodName)) hown (mvT hZ (hw _ (List.mem_of_getElem? (i := 78) rfl))) (mvT hZ (hw _ (List.mem_of_getElem? (i := 79) rfl))) (mvT hZ (hw _ (List.mem_of_getElem? (i := 34) rfl))) (mvT hZ (hw _ (List.mem_of_getElem? (i := 80) rfl))) (by decide) (backOf (W := 0) (rm_toBU2 l Z a0 hw [] a ka c0 c1 T9.heap n0 Z15 f11 Sad Shi Slo f13) hZ (hw _ (List.mem_of_getElem? (i := 80) rfl)) (hw _ (List.mem_of_getElem? (i := 34) rfl)) (by decide) (by decide)) (g := (mkF m 23 #[.val (.ref a), .val (.int (0 : Int32)), .val (.int (2 : Int32)), .val (.ref b2), .val (.int r9), .unset] [(.int (2 : Int32)), (.int (0 : Int32)), (.ref a)])) rfl (by rw [hml]; rfl) (argsL := [(.ref a), (.int (0 : Int32)), (.int (2 : Int32))]) (rest := []) (lenOf pd10 rfl) rfl (by show 2 * 0 + _ ≤ _; exact Nat.le_of_eq rfl) (hb hby d6_23) (fun _ _ => ⟨rfl, rfl, (by decide : 1 + 1 ≤ _), (by decide : 2 + 4 ≤ _)⟩)
  dsimp only [Pt.U, Pt.locs, Pt.cells, Pt.slots] at X20 l20 y20 z20 st20 hQ20
  subst l20 y20 z20
  obtain ⟨x20, kk20, rfl, N20q, K20, f21, f22⟩ := hQ20
  have N20 := Fr.app N9 N20q
  have ne_a_x20 : a ≠ x20 := Nat.ne_of_lt (Nat.lt_of_lt_of_le f13.lt f21)
  have g_x20 : n0 ≤ x20 := Nat.le_trans Z15 f21
  have sz_x20 : h0.size ≤ x20 := Nat.le_trans f12.1 f21
  have f23 := f11.keep K20 all0
  have f24 := f12.trans K20 all0
  have f25 := f13.keep K20 nin0
  have Z26 : n0 ≤ T20.heap.size := Nat.le_trans Z15 K20.1
  have P27 := own_step (C := T20.setTop (mkF m 26 #[.val (.ref a), .val (.int (0 : Int32)), .val (.int (2 : Int32)), .val (.ref b2), .val (.int r9), .unset] [(.ref x20)])) P19 (fun t_ k_ => st20 t_ k_)
  have P28 := own_step (C := T20.setTop (mkF m 32 #[.val (.ref a), .val (.int (0 : Int32)), .val (.int (2 : Int32)), .val (.ref b2), .val (.int r9), .val (.ref x20)] [(.int r9), (.ref x20)])) P27 (by
    intro tt_ kk_
    refine XS.astore X20.here hx rfl (hb hby d6_26) rfl rfl (l' := #[.val (.ref a), .val (.int (0 : Int32)), .val (.int (2 : Int32)), .val (.ref b2), .val (.int r9), .val (.ref x20)]) rfl ?_
    refine XS.aload X20.here hx rfl (hb hby d6_28) rfl rfl ?_
    refine XS.iload X20.here hx rfl (hb hby d6_30) rfl ?_
    exact kk_)
  rcases f17 with ⟨hrr, hbig⟩ | ⟨hrr, hbig⟩
  · subst hrr
    obtain ⟨_, _, ⟨T29, L29, k29, n29⟩, -, X29, ⟨Lc29, hQ29, l29, y29, z29⟩, st29⟩ := Jvm.LawKit.callS X20 hx (y := (⟨"java/lang/StringUTF16", "getChar", "([BI)C"⟩ : MethodName)) hown (mvT hZ (hw _ (List.mem_of_getElem? (i := 94) rfl))) (mvT hZ (hw _ (List.mem_of_getElem? (i := 95) rfl))) (mvT hZ (hw _ (List.mem_of_getElem? (i := 34) rfl))) (mvT hZ (hw _ (List.mem_of_getElem? (i := 96) rfl))) (by decide) (backOf (W := 0) (rm_getC l Z a0 hw [] x20 kk20 (4 : Int32) _ (0 : Int32) (own_b0 c0) (own_b1 c0) T20.heap n0 Z26 f23 Sad Shi Slo f22 (by decide) (by decide) rfl rfl) hZ (hw _ (List.mem_of_getElem? (i := 96) rfl)) (hw _ (List.mem_of_getElem? (i := 34) rfl)) (by decide) (by decide)) (g := (mkF m 32 #[.val (.ref a), .val (.int (0 : Int32)), .val (.int (2 : Int32)), .val (.ref b2), .val (.int (0 : Int32)), .val (.ref x20)] [(.int (0 : Int32)), (.ref x20)])) rfl (by rw [hml]; rfl) (argsL := [(.ref x20), (.int (0 : Int32))]) (rest := []) (lenOf pd6 rfl) rfl (by show 2 * 0 + _ ≤ _; exact Nat.le_of_eq rfl) (hb hby d6_32) (fun _ _ => ⟨rfl, rfl, (by decide : 2 + 0 ≤ _), (by decide : 6 + 0 ≤ _)⟩)
    dsimp only [Pt.U, Pt.locs, Pt.cells, Pt.slots] at X29 l29 y29 z29 st29 hQ29
    subst l29 y29 z29
    obtain ⟨rfl, N29q, e29⟩ := hQ29
    have N29 := Fr.app N20 N29q
    have P30 := own_step (C := T29.setTop (mkF m 35 #[.val (.ref a), .val (.int (0 : Int32)), .val (.int (2 : Int32)), .val (.ref b2), .val (.int (0 : Int32)), .val (.ref x20)] [(.int (own_gc (own_b0 c0) (own_b1 c0)))])) P28 (fun t_ k_ => st29 t_ k_)
    have P31 := own_step (C := T29.setTop (mkF m 38 #[.val (.ref a), .val (.int (0 : Int32)), .val (.int (2 : Int32)), .val (.ref b2), .val (.int (0 : Int32)), .val (.ref x20)] [(.int (255 : Int32)), (.int (own_gc (own_b0 c0) (own_b1 c0)))])) P30 (by
      intro tt_ kk_
      refine XS.sipush X29.here hx rfl (hb hby d6_35) ?_
      exact kk_)
    have P32 := own_step (C := T29.setTop (mkF m 56 #[.val (.ref a), .val (.int (0 : Int32)), .val (.int (2 : Int32)), .val (.ref b2), .val (.int (0 : Int32)), .val (.ref x20)] [(.ref x20)])) P31 (by
      intro tt_ kk_
      refine XS.icmpYes X29.here hx rfl (pc0 := 38) (pc' := 54) rfl (hb hby d6_38) rfl (tlt (own_big gc0 hbig)).2.2.1 (by decide) (by decide) ?_
      refine XS.aload X29.here hx rfl (hb hby d6_54) rfl rfl ?_
      exact kk_)
    obtain ⟨fs, hr, hrun, hended, hW, hsame⟩ := X29.leave (v := some (.ref x20)) (fun h => by rw [Bd.returns] at h; cases h)
    refine ⟨_, _, P32 _ ?_, hrun, hended, _, _, rfl, ?_, ⟨_, rfl⟩, hW, hsame.mono (by decide) (by decide)⟩
    · jvm_step X29.here [X29.here.top, hx, (hb hby d6_56), X29.method', Bd.returns, Value.isRef, FieldType.isReference]
      first | (intro acts; rw [hr _ acts rfl rfl rfl]) | rw [hr _ _ rfl rfl rfl]
      exact Steps.refl _
    · show Q_compU_2 Z _ _ _ _ h0 n0 _ T29.heap _
      rw [e29]
      exact ⟨x20, kk20, rfl, N29, f24, sz_x20, f22⟩
  · subst hrr
    obtain ⟨_, _, ⟨T33, L33, k33, n33⟩, -, X33, ⟨Lc33, hQ33, l33, y33, z33⟩, st33⟩ := Jvm.LawKit.callS X20 hx (y := (⟨"java/lang/StringUTF16", "getChar", "([BI)C"⟩ : MethodName)) hown (mvT hZ (hw _ (List.mem_of_getElem? (i := 94) rfl))) (mvT hZ (hw _ (List.mem_of_getElem? (i := 95) rfl))) (mvT hZ (hw _ (List.mem_of_getElem? (i := 34) rfl))) (mvT hZ (hw _ (List.mem_of_getElem? (i := 96) rfl))) (by decide) (backOf (W := 0) (rm_getC l Z a0 hw [] x20 kk20 (4 : Int32) _ (1 : Int32) (own_b0 c1) (own_b1 c1) T20.heap n0 Z26 f23 Sad Shi Slo f22 (by decide) (by decide) rfl rfl) hZ (hw _ (List.mem_of_getElem? (i := 96) rfl)) (hw _ (List.mem_of_getElem? (i := 34) rfl)) (by decide) (by decide)) (g := (mkF m 32 #[.val (.ref a), .val (.int (0 : Int32)), .val (.int (2 : Int32)), .val (.ref b2), .val (.int (1 : Int32)), .val (.ref x20)] [(.int (1 : Int32)), (.ref x20)])) rfl (by rw [hml]; rfl) (argsL := [(.ref x20), (.int (1 : Int32))]) (rest := []) (lenOf pd6 rfl) rfl (by show 2 * 0 + _ ≤ _; exact Nat.le_of_eq rfl) (hb hby d6_32) (fun _ _ => ⟨rfl, rfl, (by decide : 2 + 0 ≤ _), (by decide : 6 + 0 ≤ _)⟩)
    dsimp only [Pt.U, Pt.locs, Pt.cells, Pt.slots] at X33 l33 y33 z33 st33 hQ33
    subst l33 y33 z33
    obtain ⟨rfl, N33q, e33⟩ := hQ33
    have N33 := Fr.app N20 N33q
    have P34 := own_step (C := T33.setTop (mkF m 35 #[.val (.ref a), .val (.int (0 : Int32)), .val (.int (2 : Int32)), .val (.ref b2), .val (.int (1 : Int32)), .val (.ref x20)] [(.int (own_gc (own_b0 c1) (own_b1 c1)))])) P28 (fun t_ k_ => st33 t_ k_)
    have P35 := own_step (C := T33.setTop (mkF m 38 #[.val (.ref a), .val (.int (0 : Int32)), .val (.int (2 : Int32)), .val (.ref b2), .val (.int (1 : Int32)), .val (.ref x20)] [(.int (255 : Int32)), (.int (own_gc (own_b0 c1) (own_b1 c1)))])) P34 (by
      intro tt_ kk_
      refine XS.sipush X33.here hx rfl (hb hby d6_35) ?_
      exact kk_)
    have P36 := own_step (C := T33.setTop (mkF m 56 #[.val (.ref a), .val (.int (0 : Int32)), .val (.int (2 : Int32)), .val (.ref b2), .val (.int (1 : Int32)), .val (.ref x20)] [(.ref x20)])) P35 (by
      intro tt_ kk_
      refine XS.icmpYes X33.here hx rfl (pc0 := 38) (pc' := 54) rfl (hb hby d6_38) rfl (tlt (own_big gc1 hbig)).2.2.1 (by decide) (by decide) ?_
      refine XS.aload X33.here hx rfl (hb hby d6_54) rfl rfl ?_
      exact kk_)
    obtain ⟨fs, hr, hrun, hended, hW, hsame⟩ := X33.leave (v := some (.ref x20)) (fun h => by rw [Bd.returns] at h; cases h)
    refine ⟨_, _, P36 _ ?_, hrun, hended, _, _, rfl, ?_, ⟨_, rfl⟩, hW, hsame.mono (by decide) (by decide)⟩
    · jvm_step X33.here [X33.here.top, hx, (hb hby d6_56), X33.method', Bd.returns, Value.isRef, FieldType.isReference]
      first | (intro acts; rw [hr _ acts rfl rfl rfl]) | rw [hr _ _ rfl rfl rfl]
      exact Steps.refl _
    · show Q_compU_2 Z _ _ _ _ h0 n0 _ T33.heap _
      rw [e33]
      exact ⟨x20, kk20, rfl, N33, f24, sz_x20, f22⟩
theorem ef__initVU_2 (m : MethodId) (x0 : Addr) (x1 : Addr) (x2 : Int32) (x3 : Int32) : entryFrame m #[(.ref x0), (.ref x1), (.int x2), (.int x3), .null] 6 = mkF m 0 #[.val (.ref x0), .val (.ref x1), .val (.int x2), .val (.int x3), .val .null, .unset] [] := by first | (simp [entryFrame, mkF, argsToLocals, Value.category]; done) | rfl
def Q_initVU_2 (Z : State) (a : Addr) (ca : Addr) (ka : ClassId) (c0 : Int32) (c1 : Int32) (cs : Int32) (h0 : Heap) (n0 : Nat) (v_ : Option Value) (h : Heap) (L_ : List Loc) : Prop := ∃ (x : Addr) (kk : ClassId), v_ = none ∧ Fr n0 L_ ∧ Keep h0 h [a] ∧ Exa Z h a "java/lang/String" ∧ Fld Z h a "java/lang/String" "coder" "B" (.int (1 : Int32)) ∧ Fld Z h a "java/lang/String" "value" "[B" (.ref x) ∧ Arv Z h x kk .byte (4 : Int32) [(.int (own_b0 c0)), (.int (own_b1 c0)), (.int (own_b0 c1)), (.int (own_b1 c1))] (.int 0) ∧ h0.size ≤ x
set_option maxRecDepth 65536 in
set_option maxHeartbeats 40000000 in
theorem rm_initVU_2 (l : Launch) (Z : State) (a0 : Array Value) (hw : ∀ d ∈ tables_1, d.before a0 Z = true) (ws : List Jvm.Cond) (a : Addr) (ca : Addr) (ka : ClassId) (c0 : Int32) (c1 : Int32) (cs : Int32) (h0 : Heap) (n0 : Nat) (Z0 : n0 ≤ h0.size) (O : Old Z n0 h0) (Scs : Sta Z Z.heap "java/lang/String" "COMPACT_STRINGS" "Z" (.int cs)) (hcs : ¬ (cs = (0 : Int32))) (Ea : Exa Z h0 a "java/lang/String") (Fv : Fld Z h0 a "java/lang/String" "value" "[B" .null) (Fc : Fld Z h0 a "java/lang/String" "coder" "B" (.int (0 : Int32))) (ga : n0 ≤ a) (Vs : Arv Z h0 ca ka .char (2 : Int32) [(.int c0), (.int c1)] (.int 0)) (Sad : Sta Z Z.heap "java/lang/StringUTF16" "$assertionsDisabled" "Z" (.int (1 : Int32))) (Shi : Sta Z Z.heap "java/lang/StringUTF16" "HI_BYTE_SHIFT" "I" (.int (0 : Int32))) (Slo : Sta Z Z.heap "java/lang/StringUTF16" "LO_BYTE_SHIFT" "I" (.int (8 : Int32))) (hU : (255 : Int32) < c0 ∨ (255 : Int32) < c1) (gc0 : own_C c0) (gc1 : own_C c1) :
    MetFree l (⟨"java/lang/String", "<init>", "([CIILjava/lang/Void;)V"⟩ : MethodName) (head1 (Jvm.Cond.code (⟨"java/lang/String", "<init>", "([CIILjava/lang/Void;)V"⟩ : MethodName) jdk_42_method_149_code 6 none :: ws) ({ frames := 4, cells := 2, slots := 6, locals := 57 } : Room)) (fun a_ U_ => a_ = #[(.ref a), (.ref ca), (.int (0 : Int32)), (.int (2 : Int32)), .null] ∧ Z.Warmed39 U_.vm ∧ U_.heap = h0) (fun _ _ _ _ _ => True) (fun _ U_ o_ V_ => ∃ v_ L_, o_ = .returned v_ ∧ Q_initVU_2 Z a ca ka c0 c1 cs h0 n0 v_ V_.heap L_ ∧ FrameEnd U_ o_ V_ L_ ({ frames := 4, cells := 2, slots := 6, locals := 57 } : Room).cells ({ frames := 4, cells := 2, slots := 6, locals := 57 } : Room).slots) := by
  refine MetFree.of_bodySF (plainFor_of_name pn1) hisR ?_
  intro p e s m args below meth c s₁ Bd hml0 hP hK
  obtain ⟨rfl, hZ, hh⟩ := hP
  have hx := Bd.exec
  have hby := Bd.bytes
  have hml : c.maxLocals = 6 := hml0
  have hown : s.vm.findClass "java/lang/String" = some m.cls := findClass_of_methodNamed Bd.named
  have hnm := (name_of_methodNamed Bd.named Bd.method).1
  have X0 : Stand p l e ({ frames := 4, cells := 2, slots := 6, locals := 57 } : Room) s m #[(.ref a), (.ref ca), (.int (0 : Int32)), (.int (2 : Int32)), .null] below meth c s₁ [] 0 0 := Stand.of_body Bd
  have e0 : s₁.heap = h0 := by rw [← hh, Bd.state]; rfl
  have N0 := Fr.nil n0
  have pre0 : own_Go p e below (s₁.setTop (entryFrame m #[(.ref a), (.ref ca), (.int (0 : Int32)), (.int (2 : Int32)), .null] 6)) (s₁.setTop (mkF m 0 #[.val (.ref a), .val (.ref ca), .val (.int (0 : Int32)), .val (.int (2 : Int32)), .val .null, .unset] [])) := fun t_ k_ => castTop (ef__initVU_2 m a ca (0 : Int32) (2 : Int32)) k_
  obtain ⟨clV, ArV, -⟩ := id Vs
  have ne_ca_a : ca ≠ a := Ne.symm (ne_arr Ea (hw _ (List.mem_of_getElem? (i := 1) rfl)) ArV)
  have P1 := own_step (C := s₁.setTop (mkF m 1 #[.val (.ref a), .val (.ref ca), .val (.int (0 : Int32)), .val (.int (2 : Int32)), .val .null, .unset] [(.ref a)])) pre0 (by
    intro tt_ kk_
    refine XS.aloadN X0.here hx rfl (hb hby d2_0) rfl rfl ?_
    exact kk_)
  obtain ⟨T2, X2, e2, st2⟩ := initO X0 hx hZ hown (hw _ (List.mem_of_getElem? (i := 11) rfl)) (hw _ (List.mem_of_getElem? (i := 12) rfl)) (hw _ (List.mem_of_getElem? (i := 13) rfl)) e0 (g := (mkF m 1 #[.val (.ref a), .val (.ref ca), .val (.int (0 : Int32)), .val (.int (2 : Int32)), .val .null, .unset] [(.ref a)])) rfl (by rw [hml]; rfl) rfl (hb hby d2_1) (by decide) (W := 0) (by show 2 * 0 + _ ≤ _; exact Nat.le_of_eq rfl) (by decide)
  have P3 := own_step (C := T2.setTop (mkF m 4 #[.val (.ref a), .val (.ref ca), .val (.int (0 : Int32)), .val (.int (2 : Int32)), .val .null, .unset] [])) P1 (fun t_ k_ => st2 t_ k_)
  have P4 := own_step (C := T2.setTop (mkF m 5 #[.val (.ref a), .val (.ref ca), .val (.int (0 : Int32)), .val (.int (2 : Int32)), .val .null, .unset] [(.int (2 : Int32))])) P3 (by
    intro tt_ kk_
    refine XS.iloadN X2.here hx rfl (hb hby d2_4) rfl ?_
    exact kk_)
  have P5 := own_step (C := T2.setTop (mkF m 27 #[.val (.ref a), .val (.ref ca), .val (.int (0 : Int32)), .val (.int (2 : Int32)), .val .null, .unset] [])) P4 (by
    intro tt_ kk_
    refine XS.ifYes X2.here hx rfl (pc0 := 5) (pc' := 27) rfl (hb hby d2_5) rfl ((if0 _ _).trans (feq (by decide : ¬ ((2 : Int32) = (0 : Int32)))).2) (by decide) (by decide) ?_
    exact kk_)
  obtain ⟨T6, X6, e6, st6⟩ := getS2 X2 hx hZ hown (host := "") (Or.inl (hw _ (List.mem_of_getElem? (i := 31) rfl))) Via.refl e2 (Scs.ext O.2) (g := (mkF m 27 #[.val (.ref a), .val (.ref ca), .val (.int (0 : Int32)), .val (.int (2 : Int32)), .val .null, .unset] [])) rfl (hb hby d2_27)
  have P7 := own_step (C := T6.setTop (mkF m 30 #[.val (.ref a), .val (.ref ca), .val (.int (0 : Int32)), .val (.int (2 : Int32)), .val .null, .unset] [(.int cs)])) P5 (fun t_ k_ => st6 t_ k_)
  have P8 := own_step (C := T6.setTop (mkF m 36 #[.val (.ref a), .val (.ref ca), .val (.int (0 : Int32)), .val (.int (2 : Int32)), .val .null, .unset] [(.int (2 : Int32)), (.int (0 : Int32)), (.ref ca)])) P7 (by
    intro tt_ kk_
    refine XS.ifNo X6.here hx rfl (hb hby d2_30) rfl ((if0 _ _).trans (feq hcs).1) ?_
    refine XS.aloadN X6.here hx rfl (hb hby d2_33) rfl rfl ?_
    refine XS.iloadN X6.here hx rfl (hb hby d2_34) rfl ?_
    refine XS.iloadN X6.here hx rfl (hb hby d2_35) rfl ?_
    exact kk_)
  obtain ⟨_, _, ⟨T9, L9, k9, n9⟩, -, X9, ⟨Lc9, hQ9, l9, y9, z9⟩, st9⟩ := Jvm.LawKit.callS X6 hx (y := (⟨"java/lang/StringUTF16", "compress", "([CII)[B"⟩ : MethodName)) hown (mvT hZ (hw _ (List.mem_of_getElem? (i := 32) rfl))) (mvT hZ (hw _ (List.mem_of_getElem? (i := 33) rfl))) (mvT hZ (hw _ (List.mem_of_getElem? (i := 34) rfl))) (mvT hZ (hw _ (List.mem_of_getElem? (i := 35) rfl))) (by decide) (backOf (W := 0) (rm_compU_2 l Z a0 hw [] ca ka c0 c1 h0 n0 Z0 O Sad Shi Slo Vs hU gc0 gc1) hZ (hw _ (List.mem_of_getElem? (i := 35) rfl)) (hw _ (List.mem_of_getElem? (i := 34) rfl)) (by decide) (by decide)) (g := (mkF m 36 #[.val (.ref a), .val (.ref ca), .val (.int (0 : Int32)), .val (.int (2 : Int32)), .val .null, .unset] [(.int (2 : Int32)), (.int (0 : Int32)), (.ref ca)])) rfl (by rw [hml]; rfl) (argsL := [(.ref ca), (.int (0 : Int32)), (.int (2 : Int32))]) (rest := []) (lenOf pd10 rfl) rfl (by show 2 * 0 + _ ≤ _; exact Nat.le_of_eq rfl) (hb hby d2_36) (fun _ _ => ⟨rfl, e6, (by decide : 0 + 2 ≤ _), (by decide : 0 + 6 ≤ _)⟩)
  dsimp only [Pt.U, Pt.locs, Pt.cells, Pt.slots] at X9 l9 y9 z9 st9 hQ9
  subst l9 y9 z9
  obtain ⟨x9, kk9, rfl, N9q, K9, f10, f11⟩ := hQ9
  have N9 := Fr.app N0 N9q
  have ne_a_x9 : a ≠ x9 := Nat.ne_of_lt (Nat.lt_of_lt_of_le Ea.lt f10)
  have ne_ca_x9 : ca ≠ x9 := Nat.ne_of_lt (Nat.lt_of_lt_of_le Vs.lt f10)
  have g_x9 : n0 ≤ x9 := Nat.le_trans Z0 f10
  have sz_x9 : h0.size ≤ x9 := Nat.le_trans (Keep.refl h0 [a]).1 f10
  have f12 := O.keep K9 all0
  have f13 := Ea.keep K9
  have f14 := Fc.keep K9 nin0
  have f15 := Fv.keep K9 nin0
  have f16 := (Keep.refl h0 [a]).trans K9 all0
  have f17 := Vs.keep K9 nin0
  have Z18 : n0 ≤ T9.heap.size := Nat.le_trans Z0 K9.1
  have P19 := own_step (C := T9.setTop (mkF m 39 #[.val (.ref a), .val (.ref ca), .val (.int (0 : Int32)), .val (.int (2 : Int32)), .val .null, .unset] [(.ref x9)])) P8 (fun t_ k_ => st9 t_ k_)
  have P20 := own_step (C := T9.setTop (mkF m 45 #[.val (.ref a), .val (.ref ca), .val (.int (0 : Int32)), .val (.int (2 : Int32)), .val .null, .val (.ref x9)] [(.int (2 : Int32)), (.ref x9), (.ref a)])) P19 (by
    intro tt_ kk_
    refine XS.astore X9.here hx rfl (hb hby d2_39) rfl rfl (l' := #[.val (.ref a), .val (.ref ca), .val (.int (0 : Int32)), .val (.int (2 : Int32)), .val .null, .val (.ref x9)]) rfl ?_
    refine XS.aloadN X9.here hx rfl (hb hby d2_41) rfl rfl ?_
    refine XS.aload X9.here hx rfl (hb hby d2_42) rfl rfl ?_
    refine XS.iloadN X9.here hx rfl (hb hby d2_44) rfl ?_
    exact kk_)
  obtain ⟨_, _, ⟨T21, L21, k21, n21⟩, -, X21, ⟨Lc21, hQ21, l21, y21, z21⟩, st21⟩ := Jvm.LawKit.callS X9 hx (y := (⟨"java/lang/StringUTF16", "coderFromArrayLen", "([BI)B"⟩ : MethodName)) hown (mvT hZ (hw _ (List.mem_of_getElem? (i := 39) rfl))) (mvT hZ (hw _ (List.mem_of_getElem? (i := 40) rfl))) (mvT hZ (hw _ (List.mem_of_getElem? (i := 34) rfl))) (mvT hZ (hw _ (List.mem_of_getElem? (i := 41) rfl))) (by decide) (backOf (W := 1) (rm_cfa l Z a0 hw [] x9 kk9 (4 : Int32) _ (2 : Int32) (1 : Int32) T9.heap n0 Z18 f11 (by decide +kernel)) hZ (hw _ (List.mem_of_getElem? (i := 41) rfl)) (hw _ (List.mem_of_getElem? (i := 34) rfl)) (by decide) (by decide)) (g := (mkF m 45 #[.val (.ref a), .val (.ref ca), .val (.int (0 : Int32)), .val (.int (2 : Int32)), .val .null, .val (.ref x9)] [(.int (2 : Int32)), (.ref x9), (.ref a)])) rfl (by rw [hml]; rfl) (argsL := [(.ref x9), (.int (2 : Int32))]) (rest := [(.ref a)]) (lenOf pd11 rfl) rfl (by show 2 * 0 + _ ≤ _; exact Nat.le_of_eq rfl) (hb hby d2_45) (fun _ _ => ⟨rfl, rfl, (by decide : 2 + 0 ≤ _), (by decide : 6 + 0 ≤ _)⟩)
  dsimp only [Pt.U, Pt.locs, Pt.cells, Pt.slots] at X21 l21 y21 z21 st21 hQ21
  subst l21 y21 z21
  obtain ⟨rfl, N21q, e21⟩ := hQ21
  have N21 := Fr.app N9 N21q
  have P22 := own_step (C := T21.setTop (mkF m 48 #[.val (.ref a), .val (.ref ca), .val (.int (0 : Int32)), .val (.int (2 : Int32)), .val .null, .val (.ref x9)] [(.int (1 : Int32)), (.ref a)])) P20 (fun t_ k_ => st21 t_ k_)
  obtain ⟨T23, h23, X23, e23, W23, st23⟩ := putFN X21 hx hZ hown (hw _ (List.mem_of_getElem? (i := 21) rfl)) Via.refl e21 f14 f13 (Or.inr ⟨(hw _ (List.mem_of_getElem? (i := 17) rfl)), rfl, hnm⟩) (hw _ (List.mem_of_getElem? (i := 1) rfl)) (ty := .byte) (v' := (.int (1 : Int32).toInt8.toInt32)) (by decide) rfl (fits_nar_byte _) (g := (mkF m 48 #[.val (.ref a), .val (.ref ca), .val (.int (0 : Int32)), .val (.int (2 : Int32)), .val .null, .val (.ref x9)] [(.int (1 : Int32)), (.ref a)])) rfl rfl (hb hby d2_48)
  have f24 := f12.wr W23 ga
  have f25 := f13.wr W23
  have f26 := f14.same W23
  have f27 := f15.other W23 (Or.inr (slot_ne (Or.inr (hw _ (List.mem_of_getElem? (i := 16) rfl))) (Or.inr (hw _ (List.mem_of_getElem? (i := 17) rfl))) (by decide) (t := (.array .byte)) (t' := .byte) (by decide) (by decide)))
  have f28 := f16.wr W23 (Or.inl (List.mem_of_getElem? (i := 0) rfl))
  have f29 := f17.other W23 ne_ca_a
  have f30 := f11.other W23 (Ne.symm ne_a_x9)
  have Z31 : n0 ≤ h23.size := Nat.le_trans Z18 (Keep.of_wr W23).1
  have N23 := Fr.snoc X23 N21 ga
  have P32 := own_step (C := T23.setTop (mkF m 51 #[.val (.ref a), .val (.ref ca), .val (.int (0 : Int32)), .val (.int (2 : Int32)), .val .null, .val (.ref x9)] [])) P22 (fun t_ k_ => st23 t_ k_)
  have P33 := own_step (C := T23.setTop (mkF m 54 #[.val (.ref a), .val (.ref ca), .val (.int (0 : Int32)), .val (.int (2 : Int32)), .val .null, .val (.ref x9)] [(.ref x9), (.ref a)])) P32 (by
    intro tt_ kk_
    refine XS.aloadN X23.here hx rfl (hb hby d2_51) rfl rfl ?_
    refine XS.aload X23.here hx rfl (hb hby d2_52) rfl rfl ?_
    exact kk_)
  obtain ⟨T34, h34, X34, e34, W34, st34⟩ := putF X23 hx hZ hown (host := "") (Or.inl (hw _ (List.mem_of_getElem? (i := 20) rfl))) Via.refl e23 f27 f25 (Or.inr ⟨(hw _ (List.mem_of_getElem? (i := 16) rfl)), rfl, hnm⟩) (hw _ (List.mem_of_getElem? (i := 1) rfl)) (ty := (.array .byte)) (by decide) rfl rfl (g := (mkF m 54 #[.val (.ref a), .val (.ref ca), .val (.int (0 : Int32)), .val (.int (2 : Int32)), .val .null, .val (.ref x9)] [(.ref x9), (.ref a)])) rfl rfl (hb hby d2_54)
  have f35 := f24.wr W34 ga
  have f36 := f25.wr W34
  have f37 := f26.other W34 (Or.inr (slot_ne (Or.inr (hw _ (List.mem_of_getElem? (i := 17) rfl))) (Or.inr (hw _ (List.mem_of_getElem? (i := 16) rfl))) (by decide) (t := .byte) (t' := (.array .byte)) (by decide) (by decide)))
  have f38 := f27.same W34
  have f39 := f28.wr W34 (Or.inl (List.mem_of_getElem? (i := 0) rfl))
  have f40 := f29.other W34 ne_ca_a
  have f41 := f30.other W34 (Ne.symm ne_a_x9)
  have Z42 : n0 ≤ h34.size := Nat.le_trans Z31 (Keep.of_wr W34).1
  have N34 := Fr.snoc X34 N23 ga
  have P43 := own_step (C := T34.setTop (mkF m 57 #[.val (.ref a), .val (.ref ca), .val (.int (0 : Int32)), .val (.int (2 : Int32)), .val .null, .val (.ref x9)] [])) P33 (fun t_ k_ => st34 t_ k_)
  obtain ⟨fs, hr, hrun, hended, hW, hsame⟩ := X34.leave (v := none) (fun _ => rfl)
  refine ⟨_, _, P43 _ ?_, hrun, hended, _, _, rfl, ?_, ⟨_, rfl⟩, hW, hsame.mono (by decide) (by decide)⟩
  · exact X34.returnOut hx Bd.returns (hb hby d2_57) hr
  · show Q_initVU_2 Z _ _ _ _ _ _ h0 n0 _ T34.heap _
    rw [e34]
    exact ⟨x9, kk9, rfl, N34, f39, f36, f37, f38, f41, sz_x9⟩
theorem ef__initA_2 (m : MethodId) (x0 : Addr) (x1 : Addr) : entryFrame m #[(.ref x0), (.ref x1)] 2 = mkF m 0 #[.val (.ref x0), .val (.ref x1)] [] := by first | (simp [entryFrame, mkF, argsToLocals, Value.category]; done) | rfl
def Q_initA_2 (Z : State) (a : Addr) (ca : Addr) (ka : ClassId) (c0 : Int32) (c1 : Int32) (cs : Int32) (h0 : Heap) (n0 : Nat) (v_ : Option Value) (h : Heap) (L_ : List Loc) : Prop := v_ = none ∧ Fr n0 L_ ∧ Keep h0 h [a] ∧ own_S Z h a (2 : Int32) [c0, c1]
set_option maxRecDepth 65536 in
set_option maxHeartbeats 40000000 in
theorem rm_initA_2 (l : Launch) (Z : State) (a0 : Array Value) (hw : ∀ d ∈ tables_1, d.before a0 Z = true) (ws : List Jvm.Cond) (a : Addr) (ca : Addr) (ka : ClassId) (c0 : Int32) (c1 : Int32) (cs : Int32) (h0 : Heap) (n0 : Nat) (Z0 : n0 ≤ h0.size) (O : Old Z n0 h0) (Scs : Sta Z Z.heap "java/lang/String" "COMPACT_STRINGS" "Z" (.int cs)) (hcs : ¬ (cs = (0 : Int32))) (Ea : Exa Z h0 a "java/lang/String") (Fv : Fld Z h0 a "java/lang/String" "value" "[B" .null) (Fc : Fld Z h0 a "java/lang/String" "coder" "B" (.int (0 : Int32))) (ga : n0 ≤ a) (Vs : Arv Z h0 ca ka .char (2 : Int32) [(.int c0), (.int c1)] (.int 0)) (Sad : Sta Z Z.heap "java/lang/StringUTF16" "$assertionsDisabled" "Z" (.int (1 : Int32))) (Shi : Sta Z Z.heap "java/lang/StringUTF16" "HI_BYTE_SHIFT" "I" (.int (0 : Int32))) (Slo : Sta Z Z.heap "java/lang/StringUTF16" "LO_BYTE_SHIFT" "I" (.int (8 : Int32))) (gc0 : own_C c0) (gc1 : own_C c1) :
    MetFree l (⟨"java/lang/String", "<init>", "([C)V"⟩ : MethodName) (head1 (Jvm.Cond.code (⟨"java/lang/String", "<init>", "([C)V"⟩ : MethodName) jdk_42_method_3_code 2 none :: ws) ({ frames := 5, cells := 2, slots := 6, locals := 74 } : Room)) (fun a_ U_ => a_ = #[(.ref a), (.ref ca)] ∧ Z.Warmed39 U_.vm ∧ U_.heap = h0) (fun _ _ _ _ _ => True) (fun _ U_ o_ V_ => ∃ v_ L_, o_ = .returned v_ ∧ Q_initA_2 Z a ca ka c0 c1 cs h0 n0 v_ V_.heap L_ ∧ FrameEnd U_ o_ V_ L_ ({ frames := 5, cells := 2, slots := 6, locals := 74 } : Room).cells ({ frames := 5, cells := 2, slots := 6, locals := 74 } : Room).slots) := by
  refine MetFree.of_bodySF (plainFor_of_name pn1) hisR ?_
  intro p e s m args below meth c s₁ Bd hml0 hP hK
  obtain ⟨rfl, hZ, hh⟩ := hP
  have hx := Bd.exec
  have hby := Bd.bytes
  have hml : c.maxLocals = 2 := hml0
  have hown : s.vm.findClass "java/lang/String" = some m.cls := findClass_of_methodNamed Bd.named
  have hnm := (name_of_methodNamed Bd.named Bd.method).1
  have X0 : Stand p l e ({ frames := 5, cells := 2, slots := 6, locals := 74 } : Room) s m #[(.ref a), (.ref ca)] below meth c s₁ [] 0 0 := Stand.of_body Bd
  have e0 : s₁.heap = h0 := by rw [← hh, Bd.state]; rfl
  have N0 := Fr.nil n0
  have pre0 : own_Go p e below (s₁.setTop (entryFrame m #[(.ref a), (.ref ca)] 2)) (s₁.setTop (mkF m 0 #[.val (.ref a), .val (.ref ca)] [])) := fun t_ k_ => castTop (ef__initA_2 m a ca) k_
  obtain ⟨clV, ArV, -⟩ := id Vs
  have ne_ca_a : ca ≠ a := Ne.symm (ne_arr Ea (hw _ (List.mem_of_getElem? (i := 1) rfl)) ArV)
  have P1 := own_step (C := s₁.setTop (mkF m 4 #[.val (.ref a), .val (.ref ca)] [(.ref ca), (.int (0 : Int32)), (.ref ca), (.ref a)])) pre0 (by
    intro tt_ kk_
    refine XS.aloadN X0.here hx rfl (hb hby d1_0) rfl rfl ?_
    refine XS.aloadN X0.here hx rfl (hb hby d1_1) rfl rfl ?_
    refine XS.iconst X0.here hx rfl (hb hby d1_2) ?_
    refine XS.aloadN X0.here hx rfl (hb hby d1_3) rfl rfl ?_
    exact kk_)
  obtain ⟨cl2, Ar2, q2, S2, M2, H2, G2⟩ := id Vs
  have P3 := own_step (C := s₁.setTop (mkF m 5 #[.val (.ref a), .val (.ref ca)] [(.int (2 : Int32)), (.int (0 : Int32)), (.ref ca), (.ref a)])) P1 (by
    intro tt_ kk_
    refine X0.arraylength hx (by rw [e0]; exact Ar2.1) (State.isArrayOf_alike hZ.alike Ar2.2.1) (g := (mkF m 4 #[.val (.ref a), .val (.ref ca)] [(.ref ca), (.int (0 : Int32)), (.ref ca), (.ref a)])) rfl rfl (hb hby d1_4) _ ?_
    rw [len_of S2 M2]
    exact kk_)
  have P4 := own_step (C := s₁.setTop (mkF m 6 #[.val (.ref a), .val (.ref ca)] [.null, (.int (2 : Int32)), (.int (0 : Int32)), (.ref ca), (.ref a)])) P3 (by
    intro tt_ kk_
    refine XS.aconstNull X0.here hx rfl (hb hby d1_5) ?_
    exact kk_)
  by_cases hU : (255 : Int32) < c0 ∨ (255 : Int32) < c1
  · obtain ⟨_, _, ⟨T5, L5, k5, n5⟩, -, X5, ⟨Lc5, hQ5, l5, y5, z5⟩, st5⟩ := X0.specialBack hx (y := (⟨"java/lang/String", "<init>", "([CIILjava/lang/Void;)V"⟩ : MethodName)) rfl hown (mvT hZ (hw _ (List.mem_of_getElem? (i := 7) rfl))) (mvT hZ (hw _ (List.mem_of_getElem? (i := 8) rfl))) (mvT hZ (hw _ (List.mem_of_getElem? (i := 10) rfl))) (by decide) (backOf (W := 0) (rm_initVU_2 l Z a0 hw [] a ca ka c0 c1 cs h0 n0 Z0 O Scs hcs Ea Fv Fc ga Vs Sad Shi Slo hU gc0 gc1) hZ (hw _ (List.mem_of_getElem? (i := 10) rfl)) (hw _ (List.mem_of_getElem? (i := 2) rfl)) (by decide) (by decide)) (g := (mkF m 6 #[.val (.ref a), .val (.ref ca)] [.null, (.int (2 : Int32)), (.int (0 : Int32)), (.ref ca), (.ref a)])) rfl (by rw [hml]; rfl) (Steps.refl _) (a := a) (argsL := [(.ref ca), (.int (0 : Int32)), (.int (2 : Int32)), .null]) (rest := []) (lenOf pd15 rfl) rfl (by show 2 * 0 + _ ≤ _; exact Nat.le_of_eq rfl) (hb hby d1_6) (fun _ _ => ⟨rfl, e0, (by decide : 0 + 2 ≤ _), (by decide : 0 + 6 ≤ _)⟩)
    dsimp only [Pt.U, Pt.locs, Pt.cells, Pt.slots] at X5 l5 y5 z5 st5 hQ5
    subst l5 y5 z5
    obtain ⟨x5, kk5, rfl, N5q, K5, f6, f7, f8, f9, f10⟩ := hQ5
    have N5 := Fr.app N0 N5q
    have ne_a_x5 : a ≠ x5 := Nat.ne_of_lt (Nat.lt_of_lt_of_le Ea.lt f10)
    have ne_ca_x5 : ca ≠ x5 := Nat.ne_of_lt (Nat.lt_of_lt_of_le Vs.lt f10)
    have g_x5 : n0 ≤ x5 := Nat.le_trans Z0 f10
    have sz_x5 : h0.size ≤ x5 := Nat.le_trans (Keep.refl h0 [a]).1 f10
    have f11 := O.keep K5 (allS ga all0)
    have f12 := Ea.keep K5
    have f15 := (Keep.refl h0 [a]).trans K5 (allS (Or.inl (List.mem_of_getElem? (i := 0) rfl)) all0)
    have f16 := Vs.keep K5 (ninS ne_ca_a nin0)
    have Z17 : n0 ≤ T5.heap.size := Nat.le_trans Z0 K5.1
    have P18 := own_step (C := T5.setTop (mkF m 9 #[.val (.ref a), .val (.ref ca)] [])) P4 (fun t_ k_ => st5.trans k_)
    obtain ⟨fs, hr, hrun, hended, hW, hsame⟩ := X5.leave (v := none) (fun _ => rfl)
    refine ⟨_, _, P18 _ ?_, hrun, hended, _, _, rfl, ?_, ⟨_, rfl⟩, hW, hsame.mono (by decide) (by decide)⟩
    · exact X5.returnOut hx Bd.returns (hb hby d1_9) hr
    · show Q_initA_2 Z _ _ _ _ _ _ h0 n0 _ T5.heap _
      exact ⟨rfl, N5, f15, ⟨x5, kk5, f6, f8, Or.inr ⟨f7, f9⟩⟩⟩
  · have hc0 : ¬ ((255 : Int32) < c0) := fun q => hU (Or.inl q)
    have hc1 : ¬ ((255 : Int32) < c1) := fun q => hU (Or.inr (q))
    have hall : ∀ c ∈ [c0, c1], ¬ ((255 : Int32) < c) := by intro c hc; simp only [List.mem_cons, List.not_mem_nil, or_false] at hc; rcases hc with rfl | rfl <;> assumption
    obtain ⟨_, _, ⟨T19, L19, k19, n19⟩, -, X19, ⟨Lc19, hQ19, l19, y19, z19⟩, st19⟩ := X0.specialBack hx (y := (⟨"java/lang/String", "<init>", "([CIILjava/lang/Void;)V"⟩ : MethodName)) rfl hown (mvT hZ (hw _ (List.mem_of_getElem? (i := 7) rfl))) (mvT hZ (hw _ (List.mem_of_getElem? (i := 8) rfl))) (mvT hZ (hw _ (List.mem_of_getElem? (i := 10) rfl))) (by decide) (backOf (W := 0) (rm_initV_2 l Z a0 hw [] a ca ka c0 c1 cs h0 n0 Z0 O Scs hcs Ea Fv Fc ga Vs hc0 hc1) hZ (hw _ (List.mem_of_getElem? (i := 10) rfl)) (hw _ (List.mem_of_getElem? (i := 2) rfl)) (by decide) (by decide)) (g := (mkF m 6 #[.val (.ref a), .val (.ref ca)] [.null, (.int (2 : Int32)), (.int (0 : Int32)), (.ref ca), (.ref a)])) rfl (by rw [hml]; rfl) (Steps.refl _) (a := a) (argsL := [(.ref ca), (.int (0 : Int32)), (.int (2 : Int32)), .null]) (rest := []) (lenOf pd15 rfl) rfl (by show 2 * 0 + _ ≤ _; exact Nat.le_of_eq rfl) (hb hby d1_6) (fun _ _ => ⟨rfl, e0, (by decide : 0 + 1 ≤ _), (by decide : 0 + 2 ≤ _)⟩)
    dsimp only [Pt.U, Pt.locs, Pt.cells, Pt.slots] at X19 l19 y19 z19 st19 hQ19
    subst l19 y19 z19
    obtain ⟨x19, kk19, rfl, N19q, K19, f20, f21, f22, f23, f24⟩ := hQ19
    have N19 := Fr.app N0 N19q
    have ne_a_x19 : a ≠ x19 := Nat.ne_of_lt (Nat.lt_of_lt_of_le Ea.lt f24)
    have ne_ca_x19 : ca ≠ x19 := Nat.ne_of_lt (Nat.lt_of_lt_of_le Vs.lt f24)
    have g_x19 : n0 ≤ x19 := Nat.le_trans Z0 f24
    have sz_x19 : h0.size ≤ x19 := Nat.le_trans (Keep.refl h0 [a]).1 f24
    have f25 := O.keep K19 (allS ga all0)
    have f26 := Ea.keep K19
    have f29 := (Keep.refl h0 [a]).trans K19 (allS (Or.inl (List.mem_of_getElem? (i := 0) rfl)) all0)
    have f30 := Vs.keep K19 (ninS ne_ca_a nin0)
    have Z31 : n0 ≤ T19.heap.size := Nat.le_trans Z0 K19.1
    have P32 := own_step (C := T19.setTop (mkF m 9 #[.val (.ref a), .val (.ref ca)] [])) P4 (fun t_ k_ => st19.trans k_)
    obtain ⟨fs, hr, hrun, hended, hW, hsame⟩ := X19.leave (v := none) (fun _ => rfl)
    refine ⟨_, _, P32 _ ?_, hrun, hended, _, _, rfl, ?_, ⟨_, rfl⟩, hW, hsame.mono (by decide) (by decide)⟩
    · exact X19.returnOut hx Bd.returns (hb hby d1_9) hr
    · show Q_initA_2 Z _ _ _ _ _ _ h0 n0 _ T19.heap _
      exact ⟨rfl, N19, f29, ⟨x19, kk19, f20, f22, Or.inl ⟨hall, f21, f23⟩⟩⟩
theorem ef__comp2U_3 (m : MethodId) (x0 : Addr) (x1 : Int32) (x2 : Addr) (x3 : Int32) (x4 : Int32) : entryFrame m #[(.ref x0), (.int x1), (.ref x2), (.int x3), (.int x4)] 7 = mkF m 0 #[.val (.ref x0), .val (.int x1), .val (.ref x2), .val (.int x3), .val (.int x4), .unset, .unset] [] := by first | (simp [entryFrame, mkF, argsToLocals, Value.category]; done) | rfl
def Q_comp2U_3 (Z : State) (a : Addr) (ka : ClassId) (d : Addr) (kd : ClassId) (c0 : Int32) (c1 : Int32) (c2 : Int32) (h0 : Heap) (n0 : Nat) (v_ : Option Value) (h : Heap) (L_ : List Loc) : Prop := ∃ (r : Int32), v_ = some (.int r) ∧ Fr n0 L_ ∧ Keep h0 h [d] ∧ ((r = (0 : Int32) ∧ (255 : Int32) < c0) ∨ (r = (1 : Int32) ∧ (255 : Int32) < c1) ∨ (r = (2 : Int32) ∧ (255 : Int32) < c2) ∨ (r = (3 : Int32) ∧ ¬ ((255 : Int32) < c0) ∧ ¬ ((255 : Int32) < c1) ∧ ¬ ((255 : Int32) < c2) ∧ Arv Z h d kd .byte (3 : Int32) [(.int (c0.toInt8.toInt32).toInt8.toInt32), (.int (c1.toInt8.toInt32).toInt8.toInt32), (.int (c2.toInt8.toInt32).toInt8.toInt32)] (.int 0)))
set_option maxRecDepth 65536 in
set_option maxHeartbeats 40000000 in
theorem rm_comp2U_3 (l : Launch) (Z : State) (a0 : Array Value) (hw : ∀ d ∈ tables_1, d.before a0 Z = true) (ws : List Jvm.Cond) (a : Addr) (ka : ClassId) (d : Addr) (kd : ClassId) (c0 : Int32) (c1 : Int32) (c2 : Int32) (h0 : Heap) (n0 : Nat) (Z0 : n0 ≤ h0.size) (O : Old Z n0 h0) (Va : Arv Z h0 a ka .char (3 : Int32) [(.int c0), (.int c1), (.int c2)] (.int 0)) (Vd : Arv Z h0 d kd .byte (3 : Int32) [(.int (0 : Int32)), (.int (0 : Int32)), (.int (0 : Int32))] (.int 0)) (nad : a ≠ d) (gd : n0 ≤ d) :
    MetFree l (⟨"java/lang/StringUTF16", "compress", "([CI[BII)I"⟩ : MethodName) (head1 (Jvm.Cond.code (⟨"java/lang/StringUTF16", "compress", "([CI[BII)I"⟩ : MethodName) jdk_52_method_21_code 7 (some .int) :: ws) ({ frames := 0, cells := 0, slots := 0, locals := 0 } : Room)) (fun a_ U_ => a_ = #[(.ref a), (.int (0 : Int32)), (.ref d), (.int (0 : Int32)), (.int (3 : Int32))] ∧ Z.Warmed39 U_.vm ∧ U_.heap = h0) (fun _ _ _ _ _ => True) (fun _ U_ o_ V_ => ∃ v_ L_, o_ = .returned v_ ∧ Q_comp2U_3 Z a ka d kd c0 c1 c2 h0 n0 v_ V_.heap L_ ∧ FrameEnd U_ o_ V_ L_ ({ frames := 0, cells := 0, slots := 0, locals := 0 } : Room).cells ({ frames := 0, cells := 0, slots := 0, locals := 0 } : Room).slots) := by
  refine MetFree.of_bodySF (plainFor_of_name pn5) hisR ?_
  intro p e s m args below meth c s₁ Bd hml0 hP hK
  obtain ⟨rfl, hZ, hh⟩ := hP
  have hx := Bd.exec
  have hby := Bd.bytes
  have hml : c.maxLocals = 7 := hml0
  have hown : s.vm.findClass "java/lang/StringUTF16" = some m.cls := findClass_of_methodNamed Bd.named
  have hnm := (name_of_methodNamed Bd.named Bd.method).1
  have X0 : Stand p l e ({ frames := 0, cells := 0, slots := 0, locals := 0 } : Room) s m #[(.ref a), (.int (0 : Int32)), (.ref d), (.int (0 : Int32)), (.int (3 : Int32))] below meth c s₁ [] 0 0 := Stand.of_body Bd
  have e0 : s₁.heap = h0 := by rw [← hh, Bd.state]; rfl
  have N0 := Fr.nil n0
  have pre0 : own_Go p e below (s₁.setTop (entryFrame m #[(.ref a), (.int (0 : Int32)), (.ref d), (.int (0 : Int32)), (.int (3 : Int32))] 7)) (s₁.setTop (mkF m 0 #[.val (.ref a), .val (.int (0 : Int32)), .val (.ref d), .val (.int (0 : Int32)), .val (.int (3 : Int32)), .unset, .unset] [])) := fun t_ k_ => castTop (ef__comp2U_3 m a (0 : Int32) d (0 : Int32) (3 : Int32)) k_
  have P1 := own_step (C := s₁.setTop (mkF m 7 #[.val (.ref a), .val (.int (0 : Int32)), .val (.ref d), .val (.int (0 : Int32)), .val (.int (3 : Int32)), .val (.int (0 : Int32)), .unset] [(.int (3 : Int32)), (.int (0 : Int32))])) pre0 (by
    intro tt_ kk_
    refine XS.iconst X0.here hx rfl (hb hby d7_0) ?_
    refine XS.istore X0.here hx rfl (hb hby d7_1) rfl (l' := #[.val (.ref a), .val (.int (0 : Int32)), .val (.ref d), .val (.int (0 : Int32)), .val (.int (3 : Int32)), .val (.int (0 : Int32)), .unset]) rfl ?_
    refine XS.iload X0.here hx rfl (hb hby d7_3) rfl ?_
    refine XS.iload X0.here hx rfl (hb hby d7_5) rfl ?_
    exact kk_)
  have P2 := own_step (C := s₁.setTop (mkF m 12 #[.val (.ref a), .val (.int (0 : Int32)), .val (.ref d), .val (.int (0 : Int32)), .val (.int (3 : Int32)), .val (.int (0 : Int32)), .unset] [(.int (0 : Int32)), (.ref a)])) P1 (by
    intro tt_ kk_
    refine XS.icmpNo X0.here hx rfl (hb hby d7_7) rfl (tlt (by decide : (0 : Int32) < (3 : Int32))).2.1 ?_
    refine XS.aloadN X0.here hx rfl (hb hby d7_10) rfl rfl ?_
    refine XS.iloadN X0.here hx rfl (hb hby d7_11) rfl ?_
    exact kk_)
  obtain ⟨cl3, Ar3, q3, S3, M3, H3, G3⟩ := id Va
  have hin3 := inb_of S3 (by decide : ¬ (0 : Int32) < 0 ∧ (0 : Int32) < (3 : Int32))
  have hat3 := Has.at H3 hin3 (v := .int c0) rfl
  have P4 := own_step (C := s₁.setTop (mkF m 13 #[.val (.ref a), .val (.int (0 : Int32)), .val (.ref d), .val (.int (0 : Int32)), .val (.int (3 : Int32)), .val (.int (0 : Int32)), .unset] [(.int c0)])) P2 (by
    intro tt_ kk_
    refine X0.caload hx (j := (0 : Int32)) (v := (.int c0)) (by rw [e0]; exact Ar3.1) (State.isArrayOf_alike hZ.alike Ar3.2.1) Ar3.2.2 hin3 hat3 (g := (mkF m 12 #[.val (.ref a), .val (.int (0 : Int32)), .val (.ref d), .val (.int (0 : Int32)), .val (.int (3 : Int32)), .val (.int (0 : Int32)), .unset] [(.int (0 : Int32)), (.ref a)])) rfl rfl (hb hby d7_12) _ ?_
    exact kk_)
  have P5 := own_step (C := s₁.setTop (mkF m 20 #[.val (.ref a), .val (.int (0 : Int32)), .val (.ref d), .val (.int (0 : Int32)), .val (.int (3 : Int32)), .val (.int (0 : Int32)), .val (.int c0)] [(.int (255 : Int32)), (.int c0)])) P4 (by
    intro tt_ kk_
    refine XS.istore X0.here hx rfl (hb hby d7_13) rfl (l' := #[.val (.ref a), .val (.int (0 : Int32)), .val (.ref d), .val (.int (0 : Int32)), .val (.int (3 : Int32)), .val (.int (0 : Int32)), .val (.int c0)]) rfl ?_
    refine XS.iload X0.here hx rfl (hb hby d7_15) rfl ?_
    refine XS.sipush X0.here hx rfl (hb hby d7_17) ?_
    exact kk_)
  by_cases c6 : (255 : Int32) < c0
  · have P7 := own_step (C := s₁.setTop (mkF m 25 #[.val (.ref a), .val (.int (0 : Int32)), .val (.ref d), .val (.int (0 : Int32)), .val (.int (3 : Int32)), .val (.int (0 : Int32)), .val (.int c0)] [(.int (0 : Int32))])) P5 (by
      intro tt_ kk_
      refine XS.icmpNo X0.here hx rfl (hb hby d7_20) rfl (tlt c6).2.2.2 ?_
      refine XS.iload X0.here hx rfl (hb hby d7_23) rfl ?_
      exact kk_)
    obtain ⟨fs, hr, hrun, hended, hW, hsame⟩ := X0.leave (v := some (.int (0 : Int32))) (fun h => by rw [Bd.returns] at h; cases h)
    refine ⟨_, _, P7 _ ?_, hrun, hended, _, _, rfl, ?_, ⟨_, rfl⟩, hW, hsame.mono (by decide) (by decide)⟩
    · exact retI X0 hx Bd.returns (hb hby d7_25) hr
    · show Q_comp2U_3 Z _ _ _ _ _ _ _ h0 n0 _ s₁.heap _
      rw [e0]
      exact ⟨(0 : Int32), rfl, N0, (Keep.refl h0 [d]), Or.inl ⟨rfl, c6⟩⟩
  · have P8 := own_step (C := s₁.setTop (mkF m 31 #[.val (.ref a), .val (.int (0 : Int32)), .val (.ref d), .val (.int (0 : Int32)), .val (.int (3 : Int32)), .val (.int (0 : Int32)), .val (.int c0)] [(.int (c0.toInt8.toInt32)), (.int (0 : Int32)), (.ref d)])) P5 (by
      intro tt_ kk_
      refine XS.icmpYes X0.here hx rfl (pc0 := 20) (pc' := 26) rfl (hb hby d7_20) rfl (flt c6).2.2.2 (by decide) (by decide) ?_
      refine XS.aloadN X0.here hx rfl (hb hby d7_26) rfl rfl ?_
      refine XS.iloadN X0.here hx rfl (hb hby d7_27) rfl ?_
      refine XS.iload X0.here hx rfl (hb hby d7_28) rfl ?_
      refine XS.i2b X0.here hx rfl (hb hby d7_30) rfl ?_
      exact kk_)
    obtain ⟨cl9, Ar9, q9, S9, M9, H9, G9⟩ := id Vd
    obtain ⟨T10, h10, X10, e10, W10, st10⟩ := stB X0 hx hZ e0 Ar9 (j := (0 : Int32)) (inb_of S9 (by decide : ¬ (0 : Int32) < 0 ∧ (0 : Int32) < (3 : Int32))) (g := (mkF m 31 #[.val (.ref a), .val (.int (0 : Int32)), .val (.ref d), .val (.int (0 : Int32)), .val (.int (3 : Int32)), .val (.int (0 : Int32)), .val (.int c0)] [(.int (c0.toInt8.toInt32)), (.int (0 : Int32)), (.ref d)])) rfl rfl (hb hby d7_31)
    have f11 := O.wr W10 gd
    have f12 := Va.other W10 nad
    have f14 := (Keep.refl h0 [d]).wr W10 (Or.inl (List.mem_of_getElem? (i := 0) rfl))
    have Z15 : n0 ≤ h10.size := Nat.le_trans Z0 (Keep.of_wr W10).1
    have V10 : Arv Z h10 d kd .byte (3 : Int32) [(.int (c0.toInt8.toInt32).toInt8.toInt32), (.int (0 : Int32)), (.int (0 : Int32))] (.int 0) := Arv.set Ar9 q9 S9 M9 H9 G9 (fits_nar_byte _) W10 0 rfl (Nat.le_of_ble_eq_true rfl)
    have N10 := Fr.snoc X10 N0 gd
    have P16 := own_step (C := T10.setTop (mkF m 32 #[.val (.ref a), .val (.int (0 : Int32)), .val (.ref d), .val (.int (0 : Int32)), .val (.int (3 : Int32)), .val (.int (0 : Int32)), .val (.int c0)] [])) P8 (fun t_ k_ => st10 t_ k_)
    have P17 := own_step (C := T10.setTop (mkF m 7 #[.val (.ref a), .val (.int (1 : Int32)), .val (.ref d), .val (.int (1 : Int32)), .val (.int (3 : Int32)), .val (.int (1 : Int32)), .val (.int c0)] [(.int (3 : Int32)), (.int (1 : Int32))])) P16 (by
      intro tt_ kk_
      refine XS.iinc X10.here hx rfl (hb hby d7_32) rfl (l' := #[.val (.ref a), .val (.int (1 : Int32)), .val (.ref d), .val (.int (0 : Int32)), .val (.int (3 : Int32)), .val (.int (0 : Int32)), .val (.int c0)]) rfl ?_
      show Steps p.tables e below (T10.setTop (mkF m 35 #[.val (.ref a), .val (.int (1 : Int32)), .val (.ref d), .val (.int (0 : Int32)), .val (.int (3 : Int32)), .val (.int (0 : Int32)), .val (.int c0)] [])) _
      refine XS.iinc X10.here hx rfl (hb hby d7_35) rfl (l' := #[.val (.ref a), .val (.int (1 : Int32)), .val (.ref d), .val (.int (1 : Int32)), .val (.int (3 : Int32)), .val (.int (0 : Int32)), .val (.int c0)]) rfl ?_
      show Steps p.tables e below (T10.setTop (mkF m 38 #[.val (.ref a), .val (.int (1 : Int32)), .val (.ref d), .val (.int (1 : Int32)), .val (.int (3 : Int32)), .val (.int (0 : Int32)), .val (.int c0)] [])) _
      refine XS.iinc X10.here hx rfl (hb hby d7_38) rfl (l' := #[.val (.ref a), .val (.int (1 : Int32)), .val (.ref d), .val (.int (1 : Int32)), .val (.int (3 : Int32)), .val (.int (1 : Int32)), .val (.int c0)]) rfl ?_
      show Steps p.tables e below (T10.setTop (mkF m 41 #[.val (.ref a), .val (.int (1 : Int32)), .val (.ref d), .val (.int (1 : Int32)), .val (.int (3 : Int32)), .val (.int (1 : Int32)), .val (.int c0)] [])) _
      refine XS.goto X10.here hx rfl (pc0 := 41) (pc' := 3) rfl (hb hby d7_41) (by decide) (by decide) ?_
      refine XS.iload X10.here hx rfl (hb hby d7_3) rfl ?_
      refine XS.iload X10.here hx rfl (hb hby d7_5) rfl ?_
      exact kk_)
    have P18 := own_step (C := T10.setTop (mkF m 12 #[.val (.ref a), .val (.int (1 : Int32)), .val (.ref d), .val (.int (1 : Int32)), .val (.int (3 : Int32)), .val (.int (1 : Int32)), .val (.int c0)] [(.int (1 : Int32)), (.ref a)])) P17 (by
      intro tt_ kk_
      refine XS.icmpNo X10.here hx rfl (hb hby d7_7) rfl (tlt (by decide : (1 : Int32) < (3 : Int32))).2.1 ?_
      refine XS.aloadN X10.here hx rfl (hb hby d7_10) rfl rfl ?_
      refine XS.iloadN X10.here hx rfl (hb hby d7_11) rfl ?_
      exact kk_)
    obtain ⟨cl19, Ar19, q19, S19, M19, H19, G19⟩ := id f12
    have hin19 := inb_of S19 (by decide : ¬ (1 : Int32) < 0 ∧ (1 : Int32) < (3 : Int32))
    have hat19 := Has.at H19 hin19 (v := .int c1) rfl
    have P20 := own_step (C := T10.setTop (mkF m 13 #[.val (.ref a), .val (.int (1 : Int32)), .val (.ref d), .val (.int (1 : Int32)), .val (.int (3 : Int32)), .val (.int (1 : Int32)), .val (.int c0)] [(.int c1)])) P18 (by
      intro tt_ kk_
      refine X10.caload hx (j := (1 : Int32)) (v := (.int c1)) (by rw [e10]; exact Ar19.1) (State.isArrayOf_alike hZ.alike Ar19.2.1) Ar19.2.2 hin19 hat19 (g := (mkF m 12 #[.val (.ref a), .val (.int (1 : Int32)), .val (.ref d), .val (.int (1 : Int32)), .val (.int (3 : Int32)), .val (.int (1 : Int32)), .val (.int c0)] [(.int (1 : Int32)), (.ref a)])) rfl rfl (hb hby d7_12) _ ?_
      exact kk_)
    have P21 := own_step (C := T10.setTop (mkF m 20 #[.val (.ref a), .val (.int (1 : Int32)), .val (.ref d), .val (.int (1 : Int32)), .val (.int (3 : Int32)), .val (.int (1 : Int32)), .val (.int c1)] [(.int (255 : Int32)), (.int c1)])) P20 (by
      intro tt_ kk_
      refine XS.istore X10.here hx rfl (hb hby d7_13) rfl (l' := #[.val (.ref a), .val (.int (1 : Int32)), .val (.ref d), .val (.int (1 : Int32)), .val (.int (3 : Int32)), .val (.int (1 : Int32)), .val (.int c1)]) rfl ?_
      refine XS.iload X10.here hx rfl (hb hby d7_15) rfl ?_
      refine XS.sipush X10.here hx rfl (hb hby d7_17) ?_
      exact kk_)
    by_cases c22 : (255 : Int32) < c1
    · have P23 := own_step (C := T10.setTop (mkF m 25 #[.val (.ref a), .val (.int (1 : Int32)), .val (.ref d), .val (.int (1 : Int32)), .val (.int (3 : Int32)), .val (.int (1 : Int32)), .val (.int c1)] [(.int (1 : Int32))])) P21 (by
        intro tt_ kk_
        refine XS.icmpNo X10.here hx rfl (hb hby d7_20) rfl (tlt c22).2.2.2 ?_
        refine XS.iload X10.here hx rfl (hb hby d7_23) rfl ?_
        exact kk_)
      obtain ⟨fs, hr, hrun, hended, hW, hsame⟩ := X10.leave (v := some (.int (1 : Int32))) (fun h => by rw [Bd.returns] at h; cases h)
      refine ⟨_, _, P23 _ ?_, hrun, hended, _, _, rfl, ?_, ⟨_, rfl⟩, hW, hsame.mono (by decide) (by decide)⟩
      · exact retI X10 hx Bd.returns (hb hby d7_25) hr
      · show Q_comp2U_3 Z _ _ _ _ _ _ _ h0 n0 _ T10.heap _
        rw [e10]
        exact ⟨(1 : Int32), rfl, N10, f14, Or.inr (Or.inl ⟨rfl, c22⟩)⟩
    · have P24 := own_step (C := T10.setTop (mkF m 31 #[.val (.ref a), .val (.int (1 : Int32)), .val (.ref d), .val (.int (1 : Int32)), .val (.int (3 : Int32)), .val (.int (1 : Int32)), .val (.int c1)] [(.int (c1.toInt8.toInt32)), (.int (1 : Int32)), (.ref d)])) P21 (by
        intro tt_ kk_
        refine XS.icmpYes X10.here hx rfl (pc0 := 20) (pc' := 26) rfl (hb hby d7_20) rfl (flt c22).2.2.2 (by decide) (by decide) ?_
        refine XS.aloadN X10.here hx rfl (hb hby d7_26) rfl rfl ?_
        refine XS.iloadN X10.here hx rfl (hb hby d7_27) rfl ?_
        refine XS.iload X10.here hx rfl (hb hby d7_28) rfl ?_
        refine XS.i2b X10.here hx rfl (hb hby d7_30) rfl ?_
        exact kk_)
      obtain ⟨cl25, Ar25, q25, S25, M25, H25, G25⟩ := id V10
      obtain ⟨T26, h26, X26, e26, W26, st26⟩ := stB X10 hx hZ e10 Ar25 (j := (1 : Int32)) (inb_of S25 (by decide : ¬ (1 : Int32) < 0 ∧ (1 : Int32) < (3 : Int32))) (g := (mkF m 31 #[.val (.ref a), .val (.int (1 : Int32)), .val (.ref d), .val (.int (1 : Int32)), .val (.int (3 : Int32)), .val (.int (1 : Int32)), .val (.int c1)] [(.int (c1.toInt8.toInt32)), (.int (1 : Int32)), (.ref d)])) rfl rfl (hb hby d7_31)
      have f27 := f11.wr W26 gd
      have f28 := f12.other W26 nad
      have f30 := f14.wr W26 (Or.inl (List.mem_of_getElem? (i := 0) rfl))
      have Z31 : n0 ≤ h26.size := Nat.le_trans Z15 (Keep.of_wr W26).1
      have V26 : Arv Z h26 d kd .byte (3 : Int32) [(.int (c0.toInt8.toInt32).toInt8.toInt32), (.int (c1.toInt8.toInt32).toInt8.toInt32), (.int (0 : Int32))] (.int 0) := Arv.set Ar25 q25 S25 M25 H25 G25 (fits_nar_byte _) W26 1 rfl (Nat.le_of_ble_eq_true rfl)
      have N26 := Fr.snoc X26 N10 gd
      have P32 := own_step (C := T26.setTop (mkF m 32 #[.val (.ref a), .val (.int (1 : Int32)), .val (.ref d), .val (.int (1 : Int32)), .val (.int (3 : Int32)), .val (.int (1 : Int32)), .val (.int c1)] [])) P24 (fun t_ k_ => st26 t_ k_)
      have P33 := own_step (C := T26.setTop (mkF m 7 #[.val (.ref a), .val (.int (2 : Int32)), .val (.ref d), .val (.int (2 : Int32)), .val (.int (3 : Int32)), .val (.int (2 : Int32)), .val (.int c1)] [(.int (3 : Int32)), (.int (2 : Int32))])) P32 (by
        intro tt_ kk_
        refine XS.iinc X26.here hx rfl (hb hby d7_32) rfl (l' := #[.val (.ref a), .val (.int (2 : Int32)), .val (.ref d), .val (.int (1 : Int32)), .val (.int (3 : Int32)), .val (.int (1 : Int32)), .val (.int c1)]) rfl ?_
        show Steps p.tables e below (T26.setTop (mkF m 35 #[.val (.ref a), .val (.int (2 : Int32)), .val (.ref d), .val (.int (1 : Int32)), .val (.int (3 : Int32)), .val (.int (1 : Int32)), .val (.int c1)] [])) _
        refine XS.iinc X26.here hx rfl (hb hby d7_35) rfl (l' := #[.val (.ref a), .val (.int (2 : Int32)), .val (.ref d), .val (.int (2 : Int32)), .val (.int (3 : Int32)), .val (.int (1 : Int32)), .val (.int c1)]) rfl ?_
        show Steps p.tables e below (T26.setTop (mkF m 38 #[.val (.ref a), .val (.int (2 : Int32)), .val (.ref d), .val (.int (2 : Int32)), .val (.int (3 : Int32)), .val (.int (1 : Int32)), .val (.int c1)] [])) _
        refine XS.iinc X26.here hx rfl (hb hby d7_38) rfl (l' := #[.val (.ref a), .val (.int (2 : Int32)), .val (.ref d), .val (.int (2 : Int32)), .val (.int (3 : Int32)), .val (.int (2 : Int32)), .val (.int c1)]) rfl ?_
        show Steps p.tables e below (T26.setTop (mkF m 41 #[.val (.ref a), .val (.int (2 : Int32)), .val (.ref d), .val (.int (2 : Int32)), .val (.int (3 : Int32)), .val (.int (2 : Int32)), .val (.int c1)] [])) _
        refine XS.goto X26.here hx rfl (pc0 := 41) (pc' := 3) rfl (hb hby d7_41) (by decide) (by decide) ?_
        refine XS.iload X26.here hx rfl (hb hby d7_3) rfl ?_
        refine XS.iload X26.here hx rfl (hb hby d7_5) rfl ?_
        exact kk_)
      have P34 := own_step (C := T26.setTop (mkF m 12 #[.val (.ref a), .val (.int (2 : Int32)), .val (.ref d), .val (.int (2 : Int32)), .val (.int (3 : Int32)), .val (.int (2 : Int32)), .val (.int c1)] [(.int (2 : Int32)), (.ref a)])) P33 (by
        intro tt_ kk_
        refine XS.icmpNo X26.here hx rfl (hb hby d7_7) rfl (tlt (by decide : (2 : Int32) < (3 : Int32))).2.1 ?_
        refine XS.aloadN X26.here hx rfl (hb hby d7_10) rfl rfl ?_
        refine XS.iloadN X26.here hx rfl (hb hby d7_11) rfl ?_
        exact kk_)
      obtain ⟨cl35, Ar35, q35, S35, M35, H35, G35⟩ := id f28
      have hin35 := inb_of S35 (by decide : ¬ (2 : Int32) < 0 ∧ (2 : Int32) < (3 : Int32))
      have hat35 := Has.at H35 hin35 (v := .int c2) rfl
      have P36 := own_step (C := T26.setTop (mkF m 13 #[.val (.ref a), .val (.int (2 : Int32)), .val (.ref d), .val (.int (2 : Int32)), .val (.int (3 : Int32)), .val (.int (2 : Int32)), .val (.int c1)] [(.int c2)])) P34 (by
        intro tt_ kk_
        refine X26.caload hx (j := (2 : Int32)) (v := (.int c2)) (by rw [e26]; exact Ar35.1) (State.isArrayOf_alike hZ.alike Ar35.2.1) Ar35.2.2 hin35 hat35 (g := (mkF m 12 #[.val (.ref a), .val (.int (2 : Int32)), .val (.ref d), .val (.int (2 : Int32)), .val (.int (3 : Int32)), .val (.int (2 : Int32)), .val (.int c1)] [(.int (2 : Int32)), (.ref a)])) rfl rfl (hb hby d7_12) _ ?_
        exact kk_)
      have P37 := own_step (C := T26.setTop (mkF m 20 #[.val (.ref a), .val (.int (2 : Int32)), .val (.ref d), .val (.int (2 : Int32)), .val (.int (3 : Int32)), .val (.int (2 : Int32)), .val (.int c2)] [(.int (255 : Int32)), (.int c2)])) P36 (by
        intro tt_ kk_
        refine XS.istore X26.here hx rfl (hb hby d7_13) rfl (l' := #[.val (.ref a), .val (.int (2 : Int32)), .val (.ref d), .val (.int (2 : Int32)), .val (.int (3 : Int32)), .val (.int (2 : Int32)), .val (.int c2)]) rfl ?_
        refine XS.iload X26.here hx rfl (hb hby d7_15) rfl ?_
        refine XS.sipush X26.here hx rfl (hb hby d7_17) ?_
        exact kk_)
      by_cases c38 : (255 : Int32) < c2
      · have P39 := own_step (C := T26.setTop (mkF m 25 #[.val (.ref a), .val (.int (2 : Int32)), .val (.ref d), .val (.int (2 : Int32)), .val (.int (3 : Int32)), .val (.int (2 : Int32)), .val (.int c2)] [(.int (2 : Int32))])) P37 (by
          intro tt_ kk_
          refine XS.icmpNo X26.here hx rfl (hb hby d7_20) rfl (tlt c38).2.2.2 ?_
          refine XS.iload X26.here hx rfl (hb hby d7_23) rfl ?_
          exact kk_)
        obtain ⟨fs, hr, hrun, hended, hW, hsame⟩ := X26.leave (v := some (.int (2 : Int32))) (fun h => by rw [Bd.returns] at h; cases h)
        refine ⟨_, _, P39 _ ?_, hrun, hended, _, _, rfl, ?_, ⟨_, rfl⟩, hW, hsame.mono (by decide) (by decide)⟩
        · exact retI X26 hx Bd.returns (hb hby d7_25) hr
        · show Q_comp2U_3 Z _ _ _ _ _ _ _ h0 n0 _ T26.heap _
          rw [e26]
          exact ⟨(2 : Int32), rfl, N26, f30, Or.inr (Or.inr (Or.inl ⟨rfl, c38⟩))⟩
      · have P40 := own_step (C := T26.setTop (mkF m 31 #[.val (.ref a), .val (.int (2 : Int32)), .val (.ref d), .val (.int (2 : Int32)), .val (.int (3 : Int32)), .val (.int (2 : Int32)), .val (.int c2)] [(.int (c2.toInt8.toInt32)), (.int (2 : Int32)), (.ref d)])) P37 (by
          intro tt_ kk_
          refine XS.icmpYes X26.here hx rfl (pc0 := 20) (pc' := 26) rfl (hb hby d7_20) rfl (flt c38).2.2.2 (by decide) (by decide) ?_
          refine XS.aloadN X26.here hx rfl (hb hby d7_26) rfl rfl ?_
          refine XS.iloadN X26.here hx rfl (hb hby d7_27) rfl ?_
          refine XS.iload X26.here hx rfl (hb hby d7_28) rfl ?_
          refine XS.i2b X26.here hx rfl (hb hby d7_30) rfl ?_
          exact kk_)
        obtain ⟨cl41, Ar41, q41, S41, M41, H41, G41⟩ := id V26
        obtain ⟨T42, h42, X42, e42, W42, st42⟩ := stB X26 hx hZ e26 Ar41 (j := (2 : Int32)) (inb_of S41 (by decide : ¬ (2 : Int32) < 0 ∧ (2 : Int32) < (3 : Int32))) (g := (mkF m 31 #[.val (.ref a), .val (.int (2 : Int32)), .val (.ref d), .val (.int (2 : Int32)), .val (.int (3 : Int32)), .val (.int (2 : Int32)), .val (.int c2)] [(.int (c2.toInt8.toInt32)), (.int (2 : Int32)), (.ref d)])) rfl rfl (hb hby d7_31)
        have f43 := f27.wr W42 gd
        have f44 := f28.other W42 nad
        have f46 := f30.wr W42 (Or.inl (List.mem_of_getElem? (i := 0) rfl))
        have Z47 : n0 ≤ h42.size := Nat.le_trans Z31 (Keep.of_wr W42).1
        have V42 : Arv Z h42 d kd .byte (3 : Int32) [(.int (c0.toInt8.toInt32).toInt8.toInt32), (.int (c1.toInt8.toInt32).toInt8.toInt32), (.int (c2.toInt8.toInt32).toInt8.toInt32)] (.int 0) := Arv.set Ar41 q41 S41 M41 H41 G41 (fits_nar_byte _) W42 2 rfl (Nat.le_of_ble_eq_true rfl)
        have N42 := Fr.snoc X42 N26 gd
        have P48 := own_step (C := T42.setTop (mkF m 32 #[.val (.ref a), .val (.int (2 : Int32)), .val (.ref d), .val (.int (2 : Int32)), .val (.int (3 : Int32)), .val (.int (2 : Int32)), .val (.int c2)] [])) P40 (fun t_ k_ => st42 t_ k_)
        have P49 := own_step (C := T42.setTop (mkF m 7 #[.val (.ref a), .val (.int (3 : Int32)), .val (.ref d), .val (.int (3 : Int32)), .val (.int (3 : Int32)), .val (.int (3 : Int32)), .val (.int c2)] [(.int (3 : Int32)), (.int (3 : Int32))])) P48 (by
          intro tt_ kk_
          refine XS.iinc X42.here hx rfl (hb hby d7_32) rfl (l' := #[.val (.ref a), .val (.int (3 : Int32)), .val (.ref d), .val (.int (2 : Int32)), .val (.int (3 : Int32)), .val (.int (2 : Int32)), .val (.int c2)]) rfl ?_
          show Steps p.tables e below (T42.setTop (mkF m 35 #[.val (.ref a), .val (.int (3 : Int32)), .val (.ref d), .val (.int (2 : Int32)), .val (.int (3 : Int32)), .val (.int (2 : Int32)), .val (.int c2)] [])) _
          refine XS.iinc X42.here hx rfl (hb hby d7_35) rfl (l' := #[.val (.ref a), .val (.int (3 : Int32)), .val (.ref d), .val (.int (3 : Int32)), .val (.int (3 : Int32)), .val (.int (2 : Int32)), .val (.int c2)]) rfl ?_
          show Steps p.tables e below (T42.setTop (mkF m 38 #[.val (.ref a), .val (.int (3 : Int32)), .val (.ref d), .val (.int (3 : Int32)), .val (.int (3 : Int32)), .val (.int (2 : Int32)), .val (.int c2)] [])) _
          refine XS.iinc X42.here hx rfl (hb hby d7_38) rfl (l' := #[.val (.ref a), .val (.int (3 : Int32)), .val (.ref d), .val (.int (3 : Int32)), .val (.int (3 : Int32)), .val (.int (3 : Int32)), .val (.int c2)]) rfl ?_
          show Steps p.tables e below (T42.setTop (mkF m 41 #[.val (.ref a), .val (.int (3 : Int32)), .val (.ref d), .val (.int (3 : Int32)), .val (.int (3 : Int32)), .val (.int (3 : Int32)), .val (.int c2)] [])) _
          refine XS.goto X42.here hx rfl (pc0 := 41) (pc' := 3) rfl (hb hby d7_41) (by decide) (by decide) ?_
          refine XS.iload X42.here hx rfl (hb hby d7_3) rfl ?_
          refine XS.iload X42.here hx rfl (hb hby d7_5) rfl ?_
          exact kk_)
        have P50 := own_step (C := T42.setTop (mkF m 46 #[.val (.ref a), .val (.int (3 : Int32)), .val (.ref d), .val (.int (3 : Int32)), .val (.int (3 : Int32)), .val (.int (3 : Int32)), .val (.int c2)] [(.int (3 : Int32))])) P49 (by
          intro tt_ kk_
          refine XS.icmpYes X42.here hx rfl (pc0 := 7) (pc' := 44) rfl (hb hby d7_7) rfl (flt (by decide : ¬ ((3 : Int32) < (3 : Int32)))).2.1 (by decide) (by decide) ?_
          refine XS.iload X42.here hx rfl (hb hby d7_44) rfl ?_
          exact kk_)
        obtain ⟨fs, hr, hrun, hended, hW, hsame⟩ := X42.leave (v := some (.int (3 : Int32))) (fun h => by rw [Bd.returns] at h; cases h)
        refine ⟨_, _, P50 _ ?_, hrun, hended, _, _, rfl, ?_, ⟨_, rfl⟩, hW, hsame.mono (by decide) (by decide)⟩
        · exact retI X42 hx Bd.returns (hb hby d7_46) hr
        · show Q_comp2U_3 Z _ _ _ _ _ _ _ h0 n0 _ T42.heap _
          rw [e42]
          exact ⟨(3 : Int32), rfl, N42, f46, Or.inr (Or.inr (Or.inr (⟨rfl, c6, c22, c38, V42⟩)))⟩
theorem ef__comp_3 (m : MethodId) (x0 : Addr) (x1 : Int32) (x2 : Int32) : entryFrame m #[(.ref x0), (.int x1), (.int x2)] 6 = mkF m 0 #[.val (.ref x0), .val (.int x1), .val (.int x2), .unset, .unset, .unset] [] := by first | (simp [entryFrame, mkF, argsToLocals, Value.category]; done) | rfl
def Q_comp_3 (Z : State) (a : Addr) (ka : ClassId) (c0 : Int32) (c1 : Int32) (c2 : Int32) (h0 : Heap) (n0 : Nat) (v_ : Option Value) (h : Heap) (L_ : List Loc) : Prop := ∃ (x : Addr) (kk : ClassId), v_ = some (.ref x) ∧ Fr n0 L_ ∧ Keep h0 h [] ∧ h0.size ≤ x ∧ Arv Z h x kk .byte (3 : Int32) [(.int (c0.toInt8.toInt32).toInt8.toInt32), (.int (c1.toInt8.toInt32).toInt8.toInt32), (.int (c2.toInt8.toInt32).toInt8.toInt32)] (.int 0)
set_option maxRecDepth 65536 in
set_option maxHeartbeats 40000000 in
theorem rm_comp_3 (l : Launch) (Z : State) (a0 : Array Value) (hw : ∀ d ∈ tables_1, d.before a0 Z = true) (ws : List Jvm.Cond) (a : Addr) (ka : ClassId) (c0 : Int32) (c1 : Int32) (c2 : Int32) (h0 : Heap) (n0 : Nat) (Z0 : n0 ≤ h0.size) (O : Old Z n0 h0) (Va : Arv Z h0 a ka .char (3 : Int32) [(.int c0), (.int c1), (.int c2)] (.int 0)) (hc0 : ¬ ((255 : Int32) < c0)) (hc1 : ¬ ((255 : Int32) < c1)) (hc2 : ¬ ((255 : Int32) < c2)) :
    MetFree l (⟨"java/lang/StringUTF16", "compress", "([CII)[B"⟩ : MethodName) (head1 (Jvm.Cond.code (⟨"java/lang/StringUTF16", "compress", "([CII)[B"⟩ : MethodName) jdk_52_method_16_code 6 (some (.array .byte)) :: ws) ({ frames := 1, cells := 1, slots := 3, locals := 18 } : Room)) (fun a_ U_ => a_ = #[(.ref a), (.int (0 : Int32)), (.int (3 : Int32))] ∧ Z.Warmed39 U_.vm ∧ U_.heap = h0) (fun _ _ _ _ _ => True) (fun _ U_ o_ V_ => ∃ v_ L_, o_ = .returned v_ ∧ Q_comp_3 Z a ka c0 c1 c2 h0 n0 v_ V_.heap L_ ∧ FrameEnd U_ o_ V_ L_ ({ frames := 1, cells := 1, slots := 3, locals := 18 } : Room).cells ({ frames := 1, cells := 1, slots := 3, locals := 18 } : Room).slots) := by
  refine MetFree.of_bodySF (plainFor_of_name pn5) hisR ?_
  intro p e s m args below meth c s₁ Bd hml0 hP hK
  obtain ⟨rfl, hZ, hh⟩ := hP
  have hx := Bd.exec
  have hby := Bd.bytes
  have hml : c.maxLocals = 6 := hml0
  have hown : s.vm.findClass "java/lang/StringUTF16" = some m.cls := findClass_of_methodNamed Bd.named
  have hnm := (name_of_methodNamed Bd.named Bd.method).1
  have X0 : Stand p l e ({ frames := 1, cells := 1, slots := 3, locals := 18 } : Room) s m #[(.ref a), (.int (0 : Int32)), (.int (3 : Int32))] below meth c s₁ [] 0 0 := Stand.of_body Bd
  have e0 : s₁.heap = h0 := by rw [← hh, Bd.state]; rfl
  have N0 := Fr.nil n0
  have pre0 : own_Go p e below (s₁.setTop (entryFrame m #[(.ref a), (.int (0 : Int32)), (.int (3 : Int32))] 6)) (s₁.setTop (mkF m 0 #[.val (.ref a), .val (.int (0 : Int32)), .val (.int (3 : Int32)), .unset, .unset, .unset] [])) := fun t_ k_ => castTop (ef__comp_3 m a (0 : Int32) (3 : Int32)) k_
  have P1 := own_step (C := s₁.setTop (mkF m 1 #[.val (.ref a), .val (.int (0 : Int32)), .val (.int (3 : Int32)), .unset, .unset, .unset] [(.int (3 : Int32))])) pre0 (by
    intro tt_ kk_
    refine XS.iloadN X0.here hx rfl (hb hby d6_0) rfl ?_
    exact kk_)
  obtain ⟨T2, h2, k2, X2, e2, E2, A2, st2⟩ := newP X0 hx hZ (hw _ (List.mem_of_getElem? (i := 15) rfl)) e0 (g := (mkF m 1 #[.val (.ref a), .val (.int (0 : Int32)), .val (.int (3 : Int32)), .unset, .unset, .unset] [(.int (3 : Int32))])) rfl (hb hby d6_1) rfl (by decide) (cap := 3) (by decide) (by decide) (by decide) (by decide)
  obtain ⟨b2, g2⟩ : ∃ z, z = h0.size := ⟨_, rfl⟩
  rw [← g2] at A2 st2
  have ne_a_b2 : a ≠ b2 := Nat.ne_of_lt (Nat.lt_of_lt_of_le Va.lt (Nat.le_of_eq g2.symm))
  have g_b2 : n0 ≤ b2 := Nat.le_trans Z0 (Nat.le_of_eq g2.symm)
  have sz_b2 : h0.size ≤ b2 := Nat.le_trans (Keep.refl h0 []).1 (Nat.le_of_eq g2.symm)
  have f3 := O.ext E2
  have f4 := (Keep.refl h0 []).ext E2
  have f5 := Va.ext E2
  have Z6 : n0 ≤ h2.size := Nat.le_trans Z0 E2.1
  have V2 : Arv Z h2 b2 k2 .byte (3 : Int32) [(.int (0 : Int32)), (.int (0 : Int32)), (.int (0 : Int32))] (.int (0 : Int32)) := (Arv.new A2 (by decide)).pad (pad_rep [] _ 3)
  have P7 := own_step (C := T2.setTop (mkF m 3 #[.val (.ref a), .val (.int (0 : Int32)), .val (.int (3 : Int32)), .unset, .unset, .unset] [(.ref b2)])) P1 (fun t_ k_ => st2 t_ k_)
  have P8 := own_step (C := T2.setTop (mkF m 9 #[.val (.ref a), .val (.int (0 : Int32)), .val (.int (3 : Int32)), .val (.ref b2), .unset, .unset] [(.int (3 : Int32)), (.int (0 : Int32)), (.ref b2), (.int (0 : Int32)), (.ref a)])) P7 (by
    intro tt_ kk_
    refine XS.astoreN X2.here hx rfl (hb hby d6_3) rfl rfl (l' := #[.val (.ref a), .val (.int (0 : Int32)), .val (.int (3 : Int32)), .val (.ref b2), .unset, .unset]) rfl ?_
    refine XS.aloadN X2.here hx rfl (hb hby d6_4) rfl rfl ?_
    refine XS.iloadN X2.here hx rfl (hb hby d6_5) rfl ?_
    refine XS.aloadN X2.here hx rfl (hb hby d6_6) rfl rfl ?_
    refine XS.iconst X2.here hx rfl (hb hby d6_7) ?_
    refine XS.iloadN X2.here hx rfl (hb hby d6_8) rfl ?_
    exact kk_)
  obtain ⟨_, _, ⟨T9, L9, k9, n9⟩, -, X9, ⟨Lc9, hQ9, l9, y9, z9⟩, st9⟩ := Jvm.LawKit.callS X2 hx (y := (⟨"java/lang/StringUTF16", "compress", "([CI[BII)I"⟩ : MethodName)) hown (mvT hZ (hw _ (List.mem_of_getElem? (i := 36) rfl))) (mvT hZ (hw _ (List.mem_of_getElem? (i := 37) rfl))) (mvT hZ (hw _ (List.mem_of_getElem? (i := 34) rfl))) (mvT hZ (hw _ (List.mem_of_getElem? (i := 38) rfl))) (by decide) (backOf (W := 0) (rm_comp2U_3 l Z a0 hw [] a ka b2 k2 c0 c1 c2 h2 n0 Z6 f3 f5 V2 ne_a_b2 g_b2) hZ (hw _ (List.mem_of_getElem? (i := 38) rfl)) (hw _ (List.mem_of_getElem? (i := 34) rfl)) (by decide) (by decide)) (g := (mkF m 9 #[.val (.ref a), .val (.int (0 : Int32)), .val (.int (3 : Int32)), .val (.ref b2), .unset, .unset] [(.int (3 : Int32)), (.int (0 : Int32)), (.ref b2), (.int (0 : Int32)), (.ref a)])) rfl (by rw [hml]; rfl) (argsL := [(.ref a), (.int (0 : Int32)), (.ref b2), (.int (0 : Int32)), (.int (3 : Int32))]) (rest := []) (lenOf pd9 rfl) rfl (by show 2 * 0 + _ ≤ _; exact Nat.le_of_eq rfl) (hb hby d6_9) (fun _ _ => ⟨rfl, e2, (by decide : 1 + 0 ≤ _), (by decide : 3 + 0 ≤ _)⟩)
  dsimp only [Pt.U, Pt.locs, Pt.cells, Pt.slots] at X9 l9 y9 z9 st9 hQ9
  subst l9 y9 z9
  obtain ⟨r9, rfl, N9q, K9, f10⟩ := hQ9
  have N9 := Fr.app N0 N9q
  have f11 := f3.keep K9 (allS g_b2 all0)
  have f12 := f4.trans K9 (allS (Or.inr sz_b2) all0)
  have f13 := f5.keep K9 (ninS ne_a_b2 nin0)
  have Z15 : n0 ≤ T9.heap.size := Nat.le_trans Z6 K9.1
  have P16 := own_step (C := T9.setTop (mkF m 12 #[.val (.ref a), .val (.int (0 : Int32)), .val (.int (3 : Int32)), .val (.ref b2), .unset, .unset] [(.int r9)])) P8 (fun t_ k_ => st9 t_ k_)
  obtain ⟨hrr, Vx⟩ : r9 = (3 : Int32) ∧ Arv Z T9.heap b2 k2 .byte (3 : Int32) [(.int (c0.toInt8.toInt32).toInt8.toInt32), (.int (c1.toInt8.toInt32).toInt8.toInt32), (.int (c2.toInt8.toInt32).toInt8.toInt32)] (.int 0) := by
    rcases f10 with ⟨-, hq⟩ | ⟨-, hq⟩ | ⟨-, hq⟩ | ⟨hq, -, -, -, hv⟩
    · exact absurd hq hc0
    · exact absurd hq hc1
    · exact absurd hq hc2
    · exact ⟨hq, hv⟩
  subst hrr
  have P17 := own_step (C := T9.setTop (mkF m 17 #[.val (.ref a), .val (.int (0 : Int32)), .val (.int (3 : Int32)), .val (.ref b2), .val (.int (3 : Int32)), .unset] [(.int (3 : Int32)), (.int (3 : Int32))])) P16 (by
    intro tt_ kk_
    refine XS.istore X9.here hx rfl (hb hby d6_12) rfl (l' := #[.val (.ref a), .val (.int (0 : Int32)), .val (.int (3 : Int32)), .val (.ref b2), .val (.int (3 : Int32)), .unset]) rfl ?_
    refine XS.iload X9.here hx rfl (hb hby d6_14) rfl ?_
    refine XS.iloadN X9.here hx rfl (hb hby d6_16) rfl ?_
    exact kk_)
  have P18 := own_step (C := T9.setTop (mkF m 58 #[.val (.ref a), .val (.int (0 : Int32)), .val (.int (3 : Int32)), .val (.ref b2), .val (.int (3 : Int32)), .unset] [(.ref b2)])) P17 (by
    intro tt_ kk_
    refine XS.icmpYes X9.here hx rfl (pc0 := 17) (pc' := 57) rfl (hb hby d6_17) rfl (teq (by decide : (3 : Int32) = (3 : Int32))).1 (by decide) (by decide) ?_
    refine XS.aloadN X9.here hx rfl (hb hby d6_57) rfl rfl ?_
    exact kk_)
  obtain ⟨fs, hr, hrun, hended, hW, hsame⟩ := X9.leave (v := some (.ref b2)) (fun h => by rw [Bd.returns] at h; cases h)
  refine ⟨_, _, P18 _ ?_, hrun, hended, _, _, rfl, ?_, ⟨_, rfl⟩, hW, hsame.mono (by decide) (by decide)⟩
  · jvm_step X9.here [X9.here.top, hx, (hb hby d6_58), X9.method', Bd.returns, Value.isRef, FieldType.isReference]
    first | (intro acts; rw [hr _ acts rfl rfl rfl]) | rw [hr _ _ rfl rfl rfl]
    exact Steps.refl _
  · show Q_comp_3 Z _ _ _ _ _ h0 n0 _ T9.heap _
    exact ⟨b2, k2, rfl, N9, f12, sz_b2, Vx⟩
theorem ef__initV_3 (m : MethodId) (x0 : Addr) (x1 : Addr) (x2 : Int32) (x3 : Int32) : entryFrame m #[(.ref x0), (.ref x1), (.int x2), (.int x3), .null] 6 = mkF m 0 #[.val (.ref x0), .val (.ref x1), .val (.int x2), .val (.int x3), .val .null, .unset] [] := by first | (simp [entryFrame, mkF, argsToLocals, Value.category]; done) | rfl
def Q_initV_3 (Z : State) (a : Addr) (ca : Addr) (ka : ClassId) (c0 : Int32) (c1 : Int32) (c2 : Int32) (cs : Int32) (h0 : Heap) (n0 : Nat) (v_ : Option Value) (h : Heap) (L_ : List Loc) : Prop := ∃ (x : Addr) (kk : ClassId), v_ = none ∧ Fr n0 L_ ∧ Keep h0 h [a] ∧ Exa Z h a "java/lang/String" ∧ Fld Z h a "java/lang/String" "coder" "B" (.int (0 : Int32)) ∧ Fld Z h a "java/lang/String" "value" "[B" (.ref x) ∧ Arv Z h x kk .byte (3 : Int32) [(.int (c0.toInt8.toInt32).toInt8.toInt32), (.int (c1.toInt8.toInt32).toInt8.toInt32), (.int (c2.toInt8.toInt32).toInt8.toInt32)] (.int 0) ∧ h0.size ≤ x
set_option maxRecDepth 65536 in
set_option maxHeartbeats 40000000 in
theorem rm_initV_3 (l : Launch) (Z : State) (a0 : Array Value) (hw : ∀ d ∈ tables_1, d.before a0 Z = true) (ws : List Jvm.Cond) (a : Addr) (ca : Addr) (ka : ClassId) (c0 : Int32) (c1 : Int32) (c2 : Int32) (cs : Int32) (h0 : Heap) (n0 : Nat) (Z0 : n0 ≤ h0.size) (O : Old Z n0 h0) (Scs : Sta Z Z.heap "java/lang/String" "COMPACT_STRINGS" "Z" (.int cs)) (hcs : ¬ (cs = (0 : Int32))) (Ea : Exa Z h0 a "java/lang/String") (Fv : Fld Z h0 a "java/lang/String" "value" "[B" .null) (Fc : Fld Z h0 a "java/lang/String" "coder" "B" (.int (0 : Int32))) (ga : n0 ≤ a) (Vs : Arv Z h0 ca ka .char (3 : Int32) [(.int c0), (.int c1), (.int c2)] (.int 0)) (hc0 : ¬ ((255 : Int32) < c0)) (hc1 : ¬ ((255 : Int32) < c1)) (hc2 : ¬ ((255 : Int32) < c2)) :
    MetFree l (⟨"java/lang/String", "<init>", "([CIILjava/lang/Void;)V"⟩ : MethodName) (head1 (Jvm.Cond.code (⟨"java/lang/String", "<init>", "([CIILjava/lang/Void;)V"⟩ : MethodName) jdk_42_method_149_code 6 none :: ws) ({ frames := 2, cells := 1, slots := 3, locals := 35 } : Room)) (fun a_ U_ => a_ = #[(.ref a), (.ref ca), (.int (0 : Int32)), (.int (3 : Int32)), .null] ∧ Z.Warmed39 U_.vm ∧ U_.heap = h0) (fun _ _ _ _ _ => True) (fun _ U_ o_ V_ => ∃ v_ L_, o_ = .returned v_ ∧ Q_initV_3 Z a ca ka c0 c1 c2 cs h0 n0 v_ V_.heap L_ ∧ FrameEnd U_ o_ V_ L_ ({ frames := 2, cells := 1, slots := 3, locals := 35 } : Room).cells ({ frames := 2, cells := 1, slots := 3, locals := 35 } : Room).slots) := by
  refine MetFree.of_bodySF (plainFor_of_name pn1) hisR ?_
  intro p e s m args below meth c s₁ Bd hml0 hP hK
  obtain ⟨rfl, hZ, hh⟩ := hP
  have hx := Bd.exec
  have hby := Bd.bytes
  have hml : c.maxLocals = 6 := hml0
  have hown : s.vm.findClass "java/lang/String" = some m.cls := findClass_of_methodNamed Bd.named
  have hnm := (name_of_methodNamed Bd.named Bd.method).1
  have X0 : Stand p l e ({ frames := 2, cells := 1, slots := 3, locals := 35 } : Room) s m #[(.ref a), (.ref ca), (.int (0 : Int32)), (.int (3 : Int32)), .null] below meth c s₁ [] 0 0 := Stand.of_body Bd
  have e0 : s₁.heap = h0 := by rw [← hh, Bd.state]; rfl
  have N0 := Fr.nil n0
  have pre0 : own_Go p e below (s₁.setTop (entryFrame m #[(.ref a), (.ref ca), (.int (0 : Int32)), (.int (3 : Int32)), .null] 6)) (s₁.setTop (mkF m 0 #[.val (.ref a), .val (.ref ca), .val (.int (0 : Int32)), .val (.int (3 : Int32)), .val .null, .unset] [])) := fun t_ k_ => castTop (ef__initV_3 m a ca (0 : Int32) (3 : Int32)) k_
  obtain ⟨clV, ArV, -⟩ := id Vs
  have ne_ca_a : ca ≠ a := Ne.symm (ne_arr Ea (hw _ (List.mem_of_getElem? (i := 1) rfl)) ArV)
  have P1 := own_step (C := s₁.setTop (mkF m 1 #[.val (.ref a), .val (.ref ca), .val (.int (0 : Int32)), .val (.int (3 : Int32)), .val .null, .unset] [(.ref a)])) pre0 (by
    intro tt_ kk_
    refine XS.aloadN X0.here hx rfl (hb hby d2_0) rfl rfl ?_
    exact kk_)
  obtain ⟨T2, X2, e2, st2⟩ := initO X0 hx hZ hown (hw _ (List.mem_of_getElem? (i := 11) rfl)) (hw _ (List.mem_of_getElem? (i := 12) rfl)) (hw _ (List.mem_of_getElem? (i := 13) rfl)) e0 (g := (mkF m 1 #[.val (.ref a), .val (.ref ca), .val (.int (0 : Int32)), .val (.int (3 : Int32)), .val .null, .unset] [(.ref a)])) rfl (by rw [hml]; rfl) rfl (hb hby d2_1) (by decide) (W := 0) (by show 2 * 0 + _ ≤ _; exact Nat.le_of_eq rfl) (by decide)
  have P3 := own_step (C := T2.setTop (mkF m 4 #[.val (.ref a), .val (.ref ca), .val (.int (0 : Int32)), .val (.int (3 : Int32)), .val .null, .unset] [])) P1 (fun t_ k_ => st2 t_ k_)
  have P4 := own_step (C := T2.setTop (mkF m 5 #[.val (.ref a), .val (.ref ca), .val (.int (0 : Int32)), .val (.int (3 : Int32)), .val .null, .unset] [(.int (3 : Int32))])) P3 (by
    intro tt_ kk_
    refine XS.iloadN X2.here hx rfl (hb hby d2_4) rfl ?_
    exact kk_)
  have P5 := own_step (C := T2.setTop (mkF m 27 #[.val (.ref a), .val (.ref ca), .val (.int (0 : Int32)), .val (.int (3 : Int32)), .val .null, .unset] [])) P4 (by
    intro tt_ kk_
    refine XS.ifYes X2.here hx rfl (pc0 := 5) (pc' := 27) rfl (hb hby d2_5) rfl ((if0 _ _).trans (feq (by decide : ¬ ((3 : Int32) = (0 : Int32)))).2) (by decide) (by decide) ?_
    exact kk_)
  obtain ⟨T6, X6, e6, st6⟩ := getS2 X2 hx hZ hown (host := "") (Or.inl (hw _ (List.mem_of_getElem? (i := 31) rfl))) Via.refl e2 (Scs.ext O.2) (g := (mkF m 27 #[.val (.ref a), .val (.ref ca), .val (.int (0 : Int32)), .val (.int (3 : Int32)), .val .null, .unset] [])) rfl (hb hby d2_27)
  have P7 := own_step (C := T6.setTop (mkF m 30 #[.val (.ref a), .val (.ref ca), .val (.int (0 : Int32)), .val (.int (3 : Int32)), .val .null, .unset] [(.int cs)])) P5 (fun t_ k_ => st6 t_ k_)
  have P8 := own_step (C := T6.setTop (mkF m 36 #[.val (.ref a), .val (.ref ca), .val (.int (0 : Int32)), .val (.int (3 : Int32)), .val .null, .unset] [(.int (3 : Int32)), (.int (0 : Int32)), (.ref ca)])) P7 (by
    intro tt_ kk_
    refine XS.ifNo X6.here hx rfl (hb hby d2_30) rfl ((if0 _ _).trans (feq hcs).1) ?_
    refine XS.aloadN X6.here hx rfl (hb hby d2_33) rfl rfl ?_
    refine XS.iloadN X6.here hx rfl (hb hby d2_34) rfl ?_
    refine XS.iloadN X6.here hx rfl (hb hby d2_35) rfl ?_
    exact kk_)
  obtain ⟨_, _, ⟨T9, L9, k9, n9⟩, -, X9, ⟨Lc9, hQ9, l9, y9, z9⟩, st9⟩ := Jvm.LawKit.callS X6 hx (y := (⟨"java/lang/StringUTF16", "compress", "([CII)[B"⟩ : MethodName)) hown (mvT hZ (hw _ (List.mem_of_getElem? (i := 32) rfl))) (mvT hZ (hw _ (List.mem_of_getElem? (i := 33) rfl))) (mvT hZ (hw _ (List.mem_of_getElem? (i := 34) rfl))) (mvT hZ (hw _ (List.mem_of_getElem? (i := 35) rfl))) (by decide) (backOf (W := 0) (rm_comp_3 l Z a0 hw [] ca ka c0 c1 c2 h0 n0 Z0 O Vs hc0 hc1 hc2) hZ (hw _ (List.mem_of_getElem? (i := 35) rfl)) (hw _ (List.mem_of_getElem? (i := 34) rfl)) (by decide) (by decide)) (g := (mkF m 36 #[.val (.ref a), .val (.ref ca), .val (.int (0 : Int32)), .val (.int (3 : Int32)), .val .null, .unset] [(.int (3 : Int32)), (.int (0 : Int32)), (.ref ca)])) rfl (by rw [hml]; rfl) (argsL := [(.ref ca), (.int (0 : Int32)), (.int (3 : Int32))]) (rest := []) (lenOf pd10 rfl) rfl (by show 2 * 0 + _ ≤ _; exact Nat.le_of_eq rfl) (hb hby d2_36) (fun _ _ => ⟨rfl, e6, (by decide : 0 + 1 ≤ _), (by decide : 0 + 3 ≤ _)⟩)
  dsimp only [Pt.U, Pt.locs, Pt.cells, Pt.slots] at X9 l9 y9 z9 st9 hQ9
  subst l9 y9 z9
  obtain ⟨x9, kk9, rfl, N9q, K9, f10, f11⟩ := hQ9
  have N9 := Fr.app N0 N9q
  have ne_a_x9 : a ≠ x9 := Nat.ne_of_lt (Nat.lt_of_lt_of_le Ea.lt f10)
  have ne_ca_x9 : ca ≠ x9 := Nat.ne_of_lt (Nat.lt_of_lt_of_le Vs.lt f10)
  have g_x9 : n0 ≤ x9 := Nat.le_trans Z0 f10
  have sz_x9 : h0.size ≤ x9 := Nat.le_trans (Keep.refl h0 [a]).1 f10
  have f12 := O.keep K9 all0
  have f13 := Ea.keep K9
  have f14 := Fc.keep K9 nin0
  have f15 := Fv.keep K9 nin0
  have f16 := (Keep.refl h0 [a]).trans K9 all0
  have f17 := Vs.keep K9 nin0
  have Z18 : n0 ≤ T9.heap.size := Nat.le_trans Z0 K9.1
  have P19 := own_step (C := T9.setTop (mkF m 39 #[.val (.ref a), .val (.ref ca), .val (.int (0 : Int32)), .val (.int (3 : Int32)), .val .null, .unset] [(.ref x9)])) P8 (fun t_ k_ => st9 t_ k_)
  have P20 := own_step (C := T9.setTop (mkF m 45 #[.val (.ref a), .val (.ref ca), .val (.int (0 : Int32)), .val (.int (3 : Int32)), .val .null, .val (.ref x9)] [(.int (3 : Int32)), (.ref x9), (.ref a)])) P19 (by
    intro tt_ kk_
    refine XS.astore X9.here hx rfl (hb hby d2_39) rfl rfl (l' := #[.val (.ref a), .val (.ref ca), .val (.int (0 : Int32)), .val (.int (3 : Int32)), .val .null, .val (.ref x9)]) rfl ?_
    refine XS.aloadN X9.here hx rfl (hb hby d2_41) rfl rfl ?_
    refine XS.aload X9.here hx rfl (hb hby d2_42) rfl rfl ?_
    refine XS.iloadN X9.here hx rfl (hb hby d2_44) rfl ?_
    exact kk_)
  obtain ⟨_, _, ⟨T21, L21, k21, n21⟩, -, X21, ⟨Lc21, hQ21, l21, y21, z21⟩, st21⟩ := Jvm.LawKit.callS X9 hx (y := (⟨"java/lang/StringUTF16", "coderFromArrayLen", "([BI)B"⟩ : MethodName)) hown (mvT hZ (hw _ (List.mem_of_getElem? (i := 39) rfl))) (mvT hZ (hw _ (List.mem_of_getElem? (i := 40) rfl))) (mvT hZ (hw _ (List.mem_of_getElem? (i := 34) rfl))) (mvT hZ (hw _ (List.mem_of_getElem? (i := 41) rfl))) (by decide) (backOf (W := 1) (rm_cfa l Z a0 hw [] x9 kk9 (3 : Int32) _ (3 : Int32) (0 : Int32) T9.heap n0 Z18 f11 (by decide +kernel)) hZ (hw _ (List.mem_of_getElem? (i := 41) rfl)) (hw _ (List.mem_of_getElem? (i := 34) rfl)) (by decide) (by decide)) (g := (mkF m 45 #[.val (.ref a), .val (.ref ca), .val (.int (0 : Int32)), .val (.int (3 : Int32)), .val .null, .val (.ref x9)] [(.int (3 : Int32)), (.ref x9), (.ref a)])) rfl (by rw [hml]; rfl) (argsL := [(.ref x9), (.int (3 : Int32))]) (rest := [(.ref a)]) (lenOf pd11 rfl) rfl (by show 2 * 0 + _ ≤ _; exact Nat.le_of_eq rfl) (hb hby d2_45) (fun _ _ => ⟨rfl, rfl, (by decide : 1 + 0 ≤ _), (by decide : 3 + 0 ≤ _)⟩)
  dsimp only [Pt.U, Pt.locs, Pt.cells, Pt.slots] at X21 l21 y21 z21 st21 hQ21
  subst l21 y21 z21
  obtain ⟨rfl, N21q, e21⟩ := hQ21
  have N21 := Fr.app N9 N21q
  have P22 := own_step (C := T21.setTop (mkF m 48 #[.val (.ref a), .val (.ref ca), .val (.int (0 : Int32)), .val (.int (3 : Int32)), .val .null, .val (.ref x9)] [(.int (0 : Int32)), (.ref a)])) P20 (fun t_ k_ => st21 t_ k_)
  obtain ⟨T23, h23, X23, e23, W23, st23⟩ := putFN X21 hx hZ hown (hw _ (List.mem_of_getElem? (i := 21) rfl)) Via.refl e21 f14 f13 (Or.inr ⟨(hw _ (List.mem_of_getElem? (i := 17) rfl)), rfl, hnm⟩) (hw _ (List.mem_of_getElem? (i := 1) rfl)) (ty := .byte) (v' := (.int (0 : Int32).toInt8.toInt32)) (by decide) rfl (fits_nar_byte _) (g := (mkF m 48 #[.val (.ref a), .val (.ref ca), .val (.int (0 : Int32)), .val (.int (3 : Int32)), .val .null, .val (.ref x9)] [(.int (0 : Int32)), (.ref a)])) rfl rfl (hb hby d2_48)
  have f24 := f12.wr W23 ga
  have f25 := f13.wr W23
  have f26 := f14.same W23
  have f27 := f15.other W23 (Or.inr (slot_ne (Or.inr (hw _ (List.mem_of_getElem? (i := 16) rfl))) (Or.inr (hw _ (List.mem_of_getElem? (i := 17) rfl))) (by decide) (t := (.array .byte)) (t' := .byte) (by decide) (by decide)))
  have f28 := f16.wr W23 (Or.inl (List.mem_of_getElem? (i := 0) rfl))
  have f29 := f17.other W23 ne_ca_a
  have f30 := f11.other W23 (Ne.symm ne_a_x9)
  have Z31 : n0 ≤ h23.size := Nat.le_trans Z18 (Keep.of_wr W23).1
  have N23 := Fr.snoc X23 N21 ga
  have P32 := own_step (C := T23.setTop (mkF m 51 #[.val (.ref a), .val (.ref ca), .val (.int (0 : Int32)), .val (.int (3 : Int32)), .val .null, .val (.ref x9)] [])) P22 (fun t_ k_ => st23 t_ k_)
  have P33 := own_step (C := T23.setTop (mkF m 54 #[.val (.ref a), .val (.ref ca), .val (.int (0 : Int32)), .val (.int (3 : Int32)), .val .null, .val (.ref x9)] [(.ref x9), (.ref a)])) P32 (by
    intro tt_ kk_
    refine XS.aloadN X23.here hx rfl (hb hby d2_51) rfl rfl ?_
    refine XS.aload X23.here hx rfl (hb hby d2_52) rfl rfl ?_
    exact kk_)
  obtain ⟨T34, h34, X34, e34, W34, st34⟩ := putF X23 hx hZ hown (host := "") (Or.inl (hw _ (List.mem_of_getElem? (i := 20) rfl))) Via.refl e23 f27 f25 (Or.inr ⟨(hw _ (List.mem_of_getElem? (i := 16) rfl)), rfl, hnm⟩) (hw _ (List.mem_of_getElem? (i := 1) rfl)) (ty := (.array .byte)) (by decide) rfl rfl (g := (mkF m 54 #[.val (.ref a), .val (.ref ca), .val (.int (0 : Int32)), .val (.int (3 : Int32)), .val .null, .val (.ref x9)] [(.ref x9), (.ref a)])) rfl rfl (hb hby d2_54)
  have f35 := f24.wr W34 ga
  have f36 := f25.wr W34
  have f37 := f26.other W34 (Or.inr (slot_ne (Or.inr (hw _ (List.mem_of_getElem? (i := 17) rfl))) (Or.inr (hw _ (List.mem_of_getElem? (i := 16) rfl))) (by decide) (t := .byte) (t' := (.array .byte)) (by decide) (by decide)))
  have f38 := f27.same W34
  have f39 := f28.wr W34 (Or.inl (List.mem_of_getElem? (i := 0) rfl))
  have f40 := f29.other W34 ne_ca_a
  have f41 := f30.other W34 (Ne.symm ne_a_x9)
  have Z42 : n0 ≤ h34.size := Nat.le_trans Z31 (Keep.of_wr W34).1
  have N34 := Fr.snoc X34 N23 ga
  have P43 := own_step (C := T34.setTop (mkF m 57 #[.val (.ref a), .val (.ref ca), .val (.int (0 : Int32)), .val (.int (3 : Int32)), .val .null, .val (.ref x9)] [])) P33 (fun t_ k_ => st34 t_ k_)
  obtain ⟨fs, hr, hrun, hended, hW, hsame⟩ := X34.leave (v := none) (fun _ => rfl)
  refine ⟨_, _, P43 _ ?_, hrun, hended, _, _, rfl, ?_, ⟨_, rfl⟩, hW, hsame.mono (by decide) (by decide)⟩
  · exact X34.returnOut hx Bd.returns (hb hby d2_57) hr
  · show Q_initV_3 Z _ _ _ _ _ _ _ h0 n0 _ T34.heap _
    rw [e34]
    exact ⟨x9, kk9, rfl, N34, f39, f36, f37, f38, f41, sz_x9⟩
theorem ef__nbf3 (m : MethodId) (x0 : Int32) : entryFrame m #[(.int x0)] 1 = mkF m 0 #[.val (.int x0)] [] := by first | (simp [entryFrame, mkF, argsToLocals, Value.category]; done) | rfl
def Q_nbf3 (Z : State)  (h0 : Heap) (n0 : Nat) (v_ : Option Value) (h : Heap) (L_ : List Loc) : Prop := ∃ (x : Addr) (kk : ClassId), v_ = some (.ref x) ∧ Fr n0 L_ ∧ Keep h0 h [] ∧ h0.size ≤ x ∧ Arv Z h x kk .byte (6 : Int32) [(.int (0 : Int32)), (.int (0 : Int32)), (.int (0 : Int32)), (.int (0 : Int32)), (.int (0 : Int32)), (.int (0 : Int32))] (.int 0)
set_option maxRecDepth 65536 in
set_option maxHeartbeats 40000000 in
theorem rm_nbf3 (l : Launch) (Z : State) (a0 : Array Value) (hw : ∀ d ∈ tables_1, d.before a0 Z = true) (ws : List Jvm.Cond)  (h0 : Heap) (n0 : Nat) (Z0 : n0 ≤ h0.size) (O : Old Z n0 h0) :
    MetFree l (⟨"java/lang/StringUTF16", "newBytesFor", "(I)[B"⟩ : MethodName) (head1 (Jvm.Cond.code (⟨"java/lang/StringUTF16", "newBytesFor", "(I)[B"⟩ : MethodName) jdk_52_method_2_code 1 (some (.array .byte)) :: ws) ({ frames := 1, cells := 1, slots := 6, locals := 12 } : Room)) (fun a_ U_ => a_ = #[(.int (3 : Int32))] ∧ Z.Warmed39 U_.vm ∧ U_.heap = h0) (fun _ _ _ _ _ => True) (fun _ U_ o_ V_ => ∃ v_ L_, o_ = .returned v_ ∧ Q_nbf3 Z  h0 n0 v_ V_.heap L_ ∧ FrameEnd U_ o_ V_ L_ ({ frames := 1, cells := 1, slots := 6, locals := 12 } : Room).cells ({ frames := 1, cells := 1, slots := 6, locals := 12 } : Room).slots) := by
  refine MetFree.of_bodySF (plainFor_of_name pn5) hisR ?_
  intro p e s m args below meth c s₁ Bd hml0 hP hK
  obtain ⟨rfl, hZ, hh⟩ := hP
  have hx := Bd.exec
  have hby := Bd.bytes
  have hml : c.maxLocals = 1 := hml0
  have hown : s.vm.findClass "java/lang/StringUTF16" = some m.cls := findClass_of_methodNamed Bd.named
  have hnm := (name_of_methodNamed Bd.named Bd.method).1
  have X0 : Stand p l e ({ frames := 1, cells := 1, slots := 6, locals := 12 } : Room) s m #[(.int (3 : Int32))] below meth c s₁ [] 0 0 := Stand.of_body Bd
  have e0 : s₁.heap = h0 := by rw [← hh, Bd.state]; rfl
  have N0 := Fr.nil n0
  have pre0 : own_Go p e below (s₁.setTop (entryFrame m #[(.int (3 : Int32))] 1)) (s₁.setTop (mkF m 0 #[.val (.int (3 : Int32))] [])) := fun t_ k_ => castTop (ef__nbf3 m (3 : Int32)) k_
  have P1 := own_step (C := s₁.setTop (mkF m 1 #[.val (.int (3 : Int32))] [(.int (3 : Int32))])) pre0 (by
    intro tt_ kk_
    refine XS.iloadN X0.here hx rfl (hb hby d18_0) rfl ?_
    exact kk_)
  obtain ⟨_, _, ⟨T2, L2, k2, n2⟩, -, X2, ⟨Lc2, hQ2, l2, y2, z2⟩, st2⟩ := Jvm.LawKit.callS X0 hx (y := (⟨"java/lang/StringUTF16", "newBytesLength", "(I)I"⟩ : MethodName)) hown (mvT hZ (hw _ (List.mem_of_getElem? (i := 84) rfl))) (mvT hZ (hw _ (List.mem_of_getElem? (i := 85) rfl))) (mvT hZ (hw _ (List.mem_of_getElem? (i := 34) rfl))) (mvT hZ (hw _ (List.mem_of_getElem? (i := 86) rfl))) (by decide) (backOf (W := 0) (rm_nbl l Z a0 hw [] (3 : Int32) (6 : Int32) h0 n0 Z0 (by decide) (by decide) (by decide)) hZ (hw _ (List.mem_of_getElem? (i := 86) rfl)) (hw _ (List.mem_of_getElem? (i := 34) rfl)) (by decide) (by decide)) (g := (mkF m 1 #[.val (.int (3 : Int32))] [(.int (3 : Int32))])) rfl (by rw [hml]; rfl) (argsL := [(.int (3 : Int32))]) (rest := []) (lenOf pd12 rfl) rfl (by show 2 * 0 + _ ≤ _; exact Nat.le_of_eq rfl) (hb hby d18_1) (fun _ _ => ⟨rfl, e0, (by decide : 0 + 0 ≤ _), (by decide : 0 + 0 ≤ _)⟩)
  dsimp only [Pt.U, Pt.locs, Pt.cells, Pt.slots] at X2 l2 y2 z2 st2 hQ2
  subst l2 y2 z2
  obtain ⟨rfl, N2q, e2⟩ := hQ2
  have N2 := Fr.app N0 N2q
  have P3 := own_step (C := T2.setTop (mkF m 4 #[.val (.int (3 : Int32))] [(.int (6 : Int32))])) P1 (fun t_ k_ => st2 t_ k_)
  obtain ⟨T4, h4, k4, X4, e4, E4, A4, st4⟩ := newP X2 hx hZ (hw _ (List.mem_of_getElem? (i := 15) rfl)) e2 (g := (mkF m 4 #[.val (.int (3 : Int32))] [(.int (6 : Int32))])) rfl (hb hby d18_4) rfl (by decide) (cap := 6) (by decide) (by decide) (by decide) (by decide)
  obtain ⟨b4, g4⟩ : ∃ z, z = h0.size := ⟨_, rfl⟩
  rw [← g4] at A4 st4
  have g_b4 : n0 ≤ b4 := Nat.le_trans Z0 (Nat.le_of_eq g4.symm)
  have sz_b4 : h0.size ≤ b4 := Nat.le_trans (Keep.refl h0 []).1 (Nat.le_of_eq g4.symm)
  have f5 := O.ext E4
  have f6 := (Keep.refl h0 []).ext E4
  have Z7 : n0 ≤ h4.size := Nat.le_trans Z0 E4.1
  have V4 : Arv Z h4 b4 k4 .byte (6 : Int32) [(.int (0 : Int32)), (.int (0 : Int32)), (.int (0 : Int32)), (.int (0 : Int32)), (.int (0 : Int32)), (.int (0 : Int32))] (.int (0 : Int32)) := (Arv.new A4 (by decide)).pad (pad_rep [] _ 6)
  have P8 := own_step (C := T4.setTop (mkF m 6 #[.val (.int (3 : Int32))] [(.ref b4)])) P3 (fun t_ k_ => st4 t_ k_)
  obtain ⟨fs, hr, hrun, hended, hW, hsame⟩ := X4.leave (v := some (.ref b4)) (fun h => by rw [Bd.returns] at h; cases h)
  refine ⟨_, _, P8 _ ?_, hrun, hended, _, _, rfl, ?_, ⟨_, rfl⟩, hW, hsame.mono (by decide) (by decide)⟩
  · jvm_step X4.here [X4.here.top, hx, (hb hby d18_6), X4.method', Bd.returns, Value.isRef, FieldType.isReference]
    first | (intro acts; rw [hr _ acts rfl rfl rfl]) | rw [hr _ _ rfl rfl rfl]
    exact Steps.refl _
  · show Q_nbf3 Z  h0 n0 _ T4.heap _
    rw [e4]
    exact ⟨b4, k4, rfl, N2, f6, sz_b4, V4⟩
theorem ef__toBU3 (m : MethodId) (x0 : Addr) (x1 : Int32) (x2 : Int32) : entryFrame m #[(.ref x0), (.int x1), (.int x2)] 5 = mkF m 0 #[.val (.ref x0), .val (.int x1), .val (.int x2), .unset, .unset] [] := by first | (simp [entryFrame, mkF, argsToLocals, Value.category]; done) | rfl
def Q_toBU3 (Z : State) (a : Addr) (ka : ClassId) (c0 : Int32) (c1 : Int32) (c2 : Int32) (h0 : Heap) (n0 : Nat) (v_ : Option Value) (h : Heap) (L_ : List Loc) : Prop := ∃ (x : Addr) (kk : ClassId), v_ = some (.ref x) ∧ Fr n0 L_ ∧ Keep h0 h [] ∧ h0.size ≤ x ∧ Arv Z h x kk .byte (6 : Int32) [(.int (own_b0 c0)), (.int (own_b1 c0)), (.int (own_b0 c1)), (.int (own_b1 c1)), (.int (own_b0 c2)), (.int (own_b1 c2))] (.int 0)
set_option maxRecDepth 65536 in
set_option maxHeartbeats 40000000 in
theorem rm_toBU3 (l : Launch) (Z : State) (a0 : Array Value) (hw : ∀ d ∈ tables_1, d.before a0 Z = true) (ws : List Jvm.Cond) (a : Addr) (ka : ClassId) (c0 : Int32) (c1 : Int32) (c2 : Int32) (h0 : Heap) (n0 : Nat) (Z0 : n0 ≤ h0.size) (O : Old Z n0 h0) (Sad : Sta Z Z.heap "java/lang/StringUTF16" "$assertionsDisabled" "Z" (.int (1 : Int32))) (Shi : Sta Z Z.heap "java/lang/StringUTF16" "HI_BYTE_SHIFT" "I" (.int (0 : Int32))) (Slo : Sta Z Z.heap "java/lang/StringUTF16" "LO_BYTE_SHIFT" "I" (.int (8 : Int32))) (Va : Arv Z h0 a ka .char (3 : Int32) [(.int c0), (.int c1), (.int c2)] (.int 0)) :
    MetFree l (⟨"java/lang/StringUTF16", "toBytes", "([CII)[B"⟩ : MethodName) (head1 (Jvm.Cond.code (⟨"java/lang/StringUTF16", "toBytes", "([CII)[B"⟩ : MethodName) jdk_52_method_14_code 5 (some (.array .byte)) :: ws) ({ frames := 2, cells := 1, slots := 6, locals := 24 } : Room)) (fun a_ U_ => a_ = #[(.ref a), (.int (0 : Int32)), (.int (3 : Int32))] ∧ Z.Warmed39 U_.vm ∧ U_.heap = h0) (fun _ _ _ _ _ => True) (fun _ U_ o_ V_ => ∃ v_ L_, o_ = .returned v_ ∧ Q_toBU3 Z a ka c0 c1 c2 h0 n0 v_ V_.heap L_ ∧ FrameEnd U_ o_ V_ L_ ({ frames := 2, cells := 1, slots := 6, locals := 24 } : Room).cells ({ frames := 2, cells := 1, slots := 6, locals := 24 } : Room).slots) := by
  refine MetFree.of_bodySF (plainFor_of_name pn5) hisR ?_
  intro p e s m args below meth c s₁ Bd hml0 hP hK
  obtain ⟨rfl, hZ, hh⟩ := hP
  have hx := Bd.exec
  have hby := Bd.bytes
  have hml : c.maxLocals = 5 := hml0
  have hown : s.vm.findClass "java/lang/StringUTF16" = some m.cls := findClass_of_methodNamed Bd.named
  have hnm := (name_of_methodNamed Bd.named Bd.method).1
  have X0 : Stand p l e ({ frames := 2, cells := 1, slots := 6, locals := 24 } : Room) s m #[(.ref a), (.int (0 : Int32)), (.int (3 : Int32))] below meth c s₁ [] 0 0 := Stand.of_body Bd
  have e0 : s₁.heap = h0 := by rw [← hh, Bd.state]; rfl
  have N0 := Fr.nil n0
  have pre0 : own_Go p e below (s₁.setTop (entryFrame m #[(.ref a), (.int (0 : Int32)), (.int (3 : Int32))] 5)) (s₁.setTop (mkF m 0 #[.val (.ref a), .val (.int (0 : Int32)), .val (.int (3 : Int32)), .unset, .unset] [])) := fun t_ k_ => castTop (ef__toBU3 m a (0 : Int32) (3 : Int32)) k_
  have P1 := own_step (C := s₁.setTop (mkF m 1 #[.val (.ref a), .val (.int (0 : Int32)), .val (.int (3 : Int32)), .unset, .unset] [(.int (3 : Int32))])) pre0 (by
    intro tt_ kk_
    refine XS.iloadN X0.here hx rfl (hb hby d17_0) rfl ?_
    exact kk_)
  obtain ⟨_, _, ⟨T2, L2, k2, n2⟩, -, X2, ⟨Lc2, hQ2, l2, y2, z2⟩, st2⟩ := Jvm.LawKit.callS X0 hx (y := (⟨"java/lang/StringUTF16", "newBytesFor", "(I)[B"⟩ : MethodName)) hown (mvT hZ (hw _ (List.mem_of_getElem? (i := 81) rfl))) (mvT hZ (hw _ (List.mem_of_getElem? (i := 82) rfl))) (mvT hZ (hw _ (List.mem_of_getElem? (i := 34) rfl))) (mvT hZ (hw _ (List.mem_of_getElem? (i := 83) rfl))) (by decide) (backOf (W := 0) (rm_nbf3 l Z a0 hw []  h0 n0 Z0 O) hZ (hw _ (List.mem_of_getElem? (i := 83) rfl)) (hw _ (List.mem_of_getElem? (i := 34) rfl)) (by decide) (by decide)) (g := (mkF m 1 #[.val (.ref a), .val (.int (0 : Int32)), .val (.int (3 : Int32)), .unset, .unset] [(.int (3 : Int32))])) rfl (by rw [hml]; rfl) (argsL := [(.int (3 : Int32))]) (rest := []) (lenOf pd13 rfl) rfl (by show 2 * 0 + _ ≤ _; exact Nat.le_of_eq rfl) (hb hby d17_1) (fun _ _ => ⟨rfl, e0, (by decide : 0 + 1 ≤ _), (by decide : 0 + 6 ≤ _)⟩)
  dsimp only [Pt.U, Pt.locs, Pt.cells, Pt.slots] at X2 l2 y2 z2 st2 hQ2
  subst l2 y2 z2
  obtain ⟨x2, kk2, rfl, N2q, K2, f3, f4⟩ := hQ2
  have N2 := Fr.app N0 N2q
  have ne_a_x2 : a ≠ x2 := Nat.ne_of_lt (Nat.lt_of_lt_of_le Va.lt f3)
  have g_x2 : n0 ≤ x2 := Nat.le_trans Z0 f3
  have sz_x2 : h0.size ≤ x2 := Nat.le_trans (Keep.refl h0 []).1 f3
  have f5 := O.keep K2 all0
  have f6 := (Keep.refl h0 []).trans K2 all0
  have f7 := Va.keep K2 nin0
  have Z8 : n0 ≤ T2.heap.size := Nat.le_trans Z0 K2.1
  have P9 := own_step (C := T2.setTop (mkF m 4 #[.val (.ref a), .val (.int (0 : Int32)), .val (.int (3 : Int32)), .unset, .unset] [(.ref x2)])) P1 (fun t_ k_ => st2 t_ k_)
  have P10 := own_step (C := T2.setTop (mkF m 11 #[.val (.ref a), .val (.int (0 : Int32)), .val (.int (3 : Int32)), .val (.ref x2), .val (.int (0 : Int32))] [(.int (3 : Int32)), (.int (0 : Int32))])) P9 (by
    intro tt_ kk_
    refine XS.astoreN X2.here hx rfl (hb hby d17_4) rfl rfl (l' := #[.val (.ref a), .val (.int (0 : Int32)), .val (.int (3 : Int32)), .val (.ref x2), .unset]) rfl ?_
    refine XS.iconst X2.here hx rfl (hb hby d17_5) ?_
    refine XS.istore X2.here hx rfl (hb hby d17_6) rfl (l' := #[.val (.ref a), .val (.int (0 : Int32)), .val (.int (3 : Int32)), .val (.ref x2), .val (.int (0 : Int32))]) rfl ?_
    refine XS.iload X2.here hx rfl (hb hby d17_8) rfl ?_
    refine XS.iloadN X2.here hx rfl (hb hby d17_10) rfl ?_
    exact kk_)
  have P11 := own_step (C := T2.setTop (mkF m 19 #[.val (.ref a), .val (.int (0 : Int32)), .val (.int (3 : Int32)), .val (.ref x2), .val (.int (0 : Int32))] [(.int (0 : Int32)), (.ref a), (.int (0 : Int32)), (.ref x2)])) P10 (by
    intro tt_ kk_
    refine XS.icmpNo X2.here hx rfl (hb hby d17_11) rfl (tlt (by decide : (0 : Int32) < (3 : Int32))).2.1 ?_
    refine XS.aloadN X2.here hx rfl (hb hby d17_14) rfl rfl ?_
    refine XS.iload X2.here hx rfl (hb hby d17_15) rfl ?_
    refine XS.aloadN X2.here hx rfl (hb hby d17_17) rfl rfl ?_
    refine XS.iloadN X2.here hx rfl (hb hby d17_18) rfl ?_
    exact kk_)
  obtain ⟨cl12, Ar12, q12, S12, M12, H12, G12⟩ := id f7
  have hin12 := inb_of S12 (by decide : ¬ (0 : Int32) < 0 ∧ (0 : Int32) < (3 : Int32))
  have hat12 := Has.at H12 hin12 (v := .int c0) rfl
  have P13 := own_step (C := T2.setTop (mkF m 20 #[.val (.ref a), .val (.int (0 : Int32)), .val (.int (3 : Int32)), .val (.ref x2), .val (.int (0 : Int32))] [(.int c0), (.int (0 : Int32)), (.ref x2)])) P11 (by
    intro tt_ kk_
    refine X2.caload hx (j := (0 : Int32)) (v := (.int c0)) Ar12.1 (State.isArrayOf_alike hZ.alike Ar12.2.1) Ar12.2.2 hin12 hat12 (g := (mkF m 19 #[.val (.ref a), .val (.int (0 : Int32)), .val (.int (3 : Int32)), .val (.ref x2), .val (.int (0 : Int32))] [(.int (0 : Int32)), (.ref a), (.int (0 : Int32)), (.ref x2)])) rfl rfl (hb hby d17_19) _ ?_
    exact kk_)
  obtain ⟨_, _, ⟨T14, L14, k14, n14⟩, -, X14, ⟨Lc14, hQ14, l14, y14, z14⟩, st14⟩ := Jvm.LawKit.callS X2 hx (y := (⟨"java/lang/StringUTF16", "putChar", "([BII)V"⟩ : MethodName)) hown (mvT hZ (hw _ (List.mem_of_getElem? (i := 88) rfl))) (mvT hZ (hw _ (List.mem_of_getElem? (i := 89) rfl))) (mvT hZ (hw _ (List.mem_of_getElem? (i := 34) rfl))) (mvT hZ (hw _ (List.mem_of_getElem? (i := 90) rfl))) (by decide) (backOf (W := 0) (rm_putC l Z a0 hw [] x2 kk2 (6 : Int32) _ (0 : Int32) c0 0 1 T2.heap n0 Z8 f5 Sad Shi Slo f4 g_x2 (by decide) (by decide) (by decide) (by decide) (Nat.le_of_ble_eq_true rfl) (Nat.le_of_ble_eq_true rfl)) hZ (hw _ (List.mem_of_getElem? (i := 90) rfl)) (hw _ (List.mem_of_getElem? (i := 34) rfl)) (by decide) (by decide)) (g := (mkF m 20 #[.val (.ref a), .val (.int (0 : Int32)), .val (.int (3 : Int32)), .val (.ref x2), .val (.int (0 : Int32))] [(.int c0), (.int (0 : Int32)), (.ref x2)])) rfl (by rw [hml]; rfl) (argsL := [(.ref x2), (.int (0 : Int32)), (.int c0)]) (rest := []) (lenOf pd14 rfl) rfl (by show 2 * 0 + _ ≤ _; exact Nat.le_of_eq rfl) (hb hby d17_20) (fun _ _ => ⟨rfl, rfl, (by decide : 1 + 0 ≤ _), (by decide : 6 + 0 ≤ _)⟩)
  dsimp only [Pt.U, Pt.locs, Pt.cells, Pt.slots] at X14 l14 y14 z14 st14 hQ14
  subst l14 y14 z14
  obtain ⟨rfl, N14q, K14, f15⟩ := hQ14
  have N14 := Fr.app N2 N14q
  have f16 := f5.keep K14 (allS g_x2 all0)
  have f17 := f6.trans K14 (allS (Or.inr sz_x2) all0)
  have f18 := f7.keep K14 (ninS ne_a_x2 nin0)
  have Z20 : n0 ≤ T14.heap.size := Nat.le_trans Z8 K14.1
  have P21 := own_step (C := T14.setTop (mkF m 23 #[.val (.ref a), .val (.int (0 : Int32)), .val (.int (3 : Int32)), .val (.ref x2), .val (.int (0 : Int32))] [])) P13 (fun t_ k_ => st14 t_ k_)
  have f22 : Arv Z T14.heap x2 kk2 .byte (6 : Int32) [(.int (own_b0 c0)), (.int (own_b1 c0)), (.int (0 : Int32)), (.int (0 : Int32)), (.int (0 : Int32)), (.int (0 : Int32))] (.int 0) := f15
  have P23 := own_step (C := T14.setTop (mkF m 11 #[.val (.ref a), .val (.int (1 : Int32)), .val (.int (3 : Int32)), .val (.ref x2), .val (.int (1 : Int32))] [(.int (3 : Int32)), (.int (1 : Int32))])) P21 (by
    intro tt_ kk_
    refine XS.iinc X14.here hx rfl (hb hby d17_23) rfl (l' := #[.val (.ref a), .val (.int (1 : Int32)), .val (.int (3 : Int32)), .val (.ref x2), .val (.int (0 : Int32))]) rfl ?_
    show Steps p.tables e below (T14.setTop (mkF m 26 #[.val (.ref a), .val (.int (1 : Int32)), .val (.int (3 : Int32)), .val (.ref x2), .val (.int (0 : Int32))] [])) _
    refine XS.iinc X14.here hx rfl (hb hby d17_26) rfl (l' := #[.val (.ref a), .val (.int (1 : Int32)), .val (.int (3 : Int32)), .val (.ref x2), .val (.int (1 : Int32))]) rfl ?_
    show Steps p.tables e below (T14.setTop (mkF m 29 #[.val (.ref a), .val (.int (1 : Int32)), .val (.int (3 : Int32)), .val (.ref x2), .val (.int (1 : Int32))] [])) _
    refine XS.goto X14.here hx rfl (pc0 := 29) (pc' := 8) rfl (hb hby d17_29) (by decide) (by decide) ?_
    refine XS.iload X14.here hx rfl (hb hby d17_8) rfl ?_
    refine XS.iloadN X14.here hx rfl (hb hby d17_10) rfl ?_
    exact kk_)
  have P24 := own_step (C := T14.setTop (mkF m 19 #[.val (.ref a), .val (.int (1 : Int32)), .val (.int (3 : Int32)), .val (.ref x2), .val (.int (1 : Int32))] [(.int (1 : Int32)), (.ref a), (.int (1 : Int32)), (.ref x2)])) P23 (by
    intro tt_ kk_
    refine XS.icmpNo X14.here hx rfl (hb hby d17_11) rfl (tlt (by decide : (1 : Int32) < (3 : Int32))).2.1 ?_
    refine XS.aloadN X14.here hx rfl (hb hby d17_14) rfl rfl ?_
    refine XS.iload X14.here hx rfl (hb hby d17_15) rfl ?_
    refine XS.aloadN X14.here hx rfl (hb hby d17_17) rfl rfl ?_
    refine XS.iloadN X14.here hx rfl (hb hby d17_18) rfl ?_
    exact kk_)
  obtain ⟨cl25, Ar25, q25, S25, M25, H25, G25⟩ := id f18
  have hin25 := inb_of S25 (by decide : ¬ (1 : Int32) < 0 ∧ (1 : Int32) < (3 : Int32))
  have hat25 := Has.at H25 hin25 (v := .int c1) rfl
  have P26 := own_step (C := T14.setTop (mkF m 20 #[.val (.ref a), .val (.int (1 : Int32)), .val (.int (3 : Int32)), .val (.ref x2), .val (.int (1 : Int32))] [(.int c1), (.int (1 : Int32)), (.ref x2)])) P24 (by
    intro tt_ kk_
    refine X14.caload hx (j := (1 : Int32)) (v := (.int c1)) Ar25.1 (State.isArrayOf_alike hZ.alike Ar25.2.1) Ar25.2.2 hin25 hat25 (g := (mkF m 19 #[.val (.ref a), .val (.int (1 : Int32)), .val (.int (3 : Int32)), .val (.ref x2), .val (.int (1 : Int32))] [(.int (1 : Int32)), (.ref a), (.int (1 : Int32)), (.ref x2)])) rfl rfl (hb hby d17_19) _ ?_
    exact kk_)
  obtain ⟨_, _, ⟨T27, L27, k27, n27⟩, -, X27, ⟨Lc27, hQ27, l27, y27, z27⟩, st27⟩ := Jvm.LawKit.callS X14 hx (y := (⟨"java/lang/StringUTF16", "putChar", "([BII)V"⟩ : MethodName)) hown (mvT hZ (hw _ (List.mem_of_getElem? (i := 88) rfl))) (mvT hZ (hw _ (List.mem_of_getElem? (i := 89) rfl))) (mvT hZ (hw _ (List.mem_of_getElem? (i := 34) rfl))) (mvT hZ (hw _ (List.mem_of_getElem? (i := 90) rfl))) (by decide) (backOf (W := 0) (rm_putC l Z a0 hw [] x2 kk2 (6 : Int32) _ (1 : Int32) c1 2 3 T14.heap n0 Z20 f16 Sad Shi Slo f22 g_x2 (by decide) (by decide) (by decide) (by decide) (Nat.le_of_ble_eq_true rfl) (Nat.le_of_ble_eq_true rfl)) hZ (hw _ (List.mem_of_getElem? (i := 90) rfl)) (hw _ (List.mem_of_getElem? (i := 34) rfl)) (by decide) (by decide)) (g := (mkF m 20 #[.val (.ref a), .val (.int (1 : Int32)), .val (.int (3 : Int32)), .val (.ref x2), .val (.int (1 : Int32))] [(.int c1), (.int (1 : Int32)), (.ref x2)])) rfl (by rw [hml]; rfl) (argsL := [(.ref x2), (.int (1 : Int32)), (.int c1)]) (rest := []) (lenOf pd14 rfl) rfl (by show 2 * 0 + _ ≤ _; exact Nat.le_of_eq rfl) (hb hby d17_20) (fun _ _ => ⟨rfl, rfl, (by decide : 1 + 0 ≤ _), (by decide : 6 + 0 ≤ _)⟩)
  dsimp only [Pt.U, Pt.locs, Pt.cells, Pt.slots] at X27 l27 y27 z27 st27 hQ27
  subst l27 y27 z27
  obtain ⟨rfl, N27q, K27, f28⟩ := hQ27
  have N27 := Fr.app N14 N27q
  have f29 := f16.keep K27 (allS g_x2 all0)
  have f30 := f17.trans K27 (allS (Or.inr sz_x2) all0)
  have f31 := f18.keep K27 (ninS ne_a_x2 nin0)
  have Z33 : n0 ≤ T27.heap.size := Nat.le_trans Z20 K27.1
  have P34 := own_step (C := T27.setTop (mkF m 23 #[.val (.ref a), .val (.int (1 : Int32)), .val (.int (3 : Int32)), .val (.ref x2), .val (.int (1 : Int32))] [])) P26 (fun t_ k_ => st27 t_ k_)
  have f35 : Arv Z T27.heap x2 kk2 .byte (6 : Int32) [(.int (own_b0 c0)), (.int (own_b1 c0)), (.int (own_b0 c1)), (.int (own_b1 c1)), (.int (0 : Int32)), (.int (0 : Int32))] (.int 0) := f28
  have P36 := own_step (C := T27.setTop (mkF m 11 #[.val (.ref a), .val (.int (2 : Int32)), .val (.int (3 : Int32)), .val (.ref x2), .val (.int (2 : Int32))] [(.int (3 : Int32)), (.int (2 : Int32))])) P34 (by
    intro tt_ kk_
    refine XS.iinc X27.here hx rfl (hb hby d17_23) rfl (l' := #[.val (.ref a), .val (.int (2 : Int32)), .val (.int (3 : Int32)), .val (.ref x2), .val (.int (1 : Int32))]) rfl ?_
    show Steps p.tables e below (T27.setTop (mkF m 26 #[.val (.ref a), .val (.int (2 : Int32)), .val (.int (3 : Int32)), .val (.ref x2), .val (.int (1 : Int32))] [])) _
    refine XS.iinc X27.here hx rfl (hb hby d17_26) rfl (l' := #[.val (.ref a), .val (.int (2 : Int32)), .val (.int (3 : Int32)), .val (.ref x2), .val (.int (2 : Int32))]) rfl ?_
    show Steps p.tables e below (T27.setTop (mkF m 29 #[.val (.ref a), .val (.int (2 : Int32)), .val (.int (3 : Int32)), .val (.ref x2), .val (.int (2 : Int32))] [])) _
    refine XS.goto X27.here hx rfl (pc0 := 29) (pc' := 8) rfl (hb hby d17_29) (by decide) (by decide) ?_
    refine XS.iload X27.here hx rfl (hb hby d17_8) rfl ?_
    refine XS.iloadN X27.here hx rfl (hb hby d17_10) rfl ?_
    exact kk_)
  have P37 := own_step (C := T27.setTop (mkF m 19 #[.val (.ref a), .val (.int (2 : Int32)), .val (.int (3 : Int32)), .val (.ref x2), .val (.int (2 : Int32))] [(.int (2 : Int32)), (.ref a), (.int (2 : Int32)), (.ref x2)])) P36 (by
    intro tt_ kk_
    refine XS.icmpNo X27.here hx rfl (hb hby d17_11) rfl (tlt (by decide : (2 : Int32) < (3 : Int32))).2.1 ?_
    refine XS.aloadN X27.here hx rfl (hb hby d17_14) rfl rfl ?_
    refine XS.iload X27.here hx rfl (hb hby d17_15) rfl ?_
    refine XS.aloadN X27.here hx rfl (hb hby d17_17) rfl rfl ?_
    refine XS.iloadN X27.here hx rfl (hb hby d17_18) rfl ?_
    exact kk_)
  obtain ⟨cl38, Ar38, q38, S38, M38, H38, G38⟩ := id f31
  have hin38 := inb_of S38 (by decide : ¬ (2 : Int32) < 0 ∧ (2 : Int32) < (3 : Int32))
  have hat38 := Has.at H38 hin38 (v := .int c2) rfl
  have P39 := own_step (C := T27.setTop (mkF m 20 #[.val (.ref a), .val (.int (2 : Int32)), .val (.int (3 : Int32)), .val (.ref x2), .val (.int (2 : Int32))] [(.int c2), (.int (2 : Int32)), (.ref x2)])) P37 (by
    intro tt_ kk_
    refine X27.caload hx (j := (2 : Int32)) (v := (.int c2)) Ar38.1 (State.isArrayOf_alike hZ.alike Ar38.2.1) Ar38.2.2 hin38 hat38 (g := (mkF m 19 #[.val (.ref a), .val (.int (2 : Int32)), .val (.int (3 : Int32)), .val (.ref x2), .val (.int (2 : Int32))] [(.int (2 : Int32)), (.ref a), (.int (2 : Int32)), (.ref x2)])) rfl rfl (hb hby d17_19) _ ?_
    exact kk_)
  obtain ⟨_, _, ⟨T40, L40, k40, n40⟩, -, X40, ⟨Lc40, hQ40, l40, y40, z40⟩, st40⟩ := Jvm.LawKit.callS X27 hx (y := (⟨"java/lang/StringUTF16", "putChar", "([BII)V"⟩ : MethodName)) hown (mvT hZ (hw _ (List.mem_of_getElem? (i := 88) rfl))) (mvT hZ (hw _ (List.mem_of_getElem? (i := 89) rfl))) (mvT hZ (hw _ (List.mem_of_getElem? (i := 34) rfl))) (mvT hZ (hw _ (List.mem_of_getElem? (i := 90) rfl))) (by decide) (backOf (W := 0) (rm_putC l Z a0 hw [] x2 kk2 (6 : Int32) _ (2 : Int32) c2 4 5 T27.heap n0 Z33 f29 Sad Shi Slo f35 g_x2 (by decide) (by decide) (by decide) (by decide) (Nat.le_of_ble_eq_true rfl) (Nat.le_of_ble_eq_true rfl)) hZ (hw _ (List.mem_of_getElem? (i := 90) rfl)) (hw _ (List.mem_of_getElem? (i := 34) rfl)) (by decide) (by decide)) (g := (mkF m 20 #[.val (.ref a), .val (.int (2 : Int32)), .val (.int (3 : Int32)), .val (.ref x2), .val (.int (2 : Int32))] [(.int c2), (.int (2 : Int32)), (.ref x2)])) rfl (by rw [hml]; rfl) (argsL := [(.ref x2), (.int (2 : Int32)), (.int c2)]) (rest := []) (lenOf pd14 rfl) rfl (by show 2 * 0 + _ ≤ _; exact Nat.le_of_eq rfl) (hb hby d17_20) (fun _ _ => ⟨rfl, rfl, (by decide : 1 + 0 ≤ _), (by decide : 6 + 0 ≤ _)⟩)
  dsimp only [Pt.U, Pt.locs, Pt.cells, Pt.slots] at X40 l40 y40 z40 st40 hQ40
  subst l40 y40 z40
  obtain ⟨rfl, N40q, K40, f41⟩ := hQ40
  have N40 := Fr.app N27 N40q
  have f42 := f29.keep K40 (allS g_x2 all0)
  have f43 := f30.trans K40 (allS (Or.inr sz_x2) all0)
  have f44 := f31.keep K40 (ninS ne_a_x2 nin0)
  have Z46 : n0 ≤ T40.heap.size := Nat.le_trans Z33 K40.1
  have P47 := own_step (C := T40.setTop (mkF m 23 #[.val (.ref a), .val (.int (2 : Int32)), .val (.int (3 : Int32)), .val (.ref x2), .val (.int (2 : Int32))] [])) P39 (fun t_ k_ => st40 t_ k_)
  have f48 : Arv Z T40.heap x2 kk2 .byte (6 : Int32) [(.int (own_b0 c0)), (.int (own_b1 c0)), (.int (own_b0 c1)), (.int (own_b1 c1)), (.int (own_b0 c2)), (.int (own_b1 c2))] (.int 0) := f41
  have P49 := own_step (C := T40.setTop (mkF m 11 #[.val (.ref a), .val (.int (3 : Int32)), .val (.int (3 : Int32)), .val (.ref x2), .val (.int (3 : Int32))] [(.int (3 : Int32)), (.int (3 : Int32))])) P47 (by
    intro tt_ kk_
    refine XS.iinc X40.here hx rfl (hb hby d17_23) rfl (l' := #[.val (.ref a), .val (.int (3 : Int32)), .val (.int (3 : Int32)), .val (.ref x2), .val (.int (2 : Int32))]) rfl ?_
    show Steps p.tables e below (T40.setTop (mkF m 26 #[.val (.ref a), .val (.int (3 : Int32)), .val (.int (3 : Int32)), .val (.ref x2), .val (.int (2 : Int32))] [])) _
    refine XS.iinc X40.here hx rfl (hb hby d17_26) rfl (l' := #[.val (.ref a), .val (.int (3 : Int32)), .val (.int (3 : Int32)), .val (.ref x2), .val (.int (3 : Int32))]) rfl ?_
    show Steps p.tables e below (T40.setTop (mkF m 29 #[.val (.ref a), .val (.int (3 : Int32)), .val (.int (3 : Int32)), .val (.ref x2), .val (.int (3 : Int32))] [])) _
    refine XS.goto X40.here hx rfl (pc0 := 29) (pc' := 8) rfl (hb hby d17_29) (by decide) (by decide) ?_
    refine XS.iload X40.here hx rfl (hb hby d17_8) rfl ?_
    refine XS.iloadN X40.here hx rfl (hb hby d17_10) rfl ?_
    exact kk_)
  have P50 := own_step (C := T40.setTop (mkF m 33 #[.val (.ref a), .val (.int (3 : Int32)), .val (.int (3 : Int32)), .val (.ref x2), .val (.int (3 : Int32))] [(.ref x2)])) P49 (by
    intro tt_ kk_
    refine XS.icmpYes X40.here hx rfl (pc0 := 11) (pc' := 32) rfl (hb hby d17_11) rfl (flt (by decide : ¬ ((3 : Int32) < (3 : Int32)))).2.1 (by decide) (by decide) ?_
    refine XS.aloadN X40.here hx rfl (hb hby d17_32) rfl rfl ?_
    exact kk_)
  obtain ⟨fs, hr, hrun, hended, hW, hsame⟩ := X40.leave (v := some (.ref x2)) (fun h => by rw [Bd.returns] at h; cases h)
  refine ⟨_, _, P50 _ ?_, hrun, hended, _, _, rfl, ?_, ⟨_, rfl⟩, hW, hsame.mono (by decide) (by decide)⟩
  · jvm_step X40.here [X40.here.top, hx, (hb hby d17_33), X40.method', Bd.returns, Value.isRef, FieldType.isReference]
    first | (intro acts; rw [hr _ acts rfl rfl rfl]) | rw [hr _ _ rfl rfl rfl]
    exact Steps.refl _
  · show Q_toBU3 Z _ _ _ _ _ h0 n0 _ T40.heap _
    exact ⟨x2, kk2, rfl, N40, f43, sz_x2, f48⟩
theorem ef__compU_3 (m : MethodId) (x0 : Addr) (x1 : Int32) (x2 : Int32) : entryFrame m #[(.ref x0), (.int x1), (.int x2)] 6 = mkF m 0 #[.val (.ref x0), .val (.int x1), .val (.int x2), .unset, .unset, .unset] [] := by first | (simp [entryFrame, mkF, argsToLocals, Value.category]; done) | rfl
def Q_compU_3 (Z : State) (a : Addr) (ka : ClassId) (c0 : Int32) (c1 : Int32) (c2 : Int32) (h0 : Heap) (n0 : Nat) (v_ : Option Value) (h : Heap) (L_ : List Loc) : Prop := ∃ (x : Addr) (kk : ClassId), v_ = some (.ref x) ∧ Fr n0 L_ ∧ Keep h0 h [] ∧ h0.size ≤ x ∧ Arv Z h x kk .byte (6 : Int32) [(.int (own_b0 c0)), (.int (own_b1 c0)), (.int (own_b0 c1)), (.int (own_b1 c1)), (.int (own_b0 c2)), (.int (own_b1 c2))] (.int 0)
set_option maxRecDepth 65536 in
set_option maxHeartbeats 40000000 in
theorem rm_compU_3 (l : Launch) (Z : State) (a0 : Array Value) (hw : ∀ d ∈ tables_1, d.before a0 Z = true) (ws : List Jvm.Cond) (a : Addr) (ka : ClassId) (c0 : Int32) (c1 : Int32) (c2 : Int32) (h0 : Heap) (n0 : Nat) (Z0 : n0 ≤ h0.size) (O : Old Z n0 h0) (Sad : Sta Z Z.heap "java/lang/StringUTF16" "$assertionsDisabled" "Z" (.int (1 : Int32))) (Shi : Sta Z Z.heap "java/lang/StringUTF16" "HI_BYTE_SHIFT" "I" (.int (0 : Int32))) (Slo : Sta Z Z.heap "java/lang/StringUTF16" "LO_BYTE_SHIFT" "I" (.int (8 : Int32))) (Va : Arv Z h0 a ka .char (3 : Int32) [(.int c0), (.int c1), (.int c2)] (.int 0)) (hU : (255 : Int32) < c0 ∨ (255 : Int32) < c1 ∨ (255 : Int32) < c2) (gc0 : own_C c0) (gc1 : own_C c1) (gc2 : own_C c2) :
    MetFree l (⟨"java/lang/StringUTF16", "compress", "([CII)[B"⟩ : MethodName) (head1 (Jvm.Cond.code (⟨"java/lang/StringUTF16", "compress", "([CII)[B"⟩ : MethodName) jdk_52_method_16_code 6 (some (.array .byte)) :: ws) ({ frames := 3, cells := 2, slots := 9, locals := 40 } : Room)) (fun a_ U_ => a_ = #[(.ref a), (.int (0 : Int32)), (.int (3 : Int32))] ∧ Z.Warmed39 U_.vm ∧ U_.heap = h0) (fun _ _ _ _ _ => True) (fun _ U_ o_ V_ => ∃ v_ L_, o_ = .returned v_ ∧ Q_compU_3 Z a ka c0 c1 c2 h0 n0 v_ V_.heap L_ ∧ FrameEnd U_ o_ V_ L_ ({ frames := 3, cells := 2, slots := 9, locals := 40 } : Room).cells ({ frames := 3, cells := 2, slots := 9, locals := 40 } : Room).slots) := by
  refine MetFree.of_bodySF (plainFor_of_name pn5) hisR ?_
  intro p e s m args below meth c s₁ Bd hml0 hP hK
  obtain ⟨rfl, hZ, hh⟩ := hP
  have hx := Bd.exec
  have hby := Bd.bytes
  have hml : c.maxLocals = 6 := hml0
  have hown : s.vm.findClass "java/lang/StringUTF16" = some m.cls := findClass_of_methodNamed Bd.named
  have hnm := (name_of_methodNamed Bd.named Bd.method).1
  have X0 : Stand p l e ({ frames := 3, cells := 2, slots := 9, locals := 40 } : Room) s m #[(.ref a), (.int (0 : Int32)), (.int (3 : Int32))] below meth c s₁ [] 0 0 := Stand.of_body Bd
  have e0 : s₁.heap = h0 := by rw [← hh, Bd.state]; rfl
  have N0 := Fr.nil n0
  have pre0 : own_Go p e below (s₁.setTop (entryFrame m #[(.ref a), (.int (0 : Int32)), (.int (3 : Int32))] 6)) (s₁.setTop (mkF m 0 #[.val (.ref a), .val (.int (0 : Int32)), .val (.int (3 : Int32)), .unset, .unset, .unset] [])) := fun t_ k_ => castTop (ef__compU_3 m a (0 : Int32) (3 : Int32)) k_
  have P1 := own_step (C := s₁.setTop (mkF m 1 #[.val (.ref a), .val (.int (0 : Int32)), .val (.int (3 : Int32)), .unset, .unset, .unset] [(.int (3 : Int32))])) pre0 (by
    intro tt_ kk_
    refine XS.iloadN X0.here hx rfl (hb hby d6_0) rfl ?_
    exact kk_)
  obtain ⟨T2, h2, k2, X2, e2, E2, A2, st2⟩ := newP X0 hx hZ (hw _ (List.mem_of_getElem? (i := 15) rfl)) e0 (g := (mkF m 1 #[.val (.ref a), .val (.int (0 : Int32)), .val (.int (3 : Int32)), .unset, .unset, .unset] [(.int (3 : Int32))])) rfl (hb hby d6_1) rfl (by decide) (cap := 3) (by decide) (by decide) (by decide) (by decide)
  obtain ⟨b2, g2⟩ : ∃ z, z = h0.size := ⟨_, rfl⟩
  rw [← g2] at A2 st2
  have ne_a_b2 : a ≠ b2 := Nat.ne_of_lt (Nat.lt_of_lt_of_le Va.lt (Nat.le_of_eq g2.symm))
  have g_b2 : n0 ≤ b2 := Nat.le_trans Z0 (Nat.le_of_eq g2.symm)
  have sz_b2 : h0.size ≤ b2 := Nat.le_trans (Keep.refl h0 []).1 (Nat.le_of_eq g2.symm)
  have f3 := O.ext E2
  have f4 := (Keep.refl h0 []).ext E2
  have f5 := Va.ext E2
  have Z6 : n0 ≤ h2.size := Nat.le_trans Z0 E2.1
  have V2 : Arv Z h2 b2 k2 .byte (3 : Int32) [(.int (0 : Int32)), (.int (0 : Int32)), (.int (0 : Int32))] (.int (0 : Int32)) := (Arv.new A2 (by decide)).pad (pad_rep [] _ 3)
  have P7 := own_step (C := T2.setTop (mkF m 3 #[.val (.ref a), .val (.int (0 : Int32)), .val (.int (3 : Int32)), .unset, .unset, .unset] [(.ref b2)])) P1 (fun t_ k_ => st2 t_ k_)
  have P8 := own_step (C := T2.setTop (mkF m 9 #[.val (.ref a), .val (.int (0 : Int32)), .val (.int (3 : Int32)), .val (.ref b2), .unset, .unset] [(.int (3 : Int32)), (.int (0 : Int32)), (.ref b2), (.int (0 : Int32)), (.ref a)])) P7 (by
    intro tt_ kk_
    refine XS.astoreN X2.here hx rfl (hb hby d6_3) rfl rfl (l' := #[.val (.ref a), .val (.int (0 : Int32)), .val (.int (3 : Int32)), .val (.ref b2), .unset, .unset]) rfl ?_
    refine XS.aloadN X2.here hx rfl (hb hby d6_4) rfl rfl ?_
    refine XS.iloadN X2.here hx rfl (hb hby d6_5) rfl ?_
    refine XS.aloadN X2.here hx rfl (hb hby d6_6) rfl rfl ?_
    refine XS.iconst X2.here hx rfl (hb hby d6_7) ?_
    refine XS.iloadN X2.here hx rfl (hb hby d6_8) rfl ?_
    exact kk_)
  obtain ⟨_, _, ⟨T9, L9, k9, n9⟩, -, X9, ⟨Lc9, hQ9, l9, y9, z9⟩, st9⟩ := Jvm.LawKit.callS X2 hx (y := (⟨"java/lang/StringUTF16", "compress", "([CI[BII)I"⟩ : MethodName)) hown (mvT hZ (hw _ (List.mem_of_getElem? (i := 36) rfl))) (mvT hZ (hw _ (List.mem_of_getElem? (i := 37) rfl))) (mvT hZ (hw _ (List.mem_of_getElem? (i := 34) rfl))) (mvT hZ (hw _ (List.mem_of_getElem? (i := 38) rfl))) (by decide) (backOf (W := 0) (rm_comp2U_3 l Z a0 hw [] a ka b2 k2 c0 c1 c2 h2 n0 Z6 f3 f5 V2 ne_a_b2 g_b2) hZ (hw _ (List.mem_of_getElem? (i := 38) rfl)) (hw _ (List.mem_of_getElem? (i := 34) rfl)) (by decide) (by decide)) (g := (mkF m 9 #[.val (.ref a), .val (.int (0 : Int32)), .val (.int (3 : Int32)), .val (.ref b2), .unset, .unset] [(.int (3 : Int32)), (.int (0 : Int32)), (.ref b2), (.int (0 : Int32)), (.ref a)])) rfl (by rw [hml]; rfl) (argsL := [(.ref a), (.int (0 : Int32)), (.ref b2), (.int (0 : Int32)), (.int (3 : Int32))]) (rest := []) (lenOf pd9 rfl) rfl (by show 2 * 0 + _ ≤ _; exact Nat.le_of_eq rfl) (hb hby d6_9) (fun _ _ => ⟨rfl, e2, (by decide : 1 + 0 ≤ _), (by decide : 3 + 0 ≤ _)⟩)
  dsimp only [Pt.U, Pt.locs, Pt.cells, Pt.slots] at X9 l9 y9 z9 st9 hQ9
  subst l9 y9 z9
  obtain ⟨r9, rfl, N9q, K9, f10⟩ := hQ9
  have N9 := Fr.app N0 N9q
  have f11 := f3.keep K9 (allS g_b2 all0)
  have f12 := f4.trans K9 (allS (Or.inr sz_b2) all0)
  have f13 := f5.keep K9 (ninS ne_a_b2 nin0)
  have Z15 : n0 ≤ T9.heap.size := Nat.le_trans Z6 K9.1
  have P16 := own_step (C := T9.setTop (mkF m 12 #[.val (.ref a), .val (.int (0 : Int32)), .val (.int (3 : Int32)), .val (.ref b2), .unset, .unset] [(.int r9)])) P8 (fun t_ k_ => st9 t_ k_)
  have f17 : (r9 = (0 : Int32) ∧ (255 : Int32) < c0) ∨ (r9 = (1 : Int32) ∧ (255 : Int32) < c1) ∨ (r9 = (2 : Int32) ∧ (255 : Int32) < c2) := by
    rcases f10 with hq | hq | hq | ⟨-, hq⟩
    · exact Or.inl hq
    · exact Or.inr (Or.inl hq)
    · exact Or.inr (Or.inr (hq))
    · exfalso; rcases hU with hz | hz | hz
      · exact hq.1 hz
      · exact hq.2.1 hz
      · exact hq.2.2.1 hz
  have P18 := own_step (C := T9.setTop (mkF m 17 #[.val (.ref a), .val (.int (0 : Int32)), .val (.int (3 : Int32)), .val (.ref b2), .val (.int r9), .unset] [(.int (3 : Int32)), (.int r9)])) P16 (by
    intro tt_ kk_
    refine XS.istore X9.here hx rfl (hb hby d6_12) rfl (l' := #[.val (.ref a), .val (.int (0 : Int32)), .val (.int (3 : Int32)), .val (.ref b2), .val (.int r9), .unset]) rfl ?_
    refine XS.iload X9.here hx rfl (hb hby d6_14) rfl ?_
    refine XS.iloadN X9.here hx rfl (hb hby d6_16) rfl ?_
    exact kk_)
  have hrn : ¬ (r9 = (3 : Int32)) := by rcases f17 with h | h | h <;> (rw [h.1]; decide)
  have P19 := own_step (C := T9.setTop (mkF m 23 #[.val (.ref a), .val (.int (0 : Int32)), .val (.int (3 : Int32)), .val (.ref b2), .val (.int r9), .unset] [(.int (3 : Int32)), (.int (0 : Int32)), (.ref a)])) P18 (by
    intro tt_ kk_
    refine XS.icmpNo X9.here hx rfl (hb hby d6_17) rfl (feq hrn).1 ?_
    refine XS.aloadN X9.here hx rfl (hb hby d6_20) rfl rfl ?_
    refine XS.iloadN X9.here hx rfl (hb hby d6_21) rfl ?_
    refine XS.iloadN X9.here hx rfl (hb hby d6_22) rfl ?_
    exact kk_)
  obtain ⟨_, _, ⟨T20, L20, k20, n20⟩, -, X20, ⟨Lc20, hQ20, l20, y20, z20⟩, st20⟩ := Jvm.LawKit.callS X9 hx (y := (⟨"java/lang/StringUTF16", "toBytes", "([CII)[B"⟩ : MethodName)) hown (mvT hZ (hw _ (List.mem_of_getElem? (i := 78) rfl))) (mvT hZ (hw _ (List.mem_of_getElem? (i := 79) rfl))) (mvT hZ (hw _ (List.mem_of_getElem? (i := 34) rfl))) (mvT hZ (hw _ (List.mem_of_getElem? (i := 80) rfl))) (by decide) (backOf (W := 0) (rm_toBU3 l Z a0 hw [] a ka c0 c1 c2 T9.heap n0 Z15 f11 Sad Shi Slo f13) hZ (hw _ (List.mem_of_getElem? (i := 80) rfl)) (hw _ (List.mem_of_getElem? (i := 34) rfl)) (by decide) (by decide)) (g := (mkF m 23 #[.val (.ref a), .val (.int (0 : Int32)), .val (.int (3 : Int32)), .val (.ref b2), .val (.int r9), .unset] [(.int (3 : Int32)), (.int (0 : Int32)), (.ref a)])) rfl (by rw [hml]; rfl) (argsL := [(.ref a), (.int (0 : Int32)), (.int (3 : Int32))]) (rest := []) (lenOf pd10 rfl) rfl (by show 2 * 0 + _ ≤ _; exact Nat.le_of_eq rfl) (hb hby d6_23) (fun _ _ => ⟨rfl, rfl, (by decide : 1 + 1 ≤ _), (by decide : 3 + 6 ≤ _)⟩)
  dsimp only [Pt.U, Pt.locs, Pt.cells, Pt.slots] at X20 l20 y20 z20 st20 hQ20
  subst l20 y20 z20
  obtain ⟨x20, kk20, rfl, N20q, K20, f21, f22⟩ := hQ20
  have N20 := Fr.app N9 N20q
  have ne_a_x20 : a ≠ x20 := Nat.ne_of_lt (Nat.lt_of_lt_of_le f13.lt f21)
  have g_x20 : n0 ≤ x20 := Nat.le_trans Z15 f21
  have sz_x20 : h0.size ≤ x20 := Nat.le_trans f12.1 f21
  have f23 := f11.keep K20 all0
  have f24 := f12.trans K20 all0
  have f25 := f13.keep K20 nin0
  have Z26 : n0 ≤ T20.heap.size := Nat.le_trans Z15 K20.1
  have P27 := own_step (C := T20.setTop (mkF m 26 #[.val (.ref a), .val (.int (0 : Int32)), .val (.int (3 : Int32)), .val (.ref b2), .val (.int r9), .unset] [(.ref x20)])) P19 (fun t_ k_ => st20 t_ k_)
  have P28 := own_step (C := T20.setTop (mkF m 32 #[.val (.ref a), .val (.int (0 : Int32)), .val (.int (3 : Int32)), .val (.ref b2), .val (.int r9), .val (.ref x20)] [(.int r9), (.ref x20)])) P27 (by
    intro tt_ kk_
    refine XS.astore X20.here hx rfl (hb hby d6_26) rfl rfl (l' := #[.val (.ref a), .val (.int (0 : Int32)), .val (.int (3 : Int32)), .val (.ref b2), .val (.int r9), .val (.ref x20)]) rfl ?_
    refine XS.aload X20.here hx rfl (hb hby d6_28) rfl rfl ?_
    refine XS.iload X20.here hx rfl (hb hby d6_30) rfl ?_
    exact kk_)
  rcases f17 with ⟨hrr, hbig⟩ | ⟨hrr, hbig⟩ | ⟨hrr, hbig⟩
  · subst hrr
    obtain ⟨_, _, ⟨T29, L29, k29, n29⟩, -, X29, ⟨Lc29, hQ29, l29, y29, z29⟩, st29⟩ := Jvm.LawKit.callS X20 hx (y := (⟨"java/lang/StringUTF16", "getChar", "([BI)C"⟩ : MethodName)) hown (mvT hZ (hw _ (List.mem_of_getElem? (i := 94) rfl))) (mvT hZ (hw _ (List.mem_of_getElem? (i := 95) rfl))) (mvT hZ (hw _ (List.mem_of_getElem? (i := 34) rfl))) (mvT hZ (hw _ (List.mem_of_getElem? (i := 96) rfl))) (by decide) (backOf (W := 0) (rm_getC l Z a0 hw [] x20 kk20 (6 : Int32) _ (0 : Int32) (own_b0 c0) (own_b1 c0) T20.heap n0 Z26 f23 Sad Shi Slo f22 (by decide) (by decide) rfl rfl) hZ (hw _ (List.mem_of_getElem? (i := 96) rfl)) (hw _ (List.mem_of_getElem? (i := 34) rfl)) (by decide) (by decide)) (g := (mkF m 32 #[.val (.ref a), .val (.int (0 : Int32)), .val (.int (3 : Int32)), .val (.ref b2), .val (.int (0 : Int32)), .val (.ref x20)] [(.int (0 : Int32)), (.ref x20)])) rfl (by rw [hml]; rfl) (argsL := [(.ref x20), (.int (0 : Int32))]) (rest := []) (lenOf pd6 rfl) rfl (by show 2 * 0 + _ ≤ _; exact Nat.le_of_eq rfl) (hb hby d6_32) (fun _ _ => ⟨rfl, rfl, (by decide : 2 + 0 ≤ _), (by decide : 9 + 0 ≤ _)⟩)
    dsimp only [Pt.U, Pt.locs, Pt.cells, Pt.slots] at X29 l29 y29 z29 st29 hQ29
    subst l29 y29 z29
    obtain ⟨rfl, N29q, e29⟩ := hQ29
    have N29 := Fr.app N20 N29q
    have P30 := own_step (C := T29.setTop (mkF m 35 #[.val (.ref a), .val (.int (0 : Int32)), .val (.int (3 : Int32)), .val (.ref b2), .val (.int (0 : Int32)), .val (.ref x20)] [(.int (own_gc (own_b0 c0) (own_b1 c0)))])) P28 (fun t_ k_ => st29 t_ k_)
    have P31 := own_step (C := T29.setTop (mkF m 38 #[.val (.ref a), .val (.int (0 : Int32)), .val (.int (3 : Int32)), .val (.ref b2), .val (.int (0 : Int32)), .val (.ref x20)] [(.int (255 : Int32)), (.int (own_gc (own_b0 c0) (own_b1 c0)))])) P30 (by
      intro tt_ kk_
      refine XS.sipush X29.here hx rfl (hb hby d6_35) ?_
      exact kk_)
    have P32 := own_step (C := T29.setTop (mkF m 56 #[.val (.ref a), .val (.int (0 : Int32)), .val (.int (3 : Int32)), .val (.ref b2), .val (.int (0 : Int32)), .val (.ref x20)] [(.ref x20)])) P31 (by
      intro tt_ kk_
      refine XS.icmpYes X29.here hx rfl (pc0 := 38) (pc' := 54) rfl (hb hby d6_38) rfl (tlt (own_big gc0 hbig)).2.2.1 (by decide) (by decide) ?_
      refine XS.aload X29.here hx rfl (hb hby d6_54) rfl rfl ?_
      exact kk_)
    obtain ⟨fs, hr, hrun, hended, hW, hsame⟩ := X29.leave (v := some (.ref x20)) (fun h => by rw [Bd.returns] at h; cases h)
    refine ⟨_, _, P32 _ ?_, hrun, hended, _, _, rfl, ?_, ⟨_, rfl⟩, hW, hsame.mono (by decide) (by decide)⟩
    · jvm_step X29.here [X29.here.top, hx, (hb hby d6_56), X29.method', Bd.returns, Value.isRef, FieldType.isReference]
      first | (intro acts; rw [hr _ acts rfl rfl rfl]) | rw [hr _ _ rfl rfl rfl]
      exact Steps.refl _
    · show Q_compU_3 Z _ _ _ _ _ h0 n0 _ T29.heap _
      rw [e29]
      exact ⟨x20, kk20, rfl, N29, f24, sz_x20, f22⟩
  · subst hrr
    obtain ⟨_, _, ⟨T33, L33, k33, n33⟩, -, X33, ⟨Lc33, hQ33, l33, y33, z33⟩, st33⟩ := Jvm.LawKit.callS X20 hx (y := (⟨"java/lang/StringUTF16", "getChar", "([BI)C"⟩ : MethodName)) hown (mvT hZ (hw _ (List.mem_of_getElem? (i := 94) rfl))) (mvT hZ (hw _ (List.mem_of_getElem? (i := 95) rfl))) (mvT hZ (hw _ (List.mem_of_getElem? (i := 34) rfl))) (mvT hZ (hw _ (List.mem_of_getElem? (i := 96) rfl))) (by decide) (backOf (W := 0) (rm_getC l Z a0 hw [] x20 kk20 (6 : Int32) _ (1 : Int32) (own_b0 c1) (own_b1 c1) T20.heap n0 Z26 f23 Sad Shi Slo f22 (by decide) (by decide) rfl rfl) hZ (hw _ (List.mem_of_getElem? (i := 96) rfl)) (hw _ (List.mem_of_getElem? (i := 34) rfl)) (by decide) (by decide)) (g := (mkF m 32 #[.val (.ref a), .val (.int (0 : Int32)), .val (.int (3 : Int32)), .val (.ref b2), .val (.int (1 : Int32)), .val (.ref x20)] [(.int (1 : Int32)), (.ref x20)])) rfl (by rw [hml]; rfl) (argsL := [(.ref x20), (.int (1 : Int32))]) (rest := []) (lenOf pd6 rfl) rfl (by show 2 * 0 + _ ≤ _; exact Nat.le_of_eq rfl) (hb hby d6_32) (fun _ _ => ⟨rfl, rfl, (by decide : 2 + 0 ≤ _), (by decide : 9 + 0 ≤ _)⟩)
    dsimp only [Pt.U, Pt.locs, Pt.cells, Pt.slots] at X33 l33 y33 z33 st33 hQ33
    subst l33 y33 z33
    obtain ⟨rfl, N33q, e33⟩ := hQ33
    have N33 := Fr.app N20 N33q
    have P34 := own_step (C := T33.setTop (mkF m 35 #[.val (.ref a), .val (.int (0 : Int32)), .val (.int (3 : Int32)), .val (.ref b2), .val (.int (1 : Int32)), .val (.ref x20)] [(.int (own_gc (own_b0 c1) (own_b1 c1)))])) P28 (fun t_ k_ => st33 t_ k_)
    have P35 := own_step (C := T33.setTop (mkF m 38 #[.val (.ref a), .val (.int (0 : Int32)), .val (.int (3 : Int32)), .val (.ref b2), .val (.int (1 : Int32)), .val (.ref x20)] [(.int (255 : Int32)), (.int (own_gc (own_b0 c1) (own_b1 c1)))])) P34 (by
      intro tt_ kk_
      refine XS.sipush X33.here hx rfl (hb hby d6_35) ?_
      exact kk_)
    have P36 := own_step (C := T33.setTop (mkF m 56 #[.val (.ref a), .val (.int (0 : Int32)), .val (.int (3 : Int32)), .val (.ref b2), .val (.int (1 : Int32)), .val (.ref x20)] [(.ref x20)])) P35 (by
      intro tt_ kk_
      refine XS.icmpYes X33.here hx rfl (pc0 := 38) (pc' := 54) rfl (hb hby d6_38) rfl (tlt (own_big gc1 hbig)).2.2.1 (by decide) (by decide) ?_
      refine XS.aload X33.here hx rfl (hb hby d6_54) rfl rfl ?_
      exact kk_)
    obtain ⟨fs, hr, hrun, hended, hW, hsame⟩ := X33.leave (v := some (.ref x20)) (fun h => by rw [Bd.returns] at h; cases h)
    refine ⟨_, _, P36 _ ?_, hrun, hended, _, _, rfl, ?_, ⟨_, rfl⟩, hW, hsame.mono (by decide) (by decide)⟩
    · jvm_step X33.here [X33.here.top, hx, (hb hby d6_56), X33.method', Bd.returns, Value.isRef, FieldType.isReference]
      first | (intro acts; rw [hr _ acts rfl rfl rfl]) | rw [hr _ _ rfl rfl rfl]
      exact Steps.refl _
    · show Q_compU_3 Z _ _ _ _ _ h0 n0 _ T33.heap _
      rw [e33]
      exact ⟨x20, kk20, rfl, N33, f24, sz_x20, f22⟩
  · subst hrr
    obtain ⟨_, _, ⟨T37, L37, k37, n37⟩, -, X37, ⟨Lc37, hQ37, l37, y37, z37⟩, st37⟩ := Jvm.LawKit.callS X20 hx (y := (⟨"java/lang/StringUTF16", "getChar", "([BI)C"⟩ : MethodName)) hown (mvT hZ (hw _ (List.mem_of_getElem? (i := 94) rfl))) (mvT hZ (hw _ (List.mem_of_getElem? (i := 95) rfl))) (mvT hZ (hw _ (List.mem_of_getElem? (i := 34) rfl))) (mvT hZ (hw _ (List.mem_of_getElem? (i := 96) rfl))) (by decide) (backOf (W := 0) (rm_getC l Z a0 hw [] x20 kk20 (6 : Int32) _ (2 : Int32) (own_b0 c2) (own_b1 c2) T20.heap n0 Z26 f23 Sad Shi Slo f22 (by decide) (by decide) rfl rfl) hZ (hw _ (List.mem_of_getElem? (i := 96) rfl)) (hw _ (List.mem_of_getElem? (i := 34) rfl)) (by decide) (by decide)) (g := (mkF m 32 #[.val (.ref a), .val (.int (0 : Int32)), .val (.int (3 : Int32)), .val (.ref b2), .val (.int (2 : Int32)), .val (.ref x20)] [(.int (2 : Int32)), (.ref x20)])) rfl (by rw [hml]; rfl) (argsL := [(.ref x20), (.int (2 : Int32))]) (rest := []) (lenOf pd6 rfl) rfl (by show 2 * 0 + _ ≤ _; exact Nat.le_of_eq rfl) (hb hby d6_32) (fun _ _ => ⟨rfl, rfl, (by decide : 2 + 0 ≤ _), (by decide : 9 + 0 ≤ _)⟩)
    dsimp only [Pt.U, Pt.locs, Pt.cells, Pt.slots] at X37 l37 y37 z37 st37 hQ37
    subst l37 y37 z37
    obtain ⟨rfl, N37q, e37⟩ := hQ37
    have N37 := Fr.app N20 N37q
    have P38 := own_step (C := T37.setTop (mkF m 35 #[.val (.ref a), .val (.int (0 : Int32)), .val (.int (3 : Int32)), .val (.ref b2), .val (.int (2 : Int32)), .val (.ref x20)] [(.int (own_gc (own_b0 c2) (own_b1 c2)))])) P28 (fun t_ k_ => st37 t_ k_)
    have P39 := own_step (C := T37.setTop (mkF m 38 #[.val (.ref a), .val (.int (0 : Int32)), .val (.int (3 : Int32)), .val (.ref b2), .val (.int (2 : Int32)), .val (.ref x20)] [(.int (255 : Int32)), (.int (own_gc (own_b0 c2) (own_b1 c2)))])) P38 (by
      intro tt_ kk_
      refine XS.sipush X37.here hx rfl (hb hby d6_35) ?_
      exact kk_)
    have P40 := own_step (C := T37.setTop (mkF m 56 #[.val (.ref a), .val (.int (0 : Int32)), .val (.int (3 : Int32)), .val (.ref b2), .val (.int (2 : Int32)), .val (.ref x20)] [(.ref x20)])) P39 (by
      intro tt_ kk_
      refine XS.icmpYes X37.here hx rfl (pc0 := 38) (pc' := 54) rfl (hb hby d6_38) rfl (tlt (own_big gc2 hbig)).2.2.1 (by decide) (by decide) ?_
      refine XS.aload X37.here hx rfl (hb hby d6_54) rfl rfl ?_
      exact kk_)
    obtain ⟨fs, hr, hrun, hended, hW, hsame⟩ := X37.leave (v := some (.ref x20)) (fun h => by rw [Bd.returns] at h; cases h)
    refine ⟨_, _, P40 _ ?_, hrun, hended, _, _, rfl, ?_, ⟨_, rfl⟩, hW, hsame.mono (by decide) (by decide)⟩
    · jvm_step X37.here [X37.here.top, hx, (hb hby d6_56), X37.method', Bd.returns, Value.isRef, FieldType.isReference]
      first | (intro acts; rw [hr _ acts rfl rfl rfl]) | rw [hr _ _ rfl rfl rfl]
      exact Steps.refl _
    · show Q_compU_3 Z _ _ _ _ _ h0 n0 _ T37.heap _
      rw [e37]
      exact ⟨x20, kk20, rfl, N37, f24, sz_x20, f22⟩
theorem ef__initVU_3 (m : MethodId) (x0 : Addr) (x1 : Addr) (x2 : Int32) (x3 : Int32) : entryFrame m #[(.ref x0), (.ref x1), (.int x2), (.int x3), .null] 6 = mkF m 0 #[.val (.ref x0), .val (.ref x1), .val (.int x2), .val (.int x3), .val .null, .unset] [] := by first | (simp [entryFrame, mkF, argsToLocals, Value.category]; done) | rfl
def Q_initVU_3 (Z : State) (a : Addr) (ca : Addr) (ka : ClassId) (c0 : Int32) (c1 : Int32) (c2 : Int32) (cs : Int32) (h0 : Heap) (n0 : Nat) (v_ : Option Value) (h : Heap) (L_ : List Loc) : Prop := ∃ (x : Addr) (kk : ClassId), v_ = none ∧ Fr n0 L_ ∧ Keep h0 h [a] ∧ Exa Z h a "java/lang/String" ∧ Fld Z h a "java/lang/String" "coder" "B" (.int (1 : Int32)) ∧ Fld Z h a "java/lang/String" "value" "[B" (.ref x) ∧ Arv Z h x kk .byte (6 : Int32) [(.int (own_b0 c0)), (.int (own_b1 c0)), (.int (own_b0 c1)), (.int (own_b1 c1)), (.int (own_b0 c2)), (.int (own_b1 c2))] (.int 0) ∧ h0.size ≤ x
set_option maxRecDepth 65536 in
set_option maxHeartbeats 40000000 in
theorem rm_initVU_3 (l : Launch) (Z : State) (a0 : Array Value) (hw : ∀ d ∈ tables_1, d.before a0 Z = true) (ws : List Jvm.Cond) (a : Addr) (ca : Addr) (ka : ClassId) (c0 : Int32) (c1 : Int32) (c2 : Int32) (cs : Int32) (h0 : Heap) (n0 : Nat) (Z0 : n0 ≤ h0.size) (O : Old Z n0 h0) (Scs : Sta Z Z.heap "java/lang/String" "COMPACT_STRINGS" "Z" (.int cs)) (hcs : ¬ (cs = (0 : Int32))) (Ea : Exa Z h0 a "java/lang/String") (Fv : Fld Z h0 a "java/lang/String" "value" "[B" .null) (Fc : Fld Z h0 a "java/lang/String" "coder" "B" (.int (0 : Int32))) (ga : n0 ≤ a) (Vs : Arv Z h0 ca ka .char (3 : Int32) [(.int c0), (.int c1), (.int c2)] (.int 0)) (Sad : Sta Z Z.heap "java/lang/StringUTF16" "$assertionsDisabled" "Z" (.int (1 : Int32))) (Shi : Sta Z Z.heap "java/lang/StringUTF16" "HI_BYTE_SHIFT" "I" (.int (0 : Int32))) (Slo : Sta Z Z.heap "java/lang/StringUTF16" "LO_BYTE_SHIFT" "I" (.int (8 : Int32))) (hU : (255 : Int32) < c0 ∨ (255 : Int32) < c1 ∨ (255 : Int32) < c2) (gc0 : own_C c0) (gc1 : own_C c1) (gc2 : own_C c2) :
    MetFree l (⟨"java/lang/String", "<init>", "([CIILjava/lang/Void;)V"⟩ : MethodName) (head1 (Jvm.Cond.code (⟨"java/lang/String", "<init>", "([CIILjava/lang/Void;)V"⟩ : MethodName) jdk_42_method_149_code 6 none :: ws) ({ frames := 4, cells := 2, slots := 9, locals := 57 } : Room)) (fun a_ U_ => a_ = #[(.ref a), (.ref ca), (.int (0 : Int32)), (.int (3 : Int32)), .null] ∧ Z.Warmed39 U_.vm ∧ U_.heap = h0) (fun _ _ _ _ _ => True) (fun _ U_ o_ V_ => ∃ v_ L_, o_ = .returned v_ ∧ Q_initVU_3 Z a ca ka c0 c1 c2 cs h0 n0 v_ V_.heap L_ ∧ FrameEnd U_ o_ V_ L_ ({ frames := 4, cells := 2, slots := 9, locals := 57 } : Room).cells ({ frames := 4, cells := 2, slots := 9, locals := 57 } : Room).slots) := by
  refine MetFree.of_bodySF (plainFor_of_name pn1) hisR ?_
  intro p e s m args below meth c s₁ Bd hml0 hP hK
  obtain ⟨rfl, hZ, hh⟩ := hP
  have hx := Bd.exec
  have hby := Bd.bytes
  have hml : c.maxLocals = 6 := hml0
  have hown : s.vm.findClass "java/lang/String" = some m.cls := findClass_of_methodNamed Bd.named
  have hnm := (name_of_methodNamed Bd.named Bd.method).1
  have X0 : Stand p l e ({ frames := 4, cells := 2, slots := 9, locals := 57 } : Room) s m #[(.ref a), (.ref ca), (.int (0 : Int32)), (.int (3 : Int32)), .null] below meth c s₁ [] 0 0 := Stand.of_body Bd
  have e0 : s₁.heap = h0 := by rw [← hh, Bd.state]; rfl
  have N0 := Fr.nil n0
  have pre0 : own_Go p e below (s₁.setTop (entryFrame m #[(.ref a), (.ref ca), (.int (0 : Int32)), (.int (3 : Int32)), .null] 6)) (s₁.setTop (mkF m 0 #[.val (.ref a), .val (.ref ca), .val (.int (0 : Int32)), .val (.int (3 : Int32)), .val .null, .unset] [])) := fun t_ k_ => castTop (ef__initVU_3 m a ca (0 : Int32) (3 : Int32)) k_
  obtain ⟨clV, ArV, -⟩ := id Vs
  have ne_ca_a : ca ≠ a := Ne.symm (ne_arr Ea (hw _ (List.mem_of_getElem? (i := 1) rfl)) ArV)
  have P1 := own_step (C := s₁.setTop (mkF m 1 #[.val (.ref a), .val (.ref ca), .val (.int (0 : Int32)), .val (.int (3 : Int32)), .val .null, .unset] [(.ref a)])) pre0 (by
    intro tt_ kk_
    refine XS.aloadN X0.here hx rfl (hb hby d2_0) rfl rfl ?_
    exact kk_)
  obtain ⟨T2, X2, e2, st2⟩ := initO X0 hx hZ hown (hw _ (List.mem_of_getElem? (i := 11) rfl)) (hw _ (List.mem_of_getElem? (i := 12) rfl)) (hw _ (List.mem_of_getElem? (i := 13) rfl)) e0 (g := (mkF m 1 #[.val (.ref a), .val (.ref ca), .val (.int (0 : Int32)), .val (.int (3 : Int32)), .val .null, .unset] [(.ref a)])) rfl (by rw [hml]; rfl) rfl (hb hby d2_1) (by decide) (W := 0) (by show 2 * 0 + _ ≤ _; exact Nat.le_of_eq rfl) (by decide)
  have P3 := own_step (C := T2.setTop (mkF m 4 #[.val (.ref a), .val (.ref ca), .val (.int (0 : Int32)), .val (.int (3 : Int32)), .val .null, .unset] [])) P1 (fun t_ k_ => st2 t_ k_)
  have P4 := own_step (C := T2.setTop (mkF m 5 #[.val (.ref a), .val (.ref ca), .val (.int (0 : Int32)), .val (.int (3 : Int32)), .val .null, .unset] [(.int (3 : Int32))])) P3 (by
    intro tt_ kk_
    refine XS.iloadN X2.here hx rfl (hb hby d2_4) rfl ?_
    exact kk_)
  have P5 := own_step (C := T2.setTop (mkF m 27 #[.val (.ref a), .val (.ref ca), .val (.int (0 : Int32)), .val (.int (3 : Int32)), .val .null, .unset] [])) P4 (by
    intro tt_ kk_
    refine XS.ifYes X2.here hx rfl (pc0 := 5) (pc' := 27) rfl (hb hby d2_5) rfl ((if0 _ _).trans (feq (by decide : ¬ ((3 : Int32) = (0 : Int32)))).2) (by decide) (by decide) ?_
    exact kk_)
  obtain ⟨T6, X6, e6, st6⟩ := getS2 X2 hx hZ hown (host := "") (Or.inl (hw _ (List.mem_of_getElem? (i := 31) rfl))) Via.refl e2 (Scs.ext O.2) (g := (mkF m 27 #[.val (.ref a), .val (.ref ca), .val (.int (0 : Int32)), .val (.int (3 : Int32)), .val .null, .unset] [])) rfl (hb hby d2_27)
  have P7 := own_step (C := T6.setTop (mkF m 30 #[.val (.ref a), .val (.ref ca), .val (.int (0 : Int32)), .val (.int (3 : Int32)), .val .null, .unset] [(.int cs)])) P5 (fun t_ k_ => st6 t_ k_)
  have P8 := own_step (C := T6.setTop (mkF m 36 #[.val (.ref a), .val (.ref ca), .val (.int (0 : Int32)), .val (.int (3 : Int32)), .val .null, .unset] [(.int (3 : Int32)), (.int (0 : Int32)), (.ref ca)])) P7 (by
    intro tt_ kk_
    refine XS.ifNo X6.here hx rfl (hb hby d2_30) rfl ((if0 _ _).trans (feq hcs).1) ?_
    refine XS.aloadN X6.here hx rfl (hb hby d2_33) rfl rfl ?_
    refine XS.iloadN X6.here hx rfl (hb hby d2_34) rfl ?_
    refine XS.iloadN X6.here hx rfl (hb hby d2_35) rfl ?_
    exact kk_)
  obtain ⟨_, _, ⟨T9, L9, k9, n9⟩, -, X9, ⟨Lc9, hQ9, l9, y9, z9⟩, st9⟩ := Jvm.LawKit.callS X6 hx (y := (⟨"java/lang/StringUTF16", "compress", "([CII)[B"⟩ : MethodName)) hown (mvT hZ (hw _ (List.mem_of_getElem? (i := 32) rfl))) (mvT hZ (hw _ (List.mem_of_getElem? (i := 33) rfl))) (mvT hZ (hw _ (List.mem_of_getElem? (i := 34) rfl))) (mvT hZ (hw _ (List.mem_of_getElem? (i := 35) rfl))) (by decide) (backOf (W := 0) (rm_compU_3 l Z a0 hw [] ca ka c0 c1 c2 h0 n0 Z0 O Sad Shi Slo Vs hU gc0 gc1 gc2) hZ (hw _ (List.mem_of_getElem? (i := 35) rfl)) (hw _ (List.mem_of_getElem? (i := 34) rfl)) (by decide) (by decide)) (g := (mkF m 36 #[.val (.ref a), .val (.ref ca), .val (.int (0 : Int32)), .val (.int (3 : Int32)), .val .null, .unset] [(.int (3 : Int32)), (.int (0 : Int32)), (.ref ca)])) rfl (by rw [hml]; rfl) (argsL := [(.ref ca), (.int (0 : Int32)), (.int (3 : Int32))]) (rest := []) (lenOf pd10 rfl) rfl (by show 2 * 0 + _ ≤ _; exact Nat.le_of_eq rfl) (hb hby d2_36) (fun _ _ => ⟨rfl, e6, (by decide : 0 + 2 ≤ _), (by decide : 0 + 9 ≤ _)⟩)
  dsimp only [Pt.U, Pt.locs, Pt.cells, Pt.slots] at X9 l9 y9 z9 st9 hQ9
  subst l9 y9 z9
  obtain ⟨x9, kk9, rfl, N9q, K9, f10, f11⟩ := hQ9
  have N9 := Fr.app N0 N9q
  have ne_a_x9 : a ≠ x9 := Nat.ne_of_lt (Nat.lt_of_lt_of_le Ea.lt f10)
  have ne_ca_x9 : ca ≠ x9 := Nat.ne_of_lt (Nat.lt_of_lt_of_le Vs.lt f10)
  have g_x9 : n0 ≤ x9 := Nat.le_trans Z0 f10
  have sz_x9 : h0.size ≤ x9 := Nat.le_trans (Keep.refl h0 [a]).1 f10
  have f12 := O.keep K9 all0
  have f13 := Ea.keep K9
  have f14 := Fc.keep K9 nin0
  have f15 := Fv.keep K9 nin0
  have f16 := (Keep.refl h0 [a]).trans K9 all0
  have f17 := Vs.keep K9 nin0
  have Z18 : n0 ≤ T9.heap.size := Nat.le_trans Z0 K9.1
  have P19 := own_step (C := T9.setTop (mkF m 39 #[.val (.ref a), .val (.ref ca), .val (.int (0 : Int32)), .val (.int (3 : Int32)), .val .null, .unset] [(.ref x9)])) P8 (fun t_ k_ => st9 t_ k_)
  have P20 := own_step (C := T9.setTop (mkF m 45 #[.val (.ref a), .val (.ref ca), .val (.int (0 : Int32)), .val (.int (3 : Int32)), .val .null, .val (.ref x9)] [(.int (3 : Int32)), (.ref x9), (.ref a)])) P19 (by
    intro tt_ kk_
    refine XS.astore X9.here hx rfl (hb hby d2_39) rfl rfl (l' := #[.val (.ref a), .val (.ref ca), .val (.int (0 : Int32)), .val (.int (3 : Int32)), .val .null, .val (.ref x9)]) rfl ?_
    refine XS.aloadN X9.here hx rfl (hb hby d2_41) rfl rfl ?_
    refine XS.aload X9.here hx rfl (hb hby d2_42) rfl rfl ?_
    refine XS.iloadN X9.here hx rfl (hb hby d2_44) rfl ?_
    exact kk_)
  obtain ⟨_, _, ⟨T21, L21, k21, n21⟩, -, X21, ⟨Lc21, hQ21, l21, y21, z21⟩, st21⟩ := Jvm.LawKit.callS X9 hx (y := (⟨"java/lang/StringUTF16", "coderFromArrayLen", "([BI)B"⟩ : MethodName)) hown (mvT hZ (hw _ (List.mem_of_getElem? (i := 39) rfl))) (mvT hZ (hw _ (List.mem_of_getElem? (i := 40) rfl))) (mvT hZ (hw _ (List.mem_of_getElem? (i := 34) rfl))) (mvT hZ (hw _ (List.mem_of_getElem? (i := 41) rfl))) (by decide) (backOf (W := 1) (rm_cfa l Z a0 hw [] x9 kk9 (6 : Int32) _ (3 : Int32) (1 : Int32) T9.heap n0 Z18 f11 (by decide +kernel)) hZ (hw _ (List.mem_of_getElem? (i := 41) rfl)) (hw _ (List.mem_of_getElem? (i := 34) rfl)) (by decide) (by decide)) (g := (mkF m 45 #[.val (.ref a), .val (.ref ca), .val (.int (0 : Int32)), .val (.int (3 : Int32)), .val .null, .val (.ref x9)] [(.int (3 : Int32)), (.ref x9), (.ref a)])) rfl (by rw [hml]; rfl) (argsL := [(.ref x9), (.int (3 : Int32))]) (rest := [(.ref a)]) (lenOf pd11 rfl) rfl (by show 2 * 0 + _ ≤ _; exact Nat.le_of_eq rfl) (hb hby d2_45) (fun _ _ => ⟨rfl, rfl, (by decide : 2 + 0 ≤ _), (by decide : 9 + 0 ≤ _)⟩)
  dsimp only [Pt.U, Pt.locs, Pt.cells, Pt.slots] at X21 l21 y21 z21 st21 hQ21
  subst l21 y21 z21
  obtain ⟨rfl, N21q, e21⟩ := hQ21
  have N21 := Fr.app N9 N21q
  have P22 := own_step (C := T21.setTop (mkF m 48 #[.val (.ref a), .val (.ref ca), .val (.int (0 : Int32)), .val (.int (3 : Int32)), .val .null, .val (.ref x9)] [(.int (1 : Int32)), (.ref a)])) P20 (fun t_ k_ => st21 t_ k_)
  obtain ⟨T23, h23, X23, e23, W23, st23⟩ := putFN X21 hx hZ hown (hw _ (List.mem_of_getElem? (i := 21) rfl)) Via.refl e21 f14 f13 (Or.inr ⟨(hw _ (List.mem_of_getElem? (i := 17) rfl)), rfl, hnm⟩) (hw _ (List.mem_of_getElem? (i := 1) rfl)) (ty := .byte) (v' := (.int (1 : Int32).toInt8.toInt32)) (by decide) rfl (fits_nar_byte _) (g := (mkF m 48 #[.val (.ref a), .val (.ref ca), .val (.int (0 : Int32)), .val (.int (3 : Int32)), .val .null, .val (.ref x9)] [(.int (1 : Int32)), (.ref a)])) rfl rfl (hb hby d2_48)
  have f24 := f12.wr W23 ga
  have f25 := f13.wr W23
  have f26 := f14.same W23
  have f27 := f15.other W23 (Or.inr (slot_ne (Or.inr (hw _ (List.mem_of_getElem? (i := 16) rfl))) (Or.inr (hw _ (List.mem_of_getElem? (i := 17) rfl))) (by decide) (t := (.array .byte)) (t' := .byte) (by decide) (by decide)))
  have f28 := f16.wr W23 (Or.inl (List.mem_of_getElem? (i := 0) rfl))
  have f29 := f17.other W23 ne_ca_a
  have f30 := f11.other W23 (Ne.symm ne_a_x9)
  have Z31 : n0 ≤ h23.size := Nat.le_trans Z18 (Keep.of_wr W23).1
  have N23 := Fr.snoc X23 N21 ga
  have P32 := own_step (C := T23.setTop (mkF m 51 #[.val (.ref a), .val (.ref ca), .val (.int (0 : Int32)), .val (.int (3 : Int32)), .val .null, .val (.ref x9)] [])) P22 (fun t_ k_ => st23 t_ k_)
  have P33 := own_step (C := T23.setTop (mkF m 54 #[.val (.ref a), .val (.ref ca), .val (.int (0 : Int32)), .val (.int (3 : Int32)), .val .null, .val (.ref x9)] [(.ref x9), (.ref a)])) P32 (by
    intro tt_ kk_
    refine XS.aloadN X23.here hx rfl (hb hby d2_51) rfl rfl ?_
    refine XS.aload X23.here hx rfl (hb hby d2_52) rfl rfl ?_
    exact kk_)
  obtain ⟨T34, h34, X34, e34, W34, st34⟩ := putF X23 hx hZ hown (host := "") (Or.inl (hw _ (List.mem_of_getElem? (i := 20) rfl))) Via.refl e23 f27 f25 (Or.inr ⟨(hw _ (List.mem_of_getElem? (i := 16) rfl)), rfl, hnm⟩) (hw _ (List.mem_of_getElem? (i := 1) rfl)) (ty := (.array .byte)) (by decide) rfl rfl (g := (mkF m 54 #[.val (.ref a), .val (.ref ca), .val (.int (0 : Int32)), .val (.int (3 : Int32)), .val .null, .val (.ref x9)] [(.ref x9), (.ref a)])) rfl rfl (hb hby d2_54)
  have f35 := f24.wr W34 ga
  have f36 := f25.wr W34
  have f37 := f26.other W34 (Or.inr (slot_ne (Or.inr (hw _ (List.mem_of_getElem? (i := 17) rfl))) (Or.inr (hw _ (List.mem_of_getElem? (i := 16) rfl))) (by decide) (t := .byte) (t' := (.array .byte)) (by decide) (by decide)))
  have f38 := f27.same W34
  have f39 := f28.wr W34 (Or.inl (List.mem_of_getElem? (i := 0) rfl))
  have f40 := f29.other W34 ne_ca_a
  have f41 := f30.other W34 (Ne.symm ne_a_x9)
  have Z42 : n0 ≤ h34.size := Nat.le_trans Z31 (Keep.of_wr W34).1
  have N34 := Fr.snoc X34 N23 ga
  have P43 := own_step (C := T34.setTop (mkF m 57 #[.val (.ref a), .val (.ref ca), .val (.int (0 : Int32)), .val (.int (3 : Int32)), .val .null, .val (.ref x9)] [])) P33 (fun t_ k_ => st34 t_ k_)
  obtain ⟨fs, hr, hrun, hended, hW, hsame⟩ := X34.leave (v := none) (fun _ => rfl)
  refine ⟨_, _, P43 _ ?_, hrun, hended, _, _, rfl, ?_, ⟨_, rfl⟩, hW, hsame.mono (by decide) (by decide)⟩
  · exact X34.returnOut hx Bd.returns (hb hby d2_57) hr
  · show Q_initVU_3 Z _ _ _ _ _ _ _ h0 n0 _ T34.heap _
    rw [e34]
    exact ⟨x9, kk9, rfl, N34, f39, f36, f37, f38, f41, sz_x9⟩
theorem ef__initA_3 (m : MethodId) (x0 : Addr) (x1 : Addr) : entryFrame m #[(.ref x0), (.ref x1)] 2 = mkF m 0 #[.val (.ref x0), .val (.ref x1)] [] := by first | (simp [entryFrame, mkF, argsToLocals, Value.category]; done) | rfl
def Q_initA_3 (Z : State) (a : Addr) (ca : Addr) (ka : ClassId) (c0 : Int32) (c1 : Int32) (c2 : Int32) (cs : Int32) (h0 : Heap) (n0 : Nat) (v_ : Option Value) (h : Heap) (L_ : List Loc) : Prop := v_ = none ∧ Fr n0 L_ ∧ Keep h0 h [a] ∧ own_S Z h a (3 : Int32) [c0, c1, c2]
set_option maxRecDepth 65536 in
set_option maxHeartbeats 40000000 in
theorem rm_initA_3 (l : Launch) (Z : State) (a0 : Array Value) (hw : ∀ d ∈ tables_1, d.before a0 Z = true) (ws : List Jvm.Cond) (a : Addr) (ca : Addr) (ka : ClassId) (c0 : Int32) (c1 : Int32) (c2 : Int32) (cs : Int32) (h0 : Heap) (n0 : Nat) (Z0 : n0 ≤ h0.size) (O : Old Z n0 h0) (Scs : Sta Z Z.heap "java/lang/String" "COMPACT_STRINGS" "Z" (.int cs)) (hcs : ¬ (cs = (0 : Int32))) (Ea : Exa Z h0 a "java/lang/String") (Fv : Fld Z h0 a "java/lang/String" "value" "[B" .null) (Fc : Fld Z h0 a "java/lang/String" "coder" "B" (.int (0 : Int32))) (ga : n0 ≤ a) (Vs : Arv Z h0 ca ka .char (3 : Int32) [(.int c0), (.int c1), (.int c2)] (.int 0)) (Sad : Sta Z Z.heap "java/lang/StringUTF16" "$assertionsDisabled" "Z" (.int (1 : Int32))) (Shi : Sta Z Z.heap "java/lang/StringUTF16" "HI_BYTE_SHIFT" "I" (.int (0 : Int32))) (Slo : Sta Z Z.heap "java/lang/StringUTF16" "LO_BYTE_SHIFT" "I" (.int (8 : Int32))) (gc0 : own_C c0) (gc1 : own_C c1) (gc2 : own_C c2) :
    MetFree l (⟨"java/lang/String", "<init>", "([C)V"⟩ : MethodName) (head1 (Jvm.Cond.code (⟨"java/lang/String", "<init>", "([C)V"⟩ : MethodName) jdk_42_method_3_code 2 none :: ws) ({ frames := 5, cells := 2, slots := 9, locals := 74 } : Room)) (fun a_ U_ => a_ = #[(.ref a), (.ref ca)] ∧ Z.Warmed39 U_.vm ∧ U_.heap = h0) (fun _ _ _ _ _ => True) (fun _ U_ o_ V_ => ∃ v_ L_, o_ = .returned v_ ∧ Q_initA_3 Z a ca ka c0 c1 c2 cs h0 n0 v_ V_.heap L_ ∧ FrameEnd U_ o_ V_ L_ ({ frames := 5, cells := 2, slots := 9, locals := 74 } : Room).cells ({ frames := 5, cells := 2, slots := 9, locals := 74 } : Room).slots) := by
  refine MetFree.of_bodySF (plainFor_of_name pn1) hisR ?_
  intro p e s m args below meth c s₁ Bd hml0 hP hK
  obtain ⟨rfl, hZ, hh⟩ := hP
  have hx := Bd.exec
  have hby := Bd.bytes
  have hml : c.maxLocals = 2 := hml0
  have hown : s.vm.findClass "java/lang/String" = some m.cls := findClass_of_methodNamed Bd.named
  have hnm := (name_of_methodNamed Bd.named Bd.method).1
  have X0 : Stand p l e ({ frames := 5, cells := 2, slots := 9, locals := 74 } : Room) s m #[(.ref a), (.ref ca)] below meth c s₁ [] 0 0 := Stand.of_body Bd
  have e0 : s₁.heap = h0 := by rw [← hh, Bd.state]; rfl
  have N0 := Fr.nil n0
  have pre0 : own_Go p e below (s₁.setTop (entryFrame m #[(.ref a), (.ref ca)] 2)) (s₁.setTop (mkF m 0 #[.val (.ref a), .val (.ref ca)] [])) := fun t_ k_ => castTop (ef__initA_3 m a ca) k_
  obtain ⟨clV, ArV, -⟩ := id Vs
  have ne_ca_a : ca ≠ a := Ne.symm (ne_arr Ea (hw _ (List.mem_of_getElem? (i := 1) rfl)) ArV)
  have P1 := own_step (C := s₁.setTop (mkF m 4 #[.val (.ref a), .val (.ref ca)] [(.ref ca), (.int (0 : Int32)), (.ref ca), (.ref a)])) pre0 (by
    intro tt_ kk_
    refine XS.aloadN X0.here hx rfl (hb hby d1_0) rfl rfl ?_
    refine XS.aloadN X0.here hx rfl (hb hby d1_1) rfl rfl ?_
    refine XS.iconst X0.here hx rfl (hb hby d1_2) ?_
    refine XS.aloadN X0.here hx rfl (hb hby d1_3) rfl rfl ?_
    exact kk_)
  obtain ⟨cl2, Ar2, q2, S2, M2, H2, G2⟩ := id Vs
  have P3 := own_step (C := s₁.setTop (mkF m 5 #[.val (.ref a), .val (.ref ca)] [(.int (3 : Int32)), (.int (0 : Int32)), (.ref ca), (.ref a)])) P1 (by
    intro tt_ kk_
    refine X0.arraylength hx (by rw [e0]; exact Ar2.1) (State.isArrayOf_alike hZ.alike Ar2.2.1) (g := (mkF m 4 #[.val (.ref a), .val (.ref ca)] [(.ref ca), (.int (0 : Int32)), (.ref ca), (.ref a)])) rfl rfl (hb hby d1_4) _ ?_
    rw [len_of S2 M2]
    exact kk_)
  have P4 := own_step (C := s₁.setTop (mkF m 6 #[.val (.ref a), .val (.ref ca)] [.null, (.int (3 : Int32)), (.int (0 : Int32)), (.ref ca), (.ref a)])) P3 (by
    intro tt_ kk_
    refine XS.aconstNull X0.here hx rfl (hb hby d1_5) ?_
    exact kk_)
  by_cases hU : (255 : Int32) < c0 ∨ (255 : Int32) < c1 ∨ (255 : Int32) < c2
  · obtain ⟨_, _, ⟨T5, L5, k5, n5⟩, -, X5, ⟨Lc5, hQ5, l5, y5, z5⟩, st5⟩ := X0.specialBack hx (y := (⟨"java/lang/String", "<init>", "([CIILjava/lang/Void;)V"⟩ : MethodName)) rfl hown (mvT hZ (hw _ (List.mem_of_getElem? (i := 7) rfl))) (mvT hZ (hw _ (List.mem_of_getElem? (i := 8) rfl))) (mvT hZ (hw _ (List.mem_of_getElem? (i := 10) rfl))) (by decide) (backOf (W := 0) (rm_initVU_3 l Z a0 hw [] a ca ka c0 c1 c2 cs h0 n0 Z0 O Scs hcs Ea Fv Fc ga Vs Sad Shi Slo hU gc0 gc1 gc2) hZ (hw _ (List.mem_of_getElem? (i := 10) rfl)) (hw _ (List.mem_of_getElem? (i := 2) rfl)) (by decide) (by decide)) (g := (mkF m 6 #[.val (.ref a), .val (.ref ca)] [.null, (.int (3 : Int32)), (.int (0 : Int32)), (.ref ca), (.ref a)])) rfl (by rw [hml]; rfl) (Steps.refl _) (a := a) (argsL := [(.ref ca), (.int (0 : Int32)), (.int (3 : Int32)), .null]) (rest := []) (lenOf pd15 rfl) rfl (by show 2 * 0 + _ ≤ _; exact Nat.le_of_eq rfl) (hb hby d1_6) (fun _ _ => ⟨rfl, e0, (by decide : 0 + 2 ≤ _), (by decide : 0 + 9 ≤ _)⟩)
    dsimp only [Pt.U, Pt.locs, Pt.cells, Pt.slots] at X5 l5 y5 z5 st5 hQ5
    subst l5 y5 z5
    obtain ⟨x5, kk5, rfl, N5q, K5, f6, f7, f8, f9, f10⟩ := hQ5
    have N5 := Fr.app N0 N5q
    have ne_a_x5 : a ≠ x5 := Nat.ne_of_lt (Nat.lt_of_lt_of_le Ea.lt f10)
    have ne_ca_x5 : ca ≠ x5 := Nat.ne_of_lt (Nat.lt_of_lt_of_le Vs.lt f10)
    have g_x5 : n0 ≤ x5 := Nat.le_trans Z0 f10
    have sz_x5 : h0.size ≤ x5 := Nat.le_trans (Keep.refl h0 [a]).1 f10
    have f11 := O.keep K5 (allS ga all0)
    have f12 := Ea.keep K5
    have f15 := (Keep.refl h0 [a]).trans K5 (allS (Or.inl (List.mem_of_getElem? (i := 0) rfl)) all0)
    have f16 := Vs.keep K5 (ninS ne_ca_a nin0)
    have Z17 : n0 ≤ T5.heap.size := Nat.le_trans Z0 K5.1
    have P18 := own_step (C := T5.setTop (mkF m 9 #[.val (.ref a), .val (.ref ca)] [])) P4 (fun t_ k_ => st5.trans k_)
    obtain ⟨fs, hr, hrun, hended, hW, hsame⟩ := X5.leave (v := none) (fun _ => rfl)
    refine ⟨_, _, P18 _ ?_, hrun, hended, _, _, rfl, ?_, ⟨_, rfl⟩, hW, hsame.mono (by decide) (by decide)⟩
    · exact X5.returnOut hx Bd.returns (hb hby d1_9) hr
    · show Q_initA_3 Z _ _ _ _ _ _ _ h0 n0 _ T5.heap _
      exact ⟨rfl, N5, f15, ⟨x5, kk5, f6, f8, Or.inr ⟨f7, f9⟩⟩⟩
  · have hc0 : ¬ ((255 : Int32) < c0) := fun q => hU (Or.inl q)
    have hc1 : ¬ ((255 : Int32) < c1) := fun q => hU (Or.inr (Or.inl q))
    have hc2 : ¬ ((255 : Int32) < c2) := fun q => hU (Or.inr (Or.inr (q)))
    have hall : ∀ c ∈ [c0, c1, c2], ¬ ((255 : Int32) < c) := by intro c hc; simp only [List.mem_cons, List.not_mem_nil, or_false] at hc; rcases hc with rfl | rfl | rfl <;> assumption
    obtain ⟨_, _, ⟨T19, L19, k19, n19⟩, -, X19, ⟨Lc19, hQ19, l19, y19, z19⟩, st19⟩ := X0.specialBack hx (y := (⟨"java/lang/String", "<init>", "([CIILjava/lang/Void;)V"⟩ : MethodName)) rfl hown (mvT hZ (hw _ (List.mem_of_getElem? (i := 7) rfl))) (mvT hZ (hw _ (List.mem_of_getElem? (i := 8) rfl))) (mvT hZ (hw _ (List.mem_of_getElem? (i := 10) rfl))) (by decide) (backOf (W := 0) (rm_initV_3 l Z a0 hw [] a ca ka c0 c1 c2 cs h0 n0 Z0 O Scs hcs Ea Fv Fc ga Vs hc0 hc1 hc2) hZ (hw _ (List.mem_of_getElem? (i := 10) rfl)) (hw _ (List.mem_of_getElem? (i := 2) rfl)) (by decide) (by decide)) (g := (mkF m 6 #[.val (.ref a), .val (.ref ca)] [.null, (.int (3 : Int32)), (.int (0 : Int32)), (.ref ca), (.ref a)])) rfl (by rw [hml]; rfl) (Steps.refl _) (a := a) (argsL := [(.ref ca), (.int (0 : Int32)), (.int (3 : Int32)), .null]) (rest := []) (lenOf pd15 rfl) rfl (by show 2 * 0 + _ ≤ _; exact Nat.le_of_eq rfl) (hb hby d1_6) (fun _ _ => ⟨rfl, e0, (by decide : 0 + 1 ≤ _), (by decide : 0 + 3 ≤ _)⟩)
    dsimp only [Pt.U, Pt.locs, Pt.cells, Pt.slots] at X19 l19 y19 z19 st19 hQ19
    subst l19 y19 z19
    obtain ⟨x19, kk19, rfl, N19q, K19, f20, f21, f22, f23, f24⟩ := hQ19
    have N19 := Fr.app N0 N19q
    have ne_a_x19 : a ≠ x19 := Nat.ne_of_lt (Nat.lt_of_lt_of_le Ea.lt f24)
    have ne_ca_x19 : ca ≠ x19 := Nat.ne_of_lt (Nat.lt_of_lt_of_le Vs.lt f24)
    have g_x19 : n0 ≤ x19 := Nat.le_trans Z0 f24
    have sz_x19 : h0.size ≤ x19 := Nat.le_trans (Keep.refl h0 [a]).1 f24
    have f25 := O.keep K19 (allS ga all0)
    have f26 := Ea.keep K19
    have f29 := (Keep.refl h0 [a]).trans K19 (allS (Or.inl (List.mem_of_getElem? (i := 0) rfl)) all0)
    have f30 := Vs.keep K19 (ninS ne_ca_a nin0)
    have Z31 : n0 ≤ T19.heap.size := Nat.le_trans Z0 K19.1
    have P32 := own_step (C := T19.setTop (mkF m 9 #[.val (.ref a), .val (.ref ca)] [])) P4 (fun t_ k_ => st19.trans k_)
    obtain ⟨fs, hr, hrun, hended, hW, hsame⟩ := X19.leave (v := none) (fun _ => rfl)
    refine ⟨_, _, P32 _ ?_, hrun, hended, _, _, rfl, ?_, ⟨_, rfl⟩, hW, hsame.mono (by decide) (by decide)⟩
    · exact X19.returnOut hx Bd.returns (hb hby d1_9) hr
    · show Q_initA_3 Z _ _ _ _ _ _ _ h0 n0 _ T19.heap _
      exact ⟨rfl, N19, f29, ⟨x19, kk19, f20, f22, Or.inl ⟨hall, f21, f23⟩⟩⟩
theorem ef__comp2U_4 (m : MethodId) (x0 : Addr) (x1 : Int32) (x2 : Addr) (x3 : Int32) (x4 : Int32) : entryFrame m #[(.ref x0), (.int x1), (.ref x2), (.int x3), (.int x4)] 7 = mkF m 0 #[.val (.ref x0), .val (.int x1), .val (.ref x2), .val (.int x3), .val (.int x4), .unset, .unset] [] := by first | (simp [entryFrame, mkF, argsToLocals, Value.category]; done) | rfl
def Q_comp2U_4 (Z : State) (a : Addr) (ka : ClassId) (d : Addr) (kd : ClassId) (c0 : Int32) (c1 : Int32) (c2 : Int32) (c3 : Int32) (h0 : Heap) (n0 : Nat) (v_ : Option Value) (h : Heap) (L_ : List Loc) : Prop := ∃ (r : Int32), v_ = some (.int r) ∧ Fr n0 L_ ∧ Keep h0 h [d] ∧ ((r = (0 : Int32) ∧ (255 : Int32) < c0) ∨ (r = (1 : Int32) ∧ (255 : Int32) < c1) ∨ (r = (2 : Int32) ∧ (255 : Int32) < c2) ∨ (r = (3 : Int32) ∧ (255 : Int32) < c3) ∨ (r = (4 : Int32) ∧ ¬ ((255 : Int32) < c0) ∧ ¬ ((255 : Int32) < c1) ∧ ¬ ((255 : Int32) < c2) ∧ ¬ ((255 : Int32) < c3) ∧ Arv Z h d kd .byte (4 : Int32) [(.int (c0.toInt8.toInt32).toInt8.toInt32), (.int (c1.toInt8.toInt32).toInt8.toInt32), (.int (c2.toInt8.toInt32).toInt8.toInt32), (.int (c3.toInt8.toInt32).toInt8.toInt32)] (.int 0)))
set_option maxRecDepth 65536 in
set_option maxHeartbeats 40000000 in
theorem rm_comp2U_4 (l : Launch) (Z : State) (a0 : Array Value) (hw : ∀ d ∈ tables_1, d.before a0 Z = true) (ws : List Jvm.Cond) (a : Addr) (ka : ClassId) (d : Addr) (kd : ClassId) (c0 : Int32) (c1 : Int32) (c2 : Int32) (c3 : Int32) (h0 : Heap) (n0 : Nat) (Z0 : n0 ≤ h0.size) (O : Old Z n0 h0) (Va : Arv Z h0 a ka .char (4 : Int32) [(.int c0), (.int c1), (.int c2), (.int c3)] (.int 0)) (Vd : Arv Z h0 d kd .byte (4 : Int32) [(.int (0 : Int32)), (.int (0 : Int32)), (.int (0 : Int32)), (.int (0 : Int32))] (.int 0)) (nad : a ≠ d) (gd : n0 ≤ d) :
    MetFree l (⟨"java/lang/StringUTF16", "compress", "([CI[BII)I"⟩ : MethodName) (head1 (Jvm.Cond.code (⟨"java/lang/StringUTF16", "compress", "([CI[BII)I"⟩ : MethodName) jdk_52_method_21_code 7 (some .int) :: ws) ({ frames := 0, cells := 0, slots := 0, locals := 0 } : Room)) (fun a_ U_ => a_ = #[(.ref a), (.int (0 : Int32)), (.ref d), (.int (0 : Int32)), (.int (4 : Int32))] ∧ Z.Warmed39 U_.vm ∧ U_.heap = h0) (fun _ _ _ _ _ => True) (fun _ U_ o_ V_ => ∃ v_ L_, o_ = .returned v_ ∧ Q_comp2U_4 Z a ka d kd c0 c1 c2 c3 h0 n0 v_ V_.heap L_ ∧ FrameEnd U_ o_ V_ L_ ({ frames := 0, cells := 0, slots := 0, locals := 0 } : Room).cells ({ frames := 0, cells := 0, slots := 0, locals := 0 } : Room).slots) := by
  refine MetFree.of_bodySF (plainFor_of_name pn5) hisR ?_
  intro p e s m args below meth c s₁ Bd hml0 hP hK
  obtain ⟨rfl, hZ, hh⟩ := hP
  have hx := Bd.exec
  have hby := Bd.bytes
  have hml : c.maxLocals = 7 := hml0
  have hown : s.vm.findClass "java/lang/StringUTF16" = some m.cls := findClass_of_methodNamed Bd.named
  have hnm := (name_of_methodNamed Bd.named Bd.method).1
  have X0 : Stand p l e ({ frames := 0, cells := 0, slots := 0, locals := 0 } : Room) s m #[(.ref a), (.int (0 : Int32)), (.ref d), (.int (0 : Int32)), (.int (4 : Int32))] below meth c s₁ [] 0 0 := Stand.of_body Bd
  have e0 : s₁.heap = h0 := by rw [← hh, Bd.state]; rfl
  have N0 := Fr.nil n0
  have pre0 : own_Go p e below (s₁.setTop (entryFrame m #[(.ref a), (.int (0 : Int32)), (.ref d), (.int (0 : Int32)), (.int (4 : Int32))] 7)) (s₁.setTop (mkF m 0 #[.val (.ref a), .val (.int (0 : Int32)), .val (.ref d), .val (.int (0 : Int32)), .val (.int (4 : Int32)), .unset, .unset] [])) := fun t_ k_ => castTop (ef__comp2U_4 m a (0 : Int32) d (0 : Int32) (4 : Int32)) k_
  have P1 := own_step (C := s₁.setTop (mkF m 7 #[.val (.ref a), .val (.int (0 : Int32)), .val (.ref d), .val (.int (0 : Int32)), .val (.int (4 : Int32)), .val (.int (0 : Int32)), .unset] [(.int (4 : Int32)), (.int (0 : Int32))])) pre0 (by
    intro tt_ kk_
    refine XS.iconst X0.here hx rfl (hb hby d7_0) ?_
    refine XS.istore X0.here hx rfl (hb hby d7_1) rfl (l' := #[.val (.ref a), .val (.int (0 : Int32)), .val (.ref d), .val (.int (0 : Int32)), .val (.int (4 : Int32)), .val (.int (0 : Int32)), .unset]) rfl ?_
    refine XS.iload X0.here hx rfl (hb hby d7_3) rfl ?_
    refine XS.iload X0.here hx rfl (hb hby d7_5) rfl ?_
    exact kk_)
  have P2 := own_step (C := s₁.setTop (mkF m 12 #[.val (.ref a), .val (.int (0 : Int32)), .val (.ref d), .val (.int (0 : Int32)), .val (.int (4 : Int32)), .val (.int (0 : Int32)), .unset] [(.int (0 : Int32)), (.ref a)])) P1 (by
    intro tt_ kk_
    refine XS.icmpNo X0.here hx rfl (hb hby d7_7) rfl (tlt (by decide : (0 : Int32) < (4 : Int32))).2.1 ?_
    refine XS.aloadN X0.here hx rfl (hb hby d7_10) rfl rfl ?_
    refine XS.iloadN X0.here hx rfl (hb hby d7_11) rfl ?_
    exact kk_)
  obtain ⟨cl3, Ar3, q3, S3, M3, H3, G3⟩ := id Va
  have hin3 := inb_of S3 (by decide : ¬ (0 : Int32) < 0 ∧ (0 : Int32) < (4 : Int32))
  have hat3 := Has.at H3 hin3 (v := .int c0) rfl
  have P4 := own_step (C := s₁.setTop (mkF m 13 #[.val (.ref a), .val (.int (0 : Int32)), .val (.ref d), .val (.int (0 : Int32)), .val (.int (4 : Int32)), .val (.int (0 : Int32)), .unset] [(.int c0)])) P2 (by
    intro tt_ kk_
    refine X0.caload hx (j := (0 : Int32)) (v := (.int c0)) (by rw [e0]; exact Ar3.1) (State.isArrayOf_alike hZ.alike Ar3.2.1) Ar3.2.2 hin3 hat3 (g := (mkF m 12 #[.val (.ref a), .val (.int (0 : Int32)), .val (.ref d), .val (.int (0 : Int32)), .val (.int (4 : Int32)), .val (.int (0 : Int32)), .unset] [(.int (0 : Int32)), (.ref a)])) rfl rfl (hb hby d7_12) _ ?_
    exact kk_)
  have P5 := own_step (C := s₁.setTop (mkF m 20 #[.val (.ref a), .val (.int (0 : Int32)), .val (.ref d), .val (.int (0 : Int32)), .val (.int (4 : Int32)), .val (.int (0 : Int32)), .val (.int c0)] [(.int (255 : Int32)), (.int c0)])) P4 (by
    intro tt_ kk_
    refine XS.istore X0.here hx rfl (hb hby d7_13) rfl (l' := #[.val (.ref a), .val (.int (0 : Int32)), .val (.ref d), .val (.int (0 : Int32)), .val (.int (4 : Int32)), .val (.int (0 : Int32)), .val (.int c0)]) rfl ?_
    refine XS.iload X0.here hx rfl (hb hby d7_15) rfl ?_
    refine XS.sipush X0.here hx rfl (hb hby d7_17) ?_
    exact kk_)
  by_cases c6 : (255 : Int32) < c0
  · have P7 := own_step (C := s₁.setTop (mkF m 25 #[.val (.ref a), .val (.int (0 : Int32)), .val (.ref d), .val (.int (0 : Int32)), .val (.int (4 : Int32)), .val (.int (0 : Int32)), .val (.int c0)] [(.int (0 : Int32))])) P5 (by
      intro tt_ kk_
      refine XS.icmpNo X0.here hx rfl (hb hby d7_20) rfl (tlt c6).2.2.2 ?_
      refine XS.iload X0.here hx rfl (hb hby d7_23) rfl ?_
      exact kk_)
    obtain ⟨fs, hr, hrun, hended, hW, hsame⟩ := X0.leave (v := some (.int (0 : Int32))) (fun h => by rw [Bd.returns] at h; cases h)
    refine ⟨_, _, P7 _ ?_, hrun, hended, _, _, rfl, ?_, ⟨_, rfl⟩, hW, hsame.mono (by decide) (by decide)⟩
    · exact retI X0 hx Bd.returns (hb hby d7_25) hr
    · show Q_comp2U_4 Z _ _ _ _ _ _ _ _ h0 n0 _ s₁.heap _
      rw [e0]
      exact ⟨(0 : Int32), rfl, N0, (Keep.refl h0 [d]), Or.inl ⟨rfl, c6⟩⟩
  · have P8 := own_step (C := s₁.setTop (mkF m 31 #[.val (.ref a), .val (.int (0 : Int32)), .val (.ref d), .val (.int (0 : Int32)), .val (.int (4 : Int32)), .val (.int (0 : Int32)), .val (.int c0)] [(.int (c0.toInt8.toInt32)), (.int (0 : Int32)), (.ref d)])) P5 (by
      intro tt_ kk_
      refine XS.icmpYes X0.here hx rfl (pc0 := 20) (pc' := 26) rfl (hb hby d7_20) rfl (flt c6).2.2.2 (by decide) (by decide) ?_
      refine XS.aloadN X0.here hx rfl (hb hby d7_26) rfl rfl ?_
      refine XS.iloadN X0.here hx rfl (hb hby d7_27) rfl ?_
      refine XS.iload X0.here hx rfl (hb hby d7_28) rfl ?_
      refine XS.i2b X0.here hx rfl (hb hby d7_30) rfl ?_
      exact kk_)
    obtain ⟨cl9, Ar9, q9, S9, M9, H9, G9⟩ := id Vd
    obtain ⟨T10, h10, X10, e10, W10, st10⟩ := stB X0 hx hZ e0 Ar9 (j := (0 : Int32)) (inb_of S9 (by decide : ¬ (0 : Int32) < 0 ∧ (0 : Int32) < (4 : Int32))) (g := (mkF m 31 #[.val (.ref a), .val (.int (0 : Int32)), .val (.ref d), .val (.int (0 : Int32)), .val (.int (4 : Int32)), .val (.int (0 : Int32)), .val (.int c0)] [(.int (c0.toInt8.toInt32)), (.int (0 : Int32)), (.ref d)])) rfl rfl (hb hby d7_31)
    have f11 := O.wr W10 gd
    have f12 := Va.other W10 nad
    have f14 := (Keep.refl h0 [d]).wr W10 (Or.inl (List.mem_of_getElem? (i := 0) rfl))
    have Z15 : n0 ≤ h10.size := Nat.le_trans Z0 (Keep.of_wr W10).1
    have V10 : Arv Z h10 d kd .byte (4 : Int32) [(.int (c0.toInt8.toInt32).toInt8.toInt32), (.int (0 : Int32)), (.int (0 : Int32)), (.int (0 : Int32))] (.int 0) := Arv.set Ar9 q9 S9 M9 H9 G9 (fits_nar_byte _) W10 0 rfl (Nat.le_of_ble_eq_true rfl)
    have N10 := Fr.snoc X10 N0 gd
    have P16 := own_step (C := T10.setTop (mkF m 32 #[.val (.ref a), .val (.int (0 : Int32)), .val (.ref d), .val (.int (0 : Int32)), .val (.int (4 : Int32)), .val (.int (0 : Int32)), .val (.int c0)] [])) P8 (fun t_ k_ => st10 t_ k_)
    have P17 := own_step (C := T10.setTop (mkF m 7 #[.val (.ref a), .val (.int (1 : Int32)), .val (.ref d), .val (.int (1 : Int32)), .val (.int (4 : Int32)), .val (.int (1 : Int32)), .val (.int c0)] [(.int (4 : Int32)), (.int (1 : Int32))])) P16 (by
      intro tt_ kk_
      refine XS.iinc X10.here hx rfl (hb hby d7_32) rfl (l' := #[.val (.ref a), .val (.int (1 : Int32)), .val (.ref d), .val (.int (0 : Int32)), .val (.int (4 : Int32)), .val (.int (0 : Int32)), .val (.int c0)]) rfl ?_
      show Steps p.tables e below (T10.setTop (mkF m 35 #[.val (.ref a), .val (.int (1 : Int32)), .val (.ref d), .val (.int (0 : Int32)), .val (.int (4 : Int32)), .val (.int (0 : Int32)), .val (.int c0)] [])) _
      refine XS.iinc X10.here hx rfl (hb hby d7_35) rfl (l' := #[.val (.ref a), .val (.int (1 : Int32)), .val (.ref d), .val (.int (1 : Int32)), .val (.int (4 : Int32)), .val (.int (0 : Int32)), .val (.int c0)]) rfl ?_
      show Steps p.tables e below (T10.setTop (mkF m 38 #[.val (.ref a), .val (.int (1 : Int32)), .val (.ref d), .val (.int (1 : Int32)), .val (.int (4 : Int32)), .val (.int (0 : Int32)), .val (.int c0)] [])) _
      refine XS.iinc X10.here hx rfl (hb hby d7_38) rfl (l' := #[.val (.ref a), .val (.int (1 : Int32)), .val (.ref d), .val (.int (1 : Int32)), .val (.int (4 : Int32)), .val (.int (1 : Int32)), .val (.int c0)]) rfl ?_
      show Steps p.tables e below (T10.setTop (mkF m 41 #[.val (.ref a), .val (.int (1 : Int32)), .val (.ref d), .val (.int (1 : Int32)), .val (.int (4 : Int32)), .val (.int (1 : Int32)), .val (.int c0)] [])) _
      refine XS.goto X10.here hx rfl (pc0 := 41) (pc' := 3) rfl (hb hby d7_41) (by decide) (by decide) ?_
      refine XS.iload X10.here hx rfl (hb hby d7_3) rfl ?_
      refine XS.iload X10.here hx rfl (hb hby d7_5) rfl ?_
      exact kk_)
    have P18 := own_step (C := T10.setTop (mkF m 12 #[.val (.ref a), .val (.int (1 : Int32)), .val (.ref d), .val (.int (1 : Int32)), .val (.int (4 : Int32)), .val (.int (1 : Int32)), .val (.int c0)] [(.int (1 : Int32)), (.ref a)])) P17 (by
      intro tt_ kk_
      refine XS.icmpNo X10.here hx rfl (hb hby d7_7) rfl (tlt (by decide : (1 : Int32) < (4 : Int32))).2.1 ?_
      refine XS.aloadN X10.here hx rfl (hb hby d7_10) rfl rfl ?_
      refine XS.iloadN X10.here hx rfl (hb hby d7_11) rfl ?_
      exact kk_)
    obtain ⟨cl19, Ar19, q19, S19, M19, H19, G19⟩ := id f12
    have hin19 := inb_of S19 (by decide : ¬ (1 : Int32) < 0 ∧ (1 : Int32) < (4 : Int32))
    have hat19 := Has.at H19 hin19 (v := .int c1) rfl
    have P20 := own_step (C := T10.setTop (mkF m 13 #[.val (.ref a), .val (.int (1 : Int32)), .val (.ref d), .val (.int (1 : Int32)), .val (.int (4 : Int32)), .val (.int (1 : Int32)), .val (.int c0)] [(.int c1)])) P18 (by
      intro tt_ kk_
      refine X10.caload hx (j := (1 : Int32)) (v := (.int c1)) (by rw [e10]; exact Ar19.1) (State.isArrayOf_alike hZ.alike Ar19.2.1) Ar19.2.2 hin19 hat19 (g := (mkF m 12 #[.val (.ref a), .val (.int (1 : Int32)), .val (.ref d), .val (.int (1 : Int32)), .val (.int (4 : Int32)), .val (.int (1 : Int32)), .val (.int c0)] [(.int (1 : Int32)), (.ref a)])) rfl rfl (hb hby d7_12) _ ?_
      exact kk_)
    have P21 := own_step (C := T10.setTop (mkF m 20 #[.val (.ref a), .val (.int (1 : Int32)), .val (.ref d), .val (.int (1 : Int32)), .val (.int (4 : Int32)), .val (.int (1 : Int32)), .val (.int c1)] [(.int (255 : Int32)), (.int c1)])) P20 (by
      intro tt_ kk_
      refine XS.istore X10.here hx rfl (hb hby d7_13) rfl (l' := #[.val (.ref a), .val (.int (1 : Int32)), .val (.ref d), .val (.int (1 : Int32)), .val (.int (4 : Int32)), .val (.int (1 : Int32)), .val (.int c1)]) rfl ?_
      refine XS.iload X10.here hx rfl (hb hby d7_15) rfl ?_
      refine XS.sipush X10.here hx rfl (hb hby d7_17) ?_
      exact kk_)
    by_cases c22 : (255 : Int32) < c1
    · have P23 := own_step (C := T10.setTop (mkF m 25 #[.val (.ref a), .val (.int (1 : Int32)), .val (.ref d), .val (.int (1 : Int32)), .val (.int (4 : Int32)), .val (.int (1 : Int32)), .val (.int c1)] [(.int (1 : Int32))])) P21 (by
        intro tt_ kk_
        refine XS.icmpNo X10.here hx rfl (hb hby d7_20) rfl (tlt c22).2.2.2 ?_
        refine XS.iload X10.here hx rfl (hb hby d7_23) rfl ?_
        exact kk_)
      obtain ⟨fs, hr, hrun, hended, hW, hsame⟩ := X10.leave (v := some (.int (1 : Int32))) (fun h => by rw [Bd.returns] at h; cases h)
      refine ⟨_, _, P23 _ ?_, hrun, hended, _, _, rfl, ?_, ⟨_, rfl⟩, hW, hsame.mono (by decide) (by decide)⟩
      · exact retI X10 hx Bd.returns (hb hby d7_25) hr
      · show Q_comp2U_4 Z _ _ _ _ _ _ _ _ h0 n0 _ T10.heap _
        rw [e10]
        exact ⟨(1 : Int32), rfl, N10, f14, Or.inr (Or.inl ⟨rfl, c22⟩)⟩
    · have P24 := own_step (C := T10.setTop (mkF m 31 #[.val (.ref a), .val (.int (1 : Int32)), .val (.ref d), .val (.int (1 : Int32)), .val (.int (4 : Int32)), .val (.int (1 : Int32)), .val (.int c1)] [(.int (c1.toInt8.toInt32)), (.int (1 : Int32)), (.ref d)])) P21 (by
        intro tt_ kk_
        refine XS.icmpYes X10.here hx rfl (pc0 := 20) (pc' := 26) rfl (hb hby d7_20) rfl (flt c22).2.2.2 (by decide) (by decide) ?_
        refine XS.aloadN X10.here hx rfl (hb hby d7_26) rfl rfl ?_
        refine XS.iloadN X10.here hx rfl (hb hby d7_27) rfl ?_
        refine XS.iload X10.here hx rfl (hb hby d7_28) rfl ?_
        refine XS.i2b X10.here hx rfl (hb hby d7_30) rfl ?_
        exact kk_)
      obtain ⟨cl25, Ar25, q25, S25, M25, H25, G25⟩ := id V10
      obtain ⟨T26, h26, X26, e26, W26, st26⟩ := stB X10 hx hZ e10 Ar25 (j := (1 : Int32)) (inb_of S25 (by decide : ¬ (1 : Int32) < 0 ∧ (1 : Int32) < (4 : Int32))) (g := (mkF m 31 #[.val (.ref a), .val (.int (1 : Int32)), .val (.ref d), .val (.int (1 : Int32)), .val (.int (4 : Int32)), .val (.int (1 : Int32)), .val (.int c1)] [(.int (c1.toInt8.toInt32)), (.int (1 : Int32)), (.ref d)])) rfl rfl (hb hby d7_31)
      have f27 := f11.wr W26 gd
      have f28 := f12.other W26 nad
      have f30 := f14.wr W26 (Or.inl (List.mem_of_getElem? (i := 0) rfl))
      have Z31 : n0 ≤ h26.size := Nat.le_trans Z15 (Keep.of_wr W26).1
      have V26 : Arv Z h26 d kd .byte (4 : Int32) [(.int (c0.toInt8.toInt32).toInt8.toInt32), (.int (c1.toInt8.toInt32).toInt8.toInt32), (.int (0 : Int32)), (.int (0 : Int32))] (.int 0) := Arv.set Ar25 q25 S25 M25 H25 G25 (fits_nar_byte _) W26 1 rfl (Nat.le_of_ble_eq_true rfl)
      have N26 := Fr.snoc X26 N10 gd
      have P32 := own_step (C := T26.setTop (mkF m 32 #[.val (.ref a), .val (.int (1 : Int32)), .val (.ref d), .val (.int (1 : Int32)), .val (.int (4 : Int32)), .val (.int (1 : Int32)), .val (.int c1)] [])) P24 (fun t_ k_ => st26 t_ k_)
      have P33 := own_step (C := T26.setTop (mkF m 7 #[.val (.ref a), .val (.int (2 : Int32)), .val (.ref d), .val (.int (2 : Int32)), .val (.int (4 : Int32)), .val (.int (2 : Int32)), .val (.int c1)] [(.int (4 : Int32)), (.int (2 : Int32))])) P32 (by
        intro tt_ kk_
        refine XS.iinc X26.here hx rfl (hb hby d7_32) rfl (l' := #[.val (.ref a), .val (.int (2 : Int32)), .val (.ref d), .val (.int (1 : Int32)), .val (.int (4 : Int32)), .val (.int (1 : Int32)), .val (.int c1)]) rfl ?_
        show Steps p.tables e below (T26.setTop (mkF m 35 #[.val (.ref a), .val (.int (2 : Int32)), .val (.ref d), .val (.int (1 : Int32)), .val (.int (4 : Int32)), .val (.int (1 : Int32)), .val (.int c1)] [])) _
        refine XS.iinc X26.here hx rfl (hb hby d7_35) rfl (l' := #[.val (.ref a), .val (.int (2 : Int32)), .val (.ref d), .val (.int (2 : Int32)), .val (.int (4 : Int32)), .val (.int (1 : Int32)), .val (.int c1)]) rfl ?_
        show Steps p.tables e below (T26.setTop (mkF m 38 #[.val (.ref a), .val (.int (2 : Int32)), .val (.ref d), .val (.int (2 : Int32)), .val (.int (4 : Int32)), .val (.int (1 : Int32)), .val (.int c1)] [])) _
        refine XS.iinc X26.here hx rfl (hb hby d7_38) rfl (l' := #[.val (.ref a), .val (.int (2 : Int32)), .val (.ref d), .val (.int (2 : Int32)), .val (.int (4 : Int32)), .val (.int (2 : Int32)), .val (.int c1)]) rfl ?_
        show Steps p.tables e below (T26.setTop (mkF m 41 #[.val (.ref a), .val (.int (2 : Int32)), .val (.ref d), .val (.int (2 : Int32)), .val (.int (4 : Int32)), .val (.int (2 : Int32)), .val (.int c1)] [])) _
        refine XS.goto X26.here hx rfl (pc0 := 41) (pc' := 3) rfl (hb hby d7_41) (by decide) (by decide) ?_
        refine XS.iload X26.here hx rfl (hb hby d7_3) rfl ?_
        refine XS.iload X26.here hx rfl (hb hby d7_5) rfl ?_
        exact kk_)
      have P34 := own_step (C := T26.setTop (mkF m 12 #[.val (.ref a), .val (.int (2 : Int32)), .val (.ref d), .val (.int (2 : Int32)), .val (.int (4 : Int32)), .val (.int (2 : Int32)), .val (.int c1)] [(.int (2 : Int32)), (.ref a)])) P33 (by
        intro tt_ kk_
        refine XS.icmpNo X26.here hx rfl (hb hby d7_7) rfl (tlt (by decide : (2 : Int32) < (4 : Int32))).2.1 ?_
        refine XS.aloadN X26.here hx rfl (hb hby d7_10) rfl rfl ?_
        refine XS.iloadN X26.here hx rfl (hb hby d7_11) rfl ?_
        exact kk_)
      obtain ⟨cl35, Ar35, q35, S35, M35, H35, G35⟩ := id f28
      have hin35 := inb_of S35 (by decide : ¬ (2 : Int32) < 0 ∧ (2 : Int32) < (4 : Int32))
      have hat35 := Has.at H35 hin35 (v := .int c2) rfl
      have P36 := own_step (C := T26.setTop (mkF m 13 #[.val (.ref a), .val (.int (2 : Int32)), .val (.ref d), .val (.int (2 : Int32)), .val (.int (4 : Int32)), .val (.int (2 : Int32)), .val (.int c1)] [(.int c2)])) P34 (by
        intro tt_ kk_
        refine X26.caload hx (j := (2 : Int32)) (v := (.int c2)) (by rw [e26]; exact Ar35.1) (State.isArrayOf_alike hZ.alike Ar35.2.1) Ar35.2.2 hin35 hat35 (g := (mkF m 12 #[.val (.ref a), .val (.int (2 : Int32)), .val (.ref d), .val (.int (2 : Int32)), .val (.int (4 : Int32)), .val (.int (2 : Int32)), .val (.int c1)] [(.int (2 : Int32)), (.ref a)])) rfl rfl (hb hby d7_12) _ ?_
        exact kk_)
      have P37 := own_step (C := T26.setTop (mkF m 20 #[.val (.ref a), .val (.int (2 : Int32)), .val (.ref d), .val (.int (2 : Int32)), .val (.int (4 : Int32)), .val (.int (2 : Int32)), .val (.int c2)] [(.int (255 : Int32)), (.int c2)])) P36 (by
        intro tt_ kk_
        refine XS.istore X26.here hx rfl (hb hby d7_13) rfl (l' := #[.val (.ref a), .val (.int (2 : Int32)), .val (.ref d), .val (.int (2 : Int32)), .val (.int (4 : Int32)), .val (.int (2 : Int32)), .val (.int c2)]) rfl ?_
        refine XS.iload X26.here hx rfl (hb hby d7_15) rfl ?_
        refine XS.sipush X26.here hx rfl (hb hby d7_17) ?_
        exact kk_)
      by_cases c38 : (255 : Int32) < c2
      · have P39 := own_step (C := T26.setTop (mkF m 25 #[.val (.ref a), .val (.int (2 : Int32)), .val (.ref d), .val (.int (2 : Int32)), .val (.int (4 : Int32)), .val (.int (2 : Int32)), .val (.int c2)] [(.int (2 : Int32))])) P37 (by
          intro tt_ kk_
          refine XS.icmpNo X26.here hx rfl (hb hby d7_20) rfl (tlt c38).2.2.2 ?_
          refine XS.iload X26.here hx rfl (hb hby d7_23) rfl ?_
          exact kk_)
        obtain ⟨fs, hr, hrun, hended, hW, hsame⟩ := X26.leave (v := some (.int (2 : Int32))) (fun h => by rw [Bd.returns] at h; cases h)
        refine ⟨_, _, P39 _ ?_, hrun, hended, _, _, rfl, ?_, ⟨_, rfl⟩, hW, hsame.mono (by decide) (by decide)⟩
        · exact retI X26 hx Bd.returns (hb hby d7_25) hr
        · show Q_comp2U_4 Z _ _ _ _ _ _ _ _ h0 n0 _ T26.heap _
          rw [e26]
          exact ⟨(2 : Int32), rfl, N26, f30, Or.inr (Or.inr (Or.inl ⟨rfl, c38⟩))⟩
      · have P40 := own_step (C := T26.setTop (mkF m 31 #[.val (.ref a), .val (.int (2 : Int32)), .val (.ref d), .val (.int (2 : Int32)), .val (.int (4 : Int32)), .val (.int (2 : Int32)), .val (.int c2)] [(.int (c2.toInt8.toInt32)), (.int (2 : Int32)), (.ref d)])) P37 (by
          intro tt_ kk_
          refine XS.icmpYes X26.here hx rfl (pc0 := 20) (pc' := 26) rfl (hb hby d7_20) rfl (flt c38).2.2.2 (by decide) (by decide) ?_
          refine XS.aloadN X26.here hx rfl (hb hby d7_26) rfl rfl ?_
          refine XS.iloadN X26.here hx rfl (hb hby d7_27) rfl ?_
          refine XS.iload X26.here hx rfl (hb hby d7_28) rfl ?_
          refine XS.i2b X26.here hx rfl (hb hby d7_30) rfl ?_
          exact kk_)
        obtain ⟨cl41, Ar41, q41, S41, M41, H41, G41⟩ := id V26
        obtain ⟨T42, h42, X42, e42, W42, st42⟩ := stB X26 hx hZ e26 Ar41 (j := (2 : Int32)) (inb_of S41 (by decide : ¬ (2 : Int32) < 0 ∧ (2 : Int32) < (4 : Int32))) (g := (mkF m 31 #[.val (.ref a), .val (.int (2 : Int32)), .val (.ref d), .val (.int (2 : Int32)), .val (.int (4 : Int32)), .val (.int (2 : Int32)), .val (.int c2)] [(.int (c2.toInt8.toInt32)), (.int (2 : Int32)), (.ref d)])) rfl rfl (hb hby d7_31)
        have f43 := f27.wr W42 gd
        have f44 := f28.other W42 nad
        have f46 := f30.wr W42 (Or.inl (List.mem_of_getElem? (i := 0) rfl))
        have Z47 : n0 ≤ h42.size := Nat.le_trans Z31 (Keep.of_wr W42).1
        have V42 : Arv Z h42 d kd .byte (4 : Int32) [(.int (c0.toInt8.toInt32).toInt8.toInt32), (.int (c1.toInt8.toInt32).toInt8.toInt32), (.int (c2.toInt8.toInt32).toInt8.toInt32), (.int (0 : Int32))] (.int 0) := Arv.set Ar41 q41 S41 M41 H41 G41 (fits_nar_byte _) W42 2 rfl (Nat.le_of_ble_eq_true rfl)
        have N42 := Fr.snoc X42 N26 gd
        have P48 := own_step (C := T42.setTop (mkF m 32 #[.val (.ref a), .val (.int (2 : Int32)), .val (.ref d), .val (.int (2 : Int32)), .val (.int (4 : Int32)), .val (.int (2 : Int32)), .val (.int c2)] [])) P40 (fun t_ k_ => st42 t_ k_)
        have P49 := own_step (C := T42.setTop (mkF m 7 #[.val (.ref a), .val (.int (3 : Int32)), .val (.ref d), .val (.int (3 : Int32)), .val (.int (4 : Int32)), .val (.int (3 : Int32)), .val (.int c2)] [(.int (4 : Int32)), (.int (3 : Int32))])) P48 (by
          intro tt_ kk_
          refine XS.iinc X42.here hx rfl (hb hby d7_32) rfl (l' := #[.val (.ref a), .val (.int (3 : Int32)), .val (.ref d), .val (.int (2 : Int32)), .val (.int (4 : Int32)), .val (.int (2 : Int32)), .val (.int c2)]) rfl ?_
          show Steps p.tables e below (T42.setTop (mkF m 35 #[.val (.ref a), .val (.int (3 : Int32)), .val (.ref d), .val (.int (2 : Int32)), .val (.int (4 : Int32)), .val (.int (2 : Int32)), .val (.int c2)] [])) _
          refine XS.iinc X42.here hx rfl (hb hby d7_35) rfl (l' := #[.val (.ref a), .val (.int (3 : Int32)), .val (.ref d), .val (.int (3 : Int32)), .val (.int (4 : Int32)), .val (.int (2 : Int32)), .val (.int c2)]) rfl ?_
          show Steps p.tables e below (T42.setTop (mkF m 38 #[.val (.ref a), .val (.int (3 : Int32)), .val (.ref d), .val (.int (3 : Int32)), .val (.int (4 : Int32)), .val (.int (2 : Int32)), .val (.int c2)] [])) _
          refine XS.iinc X42.here hx rfl (hb hby d7_38) rfl (l' := #[.val (.ref a), .val (.int (3 : Int32)), .val (.ref d), .val (.int (3 : Int32)), .val (.int (4 : Int32)), .val (.int (3 : Int32)), .val (.int c2)]) rfl ?_
          show Steps p.tables e below (T42.setTop (mkF m 41 #[.val (.ref a), .val (.int (3 : Int32)), .val (.ref d), .val (.int (3 : Int32)), .val (.int (4 : Int32)), .val (.int (3 : Int32)), .val (.int c2)] [])) _
          refine XS.goto X42.here hx rfl (pc0 := 41) (pc' := 3) rfl (hb hby d7_41) (by decide) (by decide) ?_
          refine XS.iload X42.here hx rfl (hb hby d7_3) rfl ?_
          refine XS.iload X42.here hx rfl (hb hby d7_5) rfl ?_
          exact kk_)
        have P50 := own_step (C := T42.setTop (mkF m 12 #[.val (.ref a), .val (.int (3 : Int32)), .val (.ref d), .val (.int (3 : Int32)), .val (.int (4 : Int32)), .val (.int (3 : Int32)), .val (.int c2)] [(.int (3 : Int32)), (.ref a)])) P49 (by
          intro tt_ kk_
          refine XS.icmpNo X42.here hx rfl (hb hby d7_7) rfl (tlt (by decide : (3 : Int32) < (4 : Int32))).2.1 ?_
          refine XS.aloadN X42.here hx rfl (hb hby d7_10) rfl rfl ?_
          refine XS.iloadN X42.here hx rfl (hb hby d7_11) rfl ?_
          exact kk_)
        obtain ⟨cl51, Ar51, q51, S51, M51, H51, G51⟩ := id f44
        have hin51 := inb_of S51 (by decide : ¬ (3 : Int32) < 0 ∧ (3 : Int32) < (4 : Int32))
        have hat51 := Has.at H51 hin51 (v := .int c3) rfl
        have P52 := own_step (C := T42.setTop (mkF m 13 #[.val (.ref a), .val (.int (3 : Int32)), .val (.ref d), .val (.int (3 : Int32)), .val (.int (4 : Int32)), .val (.int (3 : Int32)), .val (.int c2)] [(.int c3)])) P50 (by
          intro tt_ kk_
          refine X42.caload hx (j := (3 : Int32)) (v := (.int c3)) (by rw [e42]; exact Ar51.1) (State.isArrayOf_alike hZ.alike Ar51.2.1) Ar51.2.2 hin51 hat51 (g := (mkF m 12 #[.val (.ref a), .val (.int (3 : Int32)), .val (.ref d), .val (.int (3 : Int32)), .val (.int (4 : Int32)), .val (.int (3 : Int32)), .val (.int c2)] [(.int (3 : Int32)), (.ref a)])) rfl rfl (hb hby d7_12) _ ?_
          exact kk_)
        have P53 := own_step (C := T42.setTop (mkF m 20 #[.val (.ref a), .val (.int (3 : Int32)), .val (.ref d), .val (.int (3 : Int32)), .val (.int (4 : Int32)), .val (.int (3 : Int32)), .val (.int c3)] [(.int (255 : Int32)), (.int c3)])) P52 (by
          intro tt_ kk_
          refine XS.istore X42.here hx rfl (hb hby d7_13) rfl (l' := #[.val (.ref a), .val (.int (3 : Int32)), .val (.ref d), .val (.int (3 : Int32)), .val (.int (4 : Int32)), .val (.int (3 : Int32)), .val (.int c3)]) rfl ?_
          refine XS.iload X42.here hx rfl (hb hby d7_15) rfl ?_
          refine XS.sipush X42.here hx rfl (hb hby d7_17) ?_
          exact kk_)
        by_cases c54 : (255 : Int32) < c3
        · have P55 := own_step (C := T42.setTop (mkF m 25 #[.val (.ref a), .val (.int (3 : Int32)), .val (.ref d), .val (.int (3 : Int32)), .val (.int (4 : Int32)), .val (.int (3 : Int32)), .val (.int c3)] [(.int (3 : Int32))])) P53 (by
            intro tt_ kk_
            refine XS.icmpNo X42.here hx rfl (hb hby d7_20) rfl (tlt c54).2.2.2 ?_
            refine XS.iload X42.here hx rfl (hb hby d7_23) rfl ?_
            exact kk_)
          obtain ⟨fs, hr, hrun, hended, hW, hsame⟩ := X42.leave (v := some (.int (3 : Int32))) (fun h => by rw [Bd.returns] at h; cases h)
          refine ⟨_, _, P55 _ ?_, hrun, hended, _, _, rfl, ?_, ⟨_, rfl⟩, hW, hsame.mono (by decide) (by decide)⟩
          · exact retI X42 hx Bd.returns (hb hby d7_25) hr
          · show Q_comp2U_4 Z _ _ _ _ _ _ _ _ h0 n0 _ T42.heap _
            rw [e42]
            exact ⟨(3 : Int32), rfl, N42, f46, Or.inr (Or.inr (Or.inr (Or.inl ⟨rfl, c54⟩)))⟩
        · have P56 := own_step (C := T42.setTop (mkF m 31 #[.val (.ref a), .val (.int (3 : Int32)), .val (.ref d), .val (.int (3 : Int32)), .val (.int (4 : Int32)), .val (.int (3 : Int32)), .val (.int c3)] [(.int (c3.toInt8.toInt32)), (.int (3 : Int32)), (.ref d)])) P53 (by
            intro tt_ kk_
            refine XS.icmpYes X42.here hx rfl (pc0 := 20) (pc' := 26) rfl (hb hby d7_20) rfl (flt c54).2.2.2 (by decide) (by decide) ?_
            refine XS.aloadN X42.here hx rfl (hb hby d7_26) rfl rfl ?_
            refine XS.iloadN X42.here hx rfl (hb hby d7_27) rfl ?_
            refine XS.iload X42.here hx rfl (hb hby d7_28) rfl ?_
            refine XS.i2b X42.here hx rfl (hb hby d7_30) rfl ?_
            exact kk_)
          obtain ⟨cl57, Ar57, q57, S57, M57, H57, G57⟩ := id V42
          obtain ⟨T58, h58, X58, e58, W58, st58⟩ := stB X42 hx hZ e42 Ar57 (j := (3 : Int32)) (inb_of S57 (by decide : ¬ (3 : Int32) < 0 ∧ (3 : Int32) < (4 : Int32))) (g := (mkF m 31 #[.val (.ref a), .val (.int (3 : Int32)), .val (.ref d), .val (.int (3 : Int32)), .val (.int (4 : Int32)), .val (.int (3 : Int32)), .val (.int c3)] [(.int (c3.toInt8.toInt32)), (.int (3 : Int32)), (.ref d)])) rfl rfl (hb hby d7_31)
          have f59 := f43.wr W58 gd
          have f60 := f44.other W58 nad
          have f62 := f46.wr W58 (Or.inl (List.mem_of_getElem? (i := 0) rfl))
          have Z63 : n0 ≤ h58.size := Nat.le_trans Z47 (Keep.of_wr W58).1
          have V58 : Arv Z h58 d kd .byte (4 : Int32) [(.int (c0.toInt8.toInt32).toInt8.toInt32), (.int (c1.toInt8.toInt32).toInt8.toInt32), (.int (c2.toInt8.toInt32).toInt8.toInt32), (.int (c3.toInt8.toInt32).toInt8.toInt32)] (.int 0) := Arv.set Ar57 q57 S57 M57 H57 G57 (fits_nar_byte _) W58 3 rfl (Nat.le_of_ble_eq_true rfl)
          have N58 := Fr.snoc X58 N42 gd
          have P64 := own_step (C := T58.setTop (mkF m 32 #[.val (.ref a), .val (.int (3 : Int32)), .val (.ref d), .val (.int (3 : Int32)), .val (.int (4 : Int32)), .val (.int (3 : Int32)), .val (.int c3)] [])) P56 (fun t_ k_ => st58 t_ k_)
          have P65 := own_step (C := T58.setTop (mkF m 7 #[.val (.ref a), .val (.int (4 : Int32)), .val (.ref d), .val (.int (4 : Int32)), .val (.int (4 : Int32)), .val (.int (4 : Int32)), .val (.int c3)] [(.int (4 : Int32)), (.int (4 : Int32))])) P64 (by
            intro tt_ kk_
            refine XS.iinc X58.here hx rfl (hb hby d7_32) rfl (l' := #[.val (.ref a), .val (.int (4 : Int32)), .val (.ref d), .val (.int (3 : Int32)), .val (.int (4 : Int32)), .val (.int (3 : Int32)), .val (.int c3)]) rfl ?_
            show Steps p.tables e below (T58.setTop (mkF m 35 #[.val (.ref a), .val (.int (4 : Int32)), .val (.ref d), .val (.int (3 : Int32)), .val (.int (4 : Int32)), .val (.int (3 : Int32)), .val (.int c3)] [])) _
            refine XS.iinc X58.here hx rfl (hb hby d7_35) rfl (l' := #[.val (.ref a), .val (.int (4 : Int32)), .val (.ref d), .val (.int (4 : Int32)), .val (.int (4 : Int32)), .val (.int (3 : Int32)), .val (.int c3)]) rfl ?_
            show Steps p.tables e below (T58.setTop (mkF m 38 #[.val (.ref a), .val (.int (4 : Int32)), .val (.ref d), .val (.int (4 : Int32)), .val (.int (4 : Int32)), .val (.int (3 : Int32)), .val (.int c3)] [])) _
            refine XS.iinc X58.here hx rfl (hb hby d7_38) rfl (l' := #[.val (.ref a), .val (.int (4 : Int32)), .val (.ref d), .val (.int (4 : Int32)), .val (.int (4 : Int32)), .val (.int (4 : Int32)), .val (.int c3)]) rfl ?_
            show Steps p.tables e below (T58.setTop (mkF m 41 #[.val (.ref a), .val (.int (4 : Int32)), .val (.ref d), .val (.int (4 : Int32)), .val (.int (4 : Int32)), .val (.int (4 : Int32)), .val (.int c3)] [])) _
            refine XS.goto X58.here hx rfl (pc0 := 41) (pc' := 3) rfl (hb hby d7_41) (by decide) (by decide) ?_
            refine XS.iload X58.here hx rfl (hb hby d7_3) rfl ?_
            refine XS.iload X58.here hx rfl (hb hby d7_5) rfl ?_
            exact kk_)
          have P66 := own_step (C := T58.setTop (mkF m 46 #[.val (.ref a), .val (.int (4 : Int32)), .val (.ref d), .val (.int (4 : Int32)), .val (.int (4 : Int32)), .val (.int (4 : Int32)), .val (.int c3)] [(.int (4 : Int32))])) P65 (by
            intro tt_ kk_
            refine XS.icmpYes X58.here hx rfl (pc0 := 7) (pc' := 44) rfl (hb hby d7_7) rfl (flt (by decide : ¬ ((4 : Int32) < (4 : Int32)))).2.1 (by decide) (by decide) ?_
            refine XS.iload X58.here hx rfl (hb hby d7_44) rfl ?_
            exact kk_)
          obtain ⟨fs, hr, hrun, hended, hW, hsame⟩ := X58.leave (v := some (.int (4 : Int32))) (fun h => by rw [Bd.returns] at h; cases h)
          refine ⟨_, _, P66 _ ?_, hrun, hended, _, _, rfl, ?_, ⟨_, rfl⟩, hW, hsame.mono (by decide) (by decide)⟩
          · exact retI X58 hx Bd.returns (hb hby d7_46) hr
          · show Q_comp2U_4 Z _ _ _ _ _ _ _ _ h0 n0 _ T58.heap _
            rw [e58]
            exact ⟨(4 : Int32), rfl, N58, f62, Or.inr (Or.inr (Or.inr (Or.inr (⟨rfl, c6, c22, c38, c54, V58⟩))))⟩
theorem ef__comp_4 (m : MethodId) (x0 : Addr) (x1 : Int32) (x2 : Int32) : entryFrame m #[(.ref x0), (.int x1), (.int x2)] 6 = mkF m 0 #[.val (.ref x0), .val (.int x1), .val (.int x2), .unset, .unset, .unset] [] := by first | (simp [entryFrame, mkF, argsToLocals, Value.category]; done) | rfl
def Q_comp_4 (Z : State) (a : Addr) (ka : ClassId) (c0 : Int32) (c1 : Int32) (c2 : Int32) (c3 : Int32) (h0 : Heap) (n0 : Nat) (v_ : Option Value) (h : Heap) (L_ : List Loc) : Prop := ∃ (x : Addr) (kk : ClassId), v_ = some (.ref x) ∧ Fr n0 L_ ∧ Keep h0 h [] ∧ h0.size ≤ x ∧ Arv Z h x kk .byte (4 : Int32) [(.int (c0.toInt8.toInt32).toInt8.toInt32), (.int (c1.toInt8.toInt32).toInt8.toInt32), (.int (c2.toInt8.toInt32).toInt8.toInt32), (.int (c3.toInt8.toInt32).toInt8.toInt32)] (.int 0)
set_option maxRecDepth 65536 in
set_option maxHeartbeats 40000000 in
theorem rm_comp_4 (l : Launch) (Z : State) (a0 : Array Value) (hw : ∀ d ∈ tables_1, d.before a0 Z = true) (ws : List Jvm.Cond) (a : Addr) (ka : ClassId) (c0 : Int32) (c1 : Int32) (c2 : Int32) (c3 : Int32) (h0 : Heap) (n0 : Nat) (Z0 : n0 ≤ h0.size) (O : Old Z n0 h0) (Va : Arv Z h0 a ka .char (4 : Int32) [(.int c0), (.int c1), (.int c2), (.int c3)] (.int 0)) (hc0 : ¬ ((255 : Int32) < c0)) (hc1 : ¬ ((255 : Int32) < c1)) (hc2 : ¬ ((255 : Int32) < c2)) (hc3 : ¬ ((255 : Int32) < c3)) :
    MetFree l (⟨"java/lang/StringUTF16", "compress", "([CII)[B"⟩ : MethodName) (head1 (Jvm.Cond.code (⟨"java/lang/StringUTF16", "compress", "([CII)[B"⟩ : MethodName) jdk_52_method_16_code 6 (some (.array .byte)) :: ws) ({ frames := 1, cells := 1, slots := 4, locals := 18 } : Room)) (fun a_ U_ => a_ = #[(.ref a), (.int (0 : Int32)), (.int (4 : Int32))] ∧ Z.Warmed39 U_.vm ∧ U_.heap = h0) (fun _ _ _ _ _ => True) (fun _ U_ o_ V_ => ∃ v_ L_, o_ = .returned v_ ∧ Q_comp_4 Z a ka c0 c1 c2 c3 h0 n0 v_ V_.heap L_ ∧ FrameEnd U_ o_ V_ L_ ({ frames := 1, cells := 1, slots := 4, locals := 18 } : Room).cells ({ frames := 1, cells := 1, slots := 4, locals := 18 } : Room).slots) := by
  refine MetFree.of_bodySF (plainFor_of_name pn5) hisR ?_
  intro p e s m args below meth c s₁ Bd hml0 hP hK
  obtain ⟨rfl, hZ, hh⟩ := hP
  have hx := Bd.exec
  have hby := Bd.bytes
  have hml : c.maxLocals = 6 := hml0
  have hown : s.vm.findClass "java/lang/StringUTF16" = some m.cls := findClass_of_methodNamed Bd.named
  have hnm := (name_of_methodNamed Bd.named Bd.method).1
  have X0 : Stand p l e ({ frames := 1, cells := 1, slots := 4, locals := 18 } : Room) s m #[(.ref a), (.int (0 : Int32)), (.int (4 : Int32))] below meth c s₁ [] 0 0 := Stand.of_body Bd
  have e0 : s₁.heap = h0 := by rw [← hh, Bd.state]; rfl
  have N0 := Fr.nil n0
  have pre0 : own_Go p e below (s₁.setTop (entryFrame m #[(.ref a), (.int (0 : Int32)), (.int (4 : Int32))] 6)) (s₁.setTop (mkF m 0 #[.val (.ref a), .val (.int (0 : Int32)), .val (.int (4 : Int32)), .unset, .unset, .unset] [])) := fun t_ k_ => castTop (ef__comp_4 m a (0 : Int32) (4 : Int32)) k_
  have P1 := own_step (C := s₁.setTop (mkF m 1 #[.val (.ref a), .val (.int (0 : Int32)), .val (.int (4 : Int32)), .unset, .unset, .unset] [(.int (4 : Int32))])) pre0 (by
    intro tt_ kk_
    refine XS.iloadN X0.here hx rfl (hb hby d6_0) rfl ?_
    exact kk_)
  obtain ⟨T2, h2, k2, X2, e2, E2, A2, st2⟩ := newP X0 hx hZ (hw _ (List.mem_of_getElem? (i := 15) rfl)) e0 (g := (mkF m 1 #[.val (.ref a), .val (.int (0 : Int32)), .val (.int (4 : Int32)), .unset, .unset, .unset] [(.int (4 : Int32))])) rfl (hb hby d6_1) rfl (by decide) (cap := 4) (by decide) (by decide) (by decide) (by decide)
  obtain ⟨b2, g2⟩ : ∃ z, z = h0.size := ⟨_, rfl⟩
  rw [← g2] at A2 st2
  have ne_a_b2 : a ≠ b2 := Nat.ne_of_lt (Nat.lt_of_lt_of_le Va.lt (Nat.le_of_eq g2.symm))
  have g_b2 : n0 ≤ b2 := Nat.le_trans Z0 (Nat.le_of_eq g2.symm)
  have sz_b2 : h0.size ≤ b2 := Nat.le_trans (Keep.refl h0 []).1 (Nat.le_of_eq g2.symm)
  have f3 := O.ext E2
  have f4 := (Keep.refl h0 []).ext E2
  have f5 := Va.ext E2
  have Z6 : n0 ≤ h2.size := Nat.le_trans Z0 E2.1
  have V2 : Arv Z h2 b2 k2 .byte (4 : Int32) [(.int (0 : Int32)), (.int (0 : Int32)), (.int (0 : Int32)), (.int (0 : Int32))] (.int (0 : Int32)) := (Arv.new A2 (by decide)).pad (pad_rep [] _ 4)
  have P7 := own_step (C := T2.setTop (mkF m 3 #[.val (.ref a), .val (.int (0 : Int32)), .val (.int (4 : Int32)), .unset, .unset, .unset] [(.ref b2)])) P1 (fun t_ k_ => st2 t_ k_)
  have P8 := own_step (C := T2.setTop (mkF m 9 #[.val (.ref a), .val (.int (0 : Int32)), .val (.int (4 : Int32)), .val (.ref b2), .unset, .unset] [(.int (4 : Int32)), (.int (0 : Int32)), (.ref b2), (.int (0 : Int32)), (.ref a)])) P7 (by
    intro tt_ kk_
    refine XS.astoreN X2.here hx rfl (hb hby d6_3) rfl rfl (l' := #[.val (.ref a), .val (.int (0 : Int32)), .val (.int (4 : Int32)), .val (.ref b2), .unset, .unset]) rfl ?_
    refine XS.aloadN X2.here hx rfl (hb hby d6_4) rfl rfl ?_
    refine XS.iloadN X2.here hx rfl (hb hby d6_5) rfl ?_
    refine XS.aloadN X2.here hx rfl (hb hby d6_6) rfl rfl ?_
    refine XS.iconst X2.here hx rfl (hb hby d6_7) ?_
    refine XS.iloadN X2.here hx rfl (hb hby d6_8) rfl ?_
    exact kk_)
  obtain ⟨_, _, ⟨T9, L9, k9, n9⟩, -, X9, ⟨Lc9, hQ9, l9, y9, z9⟩, st9⟩ := Jvm.LawKit.callS X2 hx (y := (⟨"java/lang/StringUTF16", "compress", "([CI[BII)I"⟩ : MethodName)) hown (mvT hZ (hw _ (List.mem_of_getElem? (i := 36) rfl))) (mvT hZ (hw _ (List.mem_of_getElem? (i := 37) rfl))) (mvT hZ (hw _ (List.mem_of_getElem? (i := 34) rfl))) (mvT hZ (hw _ (List.mem_of_getElem? (i := 38) rfl))) (by decide) (backOf (W := 0) (rm_comp2U_4 l Z a0 hw [] a ka b2 k2 c0 c1 c2 c3 h2 n0 Z6 f3 f5 V2 ne_a_b2 g_b2) hZ (hw _ (List.mem_of_getElem? (i := 38) rfl)) (hw _ (List.mem_of_getElem? (i := 34) rfl)) (by decide) (by decide)) (g := (mkF m 9 #[.val (.ref a), .val (.int (0 : Int32)), .val (.int (4 : Int32)), .val (.ref b2), .unset, .unset] [(.int (4 : Int32)), (.int (0 : Int32)), (.ref b2), (.int (0 : Int32)), (.ref a)])) rfl (by rw [hml]; rfl) (argsL := [(.ref a), (.int (0 : Int32)), (.ref b2), (.int (0 : Int32)), (.int (4 : Int32))]) (rest := []) (lenOf pd9 rfl) rfl (by show 2 * 0 + _ ≤ _; exact Nat.le_of_eq rfl) (hb hby d6_9) (fun _ _ => ⟨rfl, e2, (by decide : 1 + 0 ≤ _), (by decide : 4 + 0 ≤ _)⟩)
  dsimp only [Pt.U, Pt.locs, Pt.cells, Pt.slots] at X9 l9 y9 z9 st9 hQ9
  subst l9 y9 z9
  obtain ⟨r9, rfl, N9q, K9, f10⟩ := hQ9
  have N9 := Fr.app N0 N9q
  have f11 := f3.keep K9 (allS g_b2 all0)
  have f12 := f4.trans K9 (allS (Or.inr sz_b2) all0)
  have f13 := f5.keep K9 (ninS ne_a_b2 nin0)
  have Z15 : n0 ≤ T9.heap.size := Nat.le_trans Z6 K9.1
  have P16 := own_step (C := T9.setTop (mkF m 12 #[.val (.ref a), .val (.int (0 : Int32)), .val (.int (4 : Int32)), .val (.ref b2), .unset, .unset] [(.int r9)])) P8 (fun t_ k_ => st9 t_ k_)
  obtain ⟨hrr, Vx⟩ : r9 = (4 : Int32) ∧ Arv Z T9.heap b2 k2 .byte (4 : Int32) [(.int (c0.toInt8.toInt32).toInt8.toInt32), (.int (c1.toInt8.toInt32).toInt8.toInt32), (.int (c2.toInt8.toInt32).toInt8.toInt32), (.int (c3.toInt8.toInt32).toInt8.toInt32)] (.int 0) := by
    rcases f10 with ⟨-, hq⟩ | ⟨-, hq⟩ | ⟨-, hq⟩ | ⟨-, hq⟩ | ⟨hq, -, -, -, -, hv⟩
    · exact absurd hq hc0
    · exact absurd hq hc1
    · exact absurd hq hc2
    · exact absurd hq hc3
    · exact ⟨hq, hv⟩
  subst hrr
  have P17 := own_step (C := T9.setTop (mkF m 17 #[.val (.ref a), .val (.int (0 : Int32)), .val (.int (4 : Int32)), .val (.ref b2), .val (.int (4 : Int32)), .unset] [(.int (4 : Int32)), (.int (4 : Int32))])) P16 (by
    intro tt_ kk_
    refine XS.istore X9.here hx rfl (hb hby d6_12) rfl (l' := #[.val (.ref a), .val (.int (0 : Int32)), .val (.int (4 : Int32)), .val (.ref b2), .val (.int (4 : Int32)), .unset]) rfl ?_
    refine XS.iload X9.here hx rfl (hb hby d6_14) rfl ?_
    refine XS.iloadN X9.here hx rfl (hb hby d6_16) rfl ?_
    exact kk_)
  have P18 := own_step (C := T9.setTop (mkF m 58 #[.val (.ref a), .val (.int (0 : Int32)), .val (.int (4 : Int32)), .val (.ref b2), .val (.int (4 : Int32)), .unset] [(.ref b2)])) P17 (by
    intro tt_ kk_
    refine XS.icmpYes X9.here hx rfl (pc0 := 17) (pc' := 57) rfl (hb hby d6_17) rfl (teq (by decide : (4 : Int32) = (4 : Int32))).1 (by decide) (by decide) ?_
    refine XS.aloadN X9.here hx rfl (hb hby d6_57) rfl rfl ?_
    exact kk_)
  obtain ⟨fs, hr, hrun, hended, hW, hsame⟩ := X9.leave (v := some (.ref b2)) (fun h => by rw [Bd.returns] at h; cases h)
  refine ⟨_, _, P18 _ ?_, hrun, hended, _, _, rfl, ?_, ⟨_, rfl⟩, hW, hsame.mono (by decide) (by decide)⟩
  · jvm_step X9.here [X9.here.top, hx, (hb hby d6_58), X9.method', Bd.returns, Value.isRef, FieldType.isReference]
    first | (intro acts; rw [hr _ acts rfl rfl rfl]) | rw [hr _ _ rfl rfl rfl]
    exact Steps.refl _
  · show Q_comp_4 Z _ _ _ _ _ _ h0 n0 _ T9.heap _
    exact ⟨b2, k2, rfl, N9, f12, sz_b2, Vx⟩
theorem ef__initV_4 (m : MethodId) (x0 : Addr) (x1 : Addr) (x2 : Int32) (x3 : Int32) : entryFrame m #[(.ref x0), (.ref x1), (.int x2), (.int x3), .null] 6 = mkF m 0 #[.val (.ref x0), .val (.ref x1), .val (.int x2), .val (.int x3), .val .null, .unset] [] := by first | (simp [entryFrame, mkF, argsToLocals, Value.category]; done) | rfl
def Q_initV_4 (Z : State) (a : Addr) (ca : Addr) (ka : ClassId) (c0 : Int32) (c1 : Int32) (c2 : Int32) (c3 : Int32) (cs : Int32) (h0 : Heap) (n0 : Nat) (v_ : Option Value) (h : Heap) (L_ : List Loc) : Prop := ∃ (x : Addr) (kk : ClassId), v_ = none ∧ Fr n0 L_ ∧ Keep h0 h [a] ∧ Exa Z h a "java/lang/String" ∧ Fld Z h a "java/lang/String" "coder" "B" (.int (0 : Int32)) ∧ Fld Z h a "java/lang/String" "value" "[B" (.ref x) ∧ Arv Z h x kk .byte (4 : Int32) [(.int (c0.toInt8.toInt32).toInt8.toInt32), (.int (c1.toInt8.toInt32).toInt8.toInt32), (.int (c2.toInt8.toInt32).toInt8.toInt32), (.int (c3.toInt8.toInt32).toInt8.toInt32)] (.int 0) ∧ h0.size ≤ x
set_option maxRecDepth 65536 in
set_option maxHeartbeats 40000000 in
theorem rm_initV_4 (l : Launch) (Z : State) (a0 : Array Value) (hw : ∀ d ∈ tables_1, d.before a0 Z = true) (ws : List Jvm.Cond) (a : Addr) (ca : Addr) (ka : ClassId) (c0 : Int32) (c1 : Int32) (c2 : Int32) (c3 : Int32) (cs : Int32) (h0 : Heap) (n0 : Nat) (Z0 : n0 ≤ h0.size) (O : Old Z n0 h0) (Scs : Sta Z Z.heap "java/lang/String" "COMPACT_STRINGS" "Z" (.int cs)) (hcs : ¬ (cs = (0 : Int32))) (Ea : Exa Z h0 a "java/lang/String") (Fv : Fld Z h0 a "java/lang/String" "value" "[B" .null) (Fc : Fld Z h0 a "java/lang/String" "coder" "B" (.int (0 : Int32))) (ga : n0 ≤ a) (Vs : Arv Z h0 ca ka .char (4 : Int32) [(.int c0), (.int c1), (.int c2), (.int c3)] (.int 0)) (hc0 : ¬ ((255 : Int32) < c0)) (hc1 : ¬ ((255 : Int32) < c1)) (hc2 : ¬ ((255 : Int32) < c2)) (hc3 : ¬ ((255 : Int32) < c3)) :
    MetFree l (⟨"java/lang/String", "<init>", "([CIILjava/lang/Void;)V"⟩ : MethodName) (head1 (Jvm.Cond.code (⟨"java/lang/String", "<init>", "([CIILjava/lang/Void;)V"⟩ : MethodName) jdk_42_method_149_code 6 none :: ws) ({ frames := 2, cells := 1, slots := 4, locals := 35 } : Room)) (fun a_ U_ => a_ = #[(.ref a), (.ref ca), (.int (0 : Int32)), (.int (4 : Int32)), .null] ∧ Z.Warmed39 U_.vm ∧ U_.heap = h0) (fun _ _ _ _ _ => True) (fun _ U_ o_ V_ => ∃ v_ L_, o_ = .returned v_ ∧ Q_initV_4 Z a ca ka c0 c1 c2 c3 cs h0 n0 v_ V_.heap L_ ∧ FrameEnd U_ o_ V_ L_ ({ frames := 2, cells := 1, slots := 4, locals := 35 } : Room).cells ({ frames := 2, cells := 1, slots := 4, locals := 35 } : Room).slots) := by
  refine MetFree.of_bodySF (plainFor_of_name pn1) hisR ?_
  intro p e s m args below meth c s₁ Bd hml0 hP hK
  obtain ⟨rfl, hZ, hh⟩ := hP
  have hx := Bd.exec
  have hby := Bd.bytes
  have hml : c.maxLocals = 6 := hml0
  have hown : s.vm.findClass "java/lang/String" = some m.cls := findClass_of_methodNamed Bd.named
  have hnm := (name_of_methodNamed Bd.named Bd.method).1
  have X0 : Stand p l e ({ frames := 2, cells := 1, slots := 4, locals := 35 } : Room) s m #[(.ref a), (.ref ca), (.int (0 : Int32)), (.int (4 : Int32)), .null] below meth c s₁ [] 0 0 := Stand.of_body Bd
  have e0 : s₁.heap = h0 := by rw [← hh, Bd.state]; rfl
  have N0 := Fr.nil n0
  have pre0 : own_Go p e below (s₁.setTop (entryFrame m #[(.ref a), (.ref ca), (.int (0 : Int32)), (.int (4 : Int32)), .null] 6)) (s₁.setTop (mkF m 0 #[.val (.ref a), .val (.ref ca), .val (.int (0 : Int32)), .val (.int (4 : Int32)), .val .null, .unset] [])) := fun t_ k_ => castTop (ef__initV_4 m a ca (0 : Int32) (4 : Int32)) k_
  obtain ⟨clV, ArV, -⟩ := id Vs
  have ne_ca_a : ca ≠ a := Ne.symm (ne_arr Ea (hw _ (List.mem_of_getElem? (i := 1) rfl)) ArV)
  have P1 := own_step (C := s₁.setTop (mkF m 1 #[.val (.ref a), .val (.ref ca), .val (.int (0 : Int32)), .val (.int (4 : Int32)), .val .null, .unset] [(.ref a)])) pre0 (by
    intro tt_ kk_
    refine XS.aloadN X0.here hx rfl (hb hby d2_0) rfl rfl ?_
    exact kk_)
  obtain ⟨T2, X2, e2, st2⟩ := initO X0 hx hZ hown (hw _ (List.mem_of_getElem? (i := 11) rfl)) (hw _ (List.mem_of_getElem? (i := 12) rfl)) (hw _ (List.mem_of_getElem? (i := 13) rfl)) e0 (g := (mkF m 1 #[.val (.ref a), .val (.ref ca), .val (.int (0 : Int32)), .val (.int (4 : Int32)), .val .null, .unset] [(.ref a)])) rfl (by rw [hml]; rfl) rfl (hb hby d2_1) (by decide) (W := 0) (by show 2 * 0 + _ ≤ _; exact Nat.le_of_eq rfl) (by decide)
  have P3 := own_step (C := T2.setTop (mkF m 4 #[.val (.ref a), .val (.ref ca), .val (.int (0 : Int32)), .val (.int (4 : Int32)), .val .null, .unset] [])) P1 (fun t_ k_ => st2 t_ k_)
  have P4 := own_step (C := T2.setTop (mkF m 5 #[.val (.ref a), .val (.ref ca), .val (.int (0 : Int32)), .val (.int (4 : Int32)), .val .null, .unset] [(.int (4 : Int32))])) P3 (by
    intro tt_ kk_
    refine XS.iloadN X2.here hx rfl (hb hby d2_4) rfl ?_
    exact kk_)
  have P5 := own_step (C := T2.setTop (mkF m 27 #[.val (.ref a), .val (.ref ca), .val (.int (0 : Int32)), .val (.int (4 : Int32)), .val .null, .unset] [])) P4 (by
    intro tt_ kk_
    refine XS.ifYes X2.here hx rfl (pc0 := 5) (pc' := 27) rfl (hb hby d2_5) rfl ((if0 _ _).trans (feq (by decide : ¬ ((4 : Int32) = (0 : Int32)))).2) (by decide) (by decide) ?_
    exact kk_)
  obtain ⟨T6, X6, e6, st6⟩ := getS2 X2 hx hZ hown (host := "") (Or.inl (hw _ (List.mem_of_getElem? (i := 31) rfl))) Via.refl e2 (Scs.ext O.2) (g := (mkF m 27 #[.val (.ref a), .val (.ref ca), .val (.int (0 : Int32)), .val (.int (4 : Int32)), .val .null, .unset] [])) rfl (hb hby d2_27)
  have P7 := own_step (C := T6.setTop (mkF m 30 #[.val (.ref a), .val (.ref ca), .val (.int (0 : Int32)), .val (.int (4 : Int32)), .val .null, .unset] [(.int cs)])) P5 (fun t_ k_ => st6 t_ k_)
  have P8 := own_step (C := T6.setTop (mkF m 36 #[.val (.ref a), .val (.ref ca), .val (.int (0 : Int32)), .val (.int (4 : Int32)), .val .null, .unset] [(.int (4 : Int32)), (.int (0 : Int32)), (.ref ca)])) P7 (by
    intro tt_ kk_
    refine XS.ifNo X6.here hx rfl (hb hby d2_30) rfl ((if0 _ _).trans (feq hcs).1) ?_
    refine XS.aloadN X6.here hx rfl (hb hby d2_33) rfl rfl ?_
    refine XS.iloadN X6.here hx rfl (hb hby d2_34) rfl ?_
    refine XS.iloadN X6.here hx rfl (hb hby d2_35) rfl ?_
    exact kk_)
  obtain ⟨_, _, ⟨T9, L9, k9, n9⟩, -, X9, ⟨Lc9, hQ9, l9, y9, z9⟩, st9⟩ := Jvm.LawKit.callS X6 hx (y := (⟨"java/lang/StringUTF16", "compress", "([CII)[B"⟩ : MethodName)) hown (mvT hZ (hw _ (List.mem_of_getElem? (i := 32) rfl))) (mvT hZ (hw _ (List.mem_of_getElem? (i := 33) rfl))) (mvT hZ (hw _ (List.mem_of_getElem? (i := 34) rfl))) (mvT hZ (hw _ (List.mem_of_getElem? (i := 35) rfl))) (by decide) (backOf (W := 0) (rm_comp_4 l Z a0 hw [] ca ka c0 c1 c2 c3 h0 n0 Z0 O Vs hc0 hc1 hc2 hc3) hZ (hw _ (List.mem_of_getElem? (i := 35) rfl)) (hw _ (List.mem_of_getElem? (i := 34) rfl)) (by decide) (by decide)) (g := (mkF m 36 #[.val (.ref a), .val (.ref ca), .val (.int (0 : Int32)), .val (.int (4 : Int32)), .val .null, .unset] [(.int (4 : Int32)), (.int (0 : Int32)), (.ref ca)])) rfl (by rw [hml]; rfl) (argsL := [(.ref ca), (.int (0 : Int32)), (.int (4 : Int32))]) (rest := []) (lenOf pd10 rfl) rfl (by show 2 * 0 + _ ≤ _; exact Nat.le_of_eq rfl) (hb hby d2_36) (fun _ _ => ⟨rfl, e6, (by decide : 0 + 1 ≤ _), (by decide : 0 + 4 ≤ _)⟩)
  dsimp only [Pt.U, Pt.locs, Pt.cells, Pt.slots] at X9 l9 y9 z9 st9 hQ9
  subst l9 y9 z9
  obtain ⟨x9, kk9, rfl, N9q, K9, f10, f11⟩ := hQ9
  have N9 := Fr.app N0 N9q
  have ne_a_x9 : a ≠ x9 := Nat.ne_of_lt (Nat.lt_of_lt_of_le Ea.lt f10)
  have ne_ca_x9 : ca ≠ x9 := Nat.ne_of_lt (Nat.lt_of_lt_of_le Vs.lt f10)
  have g_x9 : n0 ≤ x9 := Nat.le_trans Z0 f10
  have sz_x9 : h0.size ≤ x9 := Nat.le_trans (Keep.refl h0 [a]).1 f10
  have f12 := O.keep K9 all0
  have f13 := Ea.keep K9
  have f14 := Fc.keep K9 nin0
  have f15 := Fv.keep K9 nin0
  have f16 := (Keep.refl h0 [a]).trans K9 all0
  have f17 := Vs.keep K9 nin0
  have Z18 : n0 ≤ T9.heap.size := Nat.le_trans Z0 K9.1
  have P19 := own_step (C := T9.setTop (mkF m 39 #[.val (.ref a), .val (.ref ca), .val (.int (0 : Int32)), .val (.int (4 : Int32)), .val .null, .unset] [(.ref x9)])) P8 (fun t_ k_ => st9 t_ k_)
  have P20 := own_step (C := T9.setTop (mkF m 45 #[.val (.ref a), .val (.ref ca), .val (.int (0 : Int32)), .val (.int (4 : Int32)), .val .null, .val (.ref x9)] [(.int (4 : Int32)), (.ref x9), (.ref a)])) P19 (by
    intro tt_ kk_
    refine XS.astore X9.here hx rfl (hb hby d2_39) rfl rfl (l' := #[.val (.ref a), .val (.ref ca), .val (.int (0 : Int32)), .val (.int (4 : Int32)), .val .null, .val (.ref x9)]) rfl ?_
    refine XS.aloadN X9.here hx rfl (hb hby d2_41) rfl rfl ?_
    refine XS.aload X9.here hx rfl (hb hby d2_42) rfl rfl ?_
    refine XS.iloadN X9.here hx rfl (hb hby d2_44) rfl ?_
    exact kk_)
  obtain ⟨_, _, ⟨T21, L21, k21, n21⟩, -, X21, ⟨Lc21, hQ21, l21, y21, z21⟩, st21⟩ := Jvm.LawKit.callS X9 hx (y := (⟨"java/lang/StringUTF16", "coderFromArrayLen", "([BI)B"⟩ : MethodName)) hown (mvT hZ (hw _ (List.mem_of_getElem? (i := 39) rfl))) (mvT hZ (hw _ (List.mem_of_getElem? (i := 40) rfl))) (mvT hZ (hw _ (List.mem_of_getElem? (i := 34) rfl))) (mvT hZ (hw _ (List.mem_of_getElem? (i := 41) rfl))) (by decide) (backOf (W := 1) (rm_cfa l Z a0 hw [] x9 kk9 (4 : Int32) _ (4 : Int32) (0 : Int32) T9.heap n0 Z18 f11 (by decide +kernel)) hZ (hw _ (List.mem_of_getElem? (i := 41) rfl)) (hw _ (List.mem_of_getElem? (i := 34) rfl)) (by decide) (by decide)) (g := (mkF m 45 #[.val (.ref a), .val (.ref ca), .val (.int (0 : Int32)), .val (.int (4 : Int32)), .val .null, .val (.ref x9)] [(.int (4 : Int32)), (.ref x9), (.ref a)])) rfl (by rw [hml]; rfl) (argsL := [(.ref x9), (.int (4 : Int32))]) (rest := [(.ref a)]) (lenOf pd11 rfl) rfl (by show 2 * 0 + _ ≤ _; exact Nat.le_of_eq rfl) (hb hby d2_45) (fun _ _ => ⟨rfl, rfl, (by decide : 1 + 0 ≤ _), (by decide : 4 + 0 ≤ _)⟩)
  dsimp only [Pt.U, Pt.locs, Pt.cells, Pt.slots] at X21 l21 y21 z21 st21 hQ21
  subst l21 y21 z21
  obtain ⟨rfl, N21q, e21⟩ := hQ21
  have N21 := Fr.app N9 N21q
  have P22 := own_step (C := T21.setTop (mkF m 48 #[.val (.ref a), .val (.ref ca), .val (.int (0 : Int32)), .val (.int (4 : Int32)), .val .null, .val (.ref x9)] [(.int (0 : Int32)), (.ref a)])) P20 (fun t_ k_ => st21 t_ k_)
  obtain ⟨T23, h23, X23, e23, W23, st23⟩ := putFN X21 hx hZ hown (hw _ (List.mem_of_getElem? (i := 21) rfl)) Via.refl e21 f14 f13 (Or.inr ⟨(hw _ (List.mem_of_getElem? (i := 17) rfl)), rfl, hnm⟩) (hw _ (List.mem_of_getElem? (i := 1) rfl)) (ty := .byte) (v' := (.int (0 : Int32).toInt8.toInt32)) (by decide) rfl (fits_nar_byte _) (g := (mkF m 48 #[.val (.ref a), .val (.ref ca), .val (.int (0 : Int32)), .val (.int (4 : Int32)), .val .null, .val (.ref x9)] [(.int (0 : Int32)), (.ref a)])) rfl rfl (hb hby d2_48)
  have f24 := f12.wr W23 ga
  have f25 := f13.wr W23
  have f26 := f14.same W23
  have f27 := f15.other W23 (Or.inr (slot_ne (Or.inr (hw _ (List.mem_of_getElem? (i := 16) rfl))) (Or.inr (hw _ (List.mem_of_getElem? (i := 17) rfl))) (by decide) (t := (.array .byte)) (t' := .byte) (by decide) (by decide)))
  have f28 := f16.wr W23 (Or.inl (List.mem_of_getElem? (i := 0) rfl))
  have f29 := f17.other W23 ne_ca_a
  have f30 := f11.other W23 (Ne.symm ne_a_x9)
  have Z31 : n0 ≤ h23.size := Nat.le_trans Z18 (Keep.of_wr W23).1
  have N23 := Fr.snoc X23 N21 ga
  have P32 := own_step (C := T23.setTop (mkF m 51 #[.val (.ref a), .val (.ref ca), .val (.int (0 : Int32)), .val (.int (4 : Int32)), .val .null, .val (.ref x9)] [])) P22 (fun t_ k_ => st23 t_ k_)
  have P33 := own_step (C := T23.setTop (mkF m 54 #[.val (.ref a), .val (.ref ca), .val (.int (0 : Int32)), .val (.int (4 : Int32)), .val .null, .val (.ref x9)] [(.ref x9), (.ref a)])) P32 (by
    intro tt_ kk_
    refine XS.aloadN X23.here hx rfl (hb hby d2_51) rfl rfl ?_
    refine XS.aload X23.here hx rfl (hb hby d2_52) rfl rfl ?_
    exact kk_)
  obtain ⟨T34, h34, X34, e34, W34, st34⟩ := putF X23 hx hZ hown (host := "") (Or.inl (hw _ (List.mem_of_getElem? (i := 20) rfl))) Via.refl e23 f27 f25 (Or.inr ⟨(hw _ (List.mem_of_getElem? (i := 16) rfl)), rfl, hnm⟩) (hw _ (List.mem_of_getElem? (i := 1) rfl)) (ty := (.array .byte)) (by decide) rfl rfl (g := (mkF m 54 #[.val (.ref a), .val (.ref ca), .val (.int (0 : Int32)), .val (.int (4 : Int32)), .val .null, .val (.ref x9)] [(.ref x9), (.ref a)])) rfl rfl (hb hby d2_54)
  have f35 := f24.wr W34 ga
  have f36 := f25.wr W34
  have f37 := f26.other W34 (Or.inr (slot_ne (Or.inr (hw _ (List.mem_of_getElem? (i := 17) rfl))) (Or.inr (hw _ (List.mem_of_getElem? (i := 16) rfl))) (by decide) (t := .byte) (t' := (.array .byte)) (by decide) (by decide)))
  have f38 := f27.same W34
  have f39 := f28.wr W34 (Or.inl (List.mem_of_getElem? (i := 0) rfl))
  have f40 := f29.other W34 ne_ca_a
  have f41 := f30.other W34 (Ne.symm ne_a_x9)
  have Z42 : n0 ≤ h34.size := Nat.le_trans Z31 (Keep.of_wr W34).1
  have N34 := Fr.snoc X34 N23 ga
  have P43 := own_step (C := T34.setTop (mkF m 57 #[.val (.ref a), .val (.ref ca), .val (.int (0 : Int32)), .val (.int (4 : Int32)), .val .null, .val (.ref x9)] [])) P33 (fun t_ k_ => st34 t_ k_)
  obtain ⟨fs, hr, hrun, hended, hW, hsame⟩ := X34.leave (v := none) (fun _ => rfl)
  refine ⟨_, _, P43 _ ?_, hrun, hended, _, _, rfl, ?_, ⟨_, rfl⟩, hW, hsame.mono (by decide) (by decide)⟩
  · exact X34.returnOut hx Bd.returns (hb hby d2_57) hr
  · show Q_initV_4 Z _ _ _ _ _ _ _ _ h0 n0 _ T34.heap _
    rw [e34]
    exact ⟨x9, kk9, rfl, N34, f39, f36, f37, f38, f41, sz_x9⟩
theorem ef__nbf4 (m : MethodId) (x0 : Int32) : entryFrame m #[(.int x0)] 1 = mkF m 0 #[.val (.int x0)] [] := by first | (simp [entryFrame, mkF, argsToLocals, Value.category]; done) | rfl
def Q_nbf4 (Z : State)  (h0 : Heap) (n0 : Nat) (v_ : Option Value) (h : Heap) (L_ : List Loc) : Prop := ∃ (x : Addr) (kk : ClassId), v_ = some (.ref x) ∧ Fr n0 L_ ∧ Keep h0 h [] ∧ h0.size ≤ x ∧ Arv Z h x kk .byte (8 : Int32) [(.int (0 : Int32)), (.int (0 : Int32)), (.int (0 : Int32)), (.int (0 : Int32)), (.int (0 : Int32)), (.int (0 : Int32)), (.int (0 : Int32)), (.int (0 : Int32))] (.int 0)
set_option maxRecDepth 65536 in
set_option maxHeartbeats 40000000 in
theorem rm_nbf4 (l : Launch) (Z : State) (a0 : Array Value) (hw : ∀ d ∈ tables_1, d.before a0 Z = true) (ws : List Jvm.Cond)  (h0 : Heap) (n0 : Nat) (Z0 : n0 ≤ h0.size) (O : Old Z n0 h0) :
    MetFree l (⟨"java/lang/StringUTF16", "newBytesFor", "(I)[B"⟩ : MethodName) (head1 (Jvm.Cond.code (⟨"java/lang/StringUTF16", "newBytesFor", "(I)[B"⟩ : MethodName) jdk_52_method_2_code 1 (some (.array .byte)) :: ws) ({ frames := 1, cells := 1, slots := 8, locals := 12 } : Room)) (fun a_ U_ => a_ = #[(.int (4 : Int32))] ∧ Z.Warmed39 U_.vm ∧ U_.heap = h0) (fun _ _ _ _ _ => True) (fun _ U_ o_ V_ => ∃ v_ L_, o_ = .returned v_ ∧ Q_nbf4 Z  h0 n0 v_ V_.heap L_ ∧ FrameEnd U_ o_ V_ L_ ({ frames := 1, cells := 1, slots := 8, locals := 12 } : Room).cells ({ frames := 1, cells := 1, slots := 8, locals := 12 } : Room).slots) := by
  refine MetFree.of_bodySF (plainFor_of_name pn5) hisR ?_
  intro p e s m args below meth c s₁ Bd hml0 hP hK
  obtain ⟨rfl, hZ, hh⟩ := hP
  have hx := Bd.exec
  have hby := Bd.bytes
  have hml : c.maxLocals = 1 := hml0
  have hown : s.vm.findClass "java/lang/StringUTF16" = some m.cls := findClass_of_methodNamed Bd.named
  have hnm := (name_of_methodNamed Bd.named Bd.method).1
  have X0 : Stand p l e ({ frames := 1, cells := 1, slots := 8, locals := 12 } : Room) s m #[(.int (4 : Int32))] below meth c s₁ [] 0 0 := Stand.of_body Bd
  have e0 : s₁.heap = h0 := by rw [← hh, Bd.state]; rfl
  have N0 := Fr.nil n0
  have pre0 : own_Go p e below (s₁.setTop (entryFrame m #[(.int (4 : Int32))] 1)) (s₁.setTop (mkF m 0 #[.val (.int (4 : Int32))] [])) := fun t_ k_ => castTop (ef__nbf4 m (4 : Int32)) k_
  have P1 := own_step (C := s₁.setTop (mkF m 1 #[.val (.int (4 : Int32))] [(.int (4 : Int32))])) pre0 (by
    intro tt_ kk_
    refine XS.iloadN X0.here hx rfl (hb hby d18_0) rfl ?_
    exact kk_)
  obtain ⟨_, _, ⟨T2, L2, k2, n2⟩, -, X2, ⟨Lc2, hQ2, l2, y2, z2⟩, st2⟩ := Jvm.LawKit.callS X0 hx (y := (⟨"java/lang/StringUTF16", "newBytesLength", "(I)I"⟩ : MethodName)) hown (mvT hZ (hw _ (List.mem_of_getElem? (i := 84) rfl))) (mvT hZ (hw _ (List.mem_of_getElem? (i := 85) rfl))) (mvT hZ (hw _ (List.mem_of_getElem? (i := 34) rfl))) (mvT hZ (hw _ (List.mem_of_getElem? (i := 86) rfl))) (by decide) (backOf (W := 0) (rm_nbl l Z a0 hw [] (4 : Int32) (8 : Int32) h0 n0 Z0 (by decide) (by decide) (by decide)) hZ (hw _ (List.mem_of_getElem? (i := 86) rfl)) (hw _ (List.mem_of_getElem? (i := 34) rfl)) (by decide) (by decide)) (g := (mkF m 1 #[.val (.int (4 : Int32))] [(.int (4 : Int32))])) rfl (by rw [hml]; rfl) (argsL := [(.int (4 : Int32))]) (rest := []) (lenOf pd12 rfl) rfl (by show 2 * 0 + _ ≤ _; exact Nat.le_of_eq rfl) (hb hby d18_1) (fun _ _ => ⟨rfl, e0, (by decide : 0 + 0 ≤ _), (by decide : 0 + 0 ≤ _)⟩)
  dsimp only [Pt.U, Pt.locs, Pt.cells, Pt.slots] at X2 l2 y2 z2 st2 hQ2
  subst l2 y2 z2
  obtain ⟨rfl, N2q, e2⟩ := hQ2
  have N2 := Fr.app N0 N2q
  have P3 := own_step (C := T2.setTop (mkF m 4 #[.val (.int (4 : Int32))] [(.int (8 : Int32))])) P1 (fun t_ k_ => st2 t_ k_)
  obtain ⟨T4, h4, k4, X4, e4, E4, A4, st4⟩ := newP X2 hx hZ (hw _ (List.mem_of_getElem? (i := 15) rfl)) e2 (g := (mkF m 4 #[.val (.int (4 : Int32))] [(.int (8 : Int32))])) rfl (hb hby d18_4) rfl (by decide) (cap := 8) (by decide) (by decide) (by decide) (by decide)
  obtain ⟨b4, g4⟩ : ∃ z, z = h0.size := ⟨_, rfl⟩
  rw [← g4] at A4 st4
  have g_b4 : n0 ≤ b4 := Nat.le_trans Z0 (Nat.le_of_eq g4.symm)
  have sz_b4 : h0.size ≤ b4 := Nat.le_trans (Keep.refl h0 []).1 (Nat.le_of_eq g4.symm)
  have f5 := O.ext E4
  have f6 := (Keep.refl h0 []).ext E4
  have Z7 : n0 ≤ h4.size := Nat.le_trans Z0 E4.1
  have V4 : Arv Z h4 b4 k4 .byte (8 : Int32) [(.int (0 : Int32)), (.int (0 : Int32)), (.int (0 : Int32)), (.int (0 : Int32)), (.int (0 : Int32)), (.int (0 : Int32)), (.int (0 : Int32)), (.int (0 : Int32))] (.int (0 : Int32)) := (Arv.new A4 (by decide)).pad (pad_rep [] _ 8)
  have P8 := own_step (C := T4.setTop (mkF m 6 #[.val (.int (4 : Int32))] [(.ref b4)])) P3 (fun t_ k_ => st4 t_ k_)
  obtain ⟨fs, hr, hrun, hended, hW, hsame⟩ := X4.leave (v := some (.ref b4)) (fun h => by rw [Bd.returns] at h; cases h)
  refine ⟨_, _, P8 _ ?_, hrun, hended, _, _, rfl, ?_, ⟨_, rfl⟩, hW, hsame.mono (by decide) (by decide)⟩
  · jvm_step X4.here [X4.here.top, hx, (hb hby d18_6), X4.method', Bd.returns, Value.isRef, FieldType.isReference]
    first | (intro acts; rw [hr _ acts rfl rfl rfl]) | rw [hr _ _ rfl rfl rfl]
    exact Steps.refl _
  · show Q_nbf4 Z  h0 n0 _ T4.heap _
    rw [e4]
    exact ⟨b4, k4, rfl, N2, f6, sz_b4, V4⟩
theorem ef__toBU4 (m : MethodId) (x0 : Addr) (x1 : Int32) (x2 : Int32) : entryFrame m #[(.ref x0), (.int x1), (.int x2)] 5 = mkF m 0 #[.val (.ref x0), .val (.int x1), .val (.int x2), .unset, .unset] [] := by first | (simp [entryFrame, mkF, argsToLocals, Value.category]; done) | rfl
def Q_toBU4 (Z : State) (a : Addr) (ka : ClassId) (c0 : Int32) (c1 : Int32) (c2 : Int32) (c3 : Int32) (h0 : Heap) (n0 : Nat) (v_ : Option Value) (h : Heap) (L_ : List Loc) : Prop := ∃ (x : Addr) (kk : ClassId), v_ = some (.ref x) ∧ Fr n0 L_ ∧ Keep h0 h [] ∧ h0.size ≤ x ∧ Arv Z h x kk .byte (8 : Int32) [(.int (own_b0 c0)), (.int (own_b1 c0)), (.int (own_b0 c1)), (.int (own_b1 c1)), (.int (own_b0 c2)), (.int (own_b1 c2)), (.int (own_b0 c3)), (.int (own_b1 c3))] (.int 0)
set_option maxRecDepth 65536 in
set_option maxHeartbeats 40000000 in
theorem rm_toBU4 (l : Launch) (Z : State) (a0 : Array Value) (hw : ∀ d ∈ tables_1, d.before a0 Z = true) (ws : List Jvm.Cond) (a : Addr) (ka : ClassId) (c0 : Int32) (c1 : Int32) (c2 : Int32) (c3 : Int32) (h0 : Heap) (n0 : Nat) (Z0 : n0 ≤ h0.size) (O : Old Z n0 h0) (Sad : Sta Z Z.heap "java/lang/StringUTF16" "$assertionsDisabled" "Z" (.int (1 : Int32))) (Shi : Sta Z Z.heap "java/lang/StringUTF16" "HI_BYTE_SHIFT" "I" (.int (0 : Int32))) (Slo : Sta Z Z.heap "java/lang/StringUTF16" "LO_BYTE_SHIFT" "I" (.int (8 : Int32))) (Va : Arv Z h0 a ka .char (4 : Int32) [(.int c0), (.int c1), (.int c2), (.int c3)] (.int 0)) :
    MetFree l (⟨"java/lang/StringUTF16", "toBytes", "([CII)[B"⟩ : MethodName) (head1 (Jvm.Cond.code (⟨"java/lang/StringUTF16", "toBytes", "([CII)[B"⟩ : MethodName) jdk_52_method_14_code 5 (some (.array .byte)) :: ws) ({ frames := 2, cells := 1, slots := 8, locals := 24 } : Room)) (fun a_ U_ => a_ = #[(.ref a), (.int (0 : Int32)), (.int (4 : Int32))] ∧ Z.Warmed39 U_.vm ∧ U_.heap = h0) (fun _ _ _ _ _ => True) (fun _ U_ o_ V_ => ∃ v_ L_, o_ = .returned v_ ∧ Q_toBU4 Z a ka c0 c1 c2 c3 h0 n0 v_ V_.heap L_ ∧ FrameEnd U_ o_ V_ L_ ({ frames := 2, cells := 1, slots := 8, locals := 24 } : Room).cells ({ frames := 2, cells := 1, slots := 8, locals := 24 } : Room).slots) := by
  refine MetFree.of_bodySF (plainFor_of_name pn5) hisR ?_
  intro p e s m args below meth c s₁ Bd hml0 hP hK
  obtain ⟨rfl, hZ, hh⟩ := hP
  have hx := Bd.exec
  have hby := Bd.bytes
  have hml : c.maxLocals = 5 := hml0
  have hown : s.vm.findClass "java/lang/StringUTF16" = some m.cls := findClass_of_methodNamed Bd.named
  have hnm := (name_of_methodNamed Bd.named Bd.method).1
  have X0 : Stand p l e ({ frames := 2, cells := 1, slots := 8, locals := 24 } : Room) s m #[(.ref a), (.int (0 : Int32)), (.int (4 : Int32))] below meth c s₁ [] 0 0 := Stand.of_body Bd
  have e0 : s₁.heap = h0 := by rw [← hh, Bd.state]; rfl
  have N0 := Fr.nil n0
  have pre0 : own_Go p e below (s₁.setTop (entryFrame m #[(.ref a), (.int (0 : Int32)), (.int (4 : Int32))] 5)) (s₁.setTop (mkF m 0 #[.val (.ref a), .val (.int (0 : Int32)), .val (.int (4 : Int32)), .unset, .unset] [])) := fun t_ k_ => castTop (ef__toBU4 m a (0 : Int32) (4 : Int32)) k_
  have P1 := own_step (C := s₁.setTop (mkF m 1 #[.val (.ref a), .val (.int (0 : Int32)), .val (.int (4 : Int32)), .unset, .unset] [(.int (4 : Int32))])) pre0 (by
    intro tt_ kk_
    refine XS.iloadN X0.here hx rfl (hb hby d17_0) rfl ?_
    exact kk_)
  obtain ⟨_, _, ⟨T2, L2, k2, n2⟩, -, X2, ⟨Lc2, hQ2, l2, y2, z2⟩, st2⟩ := Jvm.LawKit.callS X0 hx (y := (⟨"java/lang/StringUTF16", "newBytesFor", "(I)[B"⟩ : MethodName)) hown (mvT hZ (hw _ (List.mem_of_getElem? (i := 81) rfl))) (mvT hZ (hw _ (List.mem_of_getElem? (i := 82) rfl))) (mvT hZ (hw _ (List.mem_of_getElem? (i := 34) rfl))) (mvT hZ (hw _ (List.mem_of_getElem? (i := 83) rfl))) (by decide) (backOf (W := 0) (rm_nbf4 l Z a0 hw []  h0 n0 Z0 O) hZ (hw _ (List.mem_of_getElem? (i := 83) rfl)) (hw _ (List.mem_of_getElem? (i := 34) rfl)) (by decide) (by decide)) (g := (mkF m 1 #[.val (.ref a), .val (.int (0 : Int32)), .val (.int (4 : Int32)), .unset, .unset] [(.int (4 : Int32))])) rfl (by rw [hml]; rfl) (argsL := [(.int (4 : Int32))]) (rest := []) (lenOf pd13 rfl) rfl (by show 2 * 0 + _ ≤ _; exact Nat.le_of_eq rfl) (hb hby d17_1) (fun _ _ => ⟨rfl, e0, (by decide : 0 + 1 ≤ _), (by decide : 0 + 8 ≤ _)⟩)
  dsimp only [Pt.U, Pt.locs, Pt.cells, Pt.slots] at X2 l2 y2 z2 st2 hQ2
  subst l2 y2 z2
  obtain ⟨x2, kk2, rfl, N2q, K2, f3, f4⟩ := hQ2
  have N2 := Fr.app N0 N2q
  have ne_a_x2 : a ≠ x2 := Nat.ne_of_lt (Nat.lt_of_lt_of_le Va.lt f3)
  have g_x2 : n0 ≤ x2 := Nat.le_trans Z0 f3
  have sz_x2 : h0.size ≤ x2 := Nat.le_trans (Keep.refl h0 []).1 f3
  have f5 := O.keep K2 all0
  have f6 := (Keep.refl h0 []).trans K2 all0
  have f7 := Va.keep K2 nin0
  have Z8 : n0 ≤ T2.heap.size := Nat.le_trans Z0 K2.1
  have P9 := own_step (C := T2.setTop (mkF m 4 #[.val (.ref a), .val (.int (0 : Int32)), .val (.int (4 : Int32)), .unset, .unset] [(.ref x2)])) P1 (fun t_ k_ => st2 t_ k_)
  have P10 := own_step (C := T2.setTop (mkF m 11 #[.val (.ref a), .val (.int (0 : Int32)), .val (.int (4 : Int32)), .val (.ref x2), .val (.int (0 : Int32))] [(.int (4 : Int32)), (.int (0 : Int32))])) P9 (by
    intro tt_ kk_
    refine XS.astoreN X2.here hx rfl (hb hby d17_4) rfl rfl (l' := #[.val (.ref a), .val (.int (0 : Int32)), .val (.int (4 : Int32)), .val (.ref x2), .unset]) rfl ?_
    refine XS.iconst X2.here hx rfl (hb hby d17_5) ?_
    refine XS.istore X2.here hx rfl (hb hby d17_6) rfl (l' := #[.val (.ref a), .val (.int (0 : Int32)), .val (.int (4 : Int32)), .val (.ref x2), .val (.int (0 : Int32))]) rfl ?_
    refine XS.iload X2.here hx rfl (hb hby d17_8) rfl ?_
    refine XS.iloadN X2.here hx rfl (hb hby d17_10) rfl ?_
    exact kk_)
  have P11 := own_step (C := T2.setTop (mkF m 19 #[.val (.ref a), .val (.int (0 : Int32)), .val (.int (4 : Int32)), .val (.ref x2), .val (.int (0 : Int32))] [(.int (0 : Int32)), (.ref a), (.int (0 : Int32)), (.ref x2)])) P10 (by
    intro tt_ kk_
    refine XS.icmpNo X2.here hx rfl (hb hby d17_11) rfl (tlt (by decide : (0 : Int32) < (4 : Int32))).2.1 ?_
    refine XS.aloadN X2.here hx rfl (hb hby d17_14) rfl rfl ?_
    refine XS.iload X2.here hx rfl (hb hby d17_15) rfl ?_
    refine XS.aloadN X2.here hx rfl (hb hby d17_17) rfl rfl ?_
    refine XS.iloadN X2.here hx rfl (hb hby d17_18) rfl ?_
    exact kk_)
  obtain ⟨cl12, Ar12, q12, S12, M12, H12, G12⟩ := id f7
  have hin12 := inb_of S12 (by decide : ¬ (0 : Int32) < 0 ∧ (0 : Int32) < (4 : Int32))
  have hat12 := Has.at H12 hin12 (v := .int c0) rfl
  have P13 := own_step (C := T2.setTop (mkF m 20 #[.val (.ref a), .val (.int (0 : Int32)), .val (.int (4 : Int32)), .val (.ref x2), .val (.int (0 : Int32))] [(.int c0), (.int (0 : Int32)), (.ref x2)])) P11 (by
    intro tt_ kk_
    refine X2.caload hx (j := (0 : Int32)) (v := (.int c0)) Ar12.1 (State.isArrayOf_alike hZ.alike Ar12.2.1) Ar12.2.2 hin12 hat12 (g := (mkF m 19 #[.val (.ref a), .val (.int (0 : Int32)), .val (.int (4 : Int32)), .val (.ref x2), .val (.int (0 : Int32))] [(.int (0 : Int32)), (.ref a), (.int (0 : Int32)), (.ref x2)])) rfl rfl (hb hby d17_19) _ ?_
    exact kk_)
  obtain ⟨_, _, ⟨T14, L14, k14, n14⟩, -, X14, ⟨Lc14, hQ14, l14, y14, z14⟩, st14⟩ := Jvm.LawKit.callS X2 hx (y := (⟨"java/lang/StringUTF16", "putChar", "([BII)V"⟩ : MethodName)) hown (mvT hZ (hw _ (List.mem_of_getElem? (i := 88) rfl))) (mvT hZ (hw _ (List.mem_of_getElem? (i := 89) rfl))) (mvT hZ (hw _ (List.mem_of_getElem? (i := 34) rfl))) (mvT hZ (hw _ (List.mem_of_getElem? (i := 90) rfl))) (by decide) (backOf (W := 0) (rm_putC l Z a0 hw [] x2 kk2 (8 : Int32) _ (0 : Int32) c0 0 1 T2.heap n0 Z8 f5 Sad Shi Slo f4 g_x2 (by decide) (by decide) (by decide) (by decide) (Nat.le_of_ble_eq_true rfl) (Nat.le_of_ble_eq_true rfl)) hZ (hw _ (List.mem_of_getElem? (i := 90) rfl)) (hw _ (List.mem_of_getElem? (i := 34) rfl)) (by decide) (by decide)) (g := (mkF m 20 #[.val (.ref a), .val (.int (0 : Int32)), .val (.int (4 : Int32)), .val (.ref x2), .val (.int (0 : Int32))] [(.int c0), (.int (0 : Int32)), (.ref x2)])) rfl (by rw [hml]; rfl) (argsL := [(.ref x2), (.int (0 : Int32)), (.int c0)]) (rest := []) (lenOf pd14 rfl) rfl (by show 2 * 0 + _ ≤ _; exact Nat.le_of_eq rfl) (hb hby d17_20) (fun _ _ => ⟨rfl, rfl, (by decide : 1 + 0 ≤ _), (by decide : 8 + 0 ≤ _)⟩)
  dsimp only [Pt.U, Pt.locs, Pt.cells, Pt.slots] at X14 l14 y14 z14 st14 hQ14
  subst l14 y14 z14
  obtain ⟨rfl, N14q, K14, f15⟩ := hQ14
  have N14 := Fr.app N2 N14q
  have f16 := f5.keep K14 (allS g_x2 all0)
  have f17 := f6.trans K14 (allS (Or.inr sz_x2) all0)
  have f18 := f7.keep K14 (ninS ne_a_x2 nin0)
  have Z20 : n0 ≤ T14.heap.size := Nat.le_trans Z8 K14.1
  have P21 := own_step (C := T14.setTop (mkF m 23 #[.val (.ref a), .val (.int (0 : Int32)), .val (.int (4 : Int32)), .val (.ref x2), .val (.int (0 : Int32))] [])) P13 (fun t_ k_ => st14 t_ k_)
  have f22 : Arv Z T14.heap x2 kk2 .byte (8 : Int32) [(.int (own_b0 c0)), (.int (own_b1 c0)), (.int (0 : Int32)), (.int (0 : Int32)), (.int (0 : Int32)), (.int (0 : Int32)), (.int (0 : Int32)), (.int (0 : Int32))] (.int 0) := f15
  have P23 := own_step (C := T14.setTop (mkF m 11 #[.val (.ref a), .val (.int (1 : Int32)), .val (.int (4 : Int32)), .val (.ref x2), .val (.int (1 : Int32))] [(.int (4 : Int32)), (.int (1 : Int32))])) P21 (by
    intro tt_ kk_
    refine XS.iinc X14.here hx rfl (hb hby d17_23) rfl (l' := #[.val (.ref a), .val (.int (1 : Int32)), .val (.int (4 : Int32)), .val (.ref x2), .val (.int (0 : Int32))]) rfl ?_
    show Steps p.tables e below (T14.setTop (mkF m 26 #[.val (.ref a), .val (.int (1 : Int32)), .val (.int (4 : Int32)), .val (.ref x2), .val (.int (0 : Int32))] [])) _
    refine XS.iinc X14.here hx rfl (hb hby d17_26) rfl (l' := #[.val (.ref a), .val (.int (1 : Int32)), .val (.int (4 : Int32)), .val (.ref x2), .val (.int (1 : Int32))]) rfl ?_
    show Steps p.tables e below (T14.setTop (mkF m 29 #[.val (.ref a), .val (.int (1 : Int32)), .val (.int (4 : Int32)), .val (.ref x2), .val (.int (1 : Int32))] [])) _
    refine XS.goto X14.here hx rfl (pc0 := 29) (pc' := 8) rfl (hb hby d17_29) (by decide) (by decide) ?_
    refine XS.iload X14.here hx rfl (hb hby d17_8) rfl ?_
    refine XS.iloadN X14.here hx rfl (hb hby d17_10) rfl ?_
    exact kk_)
  have P24 := own_step (C := T14.setTop (mkF m 19 #[.val (.ref a), .val (.int (1 : Int32)), .val (.int (4 : Int32)), .val (.ref x2), .val (.int (1 : Int32))] [(.int (1 : Int32)), (.ref a), (.int (1 : Int32)), (.ref x2)])) P23 (by
    intro tt_ kk_
    refine XS.icmpNo X14.here hx rfl (hb hby d17_11) rfl (tlt (by decide : (1 : Int32) < (4 : Int32))).2.1 ?_
    refine XS.aloadN X14.here hx rfl (hb hby d17_14) rfl rfl ?_
    refine XS.iload X14.here hx rfl (hb hby d17_15) rfl ?_
    refine XS.aloadN X14.here hx rfl (hb hby d17_17) rfl rfl ?_
    refine XS.iloadN X14.here hx rfl (hb hby d17_18) rfl ?_
    exact kk_)
  obtain ⟨cl25, Ar25, q25, S25, M25, H25, G25⟩ := id f18
  have hin25 := inb_of S25 (by decide : ¬ (1 : Int32) < 0 ∧ (1 : Int32) < (4 : Int32))
  have hat25 := Has.at H25 hin25 (v := .int c1) rfl
  have P26 := own_step (C := T14.setTop (mkF m 20 #[.val (.ref a), .val (.int (1 : Int32)), .val (.int (4 : Int32)), .val (.ref x2), .val (.int (1 : Int32))] [(.int c1), (.int (1 : Int32)), (.ref x2)])) P24 (by
    intro tt_ kk_
    refine X14.caload hx (j := (1 : Int32)) (v := (.int c1)) Ar25.1 (State.isArrayOf_alike hZ.alike Ar25.2.1) Ar25.2.2 hin25 hat25 (g := (mkF m 19 #[.val (.ref a), .val (.int (1 : Int32)), .val (.int (4 : Int32)), .val (.ref x2), .val (.int (1 : Int32))] [(.int (1 : Int32)), (.ref a), (.int (1 : Int32)), (.ref x2)])) rfl rfl (hb hby d17_19) _ ?_
    exact kk_)
  obtain ⟨_, _, ⟨T27, L27, k27, n27⟩, -, X27, ⟨Lc27, hQ27, l27, y27, z27⟩, st27⟩ := Jvm.LawKit.callS X14 hx (y := (⟨"java/lang/StringUTF16", "putChar", "([BII)V"⟩ : MethodName)) hown (mvT hZ (hw _ (List.mem_of_getElem? (i := 88) rfl))) (mvT hZ (hw _ (List.mem_of_getElem? (i := 89) rfl))) (mvT hZ (hw _ (List.mem_of_getElem? (i := 34) rfl))) (mvT hZ (hw _ (List.mem_of_getElem? (i := 90) rfl))) (by decide) (backOf (W := 0) (rm_putC l Z a0 hw [] x2 kk2 (8 : Int32) _ (1 : Int32) c1 2 3 T14.heap n0 Z20 f16 Sad Shi Slo f22 g_x2 (by decide) (by decide) (by decide) (by decide) (Nat.le_of_ble_eq_true rfl) (Nat.le_of_ble_eq_true rfl)) hZ (hw _ (List.mem_of_getElem? (i := 90) rfl)) (hw _ (List.mem_of_getElem? (i := 34) rfl)) (by decide) (by decide)) (g := (mkF m 20 #[.val (.ref a), .val (.int (1 : Int32)), .val (.int (4 : Int32)), .val (.ref x2), .val (.int (1 : Int32))] [(.int c1), (.int (1 : Int32)), (.ref x2)])) rfl (by rw [hml]; rfl) (argsL := [(.ref x2), (.int (1 : Int32)), (.int c1)]) (rest := []) (lenOf pd14 rfl) rfl (by show 2 * 0 + _ ≤ _; exact Nat.le_of_eq rfl) (hb hby d17_20) (fun _ _ => ⟨rfl, rfl, (by decide : 1 + 0 ≤ _), (by decide : 8 + 0 ≤ _)⟩)
  dsimp only [Pt.U, Pt.locs, Pt.cells, Pt.slots] at X27 l27 y27 z27 st27 hQ27
  subst l27 y27 z27
  obtain ⟨rfl, N27q, K27, f28⟩ := hQ27
  have N27 := Fr.app N14 N27q
  have f29 := f16.keep K27 (allS g_x2 all0)
  have f30 := f17.trans K27 (allS (Or.inr sz_x2) all0)
  have f31 := f18.keep K27 (ninS ne_a_x2 nin0)
  have Z33 : n0 ≤ T27.heap.size := Nat.le_trans Z20 K27.1
  have P34 := own_step (C := T27.setTop (mkF m 23 #[.val (.ref a), .val (.int (1 : Int32)), .val (.int (4 : Int32)), .val (.ref x2), .val (.int (1 : Int32))] [])) P26 (fun t_ k_ => st27 t_ k_)
  have f35 : Arv Z T27.heap x2 kk2 .byte (8 : Int32) [(.int (own_b0 c0)), (.int (own_b1 c0)), (.int (own_b0 c1)), (.int (own_b1 c1)), (.int (0 : Int32)), (.int (0 : Int32)), (.int (0 : Int32)), (.int (0 : Int32))] (.int 0) := f28
  have P36 := own_step (C := T27.setTop (mkF m 11 #[.val (.ref a), .val (.int (2 : Int32)), .val (.int (4 : Int32)), .val (.ref x2), .val (.int (2 : Int32))] [(.int (4 : Int32)), (.int (2 : Int32))])) P34 (by
    intro tt_ kk_
    refine XS.iinc X27.here hx rfl (hb hby d17_23) rfl (l' := #[.val (.ref a), .val (.int (2 : Int32)), .val (.int (4 : Int32)), .val (.ref x2), .val (.int (1 : Int32))]) rfl ?_
    show Steps p.tables e below (T27.setTop (mkF m 26 #[.val (.ref a), .val (.int (2 : Int32)), .val (.int (4 : Int32)), .val (.ref x2), .val (.int (1 : Int32))] [])) _
    refine XS.iinc X27.here hx rfl (hb hby d17_26) rfl (l' := #[.val (.ref a), .val (.int (2 : Int32)), .val (.int (4 : Int32)), .val (.ref x2), .val (.int (2 : Int32))]) rfl ?_
    show Steps p.tables e below (T27.setTop (mkF m 29 #[.val (.ref a), .val (.int (2 : Int32)), .val (.int (4 : Int32)), .val (.ref x2), .val (.int (2 : Int32))] [])) _
    refine XS.goto X27.here hx rfl (pc0 := 29) (pc' := 8) rfl (hb hby d17_29) (by decide) (by decide) ?_
    refine XS.iload X27.here hx rfl (hb hby d17_8) rfl ?_
    refine XS.iloadN X27.here hx rfl (hb hby d17_10) rfl ?_
    exact kk_)
  have P37 := own_step (C := T27.setTop (mkF m 19 #[.val (.ref a), .val (.int (2 : Int32)), .val (.int (4 : Int32)), .val (.ref x2), .val (.int (2 : Int32))] [(.int (2 : Int32)), (.ref a), (.int (2 : Int32)), (.ref x2)])) P36 (by
    intro tt_ kk_
    refine XS.icmpNo X27.here hx rfl (hb hby d17_11) rfl (tlt (by decide : (2 : Int32) < (4 : Int32))).2.1 ?_
    refine XS.aloadN X27.here hx rfl (hb hby d17_14) rfl rfl ?_
    refine XS.iload X27.here hx rfl (hb hby d17_15) rfl ?_
    refine XS.aloadN X27.here hx rfl (hb hby d17_17) rfl rfl ?_
    refine XS.iloadN X27.here hx rfl (hb hby d17_18) rfl ?_
    exact kk_)
  obtain ⟨cl38, Ar38, q38, S38, M38, H38, G38⟩ := id f31
  have hin38 := inb_of S38 (by decide : ¬ (2 : Int32) < 0 ∧ (2 : Int32) < (4 : Int32))
  have hat38 := Has.at H38 hin38 (v := .int c2) rfl
  have P39 := own_step (C := T27.setTop (mkF m 20 #[.val (.ref a), .val (.int (2 : Int32)), .val (.int (4 : Int32)), .val (.ref x2), .val (.int (2 : Int32))] [(.int c2), (.int (2 : Int32)), (.ref x2)])) P37 (by
    intro tt_ kk_
    refine X27.caload hx (j := (2 : Int32)) (v := (.int c2)) Ar38.1 (State.isArrayOf_alike hZ.alike Ar38.2.1) Ar38.2.2 hin38 hat38 (g := (mkF m 19 #[.val (.ref a), .val (.int (2 : Int32)), .val (.int (4 : Int32)), .val (.ref x2), .val (.int (2 : Int32))] [(.int (2 : Int32)), (.ref a), (.int (2 : Int32)), (.ref x2)])) rfl rfl (hb hby d17_19) _ ?_
    exact kk_)
  obtain ⟨_, _, ⟨T40, L40, k40, n40⟩, -, X40, ⟨Lc40, hQ40, l40, y40, z40⟩, st40⟩ := Jvm.LawKit.callS X27 hx (y := (⟨"java/lang/StringUTF16", "putChar", "([BII)V"⟩ : MethodName)) hown (mvT hZ (hw _ (List.mem_of_getElem? (i := 88) rfl))) (mvT hZ (hw _ (List.mem_of_getElem? (i := 89) rfl))) (mvT hZ (hw _ (List.mem_of_getElem? (i := 34) rfl))) (mvT hZ (hw _ (List.mem_of_getElem? (i := 90) rfl))) (by decide) (backOf (W := 0) (rm_putC l Z a0 hw [] x2 kk2 (8 : Int32) _ (2 : Int32) c2 4 5 T27.heap n0 Z33 f29 Sad Shi Slo f35 g_x2 (by decide) (by decide) (by decide) (by decide) (Nat.le_of_ble_eq_true rfl) (Nat.le_of_ble_eq_true rfl)) hZ (hw _ (List.mem_of_getElem? (i := 90) rfl)) (hw _ (List.mem_of_getElem? (i := 34) rfl)) (by decide) (by decide)) (g := (mkF m 20 #[.val (.ref a), .val (.int (2 : Int32)), .val (.int (4 : Int32)), .val (.ref x2), .val (.int (2 : Int32))] [(.int c2), (.int (2 : Int32)), (.ref x2)])) rfl (by rw [hml]; rfl) (argsL := [(.ref x2), (.int (2 : Int32)), (.int c2)]) (rest := []) (lenOf pd14 rfl) rfl (by show 2 * 0 + _ ≤ _; exact Nat.le_of_eq rfl) (hb hby d17_20) (fun _ _ => ⟨rfl, rfl, (by decide : 1 + 0 ≤ _), (by decide : 8 + 0 ≤ _)⟩)
  dsimp only [Pt.U, Pt.locs, Pt.cells, Pt.slots] at X40 l40 y40 z40 st40 hQ40
  subst l40 y40 z40
  obtain ⟨rfl, N40q, K40, f41⟩ := hQ40
  have N40 := Fr.app N27 N40q
  have f42 := f29.keep K40 (allS g_x2 all0)
  have f43 := f30.trans K40 (allS (Or.inr sz_x2) all0)
  have f44 := f31.keep K40 (ninS ne_a_x2 nin0)
  have Z46 : n0 ≤ T40.heap.size := Nat.le_trans Z33 K40.1
  have P47 := own_step (C := T40.setTop (mkF m 23 #[.val (.ref a), .val (.int (2 : Int32)), .val (.int (4 : Int32)), .val (.ref x2), .val (.int (2 : Int32))] [])) P39 (fun t_ k_ => st40 t_ k_)
  have f48 : Arv Z T40.heap x2 kk2 .byte (8 : Int32) [(.int (own_b0 c0)), (.int (own_b1 c0)), (.int (own_b0 c1)), (.int (own_b1 c1)), (.int (own_b0 c2)), (.int (own_b1 c2)), (.int (0 : Int32)), (.int (0 : Int32))] (.int 0) := f41
  have P49 := own_step (C := T40.setTop (mkF m 11 #[.val (.ref a), .val (.int (3 : Int32)), .val (.int (4 : Int32)), .val (.ref x2), .val (.int (3 : Int32))] [(.int (4 : Int32)), (.int (3 : Int32))])) P47 (by
    intro tt_ kk_
    refine XS.iinc X40.here hx rfl (hb hby d17_23) rfl (l' := #[.val (.ref a), .val (.int (3 : Int32)), .val (.int (4 : Int32)), .val (.ref x2), .val (.int (2 : Int32))]) rfl ?_
    show Steps p.tables e below (T40.setTop (mkF m 26 #[.val (.ref a), .val (.int (3 : Int32)), .val (.int (4 : Int32)), .val (.ref x2), .val (.int (2 : Int32))] [])) _
    refine XS.iinc X40.here hx rfl (hb hby d17_26) rfl (l' := #[.val (.ref a), .val (.int (3 : Int32)), .val (.int (4 : Int32)), .val (.ref x2), .val (.int (3 : Int32))]) rfl ?_
    show Steps p.tables e below (T40.setTop (mkF m 29 #[.val (.ref a), .val (.int (3 : Int32)), .val (.int (4 : Int32)), .val (.ref x2), .val (.int (3 : Int32))] [])) _
    refine XS.goto X40.here hx rfl (pc0 := 29) (pc' := 8) rfl (hb hby d17_29) (by decide) (by decide) ?_
    refine XS.iload X40.here hx rfl (hb hby d17_8) rfl ?_
    refine XS.iloadN X40.here hx rfl (hb hby d17_10) rfl ?_
    exact kk_)
  have P50 := own_step (C := T40.setTop (mkF m 19 #[.val (.ref a), .val (.int (3 : Int32)), .val (.int (4 : Int32)), .val (.ref x2), .val (.int (3 : Int32))] [(.int (3 : Int32)), (.ref a), (.int (3 : Int32)), (.ref x2)])) P49 (by
    intro tt_ kk_
    refine XS.icmpNo X40.here hx rfl (hb hby d17_11) rfl (tlt (by decide : (3 : Int32) < (4 : Int32))).2.1 ?_
    refine XS.aloadN X40.here hx rfl (hb hby d17_14) rfl rfl ?_
    refine XS.iload X40.here hx rfl (hb hby d17_15) rfl ?_
    refine XS.aloadN X40.here hx rfl (hb hby d17_17) rfl rfl ?_
    refine XS.iloadN X40.here hx rfl (hb hby d17_18) rfl ?_
    exact kk_)
  obtain ⟨cl51, Ar51, q51, S51, M51, H51, G51⟩ := id f44
  have hin51 := inb_of S51 (by decide : ¬ (3 : Int32) < 0 ∧ (3 : Int32) < (4 : Int32))
  have hat51 := Has.at H51 hin51 (v := .int c3) rfl
  have P52 := own_step (C := T40.setTop (mkF m 20 #[.val (.ref a), .val (.int (3 : Int32)), .val (.int (4 : Int32)), .val (.ref x2), .val (.int (3 : Int32))] [(.int c3), (.int (3 : Int32)), (.ref x2)])) P50 (by
    intro tt_ kk_
    refine X40.caload hx (j := (3 : Int32)) (v := (.int c3)) Ar51.1 (State.isArrayOf_alike hZ.alike Ar51.2.1) Ar51.2.2 hin51 hat51 (g := (mkF m 19 #[.val (.ref a), .val (.int (3 : Int32)), .val (.int (4 : Int32)), .val (.ref x2), .val (.int (3 : Int32))] [(.int (3 : Int32)), (.ref a), (.int (3 : Int32)), (.ref x2)])) rfl rfl (hb hby d17_19) _ ?_
    exact kk_)
  obtain ⟨_, _, ⟨T53, L53, k53, n53⟩, -, X53, ⟨Lc53, hQ53, l53, y53, z53⟩, st53⟩ := Jvm.LawKit.callS X40 hx (y := (⟨"java/lang/StringUTF16", "putChar", "([BII)V"⟩ : MethodName)) hown (mvT hZ (hw _ (List.mem_of_getElem? (i := 88) rfl))) (mvT hZ (hw _ (List.mem_of_getElem? (i := 89) rfl))) (mvT hZ (hw _ (List.mem_of_getElem? (i := 34) rfl))) (mvT hZ (hw _ (List.mem_of_getElem? (i := 90) rfl))) (by decide) (backOf (W := 0) (rm_putC l Z a0 hw [] x2 kk2 (8 : Int32) _ (3 : Int32) c3 6 7 T40.heap n0 Z46 f42 Sad Shi Slo f48 g_x2 (by decide) (by decide) (by decide) (by decide) (Nat.le_of_ble_eq_true rfl) (Nat.le_of_ble_eq_true rfl)) hZ (hw _ (List.mem_of_getElem? (i := 90) rfl)) (hw _ (List.mem_of_getElem? (i := 34) rfl)) (by decide) (by decide)) (g := (mkF m 20 #[.val (.ref a), .val (.int (3 : Int32)), .val (.int (4 : Int32)), .val (.ref x2), .val (.int (3 : Int32))] [(.int c3), (.int (3 : Int32)), (.ref x2)])) rfl (by rw [hml]; rfl) (argsL := [(.ref x2), (.int (3 : Int32)), (.int c3)]) (rest := []) (lenOf pd14 rfl) rfl (by show 2 * 0 + _ ≤ _; exact Nat.le_of_eq rfl) (hb hby d17_20) (fun _ _ => ⟨rfl, rfl, (by decide : 1 + 0 ≤ _), (by decide : 8 + 0 ≤ _)⟩)
  dsimp only [Pt.U, Pt.locs, Pt.cells, Pt.slots] at X53 l53 y53 z53 st53 hQ53
  subst l53 y53 z53
  obtain ⟨rfl, N53q, K53, f54⟩ := hQ53
  have N53 := Fr.app N40 N53q
  have f55 := f42.keep K53 (allS g_x2 all0)
  have f56 := f43.trans K53 (allS (Or.inr sz_x2) all0)
  have f57 := f44.keep K53 (ninS ne_a_x2 nin0)
  have Z59 : n0 ≤ T53.heap.size := Nat.le_trans Z46 K53.1
  have P60 := own_step (C := T53.setTop (mkF m 23 #[.val (.ref a), .val (.int (3 : Int32)), .val (.int (4 : Int32)), .val (.ref x2), .val (.int (3 : Int32))] [])) P52 (fun t_ k_ => st53 t_ k_)
  have f61 : Arv Z T53.heap x2 kk2 .byte (8 : Int32) [(.int (own_b0 c0)), (.int (own_b1 c0)), (.int (own_b0 c1)), (.int (own_b1 c1)), (.int (own_b0 c2)), (.int (own_b1 c2)), (.int (own_b0 c3)), (.int (own_b1 c3))] (.int 0) := f54
  have P62 := own_step (C := T53.setTop (mkF m 11 #[.val (.ref a), .val (.int (4 : Int32)), .val (.int (4 : Int32)), .val (.ref x2), .val (.int (4 : Int32))] [(.int (4 : Int32)), (.int (4 : Int32))])) P60 (by
    intro tt_ kk_
    refine XS.iinc X53.here hx rfl (hb hby d17_23) rfl (l' := #[.val (.ref a), .val (.int (4 : Int32)), .val (.int (4 : Int32)), .val (.ref x2), .val (.int (3 : Int32))]) rfl ?_
    show Steps p.tables e below (T53.setTop (mkF m 26 #[.val (.ref a), .val (.int (4 : Int32)), .val (.int (4 : Int32)), .val (.ref x2), .val (.int (3 : Int32))] [])) _
    refine XS.iinc X53.here hx rfl (hb hby d17_26) rfl (l' := #[.val (.ref a), .val (.int (4 : Int32)), .val (.int (4 : Int32)), .val (.ref x2), .val (.int (4 : Int32))]) rfl ?_
    show Steps p.tables e below (T53.setTop (mkF m 29 #[.val (.ref a), .val (.int (4 : Int32)), .val (.int (4 : Int32)), .val (.ref x2), .val (.int (4 : Int32))] [])) _
    refine XS.goto X53.here hx rfl (pc0 := 29) (pc' := 8) rfl (hb hby d17_29) (by decide) (by decide) ?_
    refine XS.iload X53.here hx rfl (hb hby d17_8) rfl ?_
    refine XS.iloadN X53.here hx rfl (hb hby d17_10) rfl ?_
    exact kk_)
  have P63 := own_step (C := T53.setTop (mkF m 33 #[.val (.ref a), .val (.int (4 : Int32)), .val (.int (4 : Int32)), .val (.ref x2), .val (.int (4 : Int32))] [(.ref x2)])) P62 (by
    intro tt_ kk_
    refine XS.icmpYes X53.here hx rfl (pc0 := 11) (pc' := 32) rfl (hb hby d17_11) rfl (flt (by decide : ¬ ((4 : Int32) < (4 : Int32)))).2.1 (by decide) (by decide) ?_
    refine XS.aloadN X53.here hx rfl (hb hby d17_32) rfl rfl ?_
    exact kk_)
  obtain ⟨fs, hr, hrun, hended, hW, hsame⟩ := X53.leave (v := some (.ref x2)) (fun h => by rw [Bd.returns] at h; cases h)
  refine ⟨_, _, P63 _ ?_, hrun, hended, _, _, rfl, ?_, ⟨_, rfl⟩, hW, hsame.mono (by decide) (by decide)⟩
  · jvm_step X53.here [X53.here.top, hx, (hb hby d17_33), X53.method', Bd.returns, Value.isRef, FieldType.isReference]
    first | (intro acts; rw [hr _ acts rfl rfl rfl]) | rw [hr _ _ rfl rfl rfl]
    exact Steps.refl _
  · show Q_toBU4 Z _ _ _ _ _ _ h0 n0 _ T53.heap _
    exact ⟨x2, kk2, rfl, N53, f56, sz_x2, f61⟩
theorem ef__compU_4 (m : MethodId) (x0 : Addr) (x1 : Int32) (x2 : Int32) : entryFrame m #[(.ref x0), (.int x1), (.int x2)] 6 = mkF m 0 #[.val (.ref x0), .val (.int x1), .val (.int x2), .unset, .unset, .unset] [] := by first | (simp [entryFrame, mkF, argsToLocals, Value.category]; done) | rfl
def Q_compU_4 (Z : State) (a : Addr) (ka : ClassId) (c0 : Int32) (c1 : Int32) (c2 : Int32) (c3 : Int32) (h0 : Heap) (n0 : Nat) (v_ : Option Value) (h : Heap) (L_ : List Loc) : Prop := ∃ (x : Addr) (kk : ClassId), v_ = some (.ref x) ∧ Fr n0 L_ ∧ Keep h0 h [] ∧ h0.size ≤ x ∧ Arv Z h x kk .byte (8 : Int32) [(.int (own_b0 c0)), (.int (own_b1 c0)), (.int (own_b0 c1)), (.int (own_b1 c1)), (.int (own_b0 c2)), (.int (own_b1 c2)), (.int (own_b0 c3)), (.int (own_b1 c3))] (.int 0)
set_option maxRecDepth 65536 in
set_option maxHeartbeats 40000000 in
theorem rm_compU_4 (l : Launch) (Z : State) (a0 : Array Value) (hw : ∀ d ∈ tables_1, d.before a0 Z = true) (ws : List Jvm.Cond) (a : Addr) (ka : ClassId) (c0 : Int32) (c1 : Int32) (c2 : Int32) (c3 : Int32) (h0 : Heap) (n0 : Nat) (Z0 : n0 ≤ h0.size) (O : Old Z n0 h0) (Sad : Sta Z Z.heap "java/lang/StringUTF16" "$assertionsDisabled" "Z" (.int (1 : Int32))) (Shi : Sta Z Z.heap "java/lang/StringUTF16" "HI_BYTE_SHIFT" "I" (.int (0 : Int32))) (Slo : Sta Z Z.heap "java/lang/StringUTF16" "LO_BYTE_SHIFT" "I" (.int (8 : Int32))) (Va : Arv Z h0 a ka .char (4 : Int32) [(.int c0), (.int c1), (.int c2), (.int c3)] (.int 0)) (hU : (255 : Int32) < c0 ∨ (255 : Int32) < c1 ∨ (255 : Int32) < c2 ∨ (255 : Int32) < c3) (gc0 : own_C c0) (gc1 : own_C c1) (gc2 : own_C c2) (gc3 : own_C c3) :
    MetFree l (⟨"java/lang/StringUTF16", "compress", "([CII)[B"⟩ : MethodName) (head1 (Jvm.Cond.code (⟨"java/lang/StringUTF16", "compress", "([CII)[B"⟩ : MethodName) jdk_52_method_16_code 6 (some (.array .byte)) :: ws) ({ frames := 3, cells := 2, slots := 12, locals := 40 } : Room)) (fun a_ U_ => a_ = #[(.ref a), (.int (0 : Int32)), (.int (4 : Int32))] ∧ Z.Warmed39 U_.vm ∧ U_.heap = h0) (fun _ _ _ _ _ => True) (fun _ U_ o_ V_ => ∃ v_ L_, o_ = .returned v_ ∧ Q_compU_4 Z a ka c0 c1 c2 c3 h0 n0 v_ V_.heap L_ ∧ FrameEnd U_ o_ V_ L_ ({ frames := 3, cells := 2, slots := 12, locals := 40 } : Room).cells ({ frames := 3, cells := 2, slots := 12, locals := 40 } : Room).slots) := by
  refine MetFree.of_bodySF (plainFor_of_name pn5) hisR ?_
  intro p e s m args below meth c s₁ Bd hml0 hP hK
  obtain ⟨rfl, hZ, hh⟩ := hP
  have hx := Bd.exec
  have hby := Bd.bytes
  have hml : c.maxLocals = 6 := hml0
  have hown : s.vm.findClass "java/lang/StringUTF16" = some m.cls := findClass_of_methodNamed Bd.named
  have hnm := (name_of_methodNamed Bd.named Bd.method).1
  have X0 : Stand p l e ({ frames := 3, cells := 2, slots := 12, locals := 40 } : Room) s m #[(.ref a), (.int (0 : Int32)), (.int (4 : Int32))] below meth c s₁ [] 0 0 := Stand.of_body Bd
  have e0 : s₁.heap = h0 := by rw [← hh, Bd.state]; rfl
  have N0 := Fr.nil n0
  have pre0 : own_Go p e below (s₁.setTop (entryFrame m #[(.ref a), (.int (0 : Int32)), (.int (4 : Int32))] 6)) (s₁.setTop (mkF m 0 #[.val (.ref a), .val (.int (0 : Int32)), .val (.int (4 : Int32)), .unset, .unset, .unset] [])) := fun t_ k_ => castTop (ef__compU_4 m a (0 : Int32) (4 : Int32)) k_
  have P1 := own_step (C := s₁.setTop (mkF m 1 #[.val (.ref a), .val (.int (0 : Int32)), .val (.int (4 : Int32)), .unset, .unset, .unset] [(.int (4 : Int32))])) pre0 (by
    intro tt_ kk_
    refine XS.iloadN X0.here hx rfl (hb hby d6_0) rfl ?_
    exact kk_)
  obtain ⟨T2, h2, k2, X2, e2, E2, A2, st2⟩ := newP X0 hx hZ (hw _ (List.mem_of_getElem? (i := 15) rfl)) e0 (g := (mkF m 1 #[.val (.ref a), .val (.int (0 : Int32)), .val (.int (4 : Int32)), .unset, .unset, .unset] [(.int (4 : Int32))])) rfl (hb hby d6_1) rfl (by decide) (cap := 4) (by decide) (by decide) (by decide) (by decide)
  obtain ⟨b2, g2⟩ : ∃ z, z = h0.size := ⟨_, rfl⟩
  rw [← g2] at A2 st2
  have ne_a_b2 : a ≠ b2 := Nat.ne_of_lt (Nat.lt_of_lt_of_le Va.lt (Nat.le_of_eq g2.symm))
  have g_b2 : n0 ≤ b2 := Nat.le_trans Z0 (Nat.le_of_eq g2.symm)
  have sz_b2 : h0.size ≤ b2 := Nat.le_trans (Keep.refl h0 []).1 (Nat.le_of_eq g2.symm)
  have f3 := O.ext E2
  have f4 := (Keep.refl h0 []).ext E2
  have f5 := Va.ext E2
  have Z6 : n0 ≤ h2.size := Nat.le_trans Z0 E2.1
  have V2 : Arv Z h2 b2 k2 .byte (4 : Int32) [(.int (0 : Int32)), (.int (0 : Int32)), (.int (0 : Int32)), (.int (0 : Int32))] (.int (0 : Int32)) := (Arv.new A2 (by decide)).pad (pad_rep [] _ 4)
  have P7 := own_step (C := T2.setTop (mkF m 3 #[.val (.ref a), .val (.int (0 : Int32)), .val (.int (4 : Int32)), .unset, .unset, .unset] [(.ref b2)])) P1 (fun t_ k_ => st2 t_ k_)
  have P8 := own_step (C := T2.setTop (mkF m 9 #[.val (.ref a), .val (.int (0 : Int32)), .val (.int (4 : Int32)), .val (.ref b2), .unset, .unset] [(.int (4 : Int32)), (.int (0 : Int32)), (.ref b2), (.int (0 : Int32)), (.ref a)])) P7 (by
    intro tt_ kk_
    refine XS.astoreN X2.here hx rfl (hb hby d6_3) rfl rfl (l' := #[.val (.ref a), .val (.int (0 : Int32)), .val (.int (4 : Int32)), .val (.ref b2), .unset, .unset]) rfl ?_
    refine XS.aloadN X2.here hx rfl (hb hby d6_4) rfl rfl ?_
    refine XS.iloadN X2.here hx rfl (hb hby d6_5) rfl ?_
    refine XS.aloadN X2.here hx rfl (hb hby d6_6) rfl rfl ?_
    refine XS.iconst X2.here hx rfl (hb hby d6_7) ?_
    refine XS.iloadN X2.here hx rfl (hb hby d6_8) rfl ?_
    exact kk_)
  obtain ⟨_, _, ⟨T9, L9, k9, n9⟩, -, X9, ⟨Lc9, hQ9, l9, y9, z9⟩, st9⟩ := Jvm.LawKit.callS X2 hx (y := (⟨"java/lang/StringUTF16", "compress", "([CI[BII)I"⟩ : MethodName)) hown (mvT hZ (hw _ (List.mem_of_getElem? (i := 36) rfl))) (mvT hZ (hw _ (List.mem_of_getElem? (i := 37) rfl))) (mvT hZ (hw _ (List.mem_of_getElem? (i := 34) rfl))) (mvT hZ (hw _ (List.mem_of_getElem? (i := 38) rfl))) (by decide) (backOf (W := 0) (rm_comp2U_4 l Z a0 hw [] a ka b2 k2 c0 c1 c2 c3 h2 n0 Z6 f3 f5 V2 ne_a_b2 g_b2) hZ (hw _ (List.mem_of_getElem? (i := 38) rfl)) (hw _ (List.mem_of_getElem? (i := 34) rfl)) (by decide) (by decide)) (g := (mkF m 9 #[.val (.ref a), .val (.int (0 : Int32)), .val (.int (4 : Int32)), .val (.ref b2), .unset, .unset] [(.int (4 : Int32)), (.int (0 : Int32)), (.ref b2), (.int (0 : Int32)), (.ref a)])) rfl (by rw [hml]; rfl) (argsL := [(.ref a), (.int (0 : Int32)), (.ref b2), (.int (0 : Int32)), (.int (4 : Int32))]) (rest := []) (lenOf pd9 rfl) rfl (by show 2 * 0 + _ ≤ _; exact Nat.le_of_eq rfl) (hb hby d6_9) (fun _ _ => ⟨rfl, e2, (by decide : 1 + 0 ≤ _), (by decide : 4 + 0 ≤ _)⟩)
  dsimp only [Pt.U, Pt.locs, Pt.cells, Pt.slots] at X9 l9 y9 z9 st9 hQ9
  subst l9 y9 z9
  obtain ⟨r9, rfl, N9q, K9, f10⟩ := hQ9
  have N9 := Fr.app N0 N9q
  have f11 := f3.keep K9 (allS g_b2 all0)
  have f12 := f4.trans K9 (allS (Or.inr sz_b2) all0)
  have f13 := f5.keep K9 (ninS ne_a_b2 nin0)
  have Z15 : n0 ≤ T9.heap.size := Nat.le_trans Z6 K9.1
  have P16 := own_step (C := T9.setTop (mkF m 12 #[.val (.ref a), .val (.int (0 : Int32)), .val (.int (4 : Int32)), .val (.ref b2), .unset, .unset] [(.int r9)])) P8 (fun t_ k_ => st9 t_ k_)
  have f17 : (r9 = (0 : Int32) ∧ (255 : Int32) < c0) ∨ (r9 = (1 : Int32) ∧ (255 : Int32) < c1) ∨ (r9 = (2 : Int32) ∧ (255 : Int32) < c2) ∨ (r9 = (3 : Int32) ∧ (255 : Int32) < c3) := by
    rcases f10 with hq | hq | hq | hq | ⟨-, hq⟩
    · exact Or.inl hq
    · exact Or.inr (Or.inl hq)
    · exact Or.inr (Or.inr (Or.inl hq))
    · exact Or.inr (Or.inr (Or.inr (hq)))
    · exfalso; rcases hU with hz | hz | hz | hz
      · exact hq.1 hz
      · exact hq.2.1 hz
      · exact hq.2.2.1 hz
      · exact hq.2.2.2.1 hz
  have P18 := own_step (C := T9.setTop (mkF m 17 #[.val (.ref a), .val (.int (0 : Int32)), .val (.int (4 : Int32)), .val (.ref b2), .val (.int r9), .unset] [(.int (4 : Int32)), (.int r9)])) P16 (by
    intro tt_ kk_
    refine XS.istore X9.here hx rfl (hb hby d6_12) rfl (l' := #[.val (.ref a), .val (.int (0 : Int32)), .val (.int (4 : Int32)), .val (.ref b2), .val (.int r9), .unset]) rfl ?_
    refine XS.iload X9.here hx rfl (hb hby d6_14) rfl ?_
    refine XS.iloadN X9.here hx rfl (hb hby d6_16) rfl ?_
    exact kk_)
  have hrn : ¬ (r9 = (4 : Int32)) := by rcases f17 with h | h | h | h <;> (rw [h.1]; decide)
  have P19 := own_step (C := T9.setTop (mkF m 23 #[.val (.ref a), .val (.int (0 : Int32)), .val (.int (4 : Int32)), .val (.ref b2), .val (.int r9), .unset] [(.int (4 : Int32)), (.int (0 : Int32)), (.ref a)])) P18 (by
    intro tt_ kk_
    refine XS.icmpNo X9.here hx rfl (hb hby d6_17) rfl (feq hrn).1 ?_
    refine XS.aloadN X9.here hx rfl (hb hby d6_20) rfl rfl ?_
    refine XS.iloadN X9.here hx rfl (hb hby d6_21) rfl ?_
    refine XS.iloadN X9.here hx rfl (hb hby d6_22) rfl ?_
    exact kk_)
  obtain ⟨_, _, ⟨T20, L20, k20, n20⟩, -, X20, ⟨Lc20, hQ20, l20, y20, z20⟩, st20⟩ := Jvm.LawKit.callS X9 hx (y := (⟨"java/lang/StringUTF16", "toBytes", "([CII)[B"⟩ : MethodName)) hown (mvT hZ (hw _ (List.mem_of_getElem? (i := 78) rfl))) (mvT hZ (hw _ (List.mem_of_getElem? (i := 79) rfl))) (mvT hZ (hw _ (List.mem_of_getElem? (i := 34) rfl))) (mvT hZ (hw _ (List.mem_of_getElem? (i := 80) rfl))) (by decide) (backOf (W := 0) (rm_toBU4 l Z a0 hw [] a ka c0 c1 c2 c3 T9.heap n0 Z15 f11 Sad Shi Slo f13) hZ (hw _ (List.mem_of_getElem? (i := 80) rfl)) (hw _ (List.mem_of_getElem? (i := 34) rfl)) (by decide) (by decide)) (g := (mkF m 23 #[.val (.ref a), .val (.int (0 : Int32)), .val (.int (4 : Int32)), .val (.ref b2), .val (.int r9), .unset] [(.int (4 : Int32)), (.int (0 : Int32)), (.ref a)])) rfl (by rw [hml]; rfl) (argsL := [(.ref a), (.int (0 : Int32)), (.int (4 : Int32))]) (rest := []) (lenOf pd10 rfl) rfl (by show 2 * 0 + _ ≤ _; exact Nat.le_of_eq rfl) (hb hby d6_23) (fun _ _ => ⟨rfl, rfl, (by decide : 1 + 1 ≤ _), (by decide : 4 + 8 ≤ _)⟩)
  dsimp only [Pt.U, Pt.locs, Pt.cells, Pt.slots] at X20 l20 y20 z20 st20 hQ20
  subst l20 y20 z20
  obtain ⟨x20, kk20, rfl, N20q, K20, f21, f22⟩ := hQ20
  have N20 := Fr.app N9 N20q
  have ne_a_x20 : a ≠ x20 := Nat.ne_of_lt (Nat.lt_of_lt_of_le f13.lt f21)
  have g_x20 : n0 ≤ x20 := Nat.le_trans Z15 f21
  have sz_x20 : h0.size ≤ x20 := Nat.le_trans f12.1 f21
  have f23 := f11.keep K20 all0
  have f24 := f12.trans K20 all0
  have f25 := f13.keep K20 nin0
  have Z26 : n0 ≤ T20.heap.size := Nat.le_trans Z15 K20.1
  have P27 := own_step (C := T20.setTop (mkF m 26 #[.val (.ref a), .val (.int (0 : Int32)), .val (.int (4 : Int32)), .val (.ref b2), .val (.int r9), .unset] [(.ref x20)])) P19 (fun t_ k_ => st20 t_ k_)
  have P28 := own_step (C := T20.setTop (mkF m 32 #[.val (.ref a), .val (.int (0 : Int32)), .val (.int (4 : Int32)), .val (.ref b2), .val (.int r9), .val (.ref x20)] [(.int r9), (.ref x20)])) P27 (by
    intro tt_ kk_
    refine XS.astore X20.here hx rfl (hb hby d6_26) rfl rfl (l' := #[.val (.ref a), .val (.int (0 : Int32)), .val (.int (4 : Int32)), .val (.ref b2), .val (.int r9), .val (.ref x20)]) rfl ?_
    refine XS.aload X20.here hx rfl (hb hby d6_28) rfl rfl ?_
    refine XS.iload X20.here hx rfl (hb hby d6_30) rfl ?_
    exact kk_)
  rcases f17 with ⟨hrr, hbig⟩ | ⟨hrr, hbig⟩ | ⟨hrr, hbig⟩ | ⟨hrr, hbig⟩
  · subst hrr
    obtain ⟨_, _, ⟨T29, L29, k29, n29⟩, -, X29, ⟨Lc29, hQ29, l29, y29, z29⟩, st29⟩ := Jvm.LawKit.callS X20 hx (y := (⟨"java/lang/StringUTF16", "getChar", "([BI)C"⟩ : MethodName)) hown (mvT hZ (hw _ (List.mem_of_getElem? (i := 94) rfl))) (mvT hZ (hw _ (List.mem_of_getElem? (i := 95) rfl))) (mvT hZ (hw _ (List.mem_of_getElem? (i := 34) rfl))) (mvT hZ (hw _ (List.mem_of_getElem? (i := 96) rfl))) (by decide) (backOf (W := 0) (rm_getC l Z a0 hw [] x20 kk20 (8 : Int32) _ (0 : Int32) (own_b0 c0) (own_b1 c0) T20.heap n0 Z26 f23 Sad Shi Slo f22 (by decide) (by decide) rfl rfl) hZ (hw _ (List.mem_of_getElem? (i := 96) rfl)) (hw _ (List.mem_of_getElem? (i := 34) rfl)) (by decide) (by decide)) (g := (mkF m 32 #[.val (.ref a), .val (.int (0 : Int32)), .val (.int (4 : Int32)), .val (.ref b2), .val (.int (0 : Int32)), .val (.ref x20)] [(.int (0 : Int32)), (.ref x20)])) rfl (by rw [hml]; rfl) (argsL := [(.ref x20), (.int (0 : Int32))]) (rest := []) (lenOf pd6 rfl) rfl (by show 2 * 0 + _ ≤ _; exact Nat.le_of_eq rfl) (hb hby d6_32) (fun _ _ => ⟨rfl, rfl, (by decide : 2 + 0 ≤ _), (by decide : 12 + 0 ≤ _)⟩)
    dsimp only [Pt.U, Pt.locs, Pt.cells, Pt.slots] at X29 l29 y29 z29 st29 hQ29
    subst l29 y29 z29
    obtain ⟨rfl, N29q, e29⟩ := hQ29
    have N29 := Fr.app N20 N29q
    have P30 := own_step (C := T29.setTop (mkF m 35 #[.val (.ref a), .val (.int (0 : Int32)), .val (.int (4 : Int32)), .val (.ref b2), .val (.int (0 : Int32)), .val (.ref x20)] [(.int (own_gc (own_b0 c0) (own_b1 c0)))])) P28 (fun t_ k_ => st29 t_ k_)
    have P31 := own_step (C := T29.setTop (mkF m 38 #[.val (.ref a), .val (.int (0 : Int32)), .val (.int (4 : Int32)), .val (.ref b2), .val (.int (0 : Int32)), .val (.ref x20)] [(.int (255 : Int32)), (.int (own_gc (own_b0 c0) (own_b1 c0)))])) P30 (by
      intro tt_ kk_
      refine XS.sipush X29.here hx rfl (hb hby d6_35) ?_
      exact kk_)
    have P32 := own_step (C := T29.setTop (mkF m 56 #[.val (.ref a), .val (.int (0 : Int32)), .val (.int (4 : Int32)), .val (.ref b2), .val (.int (0 : Int32)), .val (.ref x20)] [(.ref x20)])) P31 (by
      intro tt_ kk_
      refine XS.icmpYes X29.here hx rfl (pc0 := 38) (pc' := 54) rfl (hb hby d6_38) rfl (tlt (own_big gc0 hbig)).2.2.1 (by decide) (by decide) ?_
      refine XS.aload X29.here hx rfl (hb hby d6_54) rfl rfl ?_
      exact kk_)
    obtain ⟨fs, hr, hrun, hended, hW, hsame⟩ := X29.leave (v := some (.ref x20)) (fun h => by rw [Bd.returns] at h; cases h)
    refine ⟨_, _, P32 _ ?_, hrun, hended, _, _, rfl, ?_, ⟨_, rfl⟩, hW, hsame.mono (by decide) (by decide)⟩
    · jvm_step X29.here [X29.here.top, hx, (hb hby d6_56), X29.method', Bd.returns, Value.isRef, FieldType.isReference]
      first | (intro acts; rw [hr _ acts rfl rfl rfl]) | rw [hr _ _ rfl rfl rfl]
      exact Steps.refl _
    · show Q_compU_4 Z _ _ _ _ _ _ h0 n0 _ T29.heap _
      rw [e29]
      exact ⟨x20, kk20, rfl, N29, f24, sz_x20, f22⟩
  · subst hrr
    obtain ⟨_, _, ⟨T33, L33, k33, n33⟩, -, X33, ⟨Lc33, hQ33, l33, y33, z33⟩, st33⟩ := Jvm.LawKit.callS X20 hx (y := (⟨"java/lang/StringUTF16", "getChar", "([BI)C"⟩ : MethodName)) hown (mvT hZ (hw _ (List.mem_of_getElem? (i := 94) rfl))) (mvT hZ (hw _ (List.mem_of_getElem? (i := 95) rfl))) (mvT hZ (hw _ (List.mem_of_getElem? (i := 34) rfl))) (mvT hZ (hw _ (List.mem_of_getElem? (i := 96) rfl))) (by decide) (backOf (W := 0) (rm_getC l Z a0 hw [] x20 kk20 (8 : Int32) _ (1 : Int32) (own_b0 c1) (own_b1 c1) T20.heap n0 Z26 f23 Sad Shi Slo f22 (by decide) (by decide) rfl rfl) hZ (hw _ (List.mem_of_getElem? (i := 96) rfl)) (hw _ (List.mem_of_getElem? (i := 34) rfl)) (by decide) (by decide)) (g := (mkF m 32 #[.val (.ref a), .val (.int (0 : Int32)), .val (.int (4 : Int32)), .val (.ref b2), .val (.int (1 : Int32)), .val (.ref x20)] [(.int (1 : Int32)), (.ref x20)])) rfl (by rw [hml]; rfl) (argsL := [(.ref x20), (.int (1 : Int32))]) (rest := []) (lenOf pd6 rfl) rfl (by show 2 * 0 + _ ≤ _; exact Nat.le_of_eq rfl) (hb hby d6_32) (fun _ _ => ⟨rfl, rfl, (by decide : 2 + 0 ≤ _), (by decide : 12 + 0 ≤ _)⟩)
    dsimp only [Pt.U, Pt.locs, Pt.cells, Pt.slots] at X33 l33 y33 z33 st33 hQ33
    subst l33 y33 z33
    obtain ⟨rfl, N33q, e33⟩ := hQ33
    have N33 := Fr.app N20 N33q
    have P34 := own_step (C := T33.setTop (mkF m 35 #[.val (.ref a), .val (.int (0 : Int32)), .val (.int (4 : Int32)), .val (.ref b2), .val (.int (1 : Int32)), .val (.ref x20)] [(.int (own_gc (own_b0 c1) (own_b1 c1)))])) P28 (fun t_ k_ => st33 t_ k_)
    have P35 := own_step (C := T33.setTop (mkF m 38 #[.val (.ref a), .val (.int (0 : Int32)), .val (.int (4 : Int32)), .val (.ref b2), .val (.int (1 : Int32)), .val (.ref x20)] [(.int (255 : Int32)), (.int (own_gc (own_b0 c1) (own_b1 c1)))])) P34 (by
      intro tt_ kk_
      refine XS.sipush X33.here hx rfl (hb hby d6_35) ?_
      exact kk_)
    have P36 := own_step (C := T33.setTop (mkF m 56 #[.val (.ref a), .val (.int (0 : Int32)), .val (.int (4 : Int32)), .val (.ref b2), .val (.int (1 : Int32)), .val (.ref x20)] [(.ref x20)])) P35 (by
      intro tt_ kk_
      refine XS.icmpYes X33.here hx rfl (pc0 := 38) (pc' := 54) rfl (hb hby d6_38) rfl (tlt (own_big gc1 hbig)).2.2.1 (by decide) (by decide) ?_
      refine XS.aload X33.here hx rfl (hb hby d6_54) rfl rfl ?_
      exact kk_)
    obtain ⟨fs, hr, hrun, hended, hW, hsame⟩ := X33.leave (v := some (.ref x20)) (fun h => by rw [Bd.returns] at h; cases h)
    refine ⟨_, _, P36 _ ?_, hrun, hended, _, _, rfl, ?_, ⟨_, rfl⟩, hW, hsame.mono (by decide) (by decide)⟩
    · jvm_step X33.here [X33.here.top, hx, (hb hby d6_56), X33.method', Bd.returns, Value.isRef, FieldType.isReference]
      first | (intro acts; rw [hr _ acts rfl rfl rfl]) | rw [hr _ _ rfl rfl rfl]
      exact Steps.refl _
    · show Q_compU_4 Z _ _ _ _ _ _ h0 n0 _ T33.heap _
      rw [e33]
      exact ⟨x20, kk20, rfl, N33, f24, sz_x20, f22⟩
  · subst hrr
    obtain ⟨_, _, ⟨T37, L37, k37, n37⟩, -, X37, ⟨Lc37, hQ37, l37, y37, z37⟩, st37⟩ := Jvm.LawKit.callS X20 hx (y := (⟨"java/lang/StringUTF16", "getChar", "([BI)C"⟩ : MethodName)) hown (mvT hZ (hw _ (List.mem_of_getElem? (i := 94) rfl))) (mvT hZ (hw _ (List.mem_of_getElem? (i := 95) rfl))) (mvT hZ (hw _ (List.mem_of_getElem? (i := 34) rfl))) (mvT hZ (hw _ (List.mem_of_getElem? (i := 96) rfl))) (by decide) (backOf (W := 0) (rm_getC l Z a0 hw [] x20 kk20 (8 : Int32) _ (2 : Int32) (own_b0 c2) (own_b1 c2) T20.heap n0 Z26 f23 Sad Shi Slo f22 (by decide) (by decide) rfl rfl) hZ (hw _ (List.mem_of_getElem? (i := 96) rfl)) (hw _ (List.mem_of_getElem? (i := 34) rfl)) (by decide) (by decide)) (g := (mkF m 32 #[.val (.ref a), .val (.int (0 : Int32)), .val (.int (4 : Int32)), .val (.ref b2), .val (.int (2 : Int32)), .val (.ref x20)] [(.int (2 : Int32)), (.ref x20)])) rfl (by rw [hml]; rfl) (argsL := [(.ref x20), (.int (2 : Int32))]) (rest := []) (lenOf pd6 rfl) rfl (by show 2 * 0 + _ ≤ _; exact Nat.le_of_eq rfl) (hb hby d6_32) (fun _ _ => ⟨rfl, rfl, (by decide : 2 + 0 ≤ _), (by decide : 12 + 0 ≤ _)⟩)
    dsimp only [Pt.U, Pt.locs, Pt.cells, Pt.slots] at X37 l37 y37 z37 st37 hQ37
    subst l37 y37 z37
    obtain ⟨rfl, N37q, e37⟩ := hQ37
    have N37 := Fr.app N20 N37q
    have P38 := own_step (C := T37.setTop (mkF m 35 #[.val (.ref a), .val (.int (0 : Int32)), .val (.int (4 : Int32)), .val (.ref b2), .val (.int (2 : Int32)), .val (.ref x20)] [(.int (own_gc (own_b0 c2) (own_b1 c2)))])) P28 (fun t_ k_ => st37 t_ k_)
    have P39 := own_step (C := T37.setTop (mkF m 38 #[.val (.ref a), .val (.int (0 : Int32)), .val (.int (4 : Int32)), .val (.ref b2), .val (.int (2 : Int32)), .val (.ref x20)] [(.int (255 : Int32)), (.int (own_gc (own_b0 c2) (own_b1 c2)))])) P38 (by
      intro tt_ kk_
      refine XS.sipush X37.here hx rfl (hb hby d6_35) ?_
      exact kk_)
    have P40 := own_step (C := T37.setTop (mkF m 56 #[.val (.ref a), .val (.int (0 : Int32)), .val (.int (4 : Int32)), .val (.ref b2), .val (.int (2 : Int32)), .val (.ref x20)] [(.ref x20)])) P39 (by
      intro tt_ kk_
      refine XS.icmpYes X37.here hx rfl (pc0 := 38) (pc' := 54) rfl (hb hby d6_38) rfl (tlt (own_big gc2 hbig)).2.2.1 (by decide) (by decide) ?_
      refine XS.aload X37.here hx rfl (hb hby d6_54) rfl rfl ?_
      exact kk_)
    obtain ⟨fs, hr, hrun, hended, hW, hsame⟩ := X37.leave (v := some (.ref x20)) (fun h => by rw [Bd.returns] at h; cases h)
    refine ⟨_, _, P40 _ ?_, hrun, hended, _, _, rfl, ?_, ⟨_, rfl⟩, hW, hsame.mono (by decide) (by decide)⟩
    · jvm_step X37.here [X37.here.top, hx, (hb hby d6_56), X37.method', Bd.returns, Value.isRef, FieldType.isReference]
      first | (intro acts; rw [hr _ acts rfl rfl rfl]) | rw [hr _ _ rfl rfl rfl]
      exact Steps.refl _
    · show Q_compU_4 Z _ _ _ _ _ _ h0 n0 _ T37.heap _
      rw [e37]
      exact ⟨x20, kk20, rfl, N37, f24, sz_x20, f22⟩
  · subst hrr
    obtain ⟨_, _, ⟨T41, L41, k41, n41⟩, -, X41, ⟨Lc41, hQ41, l41, y41, z41⟩, st41⟩ := Jvm.LawKit.callS X20 hx (y := (⟨"java/lang/StringUTF16", "getChar", "([BI)C"⟩ : MethodName)) hown (mvT hZ (hw _ (List.mem_of_getElem? (i := 94) rfl))) (mvT hZ (hw _ (List.mem_of_getElem? (i := 95) rfl))) (mvT hZ (hw _ (List.mem_of_getElem? (i := 34) rfl))) (mvT hZ (hw _ (List.mem_of_getElem? (i := 96) rfl))) (by decide) (backOf (W := 0) (rm_getC l Z a0 hw [] x20 kk20 (8 : Int32) _ (3 : Int32) (own_b0 c3) (own_b1 c3) T20.heap n0 Z26 f23 Sad Shi Slo f22 (by decide) (by decide) rfl rfl) hZ (hw _ (List.mem_of_getElem? (i := 96) rfl)) (hw _ (List.mem_of_getElem? (i := 34) rfl)) (by decide) (by decide)) (g := (mkF m 32 #[.val (.ref a), .val (.int (0 : Int32)), .val (.int (4 : Int32)), .val (.ref b2), .val (.int (3 : Int32)), .val (.ref x20)] [(.int (3 : Int32)), (.ref x20)])) rfl (by rw [hml]; rfl) (argsL := [(.ref x20), (.int (3 : Int32))]) (rest := []) (lenOf pd6 rfl) rfl (by show 2 * 0 + _ ≤ _; exact Nat.le_of_eq rfl) (hb hby d6_32) (fun _ _ => ⟨rfl, rfl, (by decide : 2 + 0 ≤ _), (by decide : 12 + 0 ≤ _)⟩)
    dsimp only [Pt.U, Pt.locs, Pt.cells, Pt.slots] at X41 l41 y41 z41 st41 hQ41
    subst l41 y41 z41
    obtain ⟨rfl, N41q, e41⟩ := hQ41
    have N41 := Fr.app N20 N41q
    have P42 := own_step (C := T41.setTop (mkF m 35 #[.val (.ref a), .val (.int (0 : Int32)), .val (.int (4 : Int32)), .val (.ref b2), .val (.int (3 : Int32)), .val (.ref x20)] [(.int (own_gc (own_b0 c3) (own_b1 c3)))])) P28 (fun t_ k_ => st41 t_ k_)
    have P43 := own_step (C := T41.setTop (mkF m 38 #[.val (.ref a), .val (.int (0 : Int32)), .val (.int (4 : Int32)), .val (.ref b2), .val (.int (3 : Int32)), .val (.ref x20)] [(.int (255 : Int32)), (.int (own_gc (own_b0 c3) (own_b1 c3)))])) P42 (by
      intro tt_ kk_
      refine XS.sipush X41.here hx rfl (hb hby d6_35) ?_
      exact kk_)
    have P44 := own_step (C := T41.setTop (mkF m 56 #[.val (.ref a), .val (.int (0 : Int32)), .val (.int (4 : Int32)), .val (.ref b2), .val (.int (3 : Int32)), .val (.ref x20)] [(.ref x20)])) P43 (by
      intro tt_ kk_
      refine XS.icmpYes X41.here hx rfl (pc0 := 38) (pc' := 54) rfl (hb hby d6_38) rfl (tlt (own_big gc3 hbig)).2.2.1 (by decide) (by decide) ?_
      refine XS.aload X41.here hx rfl (hb hby d6_54) rfl rfl ?_
      exact kk_)
    obtain ⟨fs, hr, hrun, hended, hW, hsame⟩ := X41.leave (v := some (.ref x20)) (fun h => by rw [Bd.returns] at h; cases h)
    refine ⟨_, _, P44 _ ?_, hrun, hended, _, _, rfl, ?_, ⟨_, rfl⟩, hW, hsame.mono (by decide) (by decide)⟩
    · jvm_step X41.here [X41.here.top, hx, (hb hby d6_56), X41.method', Bd.returns, Value.isRef, FieldType.isReference]
      first | (intro acts; rw [hr _ acts rfl rfl rfl]) | rw [hr _ _ rfl rfl rfl]
      exact Steps.refl _
    · show Q_compU_4 Z _ _ _ _ _ _ h0 n0 _ T41.heap _
      rw [e41]
      exact ⟨x20, kk20, rfl, N41, f24, sz_x20, f22⟩
theorem ef__initVU_4 (m : MethodId) (x0 : Addr) (x1 : Addr) (x2 : Int32) (x3 : Int32) : entryFrame m #[(.ref x0), (.ref x1), (.int x2), (.int x3), .null] 6 = mkF m 0 #[.val (.ref x0), .val (.ref x1), .val (.int x2), .val (.int x3), .val .null, .unset] [] := by first | (simp [entryFrame, mkF, argsToLocals, Value.category]; done) | rfl
def Q_initVU_4 (Z : State) (a : Addr) (ca : Addr) (ka : ClassId) (c0 : Int32) (c1 : Int32) (c2 : Int32) (c3 : Int32) (cs : Int32) (h0 : Heap) (n0 : Nat) (v_ : Option Value) (h : Heap) (L_ : List Loc) : Prop := ∃ (x : Addr) (kk : ClassId), v_ = none ∧ Fr n0 L_ ∧ Keep h0 h [a] ∧ Exa Z h a "java/lang/String" ∧ Fld Z h a "java/lang/String" "coder" "B" (.int (1 : Int32)) ∧ Fld Z h a "java/lang/String" "value" "[B" (.ref x) ∧ Arv Z h x kk .byte (8 : Int32) [(.int (own_b0 c0)), (.int (own_b1 c0)), (.int (own_b0 c1)), (.int (own_b1 c1)), (.int (own_b0 c2)), (.int (own_b1 c2)), (.int (own_b0 c3)), (.int (own_b1 c3))] (.int 0) ∧ h0.size ≤ x
set_option maxRecDepth 65536 in
set_option maxHeartbeats 40000000 in
theorem rm_initVU_4 (l : Launch) (Z : State) (a0 : Array Value) (hw : ∀ d ∈ tables_1, d.before a0 Z = true) (ws : List Jvm.Cond) (a : Addr) (ca : Addr) (ka : ClassId) (c0 : Int32) (c1 : Int32) (c2 : Int32) (c3 : Int32) (cs : Int32) (h0 : Heap) (n0 : Nat) (Z0 : n0 ≤ h0.size) (O : Old Z n0 h0) (Scs : Sta Z Z.heap "java/lang/String" "COMPACT_STRINGS" "Z" (.int cs)) (hcs : ¬ (cs = (0 : Int32))) (Ea : Exa Z h0 a "java/lang/String") (Fv : Fld Z h0 a "java/lang/String" "value" "[B" .null) (Fc : Fld Z h0 a "java/lang/String" "coder" "B" (.int (0 : Int32))) (ga : n0 ≤ a) (Vs : Arv Z h0 ca ka .char (4 : Int32) [(.int c0), (.int c1), (.int c2), (.int c3)] (.int 0)) (Sad : Sta Z Z.heap "java/lang/StringUTF16" "$assertionsDisabled" "Z" (.int (1 : Int32))) (Shi : Sta Z Z.heap "java/lang/StringUTF16" "HI_BYTE_SHIFT" "I" (.int (0 : Int32))) (Slo : Sta Z Z.heap "java/lang/StringUTF16" "LO_BYTE_SHIFT" "I" (.int (8 : Int32))) (hU : (255 : Int32) < c0 ∨ (255 : Int32) < c1 ∨ (255 : Int32) < c2 ∨ (255 : Int32) < c3) (gc0 : own_C c0) (gc1 : own_C c1) (gc2 : own_C c2) (gc3 : own_C c3) :
    MetFree l (⟨"java/lang/String", "<init>", "([CIILjava/lang/Void;)V"⟩ : MethodName) (head1 (Jvm.Cond.code (⟨"java/lang/String", "<init>", "([CIILjava/lang/Void;)V"⟩ : MethodName) jdk_42_method_149_code 6 none :: ws) ({ frames := 4, cells := 2, slots := 12, locals := 57 } : Room)) (fun a_ U_ => a_ = #[(.ref a), (.ref ca), (.int (0 : Int32)), (.int (4 : Int32)), .null] ∧ Z.Warmed39 U_.vm ∧ U_.heap = h0) (fun _ _ _ _ _ => True) (fun _ U_ o_ V_ => ∃ v_ L_, o_ = .returned v_ ∧ Q_initVU_4 Z a ca ka c0 c1 c2 c3 cs h0 n0 v_ V_.heap L_ ∧ FrameEnd U_ o_ V_ L_ ({ frames := 4, cells := 2, slots := 12, locals := 57 } : Room).cells ({ frames := 4, cells := 2, slots := 12, locals := 57 } : Room).slots) := by
  refine MetFree.of_bodySF (plainFor_of_name pn1) hisR ?_
  intro p e s m args below meth c s₁ Bd hml0 hP hK
  obtain ⟨rfl, hZ, hh⟩ := hP
  have hx := Bd.exec
  have hby := Bd.bytes
  have hml : c.maxLocals = 6 := hml0
  have hown : s.vm.findClass "java/lang/String" = some m.cls := findClass_of_methodNamed Bd.named
  have hnm := (name_of_methodNamed Bd.named Bd.method).1
  have X0 : Stand p l e ({ frames := 4, cells := 2, slots := 12, locals := 57 } : Room) s m #[(.ref a), (.ref ca), (.int (0 : Int32)), (.int (4 : Int32)), .null] below meth c s₁ [] 0 0 := Stand.of_body Bd
  have e0 : s₁.heap = h0 := by rw [← hh, Bd.state]; rfl
  have N0 := Fr.nil n0
  have pre0 : own_Go p e below (s₁.setTop (entryFrame m #[(.ref a), (.ref ca), (.int (0 : Int32)), (.int (4 : Int32)), .null] 6)) (s₁.setTop (mkF m 0 #[.val (.ref a), .val (.ref ca), .val (.int (0 : Int32)), .val (.int (4 : Int32)), .val .null, .unset] [])) := fun t_ k_ => castTop (ef__initVU_4 m a ca (0 : Int32) (4 : Int32)) k_
  obtain ⟨clV, ArV, -⟩ := id Vs
  have ne_ca_a : ca ≠ a := Ne.symm (ne_arr Ea (hw _ (List.mem_of_getElem? (i := 1) rfl)) ArV)
  have P1 := own_step (C := s₁.setTop (mkF m 1 #[.val (.ref a), .val (.ref ca), .val (.int (0 : Int32)), .val (.int (4 : Int32)), .val .null, .unset] [(.ref a)])) pre0 (by
    intro tt_ kk_
    refine XS.aloadN X0.here hx rfl (hb hby d2_0) rfl rfl ?_
    exact kk_)
  obtain ⟨T2, X2, e2, st2⟩ := initO X0 hx hZ hown (hw _ (List.mem_of_getElem? (i := 11) rfl)) (hw _ (List.mem_of_getElem? (i := 12) rfl)) (hw _ (List.mem_of_getElem? (i := 13) rfl)) e0 (g := (mkF m 1 #[.val (.ref a), .val (.ref ca), .val (.int (0 : Int32)), .val (.int (4 : Int32)), .val .null, .unset] [(.ref a)])) rfl (by rw [hml]; rfl) rfl (hb hby d2_1) (by decide) (W := 0) (by show 2 * 0 + _ ≤ _; exact Nat.le_of_eq rfl) (by decide)
  have P3 := own_step (C := T2.setTop (mkF m 4 #[.val (.ref a), .val (.ref ca), .val (.int (0 : Int32)), .val (.int (4 : Int32)), .val .null, .unset] [])) P1 (fun t_ k_ => st2 t_ k_)
  have P4 := own_step (C := T2.setTop (mkF m 5 #[.val (.ref a), .val (.ref ca), .val (.int (0 : Int32)), .val (.int (4 : Int32)), .val .null, .unset] [(.int (4 : Int32))])) P3 (by
    intro tt_ kk_
    refine XS.iloadN X2.here hx rfl (hb hby d2_4) rfl ?_
    exact kk_)
  have P5 := own_step (C := T2.setTop (mkF m 27 #[.val (.ref a), .val (.ref ca), .val (.int (0 : Int32)), .val (.int (4 : Int32)), .val .null, .unset] [])) P4 (by
    intro tt_ kk_
    refine XS.ifYes X2.here hx rfl (pc0 := 5) (pc' := 27) rfl (hb hby d2_5) rfl ((if0 _ _).trans (feq (by decide : ¬ ((4 : Int32) = (0 : Int32)))).2) (by decide) (by decide) ?_
    exact kk_)
  obtain ⟨T6, X6, e6, st6⟩ := getS2 X2 hx hZ hown (host := "") (Or.inl (hw _ (List.mem_of_getElem? (i := 31) rfl))) Via.refl e2 (Scs.ext O.2) (g := (mkF m 27 #[.val (.ref a), .val (.ref ca), .val (.int (0 : Int32)), .val (.int (4 : Int32)), .val .null, .unset] [])) rfl (hb hby d2_27)
  have P7 := own_step (C := T6.setTop (mkF m 30 #[.val (.ref a), .val (.ref ca), .val (.int (0 : Int32)), .val (.int (4 : Int32)), .val .null, .unset] [(.int cs)])) P5 (fun t_ k_ => st6 t_ k_)
  have P8 := own_step (C := T6.setTop (mkF m 36 #[.val (.ref a), .val (.ref ca), .val (.int (0 : Int32)), .val (.int (4 : Int32)), .val .null, .unset] [(.int (4 : Int32)), (.int (0 : Int32)), (.ref ca)])) P7 (by
    intro tt_ kk_
    refine XS.ifNo X6.here hx rfl (hb hby d2_30) rfl ((if0 _ _).trans (feq hcs).1) ?_
    refine XS.aloadN X6.here hx rfl (hb hby d2_33) rfl rfl ?_
    refine XS.iloadN X6.here hx rfl (hb hby d2_34) rfl ?_
    refine XS.iloadN X6.here hx rfl (hb hby d2_35) rfl ?_
    exact kk_)
  obtain ⟨_, _, ⟨T9, L9, k9, n9⟩, -, X9, ⟨Lc9, hQ9, l9, y9, z9⟩, st9⟩ := Jvm.LawKit.callS X6 hx (y := (⟨"java/lang/StringUTF16", "compress", "([CII)[B"⟩ : MethodName)) hown (mvT hZ (hw _ (List.mem_of_getElem? (i := 32) rfl))) (mvT hZ (hw _ (List.mem_of_getElem? (i := 33) rfl))) (mvT hZ (hw _ (List.mem_of_getElem? (i := 34) rfl))) (mvT hZ (hw _ (List.mem_of_getElem? (i := 35) rfl))) (by decide) (backOf (W := 0) (rm_compU_4 l Z a0 hw [] ca ka c0 c1 c2 c3 h0 n0 Z0 O Sad Shi Slo Vs hU gc0 gc1 gc2 gc3) hZ (hw _ (List.mem_of_getElem? (i := 35) rfl)) (hw _ (List.mem_of_getElem? (i := 34) rfl)) (by decide) (by decide)) (g := (mkF m 36 #[.val (.ref a), .val (.ref ca), .val (.int (0 : Int32)), .val (.int (4 : Int32)), .val .null, .unset] [(.int (4 : Int32)), (.int (0 : Int32)), (.ref ca)])) rfl (by rw [hml]; rfl) (argsL := [(.ref ca), (.int (0 : Int32)), (.int (4 : Int32))]) (rest := []) (lenOf pd10 rfl) rfl (by show 2 * 0 + _ ≤ _; exact Nat.le_of_eq rfl) (hb hby d2_36) (fun _ _ => ⟨rfl, e6, (by decide : 0 + 2 ≤ _), (by decide : 0 + 12 ≤ _)⟩)
  dsimp only [Pt.U, Pt.locs, Pt.cells, Pt.slots] at X9 l9 y9 z9 st9 hQ9
  subst l9 y9 z9
  obtain ⟨x9, kk9, rfl, N9q, K9, f10, f11⟩ := hQ9
  have N9 := Fr.app N0 N9q
  have ne_a_x9 : a ≠ x9 := Nat.ne_of_lt (Nat.lt_of_lt_of_le Ea.lt f10)
  have ne_ca_x9 : ca ≠ x9 := Nat.ne_of_lt (Nat.lt_of_lt_of_le Vs.lt f10)
  have g_x9 : n0 ≤ x9 := Nat.le_trans Z0 f10
  have sz_x9 : h0.size ≤ x9 := Nat.le_trans (Keep.refl h0 [a]).1 f10
  have f12 := O.keep K9 all0
  have f13 := Ea.keep K9
  have f14 := Fc.keep K9 nin0
  have f15 := Fv.keep K9 nin0
  have f16 := (Keep.refl h0 [a]).trans K9 all0
  have f17 := Vs.keep K9 nin0
  have Z18 : n0 ≤ T9.heap.size := Nat.le_trans Z0 K9.1
  have P19 := own_step (C := T9.setTop (mkF m 39 #[.val (.ref a), .val (.ref ca), .val (.int (0 : Int32)), .val (.int (4 : Int32)), .val .null, .unset] [(.ref x9)])) P8 (fun t_ k_ => st9 t_ k_)
  have P20 := own_step (C := T9.setTop (mkF m 45 #[.val (.ref a), .val (.ref ca), .val (.int (0 : Int32)), .val (.int (4 : Int32)), .val .null, .val (.ref x9)] [(.int (4 : Int32)), (.ref x9), (.ref a)])) P19 (by
    intro tt_ kk_
    refine XS.astore X9.here hx rfl (hb hby d2_39) rfl rfl (l' := #[.val (.ref a), .val (.ref ca), .val (.int (0 : Int32)), .val (.int (4 : Int32)), .val .null, .val (.ref x9)]) rfl ?_
    refine XS.aloadN X9.here hx rfl (hb hby d2_41) rfl rfl ?_
    refine XS.aload X9.here hx rfl (hb hby d2_42) rfl rfl ?_
    refine XS.iloadN X9.here hx rfl (hb hby d2_44) rfl ?_
    exact kk_)
  obtain ⟨_, _, ⟨T21, L21, k21, n21⟩, -, X21, ⟨Lc21, hQ21, l21, y21, z21⟩, st21⟩ := Jvm.LawKit.callS X9 hx (y := (⟨"java/lang/StringUTF16", "coderFromArrayLen", "([BI)B"⟩ : MethodName)) hown (mvT hZ (hw _ (List.mem_of_getElem? (i := 39) rfl))) (mvT hZ (hw _ (List.mem_of_getElem? (i := 40) rfl))) (mvT hZ (hw _ (List.mem_of_getElem? (i := 34) rfl))) (mvT hZ (hw _ (List.mem_of_getElem? (i := 41) rfl))) (by decide) (backOf (W := 1) (rm_cfa l Z a0 hw [] x9 kk9 (8 : Int32) _ (4 : Int32) (1 : Int32) T9.heap n0 Z18 f11 (by decide +kernel)) hZ (hw _ (List.mem_of_getElem? (i := 41) rfl)) (hw _ (List.mem_of_getElem? (i := 34) rfl)) (by decide) (by decide)) (g := (mkF m 45 #[.val (.ref a), .val (.ref ca), .val (.int (0 : Int32)), .val (.int (4 : Int32)), .val .null, .val (.ref x9)] [(.int (4 : Int32)), (.ref x9), (.ref a)])) rfl (by rw [hml]; rfl) (argsL := [(.ref x9), (.int (4 : Int32))]) (rest := [(.ref a)]) (lenOf pd11 rfl) rfl (by show 2 * 0 + _ ≤ _; exact Nat.le_of_eq rfl) (hb hby d2_45) (fun _ _ => ⟨rfl, rfl, (by decide : 2 + 0 ≤ _), (by decide : 12 + 0 ≤ _)⟩)
  dsimp only [Pt.U, Pt.locs, Pt.cells, Pt.slots] at X21 l21 y21 z21 st21 hQ21
  subst l21 y21 z21
  obtain ⟨rfl, N21q, e21⟩ := hQ21
  have N21 := Fr.app N9 N21q
  have P22 := own_step (C := T21.setTop (mkF m 48 #[.val (.ref a), .val (.ref ca), .val (.int (0 : Int32)), .val (.int (4 : Int32)), .val .null, .val (.ref x9)] [(.int (1 : Int32)), (.ref a)])) P20 (fun t_ k_ => st21 t_ k_)
  obtain ⟨T23, h23, X23, e23, W23, st23⟩ := putFN X21 hx hZ hown (hw _ (List.mem_of_getElem? (i := 21) rfl)) Via.refl e21 f14 f13 (Or.inr ⟨(hw _ (List.mem_of_getElem? (i := 17) rfl)), rfl, hnm⟩) (hw _ (List.mem_of_getElem? (i := 1) rfl)) (ty := .byte) (v' := (.int (1 : Int32).toInt8.toInt32)) (by decide) rfl (fits_nar_byte _) (g := (mkF m 48 #[.val (.ref a), .val (.ref ca), .val (.int (0 : Int32)), .val (.int (4 : Int32)), .val .null, .val (.ref x9)] [(.int (1 : Int32)), (.ref a)])) rfl rfl (hb hby d2_48)
  have f24 := f12.wr W23 ga
  have f25 := f13.wr W23
  have f26 := f14.same W23
  have f27 := f15.other W23 (Or.inr (slot_ne (Or.inr (hw _ (List.mem_of_getElem? (i := 16) rfl))) (Or.inr (hw _ (List.mem_of_getElem? (i := 17) rfl))) (by decide) (t := (.array .byte)) (t' := .byte) (by decide) (by decide)))
  have f28 := f16.wr W23 (Or.inl (List.mem_of_getElem? (i := 0) rfl))
  have f29 := f17.other W23 ne_ca_a
  have f30 := f11.other W23 (Ne.symm ne_a_x9)
  have Z31 : n0 ≤ h23.size := Nat.le_trans Z18 (Keep.of_wr W23).1
  have N23 := Fr.snoc X23 N21 ga
  have P32 := own_step (C := T23.setTop (mkF m 51 #[.val (.ref a), .val (.ref ca), .val (.int (0 : Int32)), .val (.int (4 : Int32)), .val .null, .val (.ref x9)] [])) P22 (fun t_ k_ => st23 t_ k_)
  have P33 := own_step (C := T23.setTop (mkF m 54 #[.val (.ref a), .val (.ref ca), .val (.int (0 : Int32)), .val (.int (4 : Int32)), .val .null, .val (.ref x9)] [(.ref x9), (.ref a)])) P32 (by
    intro tt_ kk_
    refine XS.aloadN X23.here hx rfl (hb hby d2_51) rfl rfl ?_
    refine XS.aload X23.here hx rfl (hb hby d2_52) rfl rfl ?_
    exact kk_)
  obtain ⟨T34, h34, X34, e34, W34, st34⟩ := putF X23 hx hZ hown (host := "") (Or.inl (hw _ (List.mem_of_getElem? (i := 20) rfl))) Via.refl e23 f27 f25 (Or.inr ⟨(hw _ (List.mem_of_getElem? (i := 16) rfl)), rfl, hnm⟩) (hw _ (List.mem_of_getElem? (i := 1) rfl)) (ty := (.array .byte)) (by decide) rfl rfl (g := (mkF m 54 #[.val (.ref a), .val (.ref ca), .val (.int (0 : Int32)), .val (.int (4 : Int32)), .val .null, .val (.ref x9)] [(.ref x9), (.ref a)])) rfl rfl (hb hby d2_54)
  have f35 := f24.wr W34 ga
  have f36 := f25.wr W34
  have f37 := f26.other W34 (Or.inr (slot_ne (Or.inr (hw _ (List.mem_of_getElem? (i := 17) rfl))) (Or.inr (hw _ (List.mem_of_getElem? (i := 16) rfl))) (by decide) (t := .byte) (t' := (.array .byte)) (by decide) (by decide)))
  have f38 := f27.same W34
  have f39 := f28.wr W34 (Or.inl (List.mem_of_getElem? (i := 0) rfl))
  have f40 := f29.other W34 ne_ca_a
  have f41 := f30.other W34 (Ne.symm ne_a_x9)
  have Z42 : n0 ≤ h34.size := Nat.le_trans Z31 (Keep.of_wr W34).1
  have N34 := Fr.snoc X34 N23 ga
  have P43 := own_step (C := T34.setTop (mkF m 57 #[.val (.ref a), .val (.ref ca), .val (.int (0 : Int32)), .val (.int (4 : Int32)), .val .null, .val (.ref x9)] [])) P33 (fun t_ k_ => st34 t_ k_)
  obtain ⟨fs, hr, hrun, hended, hW, hsame⟩ := X34.leave (v := none) (fun _ => rfl)
  refine ⟨_, _, P43 _ ?_, hrun, hended, _, _, rfl, ?_, ⟨_, rfl⟩, hW, hsame.mono (by decide) (by decide)⟩
  · exact X34.returnOut hx Bd.returns (hb hby d2_57) hr
  · show Q_initVU_4 Z _ _ _ _ _ _ _ _ h0 n0 _ T34.heap _
    rw [e34]
    exact ⟨x9, kk9, rfl, N34, f39, f36, f37, f38, f41, sz_x9⟩
theorem ef__initA_4 (m : MethodId) (x0 : Addr) (x1 : Addr) : entryFrame m #[(.ref x0), (.ref x1)] 2 = mkF m 0 #[.val (.ref x0), .val (.ref x1)] [] := by first | (simp [entryFrame, mkF, argsToLocals, Value.category]; done) | rfl
def Q_initA_4 (Z : State) (a : Addr) (ca : Addr) (ka : ClassId) (c0 : Int32) (c1 : Int32) (c2 : Int32) (c3 : Int32) (cs : Int32) (h0 : Heap) (n0 : Nat) (v_ : Option Value) (h : Heap) (L_ : List Loc) : Prop := v_ = none ∧ Fr n0 L_ ∧ Keep h0 h [a] ∧ own_S Z h a (4 : Int32) [c0, c1, c2, c3]
set_option maxRecDepth 65536 in
set_option maxHeartbeats 40000000 in
theorem rm_initA_4 (l : Launch) (Z : State) (a0 : Array Value) (hw : ∀ d ∈ tables_1, d.before a0 Z = true) (ws : List Jvm.Cond) (a : Addr) (ca : Addr) (ka : ClassId) (c0 : Int32) (c1 : Int32) (c2 : Int32) (c3 : Int32) (cs : Int32) (h0 : Heap) (n0 : Nat) (Z0 : n0 ≤ h0.size) (O : Old Z n0 h0) (Scs : Sta Z Z.heap "java/lang/String" "COMPACT_STRINGS" "Z" (.int cs)) (hcs : ¬ (cs = (0 : Int32))) (Ea : Exa Z h0 a "java/lang/String") (Fv : Fld Z h0 a "java/lang/String" "value" "[B" .null) (Fc : Fld Z h0 a "java/lang/String" "coder" "B" (.int (0 : Int32))) (ga : n0 ≤ a) (Vs : Arv Z h0 ca ka .char (4 : Int32) [(.int c0), (.int c1), (.int c2), (.int c3)] (.int 0)) (Sad : Sta Z Z.heap "java/lang/StringUTF16" "$assertionsDisabled" "Z" (.int (1 : Int32))) (Shi : Sta Z Z.heap "java/lang/StringUTF16" "HI_BYTE_SHIFT" "I" (.int (0 : Int32))) (Slo : Sta Z Z.heap "java/lang/StringUTF16" "LO_BYTE_SHIFT" "I" (.int (8 : Int32))) (gc0 : own_C c0) (gc1 : own_C c1) (gc2 : own_C c2) (gc3 : own_C c3) :
    MetFree l (⟨"java/lang/String", "<init>", "([C)V"⟩ : MethodName) (head1 (Jvm.Cond.code (⟨"java/lang/String", "<init>", "([C)V"⟩ : MethodName) jdk_42_method_3_code 2 none :: ws) ({ frames := 5, cells := 2, slots := 12, locals := 74 } : Room)) (fun a_ U_ => a_ = #[(.ref a), (.ref ca)] ∧ Z.Warmed39 U_.vm ∧ U_.heap = h0) (fun _ _ _ _ _ => True) (fun _ U_ o_ V_ => ∃ v_ L_, o_ = .returned v_ ∧ Q_initA_4 Z a ca ka c0 c1 c2 c3 cs h0 n0 v_ V_.heap L_ ∧ FrameEnd U_ o_ V_ L_ ({ frames := 5, cells := 2, slots := 12, locals := 74 } : Room).cells ({ frames := 5, cells := 2, slots := 12, locals := 74 } : Room).slots) := by
  refine MetFree.of_bodySF (plainFor_of_name pn1) hisR ?_
  intro p e s m args below meth c s₁ Bd hml0 hP hK
  obtain ⟨rfl, hZ, hh⟩ := hP
  have hx := Bd.exec
  have hby := Bd.bytes
  have hml : c.maxLocals = 2 := hml0
  have hown : s.vm.findClass "java/lang/String" = some m.cls := findClass_of_methodNamed Bd.named
  have hnm := (name_of_methodNamed Bd.named Bd.method).1
  have X0 : Stand p l e ({ frames := 5, cells := 2, slots := 12, locals := 74 } : Room) s m #[(.ref a), (.ref ca)] below meth c s₁ [] 0 0 := Stand.of_body Bd
  have e0 : s₁.heap = h0 := by rw [← hh, Bd.state]; rfl
  have N0 := Fr.nil n0
  have pre0 : own_Go p e below (s₁.setTop (entryFrame m #[(.ref a), (.ref ca)] 2)) (s₁.setTop (mkF m 0 #[.val (.ref a), .val (.ref ca)] [])) := fun t_ k_ => castTop (ef__initA_4 m a ca) k_
  obtain ⟨clV, ArV, -⟩ := id Vs
  have ne_ca_a : ca ≠ a := Ne.symm (ne_arr Ea (hw _ (List.mem_of_getElem? (i := 1) rfl)) ArV)
  have P1 := own_step (C := s₁.setTop (mkF m 4 #[.val (.ref a), .val (.ref ca)] [(.ref ca), (.int (0 : Int32)), (.ref ca), (.ref a)])) pre0 (by
    intro tt_ kk_
    refine XS.aloadN X0.here hx rfl (hb hby d1_0) rfl rfl ?_
    refine XS.aloadN X0.here hx rfl (hb hby d1_1) rfl rfl ?_
    refine XS.iconst X0.here hx rfl (hb hby d1_2) ?_
    refine XS.aloadN X0.here hx rfl (hb hby d1_3) rfl rfl ?_
    exact kk_)
  obtain ⟨cl2, Ar2, q2, S2, M2, H2, G2⟩ := id Vs
  have P3 := own_step (C := s₁.setTop (mkF m 5 #[.val (.ref a), .val (.ref ca)] [(.int (4 : Int32)), (.int (0 : Int32)), (.ref ca), (.ref a)])) P1 (by
    intro tt_ kk_
    refine X0.arraylength hx (by rw [e0]; exact Ar2.1) (State.isArrayOf_alike hZ.alike Ar2.2.1) (g := (mkF m 4 #[.val (.ref a), .val (.ref ca)] [(.ref ca), (.int (0 : Int32)), (.ref ca), (.ref a)])) rfl rfl (hb hby d1_4) _ ?_
    rw [len_of S2 M2]
    exact kk_)
  have P4 := own_step (C := s₁.setTop (mkF m 6 #[.val (.ref a), .val (.ref ca)] [.null, (.int (4 : Int32)), (.int (0 : Int32)), (.ref ca), (.ref a)])) P3 (by
    intro tt_ kk_
    refine XS.aconstNull X0.here hx rfl (hb hby d1_5) ?_
    exact kk_)
  by_cases hU : (255 : Int32) < c0 ∨ (255 : Int32) < c1 ∨ (255 : Int32) < c2 ∨ (255 : Int32) < c3
  · obtain ⟨_, _, ⟨T5, L5, k5, n5⟩, -, X5, ⟨Lc5, hQ5, l5, y5, z5⟩, st5⟩ := X0.specialBack hx (y := (⟨"java/lang/String", "<init>", "([CIILjava/lang/Void;)V"⟩ : MethodName)) rfl hown (mvT hZ (hw _ (List.mem_of_getElem? (i := 7) rfl))) (mvT hZ (hw _ (List.mem_of_getElem? (i := 8) rfl))) (mvT hZ (hw _ (List.mem_of_getElem? (i := 10) rfl))) (by decide) (backOf (W := 0) (rm_initVU_4 l Z a0 hw [] a ca ka c0 c1 c2 c3 cs h0 n0 Z0 O Scs hcs Ea Fv Fc ga Vs Sad Shi Slo hU gc0 gc1 gc2 gc3) hZ (hw _ (List.mem_of_getElem? (i := 10) rfl)) (hw _ (List.mem_of_getElem? (i := 2) rfl)) (by decide) (by decide)) (g := (mkF m 6 #[.val (.ref a), .val (.ref ca)] [.null, (.int (4 : Int32)), (.int (0 : Int32)), (.ref ca), (.ref a)])) rfl (by rw [hml]; rfl) (Steps.refl _) (a := a) (argsL := [(.ref ca), (.int (0 : Int32)), (.int (4 : Int32)), .null]) (rest := []) (lenOf pd15 rfl) rfl (by show 2 * 0 + _ ≤ _; exact Nat.le_of_eq rfl) (hb hby d1_6) (fun _ _ => ⟨rfl, e0, (by decide : 0 + 2 ≤ _), (by decide : 0 + 12 ≤ _)⟩)
    dsimp only [Pt.U, Pt.locs, Pt.cells, Pt.slots] at X5 l5 y5 z5 st5 hQ5
    subst l5 y5 z5
    obtain ⟨x5, kk5, rfl, N5q, K5, f6, f7, f8, f9, f10⟩ := hQ5
    have N5 := Fr.app N0 N5q
    have ne_a_x5 : a ≠ x5 := Nat.ne_of_lt (Nat.lt_of_lt_of_le Ea.lt f10)
    have ne_ca_x5 : ca ≠ x5 := Nat.ne_of_lt (Nat.lt_of_lt_of_le Vs.lt f10)
    have g_x5 : n0 ≤ x5 := Nat.le_trans Z0 f10
    have sz_x5 : h0.size ≤ x5 := Nat.le_trans (Keep.refl h0 [a]).1 f10
    have f11 := O.keep K5 (allS ga all0)
    have f12 := Ea.keep K5
    have f15 := (Keep.refl h0 [a]).trans K5 (allS (Or.inl (List.mem_of_getElem? (i := 0) rfl)) all0)
    have f16 := Vs.keep K5 (ninS ne_ca_a nin0)
    have Z17 : n0 ≤ T5.heap.size := Nat.le_trans Z0 K5.1
    have P18 := own_step (C := T5.setTop (mkF m 9 #[.val (.ref a), .val (.ref ca)] [])) P4 (fun t_ k_ => st5.trans k_)
    obtain ⟨fs, hr, hrun, hended, hW, hsame⟩ := X5.leave (v := none) (fun _ => rfl)
    refine ⟨_, _, P18 _ ?_, hrun, hended, _, _, rfl, ?_, ⟨_, rfl⟩, hW, hsame.mono (by decide) (by decide)⟩
    · exact X5.returnOut hx Bd.returns (hb hby d1_9) hr
    · show Q_initA_4 Z _ _ _ _ _ _ _ _ h0 n0 _ T5.heap _
      exact ⟨rfl, N5, f15, ⟨x5, kk5, f6, f8, Or.inr ⟨f7, f9⟩⟩⟩
  · have hc0 : ¬ ((255 : Int32) < c0) := fun q => hU (Or.inl q)
    have hc1 : ¬ ((255 : Int32) < c1) := fun q => hU (Or.inr (Or.inl q))
    have hc2 : ¬ ((255 : Int32) < c2) := fun q => hU (Or.inr (Or.inr (Or.inl q)))
    have hc3 : ¬ ((255 : Int32) < c3) := fun q => hU (Or.inr (Or.inr (Or.inr (q))))
    have hall : ∀ c ∈ [c0, c1, c2, c3], ¬ ((255 : Int32) < c) := by intro c hc; simp only [List.mem_cons, List.not_mem_nil, or_false] at hc; rcases hc with rfl | rfl | rfl | rfl <;> assumption
    obtain ⟨_, _, ⟨T19, L19, k19, n19⟩, -, X19, ⟨Lc19, hQ19, l19, y19, z19⟩, st19⟩ := X0.specialBack hx (y := (⟨"java/lang/String", "<init>", "([CIILjava/lang/Void;)V"⟩ : MethodName)) rfl hown (mvT hZ (hw _ (List.mem_of_getElem? (i := 7) rfl))) (mvT hZ (hw _ (List.mem_of_getElem? (i := 8) rfl))) (mvT hZ (hw _ (List.mem_of_getElem? (i := 10) rfl))) (by decide) (backOf (W := 0) (rm_initV_4 l Z a0 hw [] a ca ka c0 c1 c2 c3 cs h0 n0 Z0 O Scs hcs Ea Fv Fc ga Vs hc0 hc1 hc2 hc3) hZ (hw _ (List.mem_of_getElem? (i := 10) rfl)) (hw _ (List.mem_of_getElem? (i := 2) rfl)) (by decide) (by decide)) (g := (mkF m 6 #[.val (.ref a), .val (.ref ca)] [.null, (.int (4 : Int32)), (.int (0 : Int32)), (.ref ca), (.ref a)])) rfl (by rw [hml]; rfl) (Steps.refl _) (a := a) (argsL := [(.ref ca), (.int (0 : Int32)), (.int (4 : Int32)), .null]) (rest := []) (lenOf pd15 rfl) rfl (by show 2 * 0 + _ ≤ _; exact Nat.le_of_eq rfl) (hb hby d1_6) (fun _ _ => ⟨rfl, e0, (by decide : 0 + 1 ≤ _), (by decide : 0 + 4 ≤ _)⟩)
    dsimp only [Pt.U, Pt.locs, Pt.cells, Pt.slots] at X19 l19 y19 z19 st19 hQ19
    subst l19 y19 z19
    obtain ⟨x19, kk19, rfl, N19q, K19, f20, f21, f22, f23, f24⟩ := hQ19
    have N19 := Fr.app N0 N19q
    have ne_a_x19 : a ≠ x19 := Nat.ne_of_lt (Nat.lt_of_lt_of_le Ea.lt f24)
    have ne_ca_x19 : ca ≠ x19 := Nat.ne_of_lt (Nat.lt_of_lt_of_le Vs.lt f24)
    have g_x19 : n0 ≤ x19 := Nat.le_trans Z0 f24
    have sz_x19 : h0.size ≤ x19 := Nat.le_trans (Keep.refl h0 [a]).1 f24
    have f25 := O.keep K19 (allS ga all0)
    have f26 := Ea.keep K19
    have f29 := (Keep.refl h0 [a]).trans K19 (allS (Or.inl (List.mem_of_getElem? (i := 0) rfl)) all0)
    have f30 := Vs.keep K19 (ninS ne_ca_a nin0)
    have Z31 : n0 ≤ T19.heap.size := Nat.le_trans Z0 K19.1
    have P32 := own_step (C := T19.setTop (mkF m 9 #[.val (.ref a), .val (.ref ca)] [])) P4 (fun t_ k_ => st19.trans k_)
    obtain ⟨fs, hr, hrun, hended, hW, hsame⟩ := X19.leave (v := none) (fun _ => rfl)
    refine ⟨_, _, P32 _ ?_, hrun, hended, _, _, rfl, ?_, ⟨_, rfl⟩, hW, hsame.mono (by decide) (by decide)⟩
    · exact X19.returnOut hx Bd.returns (hb hby d1_9) hr
    · show Q_initA_4 Z _ _ _ _ _ _ _ _ h0 n0 _ T19.heap _
      exact ⟨rfl, N19, f29, ⟨x19, kk19, f20, f22, Or.inl ⟨hall, f21, f23⟩⟩⟩
theorem own_vne {Z : State} {h : Heap} {a b : Addr} (F : Fld Z h a "java/lang/String" "value" "[B" (.ref b)) (G : Fld Z h a "java/lang/String" "value" "[B" .null) : False := Fld.ne F G (by simp) rfl
theorem d2_8 : decode jdk_42_method_149_code 8 = .ok (.aload_n 0, 1) := by decide +kernel
theorem d2_9 : decode jdk_42_method_149_code 9 = .ok (.ldc 7, 2) := by decide +kernel
theorem d2_11 : decode jdk_42_method_149_code 11 = .ok (.getfield 9, 3) := by decide +kernel
theorem d2_14 : decode jdk_42_method_149_code 14 = .ok (.putfield 9, 3) := by decide +kernel
theorem d2_17 : decode jdk_42_method_149_code 17 = .ok (.aload_n 0, 1) := by decide +kernel
theorem d2_18 : decode jdk_42_method_149_code 18 = .ok (.ldc 7, 2) := by decide +kernel
theorem d2_20 : decode jdk_42_method_149_code 20 = .ok (.getfield 15, 3) := by decide +kernel
theorem d2_23 : decode jdk_42_method_149_code 23 = .ok (.putfield 15, 3) := by decide +kernel
theorem d2_26 : decode jdk_42_method_149_code 26 = .ok (.return_, 1) := by decide +kernel
theorem ef__initV0 (m : MethodId) (x0 : Addr) (x1 : Addr) (x2 : Int32) (x3 : Int32) : entryFrame m #[(.ref x0), (.ref x1), (.int x2), (.int x3), .null] 6 = mkF m 0 #[.val (.ref x0), .val (.ref x1), .val (.int x2), .val (.int x3), .val .null, .unset] [] := by first | (simp [entryFrame, mkF, argsToLocals, Value.category]; done) | rfl
def Q_initV0 (Z : State) (a : Addr) (ca : Addr) (cs : Int32) (h0 : Heap) (n0 : Nat) (v_ : Option Value) (h : Heap) (L_ : List Loc) : Prop := ∃ (x : Addr) (kk : ClassId), v_ = none ∧ Fr n0 L_ ∧ Keep h0 h [a] ∧ Exa Z h a "java/lang/String" ∧ Fld Z h a "java/lang/String" "coder" "B" (.int (0 : Int32)) ∧ Fld Z h a "java/lang/String" "value" "[B" (.ref x) ∧ Arv Z h x kk .byte (0 : Int32) [] (.int 0)
set_option maxRecDepth 65536 in
set_option maxHeartbeats 40000000 in
theorem rm_initV0 (l : Launch) (Z : State) (a0 : Array Value) (hw : ∀ d ∈ tables_1, d.before a0 Z = true) (ws : List Jvm.Cond) (a : Addr) (ca : Addr) (cs : Int32) (h0 : Heap) (n0 : Nat) (Z0 : n0 ≤ h0.size) (O : Old Z n0 h0) (Scs : Sta Z Z.heap "java/lang/String" "COMPACT_STRINGS" "Z" (.int cs)) (hcs : ¬ (cs = (0 : Int32))) (hheld : Jvm.Lit.constHeld Z "java/lang/String" 7) (hcw : Jvm.Lit.compactW.before a0 Z = true) (Ea : Exa Z h0 a "java/lang/String") (Fv : Fld Z h0 a "java/lang/String" "value" "[B" .null) (Fc : Fld Z h0 a "java/lang/String" "coder" "B" (.int (0 : Int32))) (ga : n0 ≤ a) :
    MetFree l (⟨"java/lang/String", "<init>", "([CIILjava/lang/Void;)V"⟩ : MethodName) (head1 (Jvm.Cond.code (⟨"java/lang/String", "<init>", "([CIILjava/lang/Void;)V"⟩ : MethodName) jdk_42_method_149_code 6 none :: ws) ({ frames := 1, cells := 2, slots := 4, locals := 12 } : Room)) (fun a_ U_ => a_ = #[(.ref a), (.ref ca), (.int (0 : Int32)), (.int (0 : Int32)), .null] ∧ Z.Warmed39 U_.vm ∧ U_.heap = h0 ∧ IB Z U_.vm []) (fun _ _ _ _ _ => True) (fun _ U_ o_ V_ => ∃ v_ L_, o_ = .returned v_ ∧ Q_initV0 Z a ca cs h0 n0 v_ V_.heap L_ ∧ ReturnedEndW U_ o_ V_ L_ ({ frames := 1, cells := 2, slots := 4, locals := 12 } : Room).cells ({ frames := 1, cells := 2, slots := 4, locals := 12 } : Room).slots) := by
  refine MetFree.of_bodySF (plainFor_of_name pn1) hisR ?_
  intro p e s m args below meth c s₁ Bd hml0 hP hK
  obtain ⟨rfl, hZ, hh, hIB⟩ := hP
  have hx := Bd.exec
  have hby := Bd.bytes
  have hml : c.maxLocals = 6 := hml0
  have hown : s.vm.findClass "java/lang/String" = some m.cls := findClass_of_methodNamed Bd.named
  have hnm := (name_of_methodNamed Bd.named Bd.method).1
  have X0 : Stand p l e ({ frames := 1, cells := 2, slots := 4, locals := 12 } : Room) s m #[(.ref a), (.ref ca), (.int (0 : Int32)), (.int (0 : Int32)), .null] below meth c s₁ [] 0 0 := Stand.of_body Bd
  have e0 : s₁.heap = h0 := by rw [← hh, Bd.state]; rfl
  have N0 := Fr.nil n0
  have pre0 : own_Go p e below (s₁.setTop (entryFrame m #[(.ref a), (.ref ca), (.int (0 : Int32)), (.int (0 : Int32)), .null] 6)) (s₁.setTop (mkF m 0 #[.val (.ref a), .val (.ref ca), .val (.int (0 : Int32)), .val (.int (0 : Int32)), .val .null, .unset] [])) := fun t_ k_ => castTop (ef__initV0 m a ca (0 : Int32) (0 : Int32)) k_
  have P1 := own_step (C := s₁.setTop (mkF m 1 #[.val (.ref a), .val (.ref ca), .val (.int (0 : Int32)), .val (.int (0 : Int32)), .val .null, .unset] [(.ref a)])) pre0 (by
    intro tt_ kk_
    refine XS.aloadN X0.here hx rfl (hb hby d2_0) rfl rfl ?_
    exact kk_)
  obtain ⟨T2, X2, e2, st2⟩ := initO X0 hx hZ hown (hw _ (List.mem_of_getElem? (i := 11) rfl)) (hw _ (List.mem_of_getElem? (i := 12) rfl)) (hw _ (List.mem_of_getElem? (i := 13) rfl)) e0 (g := (mkF m 1 #[.val (.ref a), .val (.ref ca), .val (.int (0 : Int32)), .val (.int (0 : Int32)), .val .null, .unset] [(.ref a)])) rfl (by rw [hml]; rfl) rfl (hb hby d2_1) (by decide) (W := 0) (by show 2 * 0 + _ ≤ _; exact Nat.le_of_eq rfl) (by decide)
  have P3 := own_step (C := T2.setTop (mkF m 4 #[.val (.ref a), .val (.ref ca), .val (.int (0 : Int32)), .val (.int (0 : Int32)), .val .null, .unset] [])) P1 (fun t_ k_ => st2 t_ k_)
  have P4 := own_step (C := T2.setTop (mkF m 5 #[.val (.ref a), .val (.ref ca), .val (.int (0 : Int32)), .val (.int (0 : Int32)), .val .null, .unset] [(.int (0 : Int32))])) P3 (by
    intro tt_ kk_
    refine XS.iloadN X2.here hx rfl (hb hby d2_4) rfl ?_
    exact kk_)
  have P5 := own_step (C := T2.setTop (mkF m 9 #[.val (.ref a), .val (.ref ca), .val (.int (0 : Int32)), .val (.int (0 : Int32)), .val .null, .unset] [(.ref a)])) P4 (by
    intro tt_ kk_
    refine XS.ifNo X2.here hx rfl (hb hby d2_5) rfl ((if0 _ _).trans (teq (by decide : (0 : Int32) = (0 : Int32))).2) ?_
    refine XS.aloadN X2.here hx rfl (hb hby d2_8) rfl rfl ?_
    exact kk_)
  obtain ⟨b6, T6, h6, k6, bv6, kc6, X6, e6, E6, S6, kz6, hZ6, hown6, A6, Fc6, Fv6, V6, -, -, I6, Lt6, st6⟩ := ldcSVL (s := s) (vm0 := s.vm) X2 hx hZ hown (hw _ (List.mem_of_getElem? (i := 14) rfl)) (fun d hd => hw d (own_wS d hd)) e2 ((State.WarmedH.refl s).since 0) (Nat.zero_le _) (Fr.nil _) (fun b cl q => by rw [hh]; exact O.2.2 b cl q) hIB (by decide) hheld hcw (vs := []) (z := (0 : Int32)) ⟨by decide +kernel, by rfl⟩ (by decide) rfl (g := (mkF m 9 #[.val (.ref a), .val (.ref ca), .val (.int (0 : Int32)), .val (.int (0 : Int32)), .val .null, .unset] [(.ref a)])) rfl (hb hby d2_9) (n := 0) (by decide +kernel) (by decide) (by decide) (by decide)
  have f7 := O.ext E6
  have f8 := Ea.ext E6
  have f9 := Fc.ext E6
  have f10 := Fv.ext E6
  have f11 := (Keep.refl h0 [a]).ext E6
  have Z12 : n0 ≤ h6.size := Nat.le_trans Z0 E6.1
  have P13 := own_step (C := T6.setTop (mkF m 11 #[.val (.ref a), .val (.ref ca), .val (.int (0 : Int32)), .val (.int (0 : Int32)), .val .null, .unset] [(.ref b6), (.ref a)])) P5 (fun t_ k_ => st6 t_ k_)
  obtain ⟨clV, ArV, -⟩ := id V6
  have ne_bv_a : bv6 ≠ a := Ne.symm (ne_arr f8 (hw _ (List.mem_of_getElem? (i := 1) rfl)) ArV)
  have ne_x_a : b6 ≠ a := fun q => by rw [q] at Fv6; exact own_vne Fv6 f10
  obtain ⟨T14, X14, e14, st14⟩ := getF X6 hx hZ6 hown6 (host := "") (Or.inl (hw _ (List.mem_of_getElem? (i := 20) rfl))) Via.refl e6 Fv6 (g := (mkF m 11 #[.val (.ref a), .val (.ref ca), .val (.int (0 : Int32)), .val (.int (0 : Int32)), .val .null, .unset] [(.ref b6), (.ref a)])) rfl rfl (hb hby d2_11)
  have P15 := own_step (C := T14.setTop (mkF m 14 #[.val (.ref a), .val (.ref ca), .val (.int (0 : Int32)), .val (.int (0 : Int32)), .val .null, .unset] [(.ref bv6), (.ref a)])) P13 (fun t_ k_ => st14 t_ k_)
  obtain ⟨T16, h16, X16, e16, W16, st16⟩ := putF X14 hx hZ6 hown6 (host := "") (Or.inl (hw _ (List.mem_of_getElem? (i := 20) rfl))) Via.refl e14 f10 f8 (Or.inr ⟨(hw _ (List.mem_of_getElem? (i := 16) rfl)), rfl, hnm⟩) (hw _ (List.mem_of_getElem? (i := 1) rfl)) (ty := (.array .byte)) (by decide) rfl rfl (g := (mkF m 14 #[.val (.ref a), .val (.ref ca), .val (.int (0 : Int32)), .val (.int (0 : Int32)), .val .null, .unset] [(.ref bv6), (.ref a)])) rfl rfl (hb hby d2_14)
  have f17 := f7.wr W16 ga
  have f18 := f8.wr W16
  have f19 := f9.other W16 (Or.inr (slot_ne (Or.inr (hw _ (List.mem_of_getElem? (i := 17) rfl))) (Or.inr (hw _ (List.mem_of_getElem? (i := 16) rfl))) (by decide) (t := .byte) (t' := (.array .byte)) (by decide) (by decide)))
  have f20 := f10.same W16
  have f21 := f11.wr W16 (Or.inl (List.mem_of_getElem? (i := 0) rfl))
  have f22 := V6.other W16 ne_bv_a
  have f23 := Fv6.other W16 (Or.inl ne_x_a)
  have f24 := Fc6.other W16 (Or.inl ne_x_a)
  have Z25 : n0 ≤ h16.size := Nat.le_trans Z12 (Keep.of_wr W16).1
  have kz26 := Nat.le_trans kz6 (Keep.of_wr W16).1
  have N16 := Fr.snoc X16 N0 ga
  have P27 := own_step (C := T16.setTop (mkF m 17 #[.val (.ref a), .val (.ref ca), .val (.int (0 : Int32)), .val (.int (0 : Int32)), .val .null, .unset] [])) P15 (fun t_ k_ => st16 t_ k_)
  have P28 := own_step (C := T16.setTop (mkF m 18 #[.val (.ref a), .val (.ref ca), .val (.int (0 : Int32)), .val (.int (0 : Int32)), .val .null, .unset] [(.ref a)])) P27 (by
    intro tt_ kk_
    refine XS.aloadN X16.here hx rfl (hb hby d2_17) rfl rfl ?_
    exact kk_)
  have P29 := own_step (C := T16.setTop (mkF m 20 #[.val (.ref a), .val (.ref ca), .val (.int (0 : Int32)), .val (.int (0 : Int32)), .val .null, .unset] [(.ref b6), (.ref a)])) P28 (by
    intro tt_ kk_
    refine ldcAgain (s := s) (vm0 := T6.vm) X16 hx hZ6 hown6 (hw _ (List.mem_of_getElem? (i := 14) rfl)) Lt6 (g := (mkF m 18 #[.val (.ref a), .val (.ref ca), .val (.int (0 : Int32)), .val (.int (0 : Int32)), .val .null, .unset] [(.ref a)])) rfl (hb hby d2_18) _ ?_
    exact kk_)
  obtain ⟨T30, X30, e30, st30⟩ := getF X16 hx hZ6 hown6 (host := "") (Or.inl (hw _ (List.mem_of_getElem? (i := 21) rfl))) Via.refl e16 f24 (g := (mkF m 20 #[.val (.ref a), .val (.ref ca), .val (.int (0 : Int32)), .val (.int (0 : Int32)), .val .null, .unset] [(.ref b6), (.ref a)])) rfl rfl (hb hby d2_20)
  have P31 := own_step (C := T30.setTop (mkF m 23 #[.val (.ref a), .val (.ref ca), .val (.int (0 : Int32)), .val (.int (0 : Int32)), .val .null, .unset] [(.int (0 : Int32)), (.ref a)])) P29 (fun t_ k_ => st30 t_ k_)
  obtain ⟨T32, h32, X32, e32, W32, st32⟩ := putFN X30 hx hZ6 hown6 (hw _ (List.mem_of_getElem? (i := 21) rfl)) Via.refl e30 f19 f18 (Or.inr ⟨(hw _ (List.mem_of_getElem? (i := 17) rfl)), rfl, hnm⟩) (hw _ (List.mem_of_getElem? (i := 1) rfl)) (ty := .byte) (v' := (.int (0 : Int32).toInt8.toInt32)) (by decide) rfl (fits_nar_byte _) (g := (mkF m 23 #[.val (.ref a), .val (.ref ca), .val (.int (0 : Int32)), .val (.int (0 : Int32)), .val .null, .unset] [(.int (0 : Int32)), (.ref a)])) rfl rfl (hb hby d2_23)
  have f33 := f17.wr W32 ga
  have f34 := f18.wr W32
  have f35 := f19.same W32
  have f36 := f20.other W32 (Or.inr (slot_ne (Or.inr (hw _ (List.mem_of_getElem? (i := 16) rfl))) (Or.inr (hw _ (List.mem_of_getElem? (i := 17) rfl))) (by decide) (t := (.array .byte)) (t' := .byte) (by decide) (by decide)))
  have f37 := f21.wr W32 (Or.inl (List.mem_of_getElem? (i := 0) rfl))
  have f38 := f22.other W32 ne_bv_a
  have f39 := f23.other W32 (Or.inl ne_x_a)
  have f40 := f24.other W32 (Or.inl ne_x_a)
  have Z41 : n0 ≤ h32.size := Nat.le_trans Z25 (Keep.of_wr W32).1
  have kz42 := Nat.le_trans kz26 (Keep.of_wr W32).1
  have N32 := Fr.snoc X32 N16 ga
  have P43 := own_step (C := T32.setTop (mkF m 26 #[.val (.ref a), .val (.ref ca), .val (.int (0 : Int32)), .val (.int (0 : Int32)), .val .null, .unset] [])) P31 (fun t_ k_ => st32 t_ k_)
  obtain ⟨fs, hr, hrun, hended, hW⟩ := X32.leaveW S6 (by rw [e32]; exact kz42) (v := none) (fun _ => rfl)
  refine ⟨_, _, P43 _ ?_, hrun, hended, _, _, rfl, ?_, ⟨hW.1, hW.2.1, hW.2.2.1, hW.2.2.2.mono (by decide) (by decide)⟩⟩
  · exact X32.returnOut hx Bd.returns (hb hby d2_26) hr
  · show Q_initV0 Z _ _ _ h0 n0 _ T32.heap _
    rw [e32]
    exact ⟨bv6, kc6, rfl, N32, f37, f34, f35, f36, f38⟩
theorem ef__initC0 (m : MethodId) (x0 : Addr) (x1 : Addr) : entryFrame m #[(.ref x0), (.ref x1)] 2 = mkF m 0 #[.val (.ref x0), .val (.ref x1)] [] := by first | (simp [entryFrame, mkF, argsToLocals, Value.category]; done) | rfl
def Q_initC0 (Z : State) (a : Addr) (ca : Addr) (ka : ClassId) (cs : Int32) (h0 : Heap) (n0 : Nat) (v_ : Option Value) (h : Heap) (L_ : List Loc) : Prop := ∃ (x : Addr) (kk : ClassId), v_ = none ∧ Fr n0 L_ ∧ Keep h0 h [a] ∧ Exa Z h a "java/lang/String" ∧ Fld Z h a "java/lang/String" "coder" "B" (.int (0 : Int32)) ∧ Fld Z h a "java/lang/String" "value" "[B" (.ref x) ∧ Arv Z h x kk .byte (0 : Int32) [] (.int 0)
set_option maxRecDepth 65536 in
set_option maxHeartbeats 40000000 in
theorem rm_initC0 (l : Launch) (Z : State) (a0 : Array Value) (hw : ∀ d ∈ tables_1, d.before a0 Z = true) (ws : List Jvm.Cond) (a : Addr) (ca : Addr) (ka : ClassId) (cs : Int32) (h0 : Heap) (n0 : Nat) (Z0 : n0 ≤ h0.size) (O : Old Z n0 h0) (Scs : Sta Z Z.heap "java/lang/String" "COMPACT_STRINGS" "Z" (.int cs)) (hcs : ¬ (cs = (0 : Int32))) (hheld : Jvm.Lit.constHeld Z "java/lang/String" 7) (hcw : Jvm.Lit.compactW.before a0 Z = true) (Ea : Exa Z h0 a "java/lang/String") (Fv : Fld Z h0 a "java/lang/String" "value" "[B" .null) (Fc : Fld Z h0 a "java/lang/String" "coder" "B" (.int (0 : Int32))) (ga : n0 ≤ a) (Vs : Arv Z h0 ca ka .char (0 : Int32) [] (.int 0)) :
    MetFree l (⟨"java/lang/String", "<init>", "([C)V"⟩ : MethodName) (head1 (Jvm.Cond.code (⟨"java/lang/String", "<init>", "([C)V"⟩ : MethodName) jdk_42_method_3_code 2 none :: ws) ({ frames := 2, cells := 2, slots := 4, locals := 29 } : Room)) (fun a_ U_ => a_ = #[(.ref a), (.ref ca)] ∧ Z.Warmed39 U_.vm ∧ U_.heap = h0 ∧ IB Z U_.vm []) (fun _ _ _ _ _ => True) (fun _ U_ o_ V_ => ∃ v_ L_, o_ = .returned v_ ∧ Q_initC0 Z a ca ka cs h0 n0 v_ V_.heap L_ ∧ ReturnedEndW U_ o_ V_ L_ ({ frames := 2, cells := 2, slots := 4, locals := 29 } : Room).cells ({ frames := 2, cells := 2, slots := 4, locals := 29 } : Room).slots) := by
  refine MetFree.of_bodySF (plainFor_of_name pn1) hisR ?_
  intro p e s m args below meth c s₁ Bd hml0 hP hK
  obtain ⟨rfl, hZ, hh, hIB⟩ := hP
  have hx := Bd.exec
  have hby := Bd.bytes
  have hml : c.maxLocals = 2 := hml0
  have hown : s.vm.findClass "java/lang/String" = some m.cls := findClass_of_methodNamed Bd.named
  have hnm := (name_of_methodNamed Bd.named Bd.method).1
  have X0 : Stand p l e ({ frames := 2, cells := 2, slots := 4, locals := 29 } : Room) s m #[(.ref a), (.ref ca)] below meth c s₁ [] 0 0 := Stand.of_body Bd
  have e0 : s₁.heap = h0 := by rw [← hh, Bd.state]; rfl
  have N0 := Fr.nil n0
  have pre0 : own_Go p e below (s₁.setTop (entryFrame m #[(.ref a), (.ref ca)] 2)) (s₁.setTop (mkF m 0 #[.val (.ref a), .val (.ref ca)] [])) := fun t_ k_ => castTop (ef__initC0 m a ca) k_
  obtain ⟨clV, ArV, -⟩ := id Vs
  have ne_ca_a : ca ≠ a := Ne.symm (ne_arr Ea (hw _ (List.mem_of_getElem? (i := 1) rfl)) ArV)
  have P1 := own_step (C := s₁.setTop (mkF m 4 #[.val (.ref a), .val (.ref ca)] [(.ref ca), (.int (0 : Int32)), (.ref ca), (.ref a)])) pre0 (by
    intro tt_ kk_
    refine XS.aloadN X0.here hx rfl (hb hby d1_0) rfl rfl ?_
    refine XS.aloadN X0.here hx rfl (hb hby d1_1) rfl rfl ?_
    refine XS.iconst X0.here hx rfl (hb hby d1_2) ?_
    refine XS.aloadN X0.here hx rfl (hb hby d1_3) rfl rfl ?_
    exact kk_)
  obtain ⟨cl2, Ar2, q2, S2, M2, H2, G2⟩ := id Vs
  have P3 := own_step (C := s₁.setTop (mkF m 5 #[.val (.ref a), .val (.ref ca)] [(.int (0 : Int32)), (.int (0 : Int32)), (.ref ca), (.ref a)])) P1 (by
    intro tt_ kk_
    refine X0.arraylength hx (by rw [e0]; exact Ar2.1) (State.isArrayOf_alike hZ.alike Ar2.2.1) (g := (mkF m 4 #[.val (.ref a), .val (.ref ca)] [(.ref ca), (.int (0 : Int32)), (.ref ca), (.ref a)])) rfl rfl (hb hby d1_4) _ ?_
    rw [len_of S2 M2]
    exact kk_)
  have P4 := own_step (C := s₁.setTop (mkF m 6 #[.val (.ref a), .val (.ref ca)] [.null, (.int (0 : Int32)), (.int (0 : Int32)), (.ref ca), (.ref a)])) P3 (by
    intro tt_ kk_
    refine XS.aconstNull X0.here hx rfl (hb hby d1_5) ?_
    exact kk_)
  obtain ⟨_, _, ⟨T5, L5, k5, n5⟩, -, X5, hS5, hgr5, ⟨Lc5, hQ5, l5, y5, z5⟩, st5⟩ := X0.specialBackS hx (y := (⟨"java/lang/String", "<init>", "([CIILjava/lang/Void;)V"⟩ : MethodName)) rfl hown (mvT hZ (hw _ (List.mem_of_getElem? (i := 7) rfl))) (mvT hZ (hw _ (List.mem_of_getElem? (i := 8) rfl))) (mvT hZ (hw _ (List.mem_of_getElem? (i := 10) rfl))) (by decide) (own_backI (W := 0) (rm_initV0 l Z a0 hw [] a ca cs h0 n0 Z0 O Scs hcs hheld hcw Ea Fv Fc ga) hZ hIB (hw _ (List.mem_of_getElem? (i := 10) rfl)) (hw _ (List.mem_of_getElem? (i := 2) rfl)) (by decide) (by decide)) (g := (mkF m 6 #[.val (.ref a), .val (.ref ca)] [.null, (.int (0 : Int32)), (.int (0 : Int32)), (.ref ca), (.ref a)])) rfl (by rw [hml]; rfl) (Steps.refl _) (a := a) (argsL := [(.ref ca), (.int (0 : Int32)), (.int (0 : Int32)), .null]) (rest := []) (lenOf pd15 rfl) rfl (by show 2 * 0 + _ ≤ _; exact Nat.le_of_eq rfl) (hb hby d1_6) (fun _ _ => ⟨rfl, e0, (by decide : 0 + 2 ≤ _), (by decide : 0 + 4 ≤ _)⟩)
  dsimp only [Pt.U, Pt.locs, Pt.cells, Pt.slots] at X5 l5 y5 z5 st5 hQ5 hS5 hgr5
  subst l5 y5 z5
  have hZw5 : Z.Warmed39 T5.vm := State.Warmed39.trans (t := s) hZ hS5.1
  have hownw5 : T5.vm.findClass "java/lang/String" = some m.cls := by rw [hS5.1.alike.findClass]; exact hown
  obtain ⟨x5, kk5, rfl, N5q, K5, f6, f7, f8, f9⟩ := hQ5
  have N5 := Fr.app N0 N5q
  have f10 := O.keep K5 (allS ga all0)
  have f11 := Ea.keep K5
  have f14 := (Keep.refl h0 [a]).trans K5 (allS (Or.inl (List.mem_of_getElem? (i := 0) rfl)) all0)
  have f15 := Vs.keep K5 (ninS ne_ca_a nin0)
  have Z16 : n0 ≤ T5.heap.size := Nat.le_trans Z0 K5.1
  have P17 := own_step (C := T5.setTop (mkF m 9 #[.val (.ref a), .val (.ref ca)] [])) P4 (fun t_ k_ => st5.trans k_)
  obtain ⟨fs, hr, hrun, hended, hW⟩ := X5.leaveW hS5 (Nat.le_refl T5.heap.size) (v := none) (fun _ => rfl)
  refine ⟨_, _, P17 _ ?_, hrun, hended, _, _, rfl, ?_, ⟨hW.1, hW.2.1, hW.2.2.1, hW.2.2.2.mono (by decide) (by decide)⟩⟩
  · exact X5.returnOut hx Bd.returns (hb hby d1_9) hr
  · show Q_initC0 Z _ _ _ _ h0 n0 _ T5.heap _
    exact ⟨x5, kk5, rfl, N5, f14, f6, f7, f8, f9⟩
theorem own_len (x : Int32) : 0 ≤ ((x &&& (7 : Int32)) % (5 : Int32)).toInt ∧ ((x &&& (7 : Int32)) % (5 : Int32)).toInt < 5 := by
  have h1 := c_mask x 7 3 (by decide) (by decide +kernel); have h2 := (c_irem (x &&& (7 : Int32)) 5 5 rfl).1 (by rw [h1]; omega)
  omega
theorem own_four {nn : Int32} (g : 0 ≤ nn.toInt ∧ nn.toInt < 5) (a : ¬ (nn = (0 : Int32))) (b : ¬ (nn = (1 : Int32))) (c : ¬ (nn = (2 : Int32))) (d : ¬ (nn = (3 : Int32))) : nn = (4 : Int32) := by
  simp only [← Int32.toInt_inj, show (0 : Int32).toInt = 0 from rfl, show (1 : Int32).toInt = 1 from rfl, show (2 : Int32).toInt = 2 from rfl, show (3 : Int32).toInt = 3 from rfl, show (4 : Int32).toInt = 4 from rfl] at *; omega
theorem own_okI (c : Int32) : own_ok c = (0 : Int32) ↔ (c < (33 : Int32) ∨ (126 : Int32) < c ∨ c = (34 : Int32) ∨ c = (92 : Int32)) := by
  unfold own_ok
  simp only [Int32.lt_iff_toInt_lt, ← Int32.toInt_inj (x := c), show (32 : Int32).toInt = 32 from rfl, show (33 : Int32).toInt = 33 from rfl, show (126 : Int32).toInt = 126 from rfl, show (34 : Int32).toInt = 34 from rfl, show (92 : Int32).toInt = 92 from rfl]
  repeat' split
  all_goals first | (simp only [true_iff]; omega) | (simp only [show ((1 : Int32) = (0 : Int32)) = False from by decide, false_iff]; omega)
theorem own_st (c t : Int32) : (if c < (33 : Int32) then (0 : Int32) else (if (126 : Int32) < c then (0 : Int32) else (if c = (34 : Int32) then (0 : Int32) else (if c = (92 : Int32) then (0 : Int32) else t)))) = if own_ok c = (0 : Int32) then (0 : Int32) else t := by
  by_cases h : own_ok c = (0 : Int32)
  · rw [if_pos h]; rw [own_okI] at h
    repeat' split
    all_goals first | rfl | (exfalso; rcases h with h | h | h | h <;> contradiction)
  · rw [if_neg h]; rw [own_okI] at h
    rw [if_neg (fun q => h (Or.inl q)), if_neg (fun q => h (Or.inr (Or.inl q))), if_neg (fun q => h (Or.inr (Or.inr (Or.inl q)))), if_neg (fun q => h (Or.inr (Or.inr (Or.inr q))))]
theorem own_e1_10 {cA : Int32} (GcA : own_C cA)  (h0 : own_ok cA = (0 : Int32)) : own_tok1 (nar .char cA) = (0 : Int32) := by
  unfold own_tok1; rw [own_nC GcA]
  rw [own_st]
  rw [if_pos h0]
theorem own_e1_1 {cA : Int32} (GcA : own_C cA) (h0 : ¬ (own_ok cA = (0 : Int32))) : own_tok1 (nar .char cA) = (1 : Int32) := by
  unfold own_tok1; rw [own_nC GcA]
  rw [own_st]
  rw [if_neg h0]
theorem own_e2_10 {cA cB : Int32} (GcA : own_C cA) (GcB : own_C cB)  (h0 : own_ok cA = (0 : Int32)) : own_tok2 (nar .char cA) (nar .char cB) = (0 : Int32) := by
  unfold own_tok2; rw [own_nC GcA, own_nC GcB]
  rw [own_st, own_st]
  rw [if_pos h0]
theorem own_e2_11 {cA cB : Int32} (GcA : own_C cA) (GcB : own_C cB) (h0 : ¬ (own_ok cA = (0 : Int32))) (h1 : own_ok cB = (0 : Int32)) : own_tok2 (nar .char cA) (nar .char cB) = (0 : Int32) := by
  unfold own_tok2; rw [own_nC GcA, own_nC GcB]
  rw [own_st, own_st]
  rw [if_neg h0, if_pos h1]
theorem own_e2_2 {cA cB : Int32} (GcA : own_C cA) (GcB : own_C cB) (h0 : ¬ (own_ok cA = (0 : Int32))) (h1 : ¬ (own_ok cB = (0 : Int32))) : own_tok2 (nar .char cA) (nar .char cB) = (1 : Int32) := by
  unfold own_tok2; rw [own_nC GcA, own_nC GcB]
  rw [own_st, own_st]
  rw [if_neg h0, if_neg h1]
theorem own_e3_10 {cA cB cC : Int32} (GcA : own_C cA) (GcB : own_C cB) (GcC : own_C cC)  (h0 : own_ok cA = (0 : Int32)) : own_tok3 (nar .char cA) (nar .char cB) (nar .char cC) = (0 : Int32) := by
  unfold own_tok3; rw [own_nC GcA, own_nC GcB, own_nC GcC]
  rw [own_st, own_st, own_st]
  rw [if_pos h0]
theorem own_e3_11 {cA cB cC : Int32} (GcA : own_C cA) (GcB : own_C cB) (GcC : own_C cC) (h0 : ¬ (own_ok cA = (0 : Int32))) (h1 : own_ok cB = (0 : Int32)) : own_tok3 (nar .char cA) (nar .char cB) (nar .char cC) = (0 : Int32) := by
  unfold own_tok3; rw [own_nC GcA, own_nC GcB, own_nC GcC]
  rw [own_st, own_st, own_st]
  rw [if_neg h0, if_pos h1]
theorem own_e3_12 {cA cB cC : Int32} (GcA : own_C cA) (GcB : own_C cB) (GcC : own_C cC) (h0 : ¬ (own_ok cA = (0 : Int32))) (h1 : ¬ (own_ok cB = (0 : Int32))) (h2 : own_ok cC = (0 : Int32)) : own_tok3 (nar .char cA) (nar .char cB) (nar .char cC) = (0 : Int32) := by
  unfold own_tok3; rw [own_nC GcA, own_nC GcB, own_nC GcC]
  rw [own_st, own_st, own_st]
  rw [if_neg h0, if_neg h1, if_pos h2]
theorem own_e3_3 {cA cB cC : Int32} (GcA : own_C cA) (GcB : own_C cB) (GcC : own_C cC) (h0 : ¬ (own_ok cA = (0 : Int32))) (h1 : ¬ (own_ok cB = (0 : Int32))) (h2 : ¬ (own_ok cC = (0 : Int32))) : own_tok3 (nar .char cA) (nar .char cB) (nar .char cC) = (1 : Int32) := by
  unfold own_tok3; rw [own_nC GcA, own_nC GcB, own_nC GcC]
  rw [own_st, own_st, own_st]
  rw [if_neg h0, if_neg h1, if_neg h2]
theorem own_e4_10 {cA cB cC cD : Int32} (GcA : own_C cA) (GcB : own_C cB) (GcC : own_C cC) (GcD : own_C cD)  (h0 : own_ok cA = (0 : Int32)) : own_tok4 (nar .char cA) (nar .char cB) (nar .char cC) (nar .char cD) = (0 : Int32) := by
  unfold own_tok4; rw [own_nC GcA, own_nC GcB, own_nC GcC, own_nC GcD]
  rw [own_st, own_st, own_st, own_st]
  rw [if_pos h0]
theorem own_e4_11 {cA cB cC cD : Int32} (GcA : own_C cA) (GcB : own_C cB) (GcC : own_C cC) (GcD : own_C cD) (h0 : ¬ (own_ok cA = (0 : Int32))) (h1 : own_ok cB = (0 : Int32)) : own_tok4 (nar .char cA) (nar .char cB) (nar .char cC) (nar .char cD) = (0 : Int32) := by
  unfold own_tok4; rw [own_nC GcA, own_nC GcB, own_nC GcC, own_nC GcD]
  rw [own_st, own_st, own_st, own_st]
  rw [if_neg h0, if_pos h1]
theorem own_e4_12 {cA cB cC cD : Int32} (GcA : own_C cA) (GcB : own_C cB) (GcC : own_C cC) (GcD : own_C cD) (h0 : ¬ (own_ok cA = (0 : Int32))) (h1 : ¬ (own_ok cB = (0 : Int32))) (h2 : own_ok cC = (0 : Int32)) : own_tok4 (nar .char cA) (nar .char cB) (nar .char cC) (nar .char cD) = (0 : Int32) := by
  unfold own_tok4; rw [own_nC GcA, own_nC GcB, own_nC GcC, own_nC GcD]
  rw [own_st, own_st, own_st, own_st]
  rw [if_neg h0, if_neg h1, if_pos h2]
theorem own_e4_13 {cA cB cC cD : Int32} (GcA : own_C cA) (GcB : own_C cB) (GcC : own_C cC) (GcD : own_C cD) (h0 : ¬ (own_ok cA = (0 : Int32))) (h1 : ¬ (own_ok cB = (0 : Int32))) (h2 : ¬ (own_ok cC = (0 : Int32))) (h3 : own_ok cD = (0 : Int32)) : own_tok4 (nar .char cA) (nar .char cB) (nar .char cC) (nar .char cD) = (0 : Int32) := by
  unfold own_tok4; rw [own_nC GcA, own_nC GcB, own_nC GcC, own_nC GcD]
  rw [own_st, own_st, own_st, own_st]
  rw [if_neg h0, if_neg h1, if_neg h2, if_pos h3]
theorem own_e4_4 {cA cB cC cD : Int32} (GcA : own_C cA) (GcB : own_C cB) (GcC : own_C cC) (GcD : own_C cD) (h0 : ¬ (own_ok cA = (0 : Int32))) (h1 : ¬ (own_ok cB = (0 : Int32))) (h2 : ¬ (own_ok cC = (0 : Int32))) (h3 : ¬ (own_ok cD = (0 : Int32))) : own_tok4 (nar .char cA) (nar .char cB) (nar .char cC) (nar .char cD) = (1 : Int32) := by
  unfold own_tok4; rw [own_nC GcA, own_nC GcB, own_nC GcC, own_nC GcD]
  rw [own_st, own_st, own_st, own_st]
  rw [if_neg h0, if_neg h1, if_neg h2, if_neg h3]

theorem pd16 : parseMethodDescriptor "([C)V" = some ⟨[(.array .char)], none⟩ := by decide +kernel
theorem pd17 : parseMethodDescriptor "(Ljava/lang/String;)Z" = some ⟨[(.object "java/lang/String")], some .boolean⟩ := by decide +kernel
theorem pd18 : parseMethodDescriptor "(C)Z" = some ⟨[.char], some .boolean⟩ := by decide +kernel
theorem ef_0 (m : MethodId) (x0 : Int32) (x1 : Int32) (x2 : Int32) (x3 : Int32) (x4 : Int32) : entryFrame m #[(.int x0), (.int x1), (.int x2), (.int x3), (.int x4)] maxLocals = mkF m 0 #[.val (.int x0), .val (.int x1), .val (.int x2), .val (.int x3), .val (.int x4), .unset, .unset, .unset, .unset, .unset, .unset, .unset] [] := by first | (simp [entryFrame, mkF, argsToLocals, Value.category, maxLocals]; done) | rfl
def Q0 (Z : State) (an : Int32) (aw : Int32) (ax : Int32) (ay : Int32) (az : Int32) (fm : Value) (cs : Int32) (h0 : Heap) (n0 : Nat) (v_ : Option Value) (h : Heap) (L_ : List Loc) : Prop := v_ = some (.int 1) ∧ Fr n0 L_
set_option maxRecDepth 65536 in
set_option maxHeartbeats 40000000 in
theorem rm0 (l : Launch) (Z : State) (a0 : Array Value) (hw : ∀ d ∈ tables_1, d.before a0 Z = true) (ws : List Jvm.Cond) (an : Int32) (aw : Int32) (ax : Int32) (ay : Int32) (az : Int32) (fm : Value) (cs : Int32) (h0 : Heap) (n0 : Nat) (Z0 : n0 ≤ h0.size) (O : Old Z n0 h0) (Scs : Sta Z Z.heap "java/lang/String" "COMPACT_STRINGS" "Z" (.int cs)) (hcs : ¬ (cs = (0 : Int32))) (Sad : Sta Z Z.heap "java/lang/StringUTF16" "$assertionsDisabled" "Z" (.int (1 : Int32))) (Shi : Sta Z Z.heap "java/lang/StringUTF16" "HI_BYTE_SHIFT" "I" (.int (0 : Int32))) (Slo : Sta Z Z.heap "java/lang/StringUTF16" "LO_BYTE_SHIFT" "I" (.int (8 : Int32))) (Sfm : Sta Z Z.heap "jdk/internal/util/Preconditions" "SIOOBE_FORMATTER" "Ljava/util/function/BiFunction;" fm) (hfm : fm.category = 1) (hheld : Jvm.Lit.constHeld Z "java/lang/String" 7) (hcw : Jvm.Lit.compactW.before a0 Z = true) :
    MetFree l x (head1 (Jvm.Cond.code x code maxLocals ret :: ws) room_1) (fun a_ U_ => a_ = #[(.int an), (.int aw), (.int ax), (.int ay), (.int az)] ∧ Z.Warmed39 U_.vm ∧ U_.heap = h0 ∧ IB Z U_.vm []) (fun _ _ _ _ _ => True) (fun _ U_ o_ V_ => ∃ v_ L_, o_ = .returned v_ ∧ Q0 Z an aw ax ay az fm cs h0 n0 v_ V_.heap L_ ∧ ReturnedEndW U_ o_ V_ L_ room_1.cells room_1.slots) := by
  refine MetFree.of_bodySF (plainFor_of_name pn0) hisR ?_
  intro p e s m args below meth c s₁ Bd hml0 hP hK
  obtain ⟨rfl, hZ, hh, hIB⟩ := hP
  have hx := Bd.exec
  have hby := Bd.bytes
  have hml : c.maxLocals = 12 := hml0
  have hown : s.vm.findClass "com/example/issuant/issuant/config/ScopesIsTokenPinLaw" = some m.cls := findClass_of_methodNamed Bd.named
  have hnm := (name_of_methodNamed Bd.named Bd.method).1
  have X0 : Stand p l e room_1 s m #[(.int an), (.int aw), (.int ax), (.int ay), (.int az)] below meth c s₁ [] 0 0 := Stand.of_body Bd
  have e0 : s₁.heap = h0 := by rw [← hh, Bd.state]; rfl
  have N0 := Fr.nil n0
  have pre0 : own_Go p e below (s₁.setTop (entryFrame m #[(.int an), (.int aw), (.int ax), (.int ay), (.int az)] maxLocals)) (s₁.setTop (mkF m 0 #[.val (.int an), .val (.int aw), .val (.int ax), .val (.int ay), .val (.int az), .unset, .unset, .unset, .unset, .unset, .unset, .unset] [])) := fun t_ k_ => castTop (ef_0 m an aw ax ay az) k_
  have P1 := own_step (C := s₁.setTop (mkF m 25 #[.val (.int an), .val (.int aw), .val (.int ax), .val (.int ay), .val (.int az), .val (.int ((an &&& (7 : Int32)) % (5 : Int32))), .val (.int (aw.toUInt32.toUInt16.toUInt32.toInt32)), .val (.int (ax.toUInt32.toUInt16.toUInt32.toInt32)), .val (.int (ay.toUInt32.toUInt16.toUInt32.toInt32)), .val (.int (az.toUInt32.toUInt16.toUInt32.toInt32)), .unset, .unset] [])) pre0 (by
    intro tt_ kk_
    refine XS.iloadN X0.here hx rfl (hb hby at_0) rfl ?_
    refine XS.bipush X0.here hx rfl (hb hby at_1) ?_
    refine XS.iand X0.here hx rfl (hb hby at_3) rfl ?_
    refine XS.iconst X0.here hx rfl (hb hby at_4) ?_
    refine iremM X0 hx rfl (hb hby at_5) rfl (by decide) ?_
    refine XS.istore X0.here hx rfl (hb hby at_6) rfl (l' := #[.val (.int an), .val (.int aw), .val (.int ax), .val (.int ay), .val (.int az), .val (.int ((an &&& (7 : Int32)) % (5 : Int32))), .unset, .unset, .unset, .unset, .unset, .unset]) rfl ?_
    refine XS.iloadN X0.here hx rfl (hb hby at_8) rfl ?_
    refine XS.i2c X0.here hx rfl (hb hby at_9) rfl ?_
    refine XS.istore X0.here hx rfl (hb hby at_10) rfl (l' := #[.val (.int an), .val (.int aw), .val (.int ax), .val (.int ay), .val (.int az), .val (.int ((an &&& (7 : Int32)) % (5 : Int32))), .val (.int (aw.toUInt32.toUInt16.toUInt32.toInt32)), .unset, .unset, .unset, .unset, .unset]) rfl ?_
    refine XS.iloadN X0.here hx rfl (hb hby at_12) rfl ?_
    refine XS.i2c X0.here hx rfl (hb hby at_13) rfl ?_
    refine XS.istore X0.here hx rfl (hb hby at_14) rfl (l' := #[.val (.int an), .val (.int aw), .val (.int ax), .val (.int ay), .val (.int az), .val (.int ((an &&& (7 : Int32)) % (5 : Int32))), .val (.int (aw.toUInt32.toUInt16.toUInt32.toInt32)), .val (.int (ax.toUInt32.toUInt16.toUInt32.toInt32)), .unset, .unset, .unset, .unset]) rfl ?_
    refine XS.iloadN X0.here hx rfl (hb hby at_16) rfl ?_
    refine XS.i2c X0.here hx rfl (hb hby at_17) rfl ?_
    refine XS.istore X0.here hx rfl (hb hby at_18) rfl (l' := #[.val (.int an), .val (.int aw), .val (.int ax), .val (.int ay), .val (.int az), .val (.int ((an &&& (7 : Int32)) % (5 : Int32))), .val (.int (aw.toUInt32.toUInt16.toUInt32.toInt32)), .val (.int (ax.toUInt32.toUInt16.toUInt32.toInt32)), .val (.int (ay.toUInt32.toUInt16.toUInt32.toInt32)), .unset, .unset, .unset]) rfl ?_
    refine XS.iload X0.here hx rfl (hb hby at_20) rfl ?_
    refine XS.i2c X0.here hx rfl (hb hby at_22) rfl ?_
    refine XS.istore X0.here hx rfl (hb hby at_23) rfl (l' := #[.val (.int an), .val (.int aw), .val (.int ax), .val (.int ay), .val (.int az), .val (.int ((an &&& (7 : Int32)) % (5 : Int32))), .val (.int (aw.toUInt32.toUInt16.toUInt32.toInt32)), .val (.int (ax.toUInt32.toUInt16.toUInt32.toInt32)), .val (.int (ay.toUInt32.toUInt16.toUInt32.toInt32)), .val (.int (az.toUInt32.toUInt16.toUInt32.toInt32)), .unset, .unset]) rfl ?_
    exact kk_)
  obtain ⟨cA, hcA, P2⟩ := own_name (F := fun z => s₁.setTop (mkF m 25 #[.val (.int an), .val (.int aw), .val (.int ax), .val (.int ay), .val (.int az), .val (.int ((an &&& (7 : Int32)) % (5 : Int32))), .val (.int z), .val (.int (ax.toUInt32.toUInt16.toUInt32.toInt32)), .val (.int (ay.toUInt32.toUInt16.toUInt32.toInt32)), .val (.int (az.toUInt32.toUInt16.toUInt32.toInt32)), .unset, .unset] [])) (aw.toUInt32.toUInt16.toUInt32.toInt32) P1
  obtain ⟨cB, hcB, P3⟩ := own_name (F := fun z => s₁.setTop (mkF m 25 #[.val (.int an), .val (.int aw), .val (.int ax), .val (.int ay), .val (.int az), .val (.int ((an &&& (7 : Int32)) % (5 : Int32))), .val (.int cA), .val (.int z), .val (.int (ay.toUInt32.toUInt16.toUInt32.toInt32)), .val (.int (az.toUInt32.toUInt16.toUInt32.toInt32)), .unset, .unset] [])) (ax.toUInt32.toUInt16.toUInt32.toInt32) P2
  obtain ⟨cC, hcC, P4⟩ := own_name (F := fun z => s₁.setTop (mkF m 25 #[.val (.int an), .val (.int aw), .val (.int ax), .val (.int ay), .val (.int az), .val (.int ((an &&& (7 : Int32)) % (5 : Int32))), .val (.int cA), .val (.int cB), .val (.int z), .val (.int (az.toUInt32.toUInt16.toUInt32.toInt32)), .unset, .unset] [])) (ay.toUInt32.toUInt16.toUInt32.toInt32) P3
  obtain ⟨cD, hcD, P5⟩ := own_name (F := fun z => s₁.setTop (mkF m 25 #[.val (.int an), .val (.int aw), .val (.int ax), .val (.int ay), .val (.int az), .val (.int ((an &&& (7 : Int32)) % (5 : Int32))), .val (.int cA), .val (.int cB), .val (.int cC), .val (.int z), .unset, .unset] [])) (az.toUInt32.toUInt16.toUInt32.toInt32) P4
  obtain ⟨ln, hln, P6⟩ := own_name (F := fun z => s₁.setTop (mkF m 25 #[.val (.int an), .val (.int aw), .val (.int ax), .val (.int ay), .val (.int az), .val (.int z), .val (.int cA), .val (.int cB), .val (.int cC), .val (.int cD), .unset, .unset] [])) ((an &&& (7 : Int32)) % (5 : Int32)) P5
  have GcA : own_C cA := by rw [hcA]; exact own_i2c _
  have GcB : own_C cB := by rw [hcB]; exact own_i2c _
  have GcC : own_C cC := by rw [hcC]; exact own_i2c _
  have GcD : own_C cD := by rw [hcD]; exact own_i2c _
  have gln : 0 ≤ ln.toInt ∧ ln.toInt < 5 := by rw [hln]; exact own_len _
  have P7 := own_step (C := s₁.setTop (mkF m 27 #[.val (.int an), .val (.int aw), .val (.int ax), .val (.int ay), .val (.int az), .val (.int ln), .val (.int cA), .val (.int cB), .val (.int cC), .val (.int cD), .unset, .unset] [(.int ln)])) P6 (by
    intro tt_ kk_
    refine XS.iload X0.here hx rfl (hb hby at_25) rfl ?_
    exact kk_)
  by_cases c8 : ln = (0 : Int32)
  · have P9 := own_step (C := s₁.setTop (mkF m 30 #[.val (.int an), .val (.int aw), .val (.int ax), .val (.int ay), .val (.int az), .val (.int ln), .val (.int cA), .val (.int cB), .val (.int cC), .val (.int cD), .unset, .unset] [])) P7 (by
      intro tt_ kk_
      refine XS.ifNo X0.here hx rfl (hb hby at_27) rfl ((if0 _ _).trans (teq c8).2) ?_
      exact kk_)
    clear hln gln
    subst c8
    have P10 := own_step (C := s₁.setTop (mkF m 30 #[.val (.int an), .val (.int aw), .val (.int ax), .val (.int ay), .val (.int az), .val (.int (0 : Int32)), .val (.int cA), .val (.int cB), .val (.int cC), .val (.int cD), .unset, .unset] [])) P9 (fun t_ k_ => k_)
    obtain ⟨T11, h11, X11, e11, E11, A11, D11, -, st11⟩ := newO X0 hx hZ hown (hw _ (List.mem_of_getElem? (i := 0) rfl)) (hw _ (List.mem_of_getElem? (i := 1) rfl)) (hw _ (List.mem_of_getElem? (i := 2) rfl)) e0 (g := (mkF m 30 #[.val (.int an), .val (.int aw), .val (.int ax), .val (.int ay), .val (.int az), .val (.int (0 : Int32)), .val (.int cA), .val (.int cB), .val (.int cC), .val (.int cD), .unset, .unset] [])) rfl (hb hby at_30) (by decide) (by decide)
    obtain ⟨b11, g11⟩ : ∃ z, z = h0.size := ⟨_, rfl⟩
    rw [← g11] at A11 D11 st11
    have g_b11 : n0 ≤ b11 := Nat.le_trans Z0 (Nat.le_of_eq g11.symm)
    have f12 := O.ext E11
    have Z13 : n0 ≤ h11.size := Nat.le_trans Z0 E11.1
    have f14 : Fld Z h11 b11 "java/lang/String" "value" "[B" .null := D11 (Or.inr (hw _ (List.mem_of_getElem? (i := 16) rfl))) (ty := (.array .byte)) (by decide)
    have f15 : Fld Z h11 b11 "java/lang/String" "coder" "B" (.int (0 : Int32)) := D11 (Or.inr (hw _ (List.mem_of_getElem? (i := 17) rfl))) (ty := .byte) (by decide)
    have P16 := own_step (C := T11.setTop (mkF m 33 #[.val (.int an), .val (.int aw), .val (.int ax), .val (.int ay), .val (.int az), .val (.int (0 : Int32)), .val (.int cA), .val (.int cB), .val (.int cC), .val (.int cD), .unset, .unset] [(.ref b11)])) P10 (fun t_ k_ => st11 t_ k_)
    have P17 := own_step (C := T11.setTop (mkF m 35 #[.val (.int an), .val (.int aw), .val (.int ax), .val (.int ay), .val (.int az), .val (.int (0 : Int32)), .val (.int cA), .val (.int cB), .val (.int cC), .val (.int cD), .unset, .unset] [(.int (0 : Int32)), (.ref b11), (.ref b11)])) P16 (by
      intro tt_ kk_
      refine XS.dup X11.here hx rfl (hb hby at_33) rfl rfl ?_
      refine XS.iconst X11.here hx rfl (hb hby at_34) ?_
      exact kk_)
    obtain ⟨T18, h18, k18, X18, e18, E18, A18, st18⟩ := newP X11 hx hZ (hw _ (List.mem_of_getElem? (i := 3) rfl)) e11 (g := (mkF m 35 #[.val (.int an), .val (.int aw), .val (.int ax), .val (.int ay), .val (.int az), .val (.int (0 : Int32)), .val (.int cA), .val (.int cB), .val (.int cC), .val (.int cD), .unset, .unset] [(.int (0 : Int32)), (.ref b11), (.ref b11)])) rfl (hb hby at_35) rfl (by decide) (cap := 0) (by decide) (by decide) (by decide) (by decide)
    obtain ⟨b18, g18⟩ : ∃ z, z = h11.size := ⟨_, rfl⟩
    rw [← g18] at A18 st18
    have ne_b11_b18 : b11 ≠ b18 := Nat.ne_of_lt (Nat.lt_of_lt_of_le A11.lt (Nat.le_of_eq g18.symm))
    have g_b18 : n0 ≤ b18 := Nat.le_trans Z13 (Nat.le_of_eq g18.symm)
    have f19 := f12.ext E18
    have f20 := A11.ext E18
    have f21 := f14.ext E18
    have f22 := f15.ext E18
    have Z23 : n0 ≤ h18.size := Nat.le_trans Z13 E18.1
    have V18 : Arv Z h18 b18 k18 .char (0 : Int32) [] (.int (0 : Int32)) := (Arv.new A18 (by decide)).pad (pad_rep [] _ 0)
    have P24 := own_step (C := T18.setTop (mkF m 37 #[.val (.int an), .val (.int aw), .val (.int ax), .val (.int ay), .val (.int az), .val (.int (0 : Int32)), .val (.int cA), .val (.int cB), .val (.int cC), .val (.int cD), .unset, .unset] [(.ref b18), (.ref b11), (.ref b11)])) P17 (fun t_ k_ => st18 t_ k_)
    obtain ⟨_, _, ⟨T25, L25, k25, n25⟩, -, X25, hS25, hgr25, ⟨Lc25, hQ25, l25, y25, z25⟩, st25⟩ := X18.specialBackS hx (y := (⟨"java/lang/String", "<init>", "([C)V"⟩ : MethodName)) rfl hown (mvT hZ (hw _ (List.mem_of_getElem? (i := 4) rfl))) (mvT hZ (hw _ (List.mem_of_getElem? (i := 5) rfl))) (mvT hZ (hw _ (List.mem_of_getElem? (i := 6) rfl))) (by decide) (own_backI (W := 1) (rm_initC0 l Z a0 hw [] b11 b18 k18 cs h18 n0 Z23 f19 Scs hcs hheld hcw f20 f21 f22 g_b11 V18) hZ hIB (hw _ (List.mem_of_getElem? (i := 6) rfl)) (hw _ (List.mem_of_getElem? (i := 2) rfl)) (by decide) (by decide)) (g := (mkF m 37 #[.val (.int an), .val (.int aw), .val (.int ax), .val (.int ay), .val (.int az), .val (.int (0 : Int32)), .val (.int cA), .val (.int cB), .val (.int cC), .val (.int cD), .unset, .unset] [(.ref b18), (.ref b11), (.ref b11)])) rfl (by rw [hml]; rfl) (Steps.refl _) (a := b11) (argsL := [(.ref b18)]) (rest := [(.ref b11)]) (lenOf pd16 rfl) rfl (by show 2 * 0 + _ ≤ _; exact Nat.le_of_eq rfl) (hb hby at_37) (fun _ _ => ⟨rfl, e18, (by decide : 2 + 2 ≤ _), (by decide : 4 + 4 ≤ _)⟩)
    dsimp only [Pt.U, Pt.locs, Pt.cells, Pt.slots] at X25 l25 y25 z25 st25 hQ25 hS25 hgr25
    subst l25 y25 z25
    have hZw25 : Z.Warmed39 T25.vm := State.Warmed39.trans (t := s) hZ hS25.1
    have hownw25 : T25.vm.findClass "com/example/issuant/issuant/config/ScopesIsTokenPinLaw" = some m.cls := by rw [hS25.1.alike.findClass]; exact hown
    obtain ⟨x25, kk25, rfl, N25q, K25, f26, f27, f28, f29⟩ := hQ25
    have N25 := Fr.app N0 N25q
    have f30 := f19.keep K25 (allS g_b11 all0)
    have f31 := f20.keep K25
    have f34 := V18.keep K25 (ninS (Ne.symm ne_b11_b18) nin0)
    have Z35 : n0 ≤ T25.heap.size := Nat.le_trans Z23 K25.1
    have P36 := own_step (C := T25.setTop (mkF m 40 #[.val (.int an), .val (.int aw), .val (.int ax), .val (.int ay), .val (.int az), .val (.int (0 : Int32)), .val (.int cA), .val (.int cB), .val (.int cC), .val (.int cD), .unset, .unset] [(.ref b11)])) P24 (fun t_ k_ => st25.trans k_)
    have P37 := own_step (C := T25.setTop (mkF m 173 #[.val (.int an), .val (.int aw), .val (.int ax), .val (.int ay), .val (.int az), .val (.int (0 : Int32)), .val (.int cA), .val (.int cB), .val (.int cC), .val (.int cD), .val (.ref b11), .unset] [(.int (1 : Int32)), (.int (0 : Int32))])) P36 (by
      intro tt_ kk_
      refine XS.astore X25.here hx rfl (hb hby at_40) rfl rfl (l' := #[.val (.int an), .val (.int aw), .val (.int ax), .val (.int ay), .val (.int az), .val (.int (0 : Int32)), .val (.int cA), .val (.int cB), .val (.int cC), .val (.int cD), .val (.ref b11), .unset]) rfl ?_
      refine XS.goto X25.here hx rfl (pc0 := 42) (pc' := 170) rfl (hb hby at_42) (by decide) (by decide) ?_
      refine XS.iload X25.here hx rfl (hb hby at_170) rfl ?_
      refine XS.iconst X25.here hx rfl (hb hby at_172) ?_
      exact kk_)
    have P38 := own_step (C := T25.setTop (mkF m 235 #[.val (.int an), .val (.int aw), .val (.int ax), .val (.int ay), .val (.int az), .val (.int (0 : Int32)), .val (.int cA), .val (.int cB), .val (.int cC), .val (.int cD), .val (.ref b11), .val (.int (0 : Int32))] [(.ref b11)])) P37 (by
      intro tt_ kk_
      refine XS.icmpYes X25.here hx rfl (pc0 := 173) (pc' := 230) rfl (hb hby at_173) rfl (tlt (by decide : (0 : Int32) < (1 : Int32))).1 (by decide) (by decide) ?_
      refine XS.iconst X25.here hx rfl (hb hby at_230) ?_
      refine XS.istore X25.here hx rfl (hb hby at_231) rfl (l' := #[.val (.int an), .val (.int aw), .val (.int ax), .val (.int ay), .val (.int az), .val (.int (0 : Int32)), .val (.int cA), .val (.int cB), .val (.int cC), .val (.int cD), .val (.ref b11), .val (.int (0 : Int32))]) rfl ?_
      refine XS.aload X25.here hx rfl (hb hby at_233) rfl rfl ?_
      exact kk_)
    obtain ⟨_, _, ⟨T39, L39, k39, n39⟩, -, X39, ⟨Lc39, hQ39, l39, y39, z39⟩, st39⟩ := Jvm.LawKit.callS X25 hx (y := (⟨"com/example/issuant/issuant/config/Scopes", "isToken", "(Ljava/lang/String;)Z"⟩ : MethodName)) hownw25 (mvT hZw25 (hw _ (List.mem_of_getElem? (i := 22) rfl))) (mvT hZw25 (hw _ (List.mem_of_getElem? (i := 23) rfl))) (mvT hZw25 (hw _ (List.mem_of_getElem? (i := 24) rfl))) (mvT hZw25 (hw _ (List.mem_of_getElem? (i := 25) rfl))) (by decide) (backOf (W := 0) (rm_tok0 l Z a0 hw [] b11 x25 kk25 fm cs T25.heap n0 Z35 f30 Scs hcs Sad Shi Slo Sfm hfm f28 f29 f26) hZw25 (hw _ (List.mem_of_getElem? (i := 25) rfl)) (hw _ (List.mem_of_getElem? (i := 24) rfl)) (by decide) (by decide)) (g := (mkF m 235 #[.val (.int an), .val (.int aw), .val (.int ax), .val (.int ay), .val (.int az), .val (.int (0 : Int32)), .val (.int cA), .val (.int cB), .val (.int cC), .val (.int cD), .val (.ref b11), .val (.int (0 : Int32))] [(.ref b11)])) rfl (by rw [hml]; rfl) (argsL := [(.ref b11)]) (rest := []) (lenOf pd17 rfl) rfl (by show 2 * 0 + _ ≤ _; exact Nat.le_of_eq rfl) (hb hby at_235) (fun _ _ => ⟨rfl, rfl, (by decide : 4 + 0 ≤ _), (by decide : 8 + 0 ≤ _)⟩)
    dsimp only [Pt.U, Pt.locs, Pt.cells, Pt.slots] at X39 l39 y39 z39 st39 hQ39
    subst l39 y39 z39
    obtain ⟨rfl, N39q, e39⟩ := hQ39
    have N39 := Fr.app N25 N39q
    have P40 := own_step (C := T39.setTop (mkF m 238 #[.val (.int an), .val (.int aw), .val (.int ax), .val (.int ay), .val (.int az), .val (.int (0 : Int32)), .val (.int cA), .val (.int cB), .val (.int cC), .val (.int cD), .val (.ref b11), .val (.int (0 : Int32))] [(.int (0 : Int32))])) P38 (fun t_ k_ => st39 t_ k_)
    have P41 := own_step (C := T39.setTop (mkF m 240 #[.val (.int an), .val (.int aw), .val (.int ax), .val (.int ay), .val (.int az), .val (.int (0 : Int32)), .val (.int cA), .val (.int cB), .val (.int cC), .val (.int cD), .val (.ref b11), .val (.int (0 : Int32))] [(.int (0 : Int32)), (.int (0 : Int32))])) P40 (by
      intro tt_ kk_
      refine XS.iload X39.here hx rfl (hb hby at_238) rfl ?_
      exact kk_)
    have P42 := own_step (C := T39.setTop (mkF m 248 #[.val (.int an), .val (.int aw), .val (.int ax), .val (.int ay), .val (.int az), .val (.int (0 : Int32)), .val (.int cA), .val (.int cB), .val (.int cC), .val (.int cD), .val (.ref b11), .val (.int (0 : Int32))] [(.int (1 : Int32))])) P41 (by
      intro tt_ kk_
      refine XS.icmpNo X39.here hx rfl (hb hby at_240) rfl (teq (by decide : (0 : Int32) = (0 : Int32))).2 ?_
      refine XS.iconst X39.here hx rfl (hb hby at_243) ?_
      refine XS.goto X39.here hx rfl (pc0 := 244) (pc' := 248) rfl (hb hby at_244) (by decide) (by decide) ?_
      exact kk_)
    obtain ⟨fs, hr, hrun, hended, hW⟩ := X39.leaveW hS25 (by rw [e39]; exact (Nat.le_refl T25.heap.size)) (v := some (.int (1 : Int32))) (fun h => by rw [Bd.returns] at h; cases h)
    refine ⟨_, _, P42 _ ?_, hrun, hended, _, _, rfl, ?_, ⟨hW.1, hW.2.1, hW.2.2.1, hW.2.2.2.mono (by decide) (by decide)⟩⟩
    · exact retN X39 hx (t := .boolean) Bd.returns (by simp) (hb hby at_248) hr
    · show Q0 Z _ _ _ _ _ _ _ h0 n0 _ T39.heap _
      rw [e39]
      exact ⟨rfl, N39⟩
  · have P43 := own_step (C := s₁.setTop (mkF m 48 #[.val (.int an), .val (.int aw), .val (.int ax), .val (.int ay), .val (.int az), .val (.int ln), .val (.int cA), .val (.int cB), .val (.int cC), .val (.int cD), .unset, .unset] [(.int (1 : Int32)), (.int ln)])) P7 (by
      intro tt_ kk_
      refine XS.ifYes X0.here hx rfl (pc0 := 27) (pc' := 45) rfl (hb hby at_27) rfl ((if0 _ _).trans (feq c8).2) (by decide) (by decide) ?_
      refine XS.iload X0.here hx rfl (hb hby at_45) rfl ?_
      refine XS.iconst X0.here hx rfl (hb hby at_47) ?_
      exact kk_)
    by_cases c44 : ln = (1 : Int32)
    · have P45 := own_step (C := s₁.setTop (mkF m 51 #[.val (.int an), .val (.int aw), .val (.int ax), .val (.int ay), .val (.int az), .val (.int ln), .val (.int cA), .val (.int cB), .val (.int cC), .val (.int cD), .unset, .unset] [])) P43 (by
        intro tt_ kk_
        refine XS.icmpNo X0.here hx rfl (hb hby at_48) rfl (teq c44).2 ?_
        exact kk_)
      clear hln gln
      subst c44
      have P46 := own_step (C := s₁.setTop (mkF m 51 #[.val (.int an), .val (.int aw), .val (.int ax), .val (.int ay), .val (.int az), .val (.int (1 : Int32)), .val (.int cA), .val (.int cB), .val (.int cC), .val (.int cD), .unset, .unset] [])) P45 (fun t_ k_ => k_)
      obtain ⟨T47, h47, X47, e47, E47, A47, D47, -, st47⟩ := newO X0 hx hZ hown (hw _ (List.mem_of_getElem? (i := 0) rfl)) (hw _ (List.mem_of_getElem? (i := 1) rfl)) (hw _ (List.mem_of_getElem? (i := 2) rfl)) e0 (g := (mkF m 51 #[.val (.int an), .val (.int aw), .val (.int ax), .val (.int ay), .val (.int az), .val (.int (1 : Int32)), .val (.int cA), .val (.int cB), .val (.int cC), .val (.int cD), .unset, .unset] [])) rfl (hb hby at_51) (by decide) (by decide)
      obtain ⟨b47, g47⟩ : ∃ z, z = h0.size := ⟨_, rfl⟩
      rw [← g47] at A47 D47 st47
      have g_b47 : n0 ≤ b47 := Nat.le_trans Z0 (Nat.le_of_eq g47.symm)
      have f48 := O.ext E47
      have Z49 : n0 ≤ h47.size := Nat.le_trans Z0 E47.1
      have f50 : Fld Z h47 b47 "java/lang/String" "value" "[B" .null := D47 (Or.inr (hw _ (List.mem_of_getElem? (i := 16) rfl))) (ty := (.array .byte)) (by decide)
      have f51 : Fld Z h47 b47 "java/lang/String" "coder" "B" (.int (0 : Int32)) := D47 (Or.inr (hw _ (List.mem_of_getElem? (i := 17) rfl))) (ty := .byte) (by decide)
      have P52 := own_step (C := T47.setTop (mkF m 54 #[.val (.int an), .val (.int aw), .val (.int ax), .val (.int ay), .val (.int az), .val (.int (1 : Int32)), .val (.int cA), .val (.int cB), .val (.int cC), .val (.int cD), .unset, .unset] [(.ref b47)])) P46 (fun t_ k_ => st47 t_ k_)
      have P53 := own_step (C := T47.setTop (mkF m 56 #[.val (.int an), .val (.int aw), .val (.int ax), .val (.int ay), .val (.int az), .val (.int (1 : Int32)), .val (.int cA), .val (.int cB), .val (.int cC), .val (.int cD), .unset, .unset] [(.int (1 : Int32)), (.ref b47), (.ref b47)])) P52 (by
        intro tt_ kk_
        refine XS.dup X47.here hx rfl (hb hby at_54) rfl rfl ?_
        refine XS.iconst X47.here hx rfl (hb hby at_55) ?_
        exact kk_)
      obtain ⟨T54, h54, k54, X54, e54, E54, A54, st54⟩ := newP X47 hx hZ (hw _ (List.mem_of_getElem? (i := 3) rfl)) e47 (g := (mkF m 56 #[.val (.int an), .val (.int aw), .val (.int ax), .val (.int ay), .val (.int az), .val (.int (1 : Int32)), .val (.int cA), .val (.int cB), .val (.int cC), .val (.int cD), .unset, .unset] [(.int (1 : Int32)), (.ref b47), (.ref b47)])) rfl (hb hby at_56) rfl (by decide) (cap := 1) (by decide) (by decide) (by decide) (by decide)
      obtain ⟨b54, g54⟩ : ∃ z, z = h47.size := ⟨_, rfl⟩
      rw [← g54] at A54 st54
      have ne_b47_b54 : b47 ≠ b54 := Nat.ne_of_lt (Nat.lt_of_lt_of_le A47.lt (Nat.le_of_eq g54.symm))
      have g_b54 : n0 ≤ b54 := Nat.le_trans Z49 (Nat.le_of_eq g54.symm)
      have f55 := f48.ext E54
      have f56 := A47.ext E54
      have f57 := f50.ext E54
      have f58 := f51.ext E54
      have Z59 : n0 ≤ h54.size := Nat.le_trans Z49 E54.1
      have V54 : Arv Z h54 b54 k54 .char (1 : Int32) [(.int (0 : Int32))] (.int (0 : Int32)) := (Arv.new A54 (by decide)).pad (pad_rep [] _ 1)
      have P60 := own_step (C := T54.setTop (mkF m 58 #[.val (.int an), .val (.int aw), .val (.int ax), .val (.int ay), .val (.int az), .val (.int (1 : Int32)), .val (.int cA), .val (.int cB), .val (.int cC), .val (.int cD), .unset, .unset] [(.ref b54), (.ref b47), (.ref b47)])) P53 (fun t_ k_ => st54 t_ k_)
      have P61 := own_step (C := T54.setTop (mkF m 62 #[.val (.int an), .val (.int aw), .val (.int ax), .val (.int ay), .val (.int az), .val (.int (1 : Int32)), .val (.int cA), .val (.int cB), .val (.int cC), .val (.int cD), .unset, .unset] [(.int cA), (.int (0 : Int32)), (.ref b54), (.ref b54), (.ref b47), (.ref b47)])) P60 (by
        intro tt_ kk_
        refine XS.dup X54.here hx rfl (hb hby at_58) rfl rfl ?_
        refine XS.iconst X54.here hx rfl (hb hby at_59) ?_
        refine XS.iload X54.here hx rfl (hb hby at_60) rfl ?_
        exact kk_)
      obtain ⟨cl62, Ar62, q62, S62, M62, H62, G62⟩ := id V54
      obtain ⟨T63, h63, X63, e63, W63, st63⟩ := stC X54 hx hZ e54 Ar62 (j := (0 : Int32)) (inb_of S62 (by decide : ¬ (0 : Int32) < 0 ∧ (0 : Int32) < (1 : Int32))) (g := (mkF m 62 #[.val (.int an), .val (.int aw), .val (.int ax), .val (.int ay), .val (.int az), .val (.int (1 : Int32)), .val (.int cA), .val (.int cB), .val (.int cC), .val (.int cD), .unset, .unset] [(.int cA), (.int (0 : Int32)), (.ref b54), (.ref b54), (.ref b47), (.ref b47)])) rfl rfl (hb hby at_62)
      have f64 := f55.wr W63 g_b54
      have f65 := f56.wr W63
      have f66 := f57.other W63 (Or.inl ne_b47_b54)
      have f67 := f58.other W63 (Or.inl ne_b47_b54)
      have Z69 : n0 ≤ h63.size := Nat.le_trans Z59 (Keep.of_wr W63).1
      have V63 : Arv Z h63 b54 k54 .char (1 : Int32) [(.int (nar .char cA))] (.int (0 : Int32)) := Arv.set Ar62 q62 S62 M62 H62 G62 (fits_nar_char _) W63 0 rfl (Nat.le_of_ble_eq_true rfl)
      have N63 := Fr.snoc X63 N0 g_b54
      have P70 := own_step (C := T63.setTop (mkF m 63 #[.val (.int an), .val (.int aw), .val (.int ax), .val (.int ay), .val (.int az), .val (.int (1 : Int32)), .val (.int cA), .val (.int cB), .val (.int cC), .val (.int cD), .unset, .unset] [(.ref b54), (.ref b47), (.ref b47)])) P61 (fun t_ k_ => st63 t_ k_)
      obtain ⟨_, _, ⟨T71, L71, k71, n71⟩, -, X71, ⟨Lc71, hQ71, l71, y71, z71⟩, st71⟩ := X63.specialBack hx (y := (⟨"java/lang/String", "<init>", "([C)V"⟩ : MethodName)) rfl hown (mvT hZ (hw _ (List.mem_of_getElem? (i := 4) rfl))) (mvT hZ (hw _ (List.mem_of_getElem? (i := 5) rfl))) (mvT hZ (hw _ (List.mem_of_getElem? (i := 6) rfl))) (by decide) (backOf (W := 1) (rm_initA_1 l Z a0 hw [] b47 b54 k54 (nar .char cA) cs h63 n0 Z69 f64 Scs hcs f65 f66 f67 g_b47 V63 Sad Shi Slo (own_CN GcA)) hZ (hw _ (List.mem_of_getElem? (i := 6) rfl)) (hw _ (List.mem_of_getElem? (i := 2) rfl)) (by decide) (by decide)) (g := (mkF m 63 #[.val (.int an), .val (.int aw), .val (.int ax), .val (.int ay), .val (.int az), .val (.int (1 : Int32)), .val (.int cA), .val (.int cB), .val (.int cC), .val (.int cD), .unset, .unset] [(.ref b54), (.ref b47), (.ref b47)])) rfl (by rw [hml]; rfl) (Steps.refl _) (a := b47) (argsL := [(.ref b54)]) (rest := [(.ref b47)]) (lenOf pd16 rfl) rfl (by show 2 * 0 + _ ≤ _; exact Nat.le_of_eq rfl) (hb hby at_63) (fun _ _ => ⟨rfl, e63, (by decide : 2 + 2 ≤ _), (by decide : 5 + 3 ≤ _)⟩)
      dsimp only [Pt.U, Pt.locs, Pt.cells, Pt.slots] at X71 l71 y71 z71 st71 hQ71
      subst l71 y71 z71
      obtain ⟨rfl, N71q, K71, f72⟩ := hQ71
      have N71 := Fr.app N63 N71q
      have f73 := f64.keep K71 (allS g_b47 all0)
      have f74 := f65.keep K71
      have f77 := V63.keep K71 (ninS (Ne.symm ne_b47_b54) nin0)
      have Z78 : n0 ≤ T71.heap.size := Nat.le_trans Z69 K71.1
      have P79 := own_step (C := T71.setTop (mkF m 66 #[.val (.int an), .val (.int aw), .val (.int ax), .val (.int ay), .val (.int az), .val (.int (1 : Int32)), .val (.int cA), .val (.int cB), .val (.int cC), .val (.int cD), .unset, .unset] [(.ref b47)])) P70 (fun t_ k_ => st71.trans k_)
      obtain ⟨_, _, EaS, -⟩ := id f72
      have P80 := own_step (C := T71.setTop (mkF m 173 #[.val (.int an), .val (.int aw), .val (.int ax), .val (.int ay), .val (.int az), .val (.int (1 : Int32)), .val (.int cA), .val (.int cB), .val (.int cC), .val (.int cD), .val (.ref b47), .unset] [(.int (1 : Int32)), (.int (1 : Int32))])) P79 (by
        intro tt_ kk_
        refine XS.astore X71.here hx rfl (hb hby at_66) rfl rfl (l' := #[.val (.int an), .val (.int aw), .val (.int ax), .val (.int ay), .val (.int az), .val (.int (1 : Int32)), .val (.int cA), .val (.int cB), .val (.int cC), .val (.int cD), .val (.ref b47), .unset]) rfl ?_
        refine XS.goto X71.here hx rfl (pc0 := 68) (pc' := 170) rfl (hb hby at_68) (by decide) (by decide) ?_
        refine XS.iload X71.here hx rfl (hb hby at_170) rfl ?_
        refine XS.iconst X71.here hx rfl (hb hby at_172) ?_
        exact kk_)
      have P81 := own_step (C := T71.setTop (mkF m 178 #[.val (.int an), .val (.int aw), .val (.int ax), .val (.int ay), .val (.int az), .val (.int (1 : Int32)), .val (.int cA), .val (.int cB), .val (.int cC), .val (.int cD), .val (.ref b47), .unset] [(.int cA)])) P80 (by
        intro tt_ kk_
        refine XS.icmpNo X71.here hx rfl (hb hby at_173) rfl (flt (by decide : ¬ ((1 : Int32) < (1 : Int32)))).1 ?_
        refine XS.iload X71.here hx rfl (hb hby at_176) rfl ?_
        exact kk_)
      obtain ⟨_, _, ⟨T82, L82, k82, n82⟩, -, X82, ⟨Lc82, hQ82, l82, y82, z82⟩, st82⟩ := Jvm.LawKit.callS X71 hx (y := (⟨"com/example/issuant/issuant/config/ScopesIsTokenPinLaw", "ok", "(C)Z"⟩ : MethodName)) hown (mvT hZ (hw _ (List.mem_of_getElem? (i := 42) rfl))) (mvT hZ (hw _ (List.mem_of_getElem? (i := 43) rfl))) (mvT hZ (hw _ (List.mem_of_getElem? (i := 44) rfl))) (mvT hZ (hw _ (List.mem_of_getElem? (i := 45) rfl))) (by decide) (backOf (W := 0) (rm_own_ok l Z a0 hw [] cA T71.heap n0 Z78 ) hZ (hw _ (List.mem_of_getElem? (i := 45) rfl)) (hw _ (List.mem_of_getElem? (i := 44) rfl)) (by decide) (by decide)) (g := (mkF m 178 #[.val (.int an), .val (.int aw), .val (.int ax), .val (.int ay), .val (.int az), .val (.int (1 : Int32)), .val (.int cA), .val (.int cB), .val (.int cC), .val (.int cD), .val (.ref b47), .unset] [(.int cA)])) rfl (by rw [hml]; rfl) (argsL := [(.int cA)]) (rest := []) (lenOf pd18 rfl) rfl (by show 2 * 0 + _ ≤ _; exact Nat.le_of_eq rfl) (hb hby at_178) (fun _ _ => ⟨rfl, rfl, (by decide : 4 + 0 ≤ _), (by decide : 8 + 0 ≤ _)⟩)
      dsimp only [Pt.U, Pt.locs, Pt.cells, Pt.slots] at X82 l82 y82 z82 st82 hQ82
      subst l82 y82 z82
      obtain ⟨rfl, N82q, e82⟩ := hQ82
      have N82 := Fr.app N71 N82q
      have P83 := own_step (C := T82.setTop (mkF m 181 #[.val (.int an), .val (.int aw), .val (.int ax), .val (.int ay), .val (.int az), .val (.int (1 : Int32)), .val (.int cA), .val (.int cB), .val (.int cC), .val (.int cD), .val (.ref b47), .unset] [(.int (own_ok cA))])) P81 (fun t_ k_ => st82 t_ k_)
      by_cases c84 : (own_ok cA) = (0 : Int32)
      · have P85 := own_step (C := T82.setTop (mkF m 235 #[.val (.int an), .val (.int aw), .val (.int ax), .val (.int ay), .val (.int az), .val (.int (1 : Int32)), .val (.int cA), .val (.int cB), .val (.int cC), .val (.int cD), .val (.ref b47), .val (.int (0 : Int32))] [(.ref b47)])) P83 (by
          intro tt_ kk_
          refine XS.ifYes X82.here hx rfl (pc0 := 181) (pc' := 230) rfl (hb hby at_181) rfl ((if0 _ _).trans (teq c84).1) (by decide) (by decide) ?_
          refine XS.iconst X82.here hx rfl (hb hby at_230) ?_
          refine XS.istore X82.here hx rfl (hb hby at_231) rfl (l' := #[.val (.int an), .val (.int aw), .val (.int ax), .val (.int ay), .val (.int az), .val (.int (1 : Int32)), .val (.int cA), .val (.int cB), .val (.int cC), .val (.int cD), .val (.ref b47), .val (.int (0 : Int32))]) rfl ?_
          refine XS.aload X82.here hx rfl (hb hby at_233) rfl rfl ?_
          exact kk_)
        obtain ⟨_, _, ⟨T86, L86, k86, n86⟩, -, X86, ⟨Lc86, hQ86, l86, y86, z86⟩, st86⟩ := Jvm.LawKit.callS X82 hx (y := (⟨"com/example/issuant/issuant/config/Scopes", "isToken", "(Ljava/lang/String;)Z"⟩ : MethodName)) hown (mvT hZ (hw _ (List.mem_of_getElem? (i := 22) rfl))) (mvT hZ (hw _ (List.mem_of_getElem? (i := 23) rfl))) (mvT hZ (hw _ (List.mem_of_getElem? (i := 24) rfl))) (mvT hZ (hw _ (List.mem_of_getElem? (i := 25) rfl))) (by decide) (backOf (W := 0) (rm_tok1 l Z a0 hw [] b47 (nar .char cA) fm cs T71.heap n0 Z78 f73 Scs hcs Sad Shi Slo Sfm hfm f72 EaS (own_CN GcA)) hZ (hw _ (List.mem_of_getElem? (i := 25) rfl)) (hw _ (List.mem_of_getElem? (i := 24) rfl)) (by decide) (by decide)) (g := (mkF m 235 #[.val (.int an), .val (.int aw), .val (.int ax), .val (.int ay), .val (.int az), .val (.int (1 : Int32)), .val (.int cA), .val (.int cB), .val (.int cC), .val (.int cD), .val (.ref b47), .val (.int (0 : Int32))] [(.ref b47)])) rfl (by rw [hml]; rfl) (argsL := [(.ref b47)]) (rest := []) (lenOf pd17 rfl) rfl (by show 2 * 0 + _ ≤ _; exact Nat.le_of_eq rfl) (hb hby at_235) (fun _ _ => ⟨rfl, e82, (by decide : 4 + 0 ≤ _), (by decide : 8 + 0 ≤ _)⟩)
        dsimp only [Pt.U, Pt.locs, Pt.cells, Pt.slots] at X86 l86 y86 z86 st86 hQ86
        subst l86 y86 z86
        obtain ⟨rfl, N86q, e86⟩ := hQ86
        have N86 := Fr.app N82 N86q
        have P87 := own_step (C := T86.setTop (mkF m 238 #[.val (.int an), .val (.int aw), .val (.int ax), .val (.int ay), .val (.int az), .val (.int (1 : Int32)), .val (.int cA), .val (.int cB), .val (.int cC), .val (.int cD), .val (.ref b47), .val (.int (0 : Int32))] [(.int (own_tok1 (nar .char cA)))])) P85 (fun t_ k_ => st86 t_ k_)
        have P88 := own_step (C := T86.setTop (mkF m 240 #[.val (.int an), .val (.int aw), .val (.int ax), .val (.int ay), .val (.int az), .val (.int (1 : Int32)), .val (.int cA), .val (.int cB), .val (.int cC), .val (.int cD), .val (.ref b47), .val (.int (0 : Int32))] [(.int (0 : Int32)), (.int (own_tok1 (nar .char cA)))])) P87 (by
          intro tt_ kk_
          refine XS.iload X86.here hx rfl (hb hby at_238) rfl ?_
          exact kk_)
        have P89 := own_step (C := T86.setTop (mkF m 248 #[.val (.int an), .val (.int aw), .val (.int ax), .val (.int ay), .val (.int az), .val (.int (1 : Int32)), .val (.int cA), .val (.int cB), .val (.int cC), .val (.int cD), .val (.ref b47), .val (.int (0 : Int32))] [(.int (1 : Int32))])) P88 (by
          intro tt_ kk_
          refine XS.icmpNo X86.here hx rfl (hb hby at_240) rfl (teq (own_e1_10 GcA c84)).2 ?_
          refine XS.iconst X86.here hx rfl (hb hby at_243) ?_
          refine XS.goto X86.here hx rfl (pc0 := 244) (pc' := 248) rfl (hb hby at_244) (by decide) (by decide) ?_
          exact kk_)
        obtain ⟨fs, hr, hrun, hended, hW, hsame⟩ := X86.leave (v := some (.int (1 : Int32))) (fun h => by rw [Bd.returns] at h; cases h)
        refine ⟨_, _, P89 _ ?_, hrun, hended, _, _, rfl, ?_, wide ⟨⟨_, rfl⟩, hW, hsame.mono (by decide) (by decide)⟩⟩
        · exact retN X86 hx (t := .boolean) Bd.returns (by simp) (hb hby at_248) hr
        · show Q0 Z _ _ _ _ _ _ _ h0 n0 _ T86.heap _
          rw [e86]
          exact ⟨rfl, N86⟩
      · have P90 := own_step (C := T82.setTop (mkF m 187 #[.val (.int an), .val (.int aw), .val (.int ax), .val (.int ay), .val (.int az), .val (.int (1 : Int32)), .val (.int cA), .val (.int cB), .val (.int cC), .val (.int cD), .val (.ref b47), .unset] [(.int (2 : Int32)), (.int (1 : Int32))])) P83 (by
          intro tt_ kk_
          refine XS.ifNo X82.here hx rfl (hb hby at_181) rfl ((if0 _ _).trans (feq c84).1) ?_
          refine XS.iload X82.here hx rfl (hb hby at_184) rfl ?_
          refine XS.iconst X82.here hx rfl (hb hby at_186) ?_
          exact kk_)
        have P91 := own_step (C := T82.setTop (mkF m 201 #[.val (.int an), .val (.int aw), .val (.int ax), .val (.int ay), .val (.int az), .val (.int (1 : Int32)), .val (.int cA), .val (.int cB), .val (.int cC), .val (.int cD), .val (.ref b47), .unset] [(.int (3 : Int32)), (.int (1 : Int32))])) P90 (by
          intro tt_ kk_
          refine XS.icmpYes X82.here hx rfl (pc0 := 187) (pc' := 198) rfl (hb hby at_187) rfl (tlt (by decide : (1 : Int32) < (2 : Int32))).1 (by decide) (by decide) ?_
          refine XS.iload X82.here hx rfl (hb hby at_198) rfl ?_
          refine XS.iconst X82.here hx rfl (hb hby at_200) ?_
          exact kk_)
        have P92 := own_step (C := T82.setTop (mkF m 215 #[.val (.int an), .val (.int aw), .val (.int ax), .val (.int ay), .val (.int az), .val (.int (1 : Int32)), .val (.int cA), .val (.int cB), .val (.int cC), .val (.int cD), .val (.ref b47), .unset] [(.int (4 : Int32)), (.int (1 : Int32))])) P91 (by
          intro tt_ kk_
          refine XS.icmpYes X82.here hx rfl (pc0 := 201) (pc' := 212) rfl (hb hby at_201) rfl (tlt (by decide : (1 : Int32) < (3 : Int32))).1 (by decide) (by decide) ?_
          refine XS.iload X82.here hx rfl (hb hby at_212) rfl ?_
          refine XS.iconst X82.here hx rfl (hb hby at_214) ?_
          exact kk_)
        have P93 := own_step (C := T82.setTop (mkF m 235 #[.val (.int an), .val (.int aw), .val (.int ax), .val (.int ay), .val (.int az), .val (.int (1 : Int32)), .val (.int cA), .val (.int cB), .val (.int cC), .val (.int cD), .val (.ref b47), .val (.int (1 : Int32))] [(.ref b47)])) P92 (by
          intro tt_ kk_
          refine XS.icmpYes X82.here hx rfl (pc0 := 215) (pc' := 226) rfl (hb hby at_215) rfl (tlt (by decide : (1 : Int32) < (4 : Int32))).1 (by decide) (by decide) ?_
          refine XS.iconst X82.here hx rfl (hb hby at_226) ?_
          refine XS.goto X82.here hx rfl (pc0 := 227) (pc' := 231) rfl (hb hby at_227) (by decide) (by decide) ?_
          refine XS.istore X82.here hx rfl (hb hby at_231) rfl (l' := #[.val (.int an), .val (.int aw), .val (.int ax), .val (.int ay), .val (.int az), .val (.int (1 : Int32)), .val (.int cA), .val (.int cB), .val (.int cC), .val (.int cD), .val (.ref b47), .val (.int (1 : Int32))]) rfl ?_
          refine XS.aload X82.here hx rfl (hb hby at_233) rfl rfl ?_
          exact kk_)
        obtain ⟨_, _, ⟨T94, L94, k94, n94⟩, -, X94, ⟨Lc94, hQ94, l94, y94, z94⟩, st94⟩ := Jvm.LawKit.callS X82 hx (y := (⟨"com/example/issuant/issuant/config/Scopes", "isToken", "(Ljava/lang/String;)Z"⟩ : MethodName)) hown (mvT hZ (hw _ (List.mem_of_getElem? (i := 22) rfl))) (mvT hZ (hw _ (List.mem_of_getElem? (i := 23) rfl))) (mvT hZ (hw _ (List.mem_of_getElem? (i := 24) rfl))) (mvT hZ (hw _ (List.mem_of_getElem? (i := 25) rfl))) (by decide) (backOf (W := 0) (rm_tok1 l Z a0 hw [] b47 (nar .char cA) fm cs T71.heap n0 Z78 f73 Scs hcs Sad Shi Slo Sfm hfm f72 EaS (own_CN GcA)) hZ (hw _ (List.mem_of_getElem? (i := 25) rfl)) (hw _ (List.mem_of_getElem? (i := 24) rfl)) (by decide) (by decide)) (g := (mkF m 235 #[.val (.int an), .val (.int aw), .val (.int ax), .val (.int ay), .val (.int az), .val (.int (1 : Int32)), .val (.int cA), .val (.int cB), .val (.int cC), .val (.int cD), .val (.ref b47), .val (.int (1 : Int32))] [(.ref b47)])) rfl (by rw [hml]; rfl) (argsL := [(.ref b47)]) (rest := []) (lenOf pd17 rfl) rfl (by show 2 * 0 + _ ≤ _; exact Nat.le_of_eq rfl) (hb hby at_235) (fun _ _ => ⟨rfl, e82, (by decide : 4 + 0 ≤ _), (by decide : 8 + 0 ≤ _)⟩)
        dsimp only [Pt.U, Pt.locs, Pt.cells, Pt.slots] at X94 l94 y94 z94 st94 hQ94
        subst l94 y94 z94
        obtain ⟨rfl, N94q, e94⟩ := hQ94
        have N94 := Fr.app N82 N94q
        have P95 := own_step (C := T94.setTop (mkF m 238 #[.val (.int an), .val (.int aw), .val (.int ax), .val (.int ay), .val (.int az), .val (.int (1 : Int32)), .val (.int cA), .val (.int cB), .val (.int cC), .val (.int cD), .val (.ref b47), .val (.int (1 : Int32))] [(.int (own_tok1 (nar .char cA)))])) P93 (fun t_ k_ => st94 t_ k_)
        have P96 := own_step (C := T94.setTop (mkF m 240 #[.val (.int an), .val (.int aw), .val (.int ax), .val (.int ay), .val (.int az), .val (.int (1 : Int32)), .val (.int cA), .val (.int cB), .val (.int cC), .val (.int cD), .val (.ref b47), .val (.int (1 : Int32))] [(.int (1 : Int32)), (.int (own_tok1 (nar .char cA)))])) P95 (by
          intro tt_ kk_
          refine XS.iload X94.here hx rfl (hb hby at_238) rfl ?_
          exact kk_)
        have P97 := own_step (C := T94.setTop (mkF m 248 #[.val (.int an), .val (.int aw), .val (.int ax), .val (.int ay), .val (.int az), .val (.int (1 : Int32)), .val (.int cA), .val (.int cB), .val (.int cC), .val (.int cD), .val (.ref b47), .val (.int (1 : Int32))] [(.int (1 : Int32))])) P96 (by
          intro tt_ kk_
          refine XS.icmpNo X94.here hx rfl (hb hby at_240) rfl (teq (own_e1_1 GcA c84)).2 ?_
          refine XS.iconst X94.here hx rfl (hb hby at_243) ?_
          refine XS.goto X94.here hx rfl (pc0 := 244) (pc' := 248) rfl (hb hby at_244) (by decide) (by decide) ?_
          exact kk_)
        obtain ⟨fs, hr, hrun, hended, hW, hsame⟩ := X94.leave (v := some (.int (1 : Int32))) (fun h => by rw [Bd.returns] at h; cases h)
        refine ⟨_, _, P97 _ ?_, hrun, hended, _, _, rfl, ?_, wide ⟨⟨_, rfl⟩, hW, hsame.mono (by decide) (by decide)⟩⟩
        · exact retN X94 hx (t := .boolean) Bd.returns (by simp) (hb hby at_248) hr
        · show Q0 Z _ _ _ _ _ _ _ h0 n0 _ T94.heap _
          rw [e94]
          exact ⟨rfl, N94⟩
    · have P98 := own_step (C := s₁.setTop (mkF m 74 #[.val (.int an), .val (.int aw), .val (.int ax), .val (.int ay), .val (.int az), .val (.int ln), .val (.int cA), .val (.int cB), .val (.int cC), .val (.int cD), .unset, .unset] [(.int (2 : Int32)), (.int ln)])) P43 (by
        intro tt_ kk_
        refine XS.icmpYes X0.here hx rfl (pc0 := 48) (pc' := 71) rfl (hb hby at_48) rfl (feq c44).2 (by decide) (by decide) ?_
        refine XS.iload X0.here hx rfl (hb hby at_71) rfl ?_
        refine XS.iconst X0.here hx rfl (hb hby at_73) ?_
        exact kk_)
      by_cases c99 : ln = (2 : Int32)
      · have P100 := own_step (C := s₁.setTop (mkF m 77 #[.val (.int an), .val (.int aw), .val (.int ax), .val (.int ay), .val (.int az), .val (.int ln), .val (.int cA), .val (.int cB), .val (.int cC), .val (.int cD), .unset, .unset] [])) P98 (by
          intro tt_ kk_
          refine XS.icmpNo X0.here hx rfl (hb hby at_74) rfl (teq c99).2 ?_
          exact kk_)
        clear hln gln
        subst c99
        have P101 := own_step (C := s₁.setTop (mkF m 77 #[.val (.int an), .val (.int aw), .val (.int ax), .val (.int ay), .val (.int az), .val (.int (2 : Int32)), .val (.int cA), .val (.int cB), .val (.int cC), .val (.int cD), .unset, .unset] [])) P100 (fun t_ k_ => k_)
        obtain ⟨T102, h102, X102, e102, E102, A102, D102, -, st102⟩ := newO X0 hx hZ hown (hw _ (List.mem_of_getElem? (i := 0) rfl)) (hw _ (List.mem_of_getElem? (i := 1) rfl)) (hw _ (List.mem_of_getElem? (i := 2) rfl)) e0 (g := (mkF m 77 #[.val (.int an), .val (.int aw), .val (.int ax), .val (.int ay), .val (.int az), .val (.int (2 : Int32)), .val (.int cA), .val (.int cB), .val (.int cC), .val (.int cD), .unset, .unset] [])) rfl (hb hby at_77) (by decide) (by decide)
        obtain ⟨b102, g102⟩ : ∃ z, z = h0.size := ⟨_, rfl⟩
        rw [← g102] at A102 D102 st102
        have g_b102 : n0 ≤ b102 := Nat.le_trans Z0 (Nat.le_of_eq g102.symm)
        have f103 := O.ext E102
        have Z104 : n0 ≤ h102.size := Nat.le_trans Z0 E102.1
        have f105 : Fld Z h102 b102 "java/lang/String" "value" "[B" .null := D102 (Or.inr (hw _ (List.mem_of_getElem? (i := 16) rfl))) (ty := (.array .byte)) (by decide)
        have f106 : Fld Z h102 b102 "java/lang/String" "coder" "B" (.int (0 : Int32)) := D102 (Or.inr (hw _ (List.mem_of_getElem? (i := 17) rfl))) (ty := .byte) (by decide)
        have P107 := own_step (C := T102.setTop (mkF m 80 #[.val (.int an), .val (.int aw), .val (.int ax), .val (.int ay), .val (.int az), .val (.int (2 : Int32)), .val (.int cA), .val (.int cB), .val (.int cC), .val (.int cD), .unset, .unset] [(.ref b102)])) P101 (fun t_ k_ => st102 t_ k_)
        have P108 := own_step (C := T102.setTop (mkF m 82 #[.val (.int an), .val (.int aw), .val (.int ax), .val (.int ay), .val (.int az), .val (.int (2 : Int32)), .val (.int cA), .val (.int cB), .val (.int cC), .val (.int cD), .unset, .unset] [(.int (2 : Int32)), (.ref b102), (.ref b102)])) P107 (by
          intro tt_ kk_
          refine XS.dup X102.here hx rfl (hb hby at_80) rfl rfl ?_
          refine XS.iconst X102.here hx rfl (hb hby at_81) ?_
          exact kk_)
        obtain ⟨T109, h109, k109, X109, e109, E109, A109, st109⟩ := newP X102 hx hZ (hw _ (List.mem_of_getElem? (i := 3) rfl)) e102 (g := (mkF m 82 #[.val (.int an), .val (.int aw), .val (.int ax), .val (.int ay), .val (.int az), .val (.int (2 : Int32)), .val (.int cA), .val (.int cB), .val (.int cC), .val (.int cD), .unset, .unset] [(.int (2 : Int32)), (.ref b102), (.ref b102)])) rfl (hb hby at_82) rfl (by decide) (cap := 2) (by decide) (by decide) (by decide) (by decide)
        obtain ⟨b109, g109⟩ : ∃ z, z = h102.size := ⟨_, rfl⟩
        rw [← g109] at A109 st109
        have ne_b102_b109 : b102 ≠ b109 := Nat.ne_of_lt (Nat.lt_of_lt_of_le A102.lt (Nat.le_of_eq g109.symm))
        have g_b109 : n0 ≤ b109 := Nat.le_trans Z104 (Nat.le_of_eq g109.symm)
        have f110 := f103.ext E109
        have f111 := A102.ext E109
        have f112 := f105.ext E109
        have f113 := f106.ext E109
        have Z114 : n0 ≤ h109.size := Nat.le_trans Z104 E109.1
        have V109 : Arv Z h109 b109 k109 .char (2 : Int32) [(.int (0 : Int32)), (.int (0 : Int32))] (.int (0 : Int32)) := (Arv.new A109 (by decide)).pad (pad_rep [] _ 2)
        have P115 := own_step (C := T109.setTop (mkF m 84 #[.val (.int an), .val (.int aw), .val (.int ax), .val (.int ay), .val (.int az), .val (.int (2 : Int32)), .val (.int cA), .val (.int cB), .val (.int cC), .val (.int cD), .unset, .unset] [(.ref b109), (.ref b102), (.ref b102)])) P108 (fun t_ k_ => st109 t_ k_)
        have P116 := own_step (C := T109.setTop (mkF m 88 #[.val (.int an), .val (.int aw), .val (.int ax), .val (.int ay), .val (.int az), .val (.int (2 : Int32)), .val (.int cA), .val (.int cB), .val (.int cC), .val (.int cD), .unset, .unset] [(.int cA), (.int (0 : Int32)), (.ref b109), (.ref b109), (.ref b102), (.ref b102)])) P115 (by
          intro tt_ kk_
          refine XS.dup X109.here hx rfl (hb hby at_84) rfl rfl ?_
          refine XS.iconst X109.here hx rfl (hb hby at_85) ?_
          refine XS.iload X109.here hx rfl (hb hby at_86) rfl ?_
          exact kk_)
        obtain ⟨cl117, Ar117, q117, S117, M117, H117, G117⟩ := id V109
        obtain ⟨T118, h118, X118, e118, W118, st118⟩ := stC X109 hx hZ e109 Ar117 (j := (0 : Int32)) (inb_of S117 (by decide : ¬ (0 : Int32) < 0 ∧ (0 : Int32) < (2 : Int32))) (g := (mkF m 88 #[.val (.int an), .val (.int aw), .val (.int ax), .val (.int ay), .val (.int az), .val (.int (2 : Int32)), .val (.int cA), .val (.int cB), .val (.int cC), .val (.int cD), .unset, .unset] [(.int cA), (.int (0 : Int32)), (.ref b109), (.ref b109), (.ref b102), (.ref b102)])) rfl rfl (hb hby at_88)
        have f119 := f110.wr W118 g_b109
        have f120 := f111.wr W118
        have f121 := f112.other W118 (Or.inl ne_b102_b109)
        have f122 := f113.other W118 (Or.inl ne_b102_b109)
        have Z124 : n0 ≤ h118.size := Nat.le_trans Z114 (Keep.of_wr W118).1
        have V118 : Arv Z h118 b109 k109 .char (2 : Int32) [(.int (nar .char cA)), (.int (0 : Int32))] (.int (0 : Int32)) := Arv.set Ar117 q117 S117 M117 H117 G117 (fits_nar_char _) W118 0 rfl (Nat.le_of_ble_eq_true rfl)
        have N118 := Fr.snoc X118 N0 g_b109
        have P125 := own_step (C := T118.setTop (mkF m 89 #[.val (.int an), .val (.int aw), .val (.int ax), .val (.int ay), .val (.int az), .val (.int (2 : Int32)), .val (.int cA), .val (.int cB), .val (.int cC), .val (.int cD), .unset, .unset] [(.ref b109), (.ref b102), (.ref b102)])) P116 (fun t_ k_ => st118 t_ k_)
        have P126 := own_step (C := T118.setTop (mkF m 93 #[.val (.int an), .val (.int aw), .val (.int ax), .val (.int ay), .val (.int az), .val (.int (2 : Int32)), .val (.int cA), .val (.int cB), .val (.int cC), .val (.int cD), .unset, .unset] [(.int cB), (.int (1 : Int32)), (.ref b109), (.ref b109), (.ref b102), (.ref b102)])) P125 (by
          intro tt_ kk_
          refine XS.dup X118.here hx rfl (hb hby at_89) rfl rfl ?_
          refine XS.iconst X118.here hx rfl (hb hby at_90) ?_
          refine XS.iload X118.here hx rfl (hb hby at_91) rfl ?_
          exact kk_)
        obtain ⟨cl127, Ar127, q127, S127, M127, H127, G127⟩ := id V118
        obtain ⟨T128, h128, X128, e128, W128, st128⟩ := stC X118 hx hZ e118 Ar127 (j := (1 : Int32)) (inb_of S127 (by decide : ¬ (1 : Int32) < 0 ∧ (1 : Int32) < (2 : Int32))) (g := (mkF m 93 #[.val (.int an), .val (.int aw), .val (.int ax), .val (.int ay), .val (.int az), .val (.int (2 : Int32)), .val (.int cA), .val (.int cB), .val (.int cC), .val (.int cD), .unset, .unset] [(.int cB), (.int (1 : Int32)), (.ref b109), (.ref b109), (.ref b102), (.ref b102)])) rfl rfl (hb hby at_93)
        have f129 := f119.wr W128 g_b109
        have f130 := f120.wr W128
        have f131 := f121.other W128 (Or.inl ne_b102_b109)
        have f132 := f122.other W128 (Or.inl ne_b102_b109)
        have Z134 : n0 ≤ h128.size := Nat.le_trans Z124 (Keep.of_wr W128).1
        have V128 : Arv Z h128 b109 k109 .char (2 : Int32) [(.int (nar .char cA)), (.int (nar .char cB))] (.int (0 : Int32)) := Arv.set Ar127 q127 S127 M127 H127 G127 (fits_nar_char _) W128 1 rfl (Nat.le_of_ble_eq_true rfl)
        have N128 := Fr.snoc X128 N118 g_b109
        have P135 := own_step (C := T128.setTop (mkF m 94 #[.val (.int an), .val (.int aw), .val (.int ax), .val (.int ay), .val (.int az), .val (.int (2 : Int32)), .val (.int cA), .val (.int cB), .val (.int cC), .val (.int cD), .unset, .unset] [(.ref b109), (.ref b102), (.ref b102)])) P126 (fun t_ k_ => st128 t_ k_)
        obtain ⟨_, _, ⟨T136, L136, k136, n136⟩, -, X136, ⟨Lc136, hQ136, l136, y136, z136⟩, st136⟩ := X128.specialBack hx (y := (⟨"java/lang/String", "<init>", "([C)V"⟩ : MethodName)) rfl hown (mvT hZ (hw _ (List.mem_of_getElem? (i := 4) rfl))) (mvT hZ (hw _ (List.mem_of_getElem? (i := 5) rfl))) (mvT hZ (hw _ (List.mem_of_getElem? (i := 6) rfl))) (by decide) (backOf (W := 1) (rm_initA_2 l Z a0 hw [] b102 b109 k109 (nar .char cA) (nar .char cB) cs h128 n0 Z134 f129 Scs hcs f130 f131 f132 g_b102 V128 Sad Shi Slo (own_CN GcA) (own_CN GcB)) hZ (hw _ (List.mem_of_getElem? (i := 6) rfl)) (hw _ (List.mem_of_getElem? (i := 2) rfl)) (by decide) (by decide)) (g := (mkF m 94 #[.val (.int an), .val (.int aw), .val (.int ax), .val (.int ay), .val (.int az), .val (.int (2 : Int32)), .val (.int cA), .val (.int cB), .val (.int cC), .val (.int cD), .unset, .unset] [(.ref b109), (.ref b102), (.ref b102)])) rfl (by rw [hml]; rfl) (Steps.refl _) (a := b102) (argsL := [(.ref b109)]) (rest := [(.ref b102)]) (lenOf pd16 rfl) rfl (by show 2 * 0 + _ ≤ _; exact Nat.le_of_eq rfl) (hb hby at_94) (fun _ _ => ⟨rfl, e128, (by decide : 2 + 2 ≤ _), (by decide : 6 + 6 ≤ _)⟩)
        dsimp only [Pt.U, Pt.locs, Pt.cells, Pt.slots] at X136 l136 y136 z136 st136 hQ136
        subst l136 y136 z136
        obtain ⟨rfl, N136q, K136, f137⟩ := hQ136
        have N136 := Fr.app N128 N136q
        have f138 := f129.keep K136 (allS g_b102 all0)
        have f139 := f130.keep K136
        have f142 := V128.keep K136 (ninS (Ne.symm ne_b102_b109) nin0)
        have Z143 : n0 ≤ T136.heap.size := Nat.le_trans Z134 K136.1
        have P144 := own_step (C := T136.setTop (mkF m 97 #[.val (.int an), .val (.int aw), .val (.int ax), .val (.int ay), .val (.int az), .val (.int (2 : Int32)), .val (.int cA), .val (.int cB), .val (.int cC), .val (.int cD), .unset, .unset] [(.ref b102)])) P135 (fun t_ k_ => st136.trans k_)
        obtain ⟨_, _, EaS, -⟩ := id f137
        have P145 := own_step (C := T136.setTop (mkF m 173 #[.val (.int an), .val (.int aw), .val (.int ax), .val (.int ay), .val (.int az), .val (.int (2 : Int32)), .val (.int cA), .val (.int cB), .val (.int cC), .val (.int cD), .val (.ref b102), .unset] [(.int (1 : Int32)), (.int (2 : Int32))])) P144 (by
          intro tt_ kk_
          refine XS.astore X136.here hx rfl (hb hby at_97) rfl rfl (l' := #[.val (.int an), .val (.int aw), .val (.int ax), .val (.int ay), .val (.int az), .val (.int (2 : Int32)), .val (.int cA), .val (.int cB), .val (.int cC), .val (.int cD), .val (.ref b102), .unset]) rfl ?_
          refine XS.goto X136.here hx rfl (pc0 := 99) (pc' := 170) rfl (hb hby at_99) (by decide) (by decide) ?_
          refine XS.iload X136.here hx rfl (hb hby at_170) rfl ?_
          refine XS.iconst X136.here hx rfl (hb hby at_172) ?_
          exact kk_)
        have P146 := own_step (C := T136.setTop (mkF m 178 #[.val (.int an), .val (.int aw), .val (.int ax), .val (.int ay), .val (.int az), .val (.int (2 : Int32)), .val (.int cA), .val (.int cB), .val (.int cC), .val (.int cD), .val (.ref b102), .unset] [(.int cA)])) P145 (by
          intro tt_ kk_
          refine XS.icmpNo X136.here hx rfl (hb hby at_173) rfl (flt (by decide : ¬ ((2 : Int32) < (1 : Int32)))).1 ?_
          refine XS.iload X136.here hx rfl (hb hby at_176) rfl ?_
          exact kk_)
        obtain ⟨_, _, ⟨T147, L147, k147, n147⟩, -, X147, ⟨Lc147, hQ147, l147, y147, z147⟩, st147⟩ := Jvm.LawKit.callS X136 hx (y := (⟨"com/example/issuant/issuant/config/ScopesIsTokenPinLaw", "ok", "(C)Z"⟩ : MethodName)) hown (mvT hZ (hw _ (List.mem_of_getElem? (i := 42) rfl))) (mvT hZ (hw _ (List.mem_of_getElem? (i := 43) rfl))) (mvT hZ (hw _ (List.mem_of_getElem? (i := 44) rfl))) (mvT hZ (hw _ (List.mem_of_getElem? (i := 45) rfl))) (by decide) (backOf (W := 0) (rm_own_ok l Z a0 hw [] cA T136.heap n0 Z143 ) hZ (hw _ (List.mem_of_getElem? (i := 45) rfl)) (hw _ (List.mem_of_getElem? (i := 44) rfl)) (by decide) (by decide)) (g := (mkF m 178 #[.val (.int an), .val (.int aw), .val (.int ax), .val (.int ay), .val (.int az), .val (.int (2 : Int32)), .val (.int cA), .val (.int cB), .val (.int cC), .val (.int cD), .val (.ref b102), .unset] [(.int cA)])) rfl (by rw [hml]; rfl) (argsL := [(.int cA)]) (rest := []) (lenOf pd18 rfl) rfl (by show 2 * 0 + _ ≤ _; exact Nat.le_of_eq rfl) (hb hby at_178) (fun _ _ => ⟨rfl, rfl, (by decide : 4 + 0 ≤ _), (by decide : 12 + 0 ≤ _)⟩)
        dsimp only [Pt.U, Pt.locs, Pt.cells, Pt.slots] at X147 l147 y147 z147 st147 hQ147
        subst l147 y147 z147
        obtain ⟨rfl, N147q, e147⟩ := hQ147
        have N147 := Fr.app N136 N147q
        have P148 := own_step (C := T147.setTop (mkF m 181 #[.val (.int an), .val (.int aw), .val (.int ax), .val (.int ay), .val (.int az), .val (.int (2 : Int32)), .val (.int cA), .val (.int cB), .val (.int cC), .val (.int cD), .val (.ref b102), .unset] [(.int (own_ok cA))])) P146 (fun t_ k_ => st147 t_ k_)
        by_cases c149 : (own_ok cA) = (0 : Int32)
        · have P150 := own_step (C := T147.setTop (mkF m 235 #[.val (.int an), .val (.int aw), .val (.int ax), .val (.int ay), .val (.int az), .val (.int (2 : Int32)), .val (.int cA), .val (.int cB), .val (.int cC), .val (.int cD), .val (.ref b102), .val (.int (0 : Int32))] [(.ref b102)])) P148 (by
            intro tt_ kk_
            refine XS.ifYes X147.here hx rfl (pc0 := 181) (pc' := 230) rfl (hb hby at_181) rfl ((if0 _ _).trans (teq c149).1) (by decide) (by decide) ?_
            refine XS.iconst X147.here hx rfl (hb hby at_230) ?_
            refine XS.istore X147.here hx rfl (hb hby at_231) rfl (l' := #[.val (.int an), .val (.int aw), .val (.int ax), .val (.int ay), .val (.int az), .val (.int (2 : Int32)), .val (.int cA), .val (.int cB), .val (.int cC), .val (.int cD), .val (.ref b102), .val (.int (0 : Int32))]) rfl ?_
            refine XS.aload X147.here hx rfl (hb hby at_233) rfl rfl ?_
            exact kk_)
          obtain ⟨_, _, ⟨T151, L151, k151, n151⟩, -, X151, ⟨Lc151, hQ151, l151, y151, z151⟩, st151⟩ := Jvm.LawKit.callS X147 hx (y := (⟨"com/example/issuant/issuant/config/Scopes", "isToken", "(Ljava/lang/String;)Z"⟩ : MethodName)) hown (mvT hZ (hw _ (List.mem_of_getElem? (i := 22) rfl))) (mvT hZ (hw _ (List.mem_of_getElem? (i := 23) rfl))) (mvT hZ (hw _ (List.mem_of_getElem? (i := 24) rfl))) (mvT hZ (hw _ (List.mem_of_getElem? (i := 25) rfl))) (by decide) (backOf (W := 0) (rm_tok2 l Z a0 hw [] b102 (nar .char cA) (nar .char cB) fm cs T136.heap n0 Z143 f138 Scs hcs Sad Shi Slo Sfm hfm f137 EaS (own_CN GcA) (own_CN GcB)) hZ (hw _ (List.mem_of_getElem? (i := 25) rfl)) (hw _ (List.mem_of_getElem? (i := 24) rfl)) (by decide) (by decide)) (g := (mkF m 235 #[.val (.int an), .val (.int aw), .val (.int ax), .val (.int ay), .val (.int az), .val (.int (2 : Int32)), .val (.int cA), .val (.int cB), .val (.int cC), .val (.int cD), .val (.ref b102), .val (.int (0 : Int32))] [(.ref b102)])) rfl (by rw [hml]; rfl) (argsL := [(.ref b102)]) (rest := []) (lenOf pd17 rfl) rfl (by show 2 * 0 + _ ≤ _; exact Nat.le_of_eq rfl) (hb hby at_235) (fun _ _ => ⟨rfl, e147, (by decide : 4 + 0 ≤ _), (by decide : 12 + 0 ≤ _)⟩)
          dsimp only [Pt.U, Pt.locs, Pt.cells, Pt.slots] at X151 l151 y151 z151 st151 hQ151
          subst l151 y151 z151
          obtain ⟨rfl, N151q, e151⟩ := hQ151
          have N151 := Fr.app N147 N151q
          have P152 := own_step (C := T151.setTop (mkF m 238 #[.val (.int an), .val (.int aw), .val (.int ax), .val (.int ay), .val (.int az), .val (.int (2 : Int32)), .val (.int cA), .val (.int cB), .val (.int cC), .val (.int cD), .val (.ref b102), .val (.int (0 : Int32))] [(.int (own_tok2 (nar .char cA) (nar .char cB)))])) P150 (fun t_ k_ => st151 t_ k_)
          have P153 := own_step (C := T151.setTop (mkF m 240 #[.val (.int an), .val (.int aw), .val (.int ax), .val (.int ay), .val (.int az), .val (.int (2 : Int32)), .val (.int cA), .val (.int cB), .val (.int cC), .val (.int cD), .val (.ref b102), .val (.int (0 : Int32))] [(.int (0 : Int32)), (.int (own_tok2 (nar .char cA) (nar .char cB)))])) P152 (by
            intro tt_ kk_
            refine XS.iload X151.here hx rfl (hb hby at_238) rfl ?_
            exact kk_)
          have P154 := own_step (C := T151.setTop (mkF m 248 #[.val (.int an), .val (.int aw), .val (.int ax), .val (.int ay), .val (.int az), .val (.int (2 : Int32)), .val (.int cA), .val (.int cB), .val (.int cC), .val (.int cD), .val (.ref b102), .val (.int (0 : Int32))] [(.int (1 : Int32))])) P153 (by
            intro tt_ kk_
            refine XS.icmpNo X151.here hx rfl (hb hby at_240) rfl (teq (own_e2_10 GcA GcB c149)).2 ?_
            refine XS.iconst X151.here hx rfl (hb hby at_243) ?_
            refine XS.goto X151.here hx rfl (pc0 := 244) (pc' := 248) rfl (hb hby at_244) (by decide) (by decide) ?_
            exact kk_)
          obtain ⟨fs, hr, hrun, hended, hW, hsame⟩ := X151.leave (v := some (.int (1 : Int32))) (fun h => by rw [Bd.returns] at h; cases h)
          refine ⟨_, _, P154 _ ?_, hrun, hended, _, _, rfl, ?_, wide ⟨⟨_, rfl⟩, hW, hsame.mono (by decide) (by decide)⟩⟩
          · exact retN X151 hx (t := .boolean) Bd.returns (by simp) (hb hby at_248) hr
          · show Q0 Z _ _ _ _ _ _ _ h0 n0 _ T151.heap _
            rw [e151]
            exact ⟨rfl, N151⟩
        · have P155 := own_step (C := T147.setTop (mkF m 187 #[.val (.int an), .val (.int aw), .val (.int ax), .val (.int ay), .val (.int az), .val (.int (2 : Int32)), .val (.int cA), .val (.int cB), .val (.int cC), .val (.int cD), .val (.ref b102), .unset] [(.int (2 : Int32)), (.int (2 : Int32))])) P148 (by
            intro tt_ kk_
            refine XS.ifNo X147.here hx rfl (hb hby at_181) rfl ((if0 _ _).trans (feq c149).1) ?_
            refine XS.iload X147.here hx rfl (hb hby at_184) rfl ?_
            refine XS.iconst X147.here hx rfl (hb hby at_186) ?_
            exact kk_)
          have P156 := own_step (C := T147.setTop (mkF m 192 #[.val (.int an), .val (.int aw), .val (.int ax), .val (.int ay), .val (.int az), .val (.int (2 : Int32)), .val (.int cA), .val (.int cB), .val (.int cC), .val (.int cD), .val (.ref b102), .unset] [(.int cB)])) P155 (by
            intro tt_ kk_
            refine XS.icmpNo X147.here hx rfl (hb hby at_187) rfl (flt (by decide : ¬ ((2 : Int32) < (2 : Int32)))).1 ?_
            refine XS.iload X147.here hx rfl (hb hby at_190) rfl ?_
            exact kk_)
          obtain ⟨_, _, ⟨T157, L157, k157, n157⟩, -, X157, ⟨Lc157, hQ157, l157, y157, z157⟩, st157⟩ := Jvm.LawKit.callS X147 hx (y := (⟨"com/example/issuant/issuant/config/ScopesIsTokenPinLaw", "ok", "(C)Z"⟩ : MethodName)) hown (mvT hZ (hw _ (List.mem_of_getElem? (i := 42) rfl))) (mvT hZ (hw _ (List.mem_of_getElem? (i := 43) rfl))) (mvT hZ (hw _ (List.mem_of_getElem? (i := 44) rfl))) (mvT hZ (hw _ (List.mem_of_getElem? (i := 45) rfl))) (by decide) (backOf (W := 0) (rm_own_ok l Z a0 hw [] cB T136.heap n0 Z143 ) hZ (hw _ (List.mem_of_getElem? (i := 45) rfl)) (hw _ (List.mem_of_getElem? (i := 44) rfl)) (by decide) (by decide)) (g := (mkF m 192 #[.val (.int an), .val (.int aw), .val (.int ax), .val (.int ay), .val (.int az), .val (.int (2 : Int32)), .val (.int cA), .val (.int cB), .val (.int cC), .val (.int cD), .val (.ref b102), .unset] [(.int cB)])) rfl (by rw [hml]; rfl) (argsL := [(.int cB)]) (rest := []) (lenOf pd18 rfl) rfl (by show 2 * 0 + _ ≤ _; exact Nat.le_of_eq rfl) (hb hby at_192) (fun _ _ => ⟨rfl, e147, (by decide : 4 + 0 ≤ _), (by decide : 12 + 0 ≤ _)⟩)
          dsimp only [Pt.U, Pt.locs, Pt.cells, Pt.slots] at X157 l157 y157 z157 st157 hQ157
          subst l157 y157 z157
          obtain ⟨rfl, N157q, e157⟩ := hQ157
          have N157 := Fr.app N147 N157q
          have P158 := own_step (C := T157.setTop (mkF m 195 #[.val (.int an), .val (.int aw), .val (.int ax), .val (.int ay), .val (.int az), .val (.int (2 : Int32)), .val (.int cA), .val (.int cB), .val (.int cC), .val (.int cD), .val (.ref b102), .unset] [(.int (own_ok cB))])) P156 (fun t_ k_ => st157 t_ k_)
          by_cases c159 : (own_ok cB) = (0 : Int32)
          · have P160 := own_step (C := T157.setTop (mkF m 235 #[.val (.int an), .val (.int aw), .val (.int ax), .val (.int ay), .val (.int az), .val (.int (2 : Int32)), .val (.int cA), .val (.int cB), .val (.int cC), .val (.int cD), .val (.ref b102), .val (.int (0 : Int32))] [(.ref b102)])) P158 (by
              intro tt_ kk_
              refine XS.ifYes X157.here hx rfl (pc0 := 195) (pc' := 230) rfl (hb hby at_195) rfl ((if0 _ _).trans (teq c159).1) (by decide) (by decide) ?_
              refine XS.iconst X157.here hx rfl (hb hby at_230) ?_
              refine XS.istore X157.here hx rfl (hb hby at_231) rfl (l' := #[.val (.int an), .val (.int aw), .val (.int ax), .val (.int ay), .val (.int az), .val (.int (2 : Int32)), .val (.int cA), .val (.int cB), .val (.int cC), .val (.int cD), .val (.ref b102), .val (.int (0 : Int32))]) rfl ?_
              refine XS.aload X157.here hx rfl (hb hby at_233) rfl rfl ?_
              exact kk_)
            obtain ⟨_, _, ⟨T161, L161, k161, n161⟩, -, X161, ⟨Lc161, hQ161, l161, y161, z161⟩, st161⟩ := Jvm.LawKit.callS X157 hx (y := (⟨"com/example/issuant/issuant/config/Scopes", "isToken", "(Ljava/lang/String;)Z"⟩ : MethodName)) hown (mvT hZ (hw _ (List.mem_of_getElem? (i := 22) rfl))) (mvT hZ (hw _ (List.mem_of_getElem? (i := 23) rfl))) (mvT hZ (hw _ (List.mem_of_getElem? (i := 24) rfl))) (mvT hZ (hw _ (List.mem_of_getElem? (i := 25) rfl))) (by decide) (backOf (W := 0) (rm_tok2 l Z a0 hw [] b102 (nar .char cA) (nar .char cB) fm cs T136.heap n0 Z143 f138 Scs hcs Sad Shi Slo Sfm hfm f137 EaS (own_CN GcA) (own_CN GcB)) hZ (hw _ (List.mem_of_getElem? (i := 25) rfl)) (hw _ (List.mem_of_getElem? (i := 24) rfl)) (by decide) (by decide)) (g := (mkF m 235 #[.val (.int an), .val (.int aw), .val (.int ax), .val (.int ay), .val (.int az), .val (.int (2 : Int32)), .val (.int cA), .val (.int cB), .val (.int cC), .val (.int cD), .val (.ref b102), .val (.int (0 : Int32))] [(.ref b102)])) rfl (by rw [hml]; rfl) (argsL := [(.ref b102)]) (rest := []) (lenOf pd17 rfl) rfl (by show 2 * 0 + _ ≤ _; exact Nat.le_of_eq rfl) (hb hby at_235) (fun _ _ => ⟨rfl, e157, (by decide : 4 + 0 ≤ _), (by decide : 12 + 0 ≤ _)⟩)
            dsimp only [Pt.U, Pt.locs, Pt.cells, Pt.slots] at X161 l161 y161 z161 st161 hQ161
            subst l161 y161 z161
            obtain ⟨rfl, N161q, e161⟩ := hQ161
            have N161 := Fr.app N157 N161q
            have P162 := own_step (C := T161.setTop (mkF m 238 #[.val (.int an), .val (.int aw), .val (.int ax), .val (.int ay), .val (.int az), .val (.int (2 : Int32)), .val (.int cA), .val (.int cB), .val (.int cC), .val (.int cD), .val (.ref b102), .val (.int (0 : Int32))] [(.int (own_tok2 (nar .char cA) (nar .char cB)))])) P160 (fun t_ k_ => st161 t_ k_)
            have P163 := own_step (C := T161.setTop (mkF m 240 #[.val (.int an), .val (.int aw), .val (.int ax), .val (.int ay), .val (.int az), .val (.int (2 : Int32)), .val (.int cA), .val (.int cB), .val (.int cC), .val (.int cD), .val (.ref b102), .val (.int (0 : Int32))] [(.int (0 : Int32)), (.int (own_tok2 (nar .char cA) (nar .char cB)))])) P162 (by
              intro tt_ kk_
              refine XS.iload X161.here hx rfl (hb hby at_238) rfl ?_
              exact kk_)
            have P164 := own_step (C := T161.setTop (mkF m 248 #[.val (.int an), .val (.int aw), .val (.int ax), .val (.int ay), .val (.int az), .val (.int (2 : Int32)), .val (.int cA), .val (.int cB), .val (.int cC), .val (.int cD), .val (.ref b102), .val (.int (0 : Int32))] [(.int (1 : Int32))])) P163 (by
              intro tt_ kk_
              refine XS.icmpNo X161.here hx rfl (hb hby at_240) rfl (teq (own_e2_11 GcA GcB c149 c159)).2 ?_
              refine XS.iconst X161.here hx rfl (hb hby at_243) ?_
              refine XS.goto X161.here hx rfl (pc0 := 244) (pc' := 248) rfl (hb hby at_244) (by decide) (by decide) ?_
              exact kk_)
            obtain ⟨fs, hr, hrun, hended, hW, hsame⟩ := X161.leave (v := some (.int (1 : Int32))) (fun h => by rw [Bd.returns] at h; cases h)
            refine ⟨_, _, P164 _ ?_, hrun, hended, _, _, rfl, ?_, wide ⟨⟨_, rfl⟩, hW, hsame.mono (by decide) (by decide)⟩⟩
            · exact retN X161 hx (t := .boolean) Bd.returns (by simp) (hb hby at_248) hr
            · show Q0 Z _ _ _ _ _ _ _ h0 n0 _ T161.heap _
              rw [e161]
              exact ⟨rfl, N161⟩
          · have P165 := own_step (C := T157.setTop (mkF m 201 #[.val (.int an), .val (.int aw), .val (.int ax), .val (.int ay), .val (.int az), .val (.int (2 : Int32)), .val (.int cA), .val (.int cB), .val (.int cC), .val (.int cD), .val (.ref b102), .unset] [(.int (3 : Int32)), (.int (2 : Int32))])) P158 (by
              intro tt_ kk_
              refine XS.ifNo X157.here hx rfl (hb hby at_195) rfl ((if0 _ _).trans (feq c159).1) ?_
              refine XS.iload X157.here hx rfl (hb hby at_198) rfl ?_
              refine XS.iconst X157.here hx rfl (hb hby at_200) ?_
              exact kk_)
            have P166 := own_step (C := T157.setTop (mkF m 215 #[.val (.int an), .val (.int aw), .val (.int ax), .val (.int ay), .val (.int az), .val (.int (2 : Int32)), .val (.int cA), .val (.int cB), .val (.int cC), .val (.int cD), .val (.ref b102), .unset] [(.int (4 : Int32)), (.int (2 : Int32))])) P165 (by
              intro tt_ kk_
              refine XS.icmpYes X157.here hx rfl (pc0 := 201) (pc' := 212) rfl (hb hby at_201) rfl (tlt (by decide : (2 : Int32) < (3 : Int32))).1 (by decide) (by decide) ?_
              refine XS.iload X157.here hx rfl (hb hby at_212) rfl ?_
              refine XS.iconst X157.here hx rfl (hb hby at_214) ?_
              exact kk_)
            have P167 := own_step (C := T157.setTop (mkF m 235 #[.val (.int an), .val (.int aw), .val (.int ax), .val (.int ay), .val (.int az), .val (.int (2 : Int32)), .val (.int cA), .val (.int cB), .val (.int cC), .val (.int cD), .val (.ref b102), .val (.int (1 : Int32))] [(.ref b102)])) P166 (by
              intro tt_ kk_
              refine XS.icmpYes X157.here hx rfl (pc0 := 215) (pc' := 226) rfl (hb hby at_215) rfl (tlt (by decide : (2 : Int32) < (4 : Int32))).1 (by decide) (by decide) ?_
              refine XS.iconst X157.here hx rfl (hb hby at_226) ?_
              refine XS.goto X157.here hx rfl (pc0 := 227) (pc' := 231) rfl (hb hby at_227) (by decide) (by decide) ?_
              refine XS.istore X157.here hx rfl (hb hby at_231) rfl (l' := #[.val (.int an), .val (.int aw), .val (.int ax), .val (.int ay), .val (.int az), .val (.int (2 : Int32)), .val (.int cA), .val (.int cB), .val (.int cC), .val (.int cD), .val (.ref b102), .val (.int (1 : Int32))]) rfl ?_
              refine XS.aload X157.here hx rfl (hb hby at_233) rfl rfl ?_
              exact kk_)
            obtain ⟨_, _, ⟨T168, L168, k168, n168⟩, -, X168, ⟨Lc168, hQ168, l168, y168, z168⟩, st168⟩ := Jvm.LawKit.callS X157 hx (y := (⟨"com/example/issuant/issuant/config/Scopes", "isToken", "(Ljava/lang/String;)Z"⟩ : MethodName)) hown (mvT hZ (hw _ (List.mem_of_getElem? (i := 22) rfl))) (mvT hZ (hw _ (List.mem_of_getElem? (i := 23) rfl))) (mvT hZ (hw _ (List.mem_of_getElem? (i := 24) rfl))) (mvT hZ (hw _ (List.mem_of_getElem? (i := 25) rfl))) (by decide) (backOf (W := 0) (rm_tok2 l Z a0 hw [] b102 (nar .char cA) (nar .char cB) fm cs T136.heap n0 Z143 f138 Scs hcs Sad Shi Slo Sfm hfm f137 EaS (own_CN GcA) (own_CN GcB)) hZ (hw _ (List.mem_of_getElem? (i := 25) rfl)) (hw _ (List.mem_of_getElem? (i := 24) rfl)) (by decide) (by decide)) (g := (mkF m 235 #[.val (.int an), .val (.int aw), .val (.int ax), .val (.int ay), .val (.int az), .val (.int (2 : Int32)), .val (.int cA), .val (.int cB), .val (.int cC), .val (.int cD), .val (.ref b102), .val (.int (1 : Int32))] [(.ref b102)])) rfl (by rw [hml]; rfl) (argsL := [(.ref b102)]) (rest := []) (lenOf pd17 rfl) rfl (by show 2 * 0 + _ ≤ _; exact Nat.le_of_eq rfl) (hb hby at_235) (fun _ _ => ⟨rfl, e157, (by decide : 4 + 0 ≤ _), (by decide : 12 + 0 ≤ _)⟩)
            dsimp only [Pt.U, Pt.locs, Pt.cells, Pt.slots] at X168 l168 y168 z168 st168 hQ168
            subst l168 y168 z168
            obtain ⟨rfl, N168q, e168⟩ := hQ168
            have N168 := Fr.app N157 N168q
            have P169 := own_step (C := T168.setTop (mkF m 238 #[.val (.int an), .val (.int aw), .val (.int ax), .val (.int ay), .val (.int az), .val (.int (2 : Int32)), .val (.int cA), .val (.int cB), .val (.int cC), .val (.int cD), .val (.ref b102), .val (.int (1 : Int32))] [(.int (own_tok2 (nar .char cA) (nar .char cB)))])) P167 (fun t_ k_ => st168 t_ k_)
            have P170 := own_step (C := T168.setTop (mkF m 240 #[.val (.int an), .val (.int aw), .val (.int ax), .val (.int ay), .val (.int az), .val (.int (2 : Int32)), .val (.int cA), .val (.int cB), .val (.int cC), .val (.int cD), .val (.ref b102), .val (.int (1 : Int32))] [(.int (1 : Int32)), (.int (own_tok2 (nar .char cA) (nar .char cB)))])) P169 (by
              intro tt_ kk_
              refine XS.iload X168.here hx rfl (hb hby at_238) rfl ?_
              exact kk_)
            have P171 := own_step (C := T168.setTop (mkF m 248 #[.val (.int an), .val (.int aw), .val (.int ax), .val (.int ay), .val (.int az), .val (.int (2 : Int32)), .val (.int cA), .val (.int cB), .val (.int cC), .val (.int cD), .val (.ref b102), .val (.int (1 : Int32))] [(.int (1 : Int32))])) P170 (by
              intro tt_ kk_
              refine XS.icmpNo X168.here hx rfl (hb hby at_240) rfl (teq (own_e2_2 GcA GcB c149 c159)).2 ?_
              refine XS.iconst X168.here hx rfl (hb hby at_243) ?_
              refine XS.goto X168.here hx rfl (pc0 := 244) (pc' := 248) rfl (hb hby at_244) (by decide) (by decide) ?_
              exact kk_)
            obtain ⟨fs, hr, hrun, hended, hW, hsame⟩ := X168.leave (v := some (.int (1 : Int32))) (fun h => by rw [Bd.returns] at h; cases h)
            refine ⟨_, _, P171 _ ?_, hrun, hended, _, _, rfl, ?_, wide ⟨⟨_, rfl⟩, hW, hsame.mono (by decide) (by decide)⟩⟩
            · exact retN X168 hx (t := .boolean) Bd.returns (by simp) (hb hby at_248) hr
            · show Q0 Z _ _ _ _ _ _ _ h0 n0 _ T168.heap _
              rw [e168]
              exact ⟨rfl, N168⟩
      · have P172 := own_step (C := s₁.setTop (mkF m 105 #[.val (.int an), .val (.int aw), .val (.int ax), .val (.int ay), .val (.int az), .val (.int ln), .val (.int cA), .val (.int cB), .val (.int cC), .val (.int cD), .unset, .unset] [(.int (3 : Int32)), (.int ln)])) P98 (by
          intro tt_ kk_
          refine XS.icmpYes X0.here hx rfl (pc0 := 74) (pc' := 102) rfl (hb hby at_74) rfl (feq c99).2 (by decide) (by decide) ?_
          refine XS.iload X0.here hx rfl (hb hby at_102) rfl ?_
          refine XS.iconst X0.here hx rfl (hb hby at_104) ?_
          exact kk_)
        by_cases c173 : ln = (3 : Int32)
        · have P174 := own_step (C := s₁.setTop (mkF m 108 #[.val (.int an), .val (.int aw), .val (.int ax), .val (.int ay), .val (.int az), .val (.int ln), .val (.int cA), .val (.int cB), .val (.int cC), .val (.int cD), .unset, .unset] [])) P172 (by
            intro tt_ kk_
            refine XS.icmpNo X0.here hx rfl (hb hby at_105) rfl (teq c173).2 ?_
            exact kk_)
          clear hln gln
          subst c173
          have P175 := own_step (C := s₁.setTop (mkF m 108 #[.val (.int an), .val (.int aw), .val (.int ax), .val (.int ay), .val (.int az), .val (.int (3 : Int32)), .val (.int cA), .val (.int cB), .val (.int cC), .val (.int cD), .unset, .unset] [])) P174 (fun t_ k_ => k_)
          obtain ⟨T176, h176, X176, e176, E176, A176, D176, -, st176⟩ := newO X0 hx hZ hown (hw _ (List.mem_of_getElem? (i := 0) rfl)) (hw _ (List.mem_of_getElem? (i := 1) rfl)) (hw _ (List.mem_of_getElem? (i := 2) rfl)) e0 (g := (mkF m 108 #[.val (.int an), .val (.int aw), .val (.int ax), .val (.int ay), .val (.int az), .val (.int (3 : Int32)), .val (.int cA), .val (.int cB), .val (.int cC), .val (.int cD), .unset, .unset] [])) rfl (hb hby at_108) (by decide) (by decide)
          obtain ⟨b176, g176⟩ : ∃ z, z = h0.size := ⟨_, rfl⟩
          rw [← g176] at A176 D176 st176
          have g_b176 : n0 ≤ b176 := Nat.le_trans Z0 (Nat.le_of_eq g176.symm)
          have f177 := O.ext E176
          have Z178 : n0 ≤ h176.size := Nat.le_trans Z0 E176.1
          have f179 : Fld Z h176 b176 "java/lang/String" "value" "[B" .null := D176 (Or.inr (hw _ (List.mem_of_getElem? (i := 16) rfl))) (ty := (.array .byte)) (by decide)
          have f180 : Fld Z h176 b176 "java/lang/String" "coder" "B" (.int (0 : Int32)) := D176 (Or.inr (hw _ (List.mem_of_getElem? (i := 17) rfl))) (ty := .byte) (by decide)
          have P181 := own_step (C := T176.setTop (mkF m 111 #[.val (.int an), .val (.int aw), .val (.int ax), .val (.int ay), .val (.int az), .val (.int (3 : Int32)), .val (.int cA), .val (.int cB), .val (.int cC), .val (.int cD), .unset, .unset] [(.ref b176)])) P175 (fun t_ k_ => st176 t_ k_)
          have P182 := own_step (C := T176.setTop (mkF m 113 #[.val (.int an), .val (.int aw), .val (.int ax), .val (.int ay), .val (.int az), .val (.int (3 : Int32)), .val (.int cA), .val (.int cB), .val (.int cC), .val (.int cD), .unset, .unset] [(.int (3 : Int32)), (.ref b176), (.ref b176)])) P181 (by
            intro tt_ kk_
            refine XS.dup X176.here hx rfl (hb hby at_111) rfl rfl ?_
            refine XS.iconst X176.here hx rfl (hb hby at_112) ?_
            exact kk_)
          obtain ⟨T183, h183, k183, X183, e183, E183, A183, st183⟩ := newP X176 hx hZ (hw _ (List.mem_of_getElem? (i := 3) rfl)) e176 (g := (mkF m 113 #[.val (.int an), .val (.int aw), .val (.int ax), .val (.int ay), .val (.int az), .val (.int (3 : Int32)), .val (.int cA), .val (.int cB), .val (.int cC), .val (.int cD), .unset, .unset] [(.int (3 : Int32)), (.ref b176), (.ref b176)])) rfl (hb hby at_113) rfl (by decide) (cap := 3) (by decide) (by decide) (by decide) (by decide)
          obtain ⟨b183, g183⟩ : ∃ z, z = h176.size := ⟨_, rfl⟩
          rw [← g183] at A183 st183
          have ne_b176_b183 : b176 ≠ b183 := Nat.ne_of_lt (Nat.lt_of_lt_of_le A176.lt (Nat.le_of_eq g183.symm))
          have g_b183 : n0 ≤ b183 := Nat.le_trans Z178 (Nat.le_of_eq g183.symm)
          have f184 := f177.ext E183
          have f185 := A176.ext E183
          have f186 := f179.ext E183
          have f187 := f180.ext E183
          have Z188 : n0 ≤ h183.size := Nat.le_trans Z178 E183.1
          have V183 : Arv Z h183 b183 k183 .char (3 : Int32) [(.int (0 : Int32)), (.int (0 : Int32)), (.int (0 : Int32))] (.int (0 : Int32)) := (Arv.new A183 (by decide)).pad (pad_rep [] _ 3)
          have P189 := own_step (C := T183.setTop (mkF m 115 #[.val (.int an), .val (.int aw), .val (.int ax), .val (.int ay), .val (.int az), .val (.int (3 : Int32)), .val (.int cA), .val (.int cB), .val (.int cC), .val (.int cD), .unset, .unset] [(.ref b183), (.ref b176), (.ref b176)])) P182 (fun t_ k_ => st183 t_ k_)
          have P190 := own_step (C := T183.setTop (mkF m 119 #[.val (.int an), .val (.int aw), .val (.int ax), .val (.int ay), .val (.int az), .val (.int (3 : Int32)), .val (.int cA), .val (.int cB), .val (.int cC), .val (.int cD), .unset, .unset] [(.int cA), (.int (0 : Int32)), (.ref b183), (.ref b183), (.ref b176), (.ref b176)])) P189 (by
            intro tt_ kk_
            refine XS.dup X183.here hx rfl (hb hby at_115) rfl rfl ?_
            refine XS.iconst X183.here hx rfl (hb hby at_116) ?_
            refine XS.iload X183.here hx rfl (hb hby at_117) rfl ?_
            exact kk_)
          obtain ⟨cl191, Ar191, q191, S191, M191, H191, G191⟩ := id V183
          obtain ⟨T192, h192, X192, e192, W192, st192⟩ := stC X183 hx hZ e183 Ar191 (j := (0 : Int32)) (inb_of S191 (by decide : ¬ (0 : Int32) < 0 ∧ (0 : Int32) < (3 : Int32))) (g := (mkF m 119 #[.val (.int an), .val (.int aw), .val (.int ax), .val (.int ay), .val (.int az), .val (.int (3 : Int32)), .val (.int cA), .val (.int cB), .val (.int cC), .val (.int cD), .unset, .unset] [(.int cA), (.int (0 : Int32)), (.ref b183), (.ref b183), (.ref b176), (.ref b176)])) rfl rfl (hb hby at_119)
          have f193 := f184.wr W192 g_b183
          have f194 := f185.wr W192
          have f195 := f186.other W192 (Or.inl ne_b176_b183)
          have f196 := f187.other W192 (Or.inl ne_b176_b183)
          have Z198 : n0 ≤ h192.size := Nat.le_trans Z188 (Keep.of_wr W192).1
          have V192 : Arv Z h192 b183 k183 .char (3 : Int32) [(.int (nar .char cA)), (.int (0 : Int32)), (.int (0 : Int32))] (.int (0 : Int32)) := Arv.set Ar191 q191 S191 M191 H191 G191 (fits_nar_char _) W192 0 rfl (Nat.le_of_ble_eq_true rfl)
          have N192 := Fr.snoc X192 N0 g_b183
          have P199 := own_step (C := T192.setTop (mkF m 120 #[.val (.int an), .val (.int aw), .val (.int ax), .val (.int ay), .val (.int az), .val (.int (3 : Int32)), .val (.int cA), .val (.int cB), .val (.int cC), .val (.int cD), .unset, .unset] [(.ref b183), (.ref b176), (.ref b176)])) P190 (fun t_ k_ => st192 t_ k_)
          have P200 := own_step (C := T192.setTop (mkF m 124 #[.val (.int an), .val (.int aw), .val (.int ax), .val (.int ay), .val (.int az), .val (.int (3 : Int32)), .val (.int cA), .val (.int cB), .val (.int cC), .val (.int cD), .unset, .unset] [(.int cB), (.int (1 : Int32)), (.ref b183), (.ref b183), (.ref b176), (.ref b176)])) P199 (by
            intro tt_ kk_
            refine XS.dup X192.here hx rfl (hb hby at_120) rfl rfl ?_
            refine XS.iconst X192.here hx rfl (hb hby at_121) ?_
            refine XS.iload X192.here hx rfl (hb hby at_122) rfl ?_
            exact kk_)
          obtain ⟨cl201, Ar201, q201, S201, M201, H201, G201⟩ := id V192
          obtain ⟨T202, h202, X202, e202, W202, st202⟩ := stC X192 hx hZ e192 Ar201 (j := (1 : Int32)) (inb_of S201 (by decide : ¬ (1 : Int32) < 0 ∧ (1 : Int32) < (3 : Int32))) (g := (mkF m 124 #[.val (.int an), .val (.int aw), .val (.int ax), .val (.int ay), .val (.int az), .val (.int (3 : Int32)), .val (.int cA), .val (.int cB), .val (.int cC), .val (.int cD), .unset, .unset] [(.int cB), (.int (1 : Int32)), (.ref b183), (.ref b183), (.ref b176), (.ref b176)])) rfl rfl (hb hby at_124)
          have f203 := f193.wr W202 g_b183
          have f204 := f194.wr W202
          have f205 := f195.other W202 (Or.inl ne_b176_b183)
          have f206 := f196.other W202 (Or.inl ne_b176_b183)
          have Z208 : n0 ≤ h202.size := Nat.le_trans Z198 (Keep.of_wr W202).1
          have V202 : Arv Z h202 b183 k183 .char (3 : Int32) [(.int (nar .char cA)), (.int (nar .char cB)), (.int (0 : Int32))] (.int (0 : Int32)) := Arv.set Ar201 q201 S201 M201 H201 G201 (fits_nar_char _) W202 1 rfl (Nat.le_of_ble_eq_true rfl)
          have N202 := Fr.snoc X202 N192 g_b183
          have P209 := own_step (C := T202.setTop (mkF m 125 #[.val (.int an), .val (.int aw), .val (.int ax), .val (.int ay), .val (.int az), .val (.int (3 : Int32)), .val (.int cA), .val (.int cB), .val (.int cC), .val (.int cD), .unset, .unset] [(.ref b183), (.ref b176), (.ref b176)])) P200 (fun t_ k_ => st202 t_ k_)
          have P210 := own_step (C := T202.setTop (mkF m 129 #[.val (.int an), .val (.int aw), .val (.int ax), .val (.int ay), .val (.int az), .val (.int (3 : Int32)), .val (.int cA), .val (.int cB), .val (.int cC), .val (.int cD), .unset, .unset] [(.int cC), (.int (2 : Int32)), (.ref b183), (.ref b183), (.ref b176), (.ref b176)])) P209 (by
            intro tt_ kk_
            refine XS.dup X202.here hx rfl (hb hby at_125) rfl rfl ?_
            refine XS.iconst X202.here hx rfl (hb hby at_126) ?_
            refine XS.iload X202.here hx rfl (hb hby at_127) rfl ?_
            exact kk_)
          obtain ⟨cl211, Ar211, q211, S211, M211, H211, G211⟩ := id V202
          obtain ⟨T212, h212, X212, e212, W212, st212⟩ := stC X202 hx hZ e202 Ar211 (j := (2 : Int32)) (inb_of S211 (by decide : ¬ (2 : Int32) < 0 ∧ (2 : Int32) < (3 : Int32))) (g := (mkF m 129 #[.val (.int an), .val (.int aw), .val (.int ax), .val (.int ay), .val (.int az), .val (.int (3 : Int32)), .val (.int cA), .val (.int cB), .val (.int cC), .val (.int cD), .unset, .unset] [(.int cC), (.int (2 : Int32)), (.ref b183), (.ref b183), (.ref b176), (.ref b176)])) rfl rfl (hb hby at_129)
          have f213 := f203.wr W212 g_b183
          have f214 := f204.wr W212
          have f215 := f205.other W212 (Or.inl ne_b176_b183)
          have f216 := f206.other W212 (Or.inl ne_b176_b183)
          have Z218 : n0 ≤ h212.size := Nat.le_trans Z208 (Keep.of_wr W212).1
          have V212 : Arv Z h212 b183 k183 .char (3 : Int32) [(.int (nar .char cA)), (.int (nar .char cB)), (.int (nar .char cC))] (.int (0 : Int32)) := Arv.set Ar211 q211 S211 M211 H211 G211 (fits_nar_char _) W212 2 rfl (Nat.le_of_ble_eq_true rfl)
          have N212 := Fr.snoc X212 N202 g_b183
          have P219 := own_step (C := T212.setTop (mkF m 130 #[.val (.int an), .val (.int aw), .val (.int ax), .val (.int ay), .val (.int az), .val (.int (3 : Int32)), .val (.int cA), .val (.int cB), .val (.int cC), .val (.int cD), .unset, .unset] [(.ref b183), (.ref b176), (.ref b176)])) P210 (fun t_ k_ => st212 t_ k_)
          obtain ⟨_, _, ⟨T220, L220, k220, n220⟩, -, X220, ⟨Lc220, hQ220, l220, y220, z220⟩, st220⟩ := X212.specialBack hx (y := (⟨"java/lang/String", "<init>", "([C)V"⟩ : MethodName)) rfl hown (mvT hZ (hw _ (List.mem_of_getElem? (i := 4) rfl))) (mvT hZ (hw _ (List.mem_of_getElem? (i := 5) rfl))) (mvT hZ (hw _ (List.mem_of_getElem? (i := 6) rfl))) (by decide) (backOf (W := 1) (rm_initA_3 l Z a0 hw [] b176 b183 k183 (nar .char cA) (nar .char cB) (nar .char cC) cs h212 n0 Z218 f213 Scs hcs f214 f215 f216 g_b176 V212 Sad Shi Slo (own_CN GcA) (own_CN GcB) (own_CN GcC)) hZ (hw _ (List.mem_of_getElem? (i := 6) rfl)) (hw _ (List.mem_of_getElem? (i := 2) rfl)) (by decide) (by decide)) (g := (mkF m 130 #[.val (.int an), .val (.int aw), .val (.int ax), .val (.int ay), .val (.int az), .val (.int (3 : Int32)), .val (.int cA), .val (.int cB), .val (.int cC), .val (.int cD), .unset, .unset] [(.ref b183), (.ref b176), (.ref b176)])) rfl (by rw [hml]; rfl) (Steps.refl _) (a := b176) (argsL := [(.ref b183)]) (rest := [(.ref b176)]) (lenOf pd16 rfl) rfl (by show 2 * 0 + _ ≤ _; exact Nat.le_of_eq rfl) (hb hby at_130) (fun _ _ => ⟨rfl, e212, (by decide : 2 + 2 ≤ _), (by decide : 7 + 9 ≤ _)⟩)
          dsimp only [Pt.U, Pt.locs, Pt.cells, Pt.slots] at X220 l220 y220 z220 st220 hQ220
          subst l220 y220 z220
          obtain ⟨rfl, N220q, K220, f221⟩ := hQ220
          have N220 := Fr.app N212 N220q
          have f222 := f213.keep K220 (allS g_b176 all0)
          have f223 := f214.keep K220
          have f226 := V212.keep K220 (ninS (Ne.symm ne_b176_b183) nin0)
          have Z227 : n0 ≤ T220.heap.size := Nat.le_trans Z218 K220.1
          have P228 := own_step (C := T220.setTop (mkF m 133 #[.val (.int an), .val (.int aw), .val (.int ax), .val (.int ay), .val (.int az), .val (.int (3 : Int32)), .val (.int cA), .val (.int cB), .val (.int cC), .val (.int cD), .unset, .unset] [(.ref b176)])) P219 (fun t_ k_ => st220.trans k_)
          obtain ⟨_, _, EaS, -⟩ := id f221
          have P229 := own_step (C := T220.setTop (mkF m 173 #[.val (.int an), .val (.int aw), .val (.int ax), .val (.int ay), .val (.int az), .val (.int (3 : Int32)), .val (.int cA), .val (.int cB), .val (.int cC), .val (.int cD), .val (.ref b176), .unset] [(.int (1 : Int32)), (.int (3 : Int32))])) P228 (by
            intro tt_ kk_
            refine XS.astore X220.here hx rfl (hb hby at_133) rfl rfl (l' := #[.val (.int an), .val (.int aw), .val (.int ax), .val (.int ay), .val (.int az), .val (.int (3 : Int32)), .val (.int cA), .val (.int cB), .val (.int cC), .val (.int cD), .val (.ref b176), .unset]) rfl ?_
            refine XS.goto X220.here hx rfl (pc0 := 135) (pc' := 170) rfl (hb hby at_135) (by decide) (by decide) ?_
            refine XS.iload X220.here hx rfl (hb hby at_170) rfl ?_
            refine XS.iconst X220.here hx rfl (hb hby at_172) ?_
            exact kk_)
          have P230 := own_step (C := T220.setTop (mkF m 178 #[.val (.int an), .val (.int aw), .val (.int ax), .val (.int ay), .val (.int az), .val (.int (3 : Int32)), .val (.int cA), .val (.int cB), .val (.int cC), .val (.int cD), .val (.ref b176), .unset] [(.int cA)])) P229 (by
            intro tt_ kk_
            refine XS.icmpNo X220.here hx rfl (hb hby at_173) rfl (flt (by decide : ¬ ((3 : Int32) < (1 : Int32)))).1 ?_
            refine XS.iload X220.here hx rfl (hb hby at_176) rfl ?_
            exact kk_)
          obtain ⟨_, _, ⟨T231, L231, k231, n231⟩, -, X231, ⟨Lc231, hQ231, l231, y231, z231⟩, st231⟩ := Jvm.LawKit.callS X220 hx (y := (⟨"com/example/issuant/issuant/config/ScopesIsTokenPinLaw", "ok", "(C)Z"⟩ : MethodName)) hown (mvT hZ (hw _ (List.mem_of_getElem? (i := 42) rfl))) (mvT hZ (hw _ (List.mem_of_getElem? (i := 43) rfl))) (mvT hZ (hw _ (List.mem_of_getElem? (i := 44) rfl))) (mvT hZ (hw _ (List.mem_of_getElem? (i := 45) rfl))) (by decide) (backOf (W := 0) (rm_own_ok l Z a0 hw [] cA T220.heap n0 Z227 ) hZ (hw _ (List.mem_of_getElem? (i := 45) rfl)) (hw _ (List.mem_of_getElem? (i := 44) rfl)) (by decide) (by decide)) (g := (mkF m 178 #[.val (.int an), .val (.int aw), .val (.int ax), .val (.int ay), .val (.int az), .val (.int (3 : Int32)), .val (.int cA), .val (.int cB), .val (.int cC), .val (.int cD), .val (.ref b176), .unset] [(.int cA)])) rfl (by rw [hml]; rfl) (argsL := [(.int cA)]) (rest := []) (lenOf pd18 rfl) rfl (by show 2 * 0 + _ ≤ _; exact Nat.le_of_eq rfl) (hb hby at_178) (fun _ _ => ⟨rfl, rfl, (by decide : 4 + 0 ≤ _), (by decide : 16 + 0 ≤ _)⟩)
          dsimp only [Pt.U, Pt.locs, Pt.cells, Pt.slots] at X231 l231 y231 z231 st231 hQ231
          subst l231 y231 z231
          obtain ⟨rfl, N231q, e231⟩ := hQ231
          have N231 := Fr.app N220 N231q
          have P232 := own_step (C := T231.setTop (mkF m 181 #[.val (.int an), .val (.int aw), .val (.int ax), .val (.int ay), .val (.int az), .val (.int (3 : Int32)), .val (.int cA), .val (.int cB), .val (.int cC), .val (.int cD), .val (.ref b176), .unset] [(.int (own_ok cA))])) P230 (fun t_ k_ => st231 t_ k_)
          by_cases c233 : (own_ok cA) = (0 : Int32)
          · have P234 := own_step (C := T231.setTop (mkF m 235 #[.val (.int an), .val (.int aw), .val (.int ax), .val (.int ay), .val (.int az), .val (.int (3 : Int32)), .val (.int cA), .val (.int cB), .val (.int cC), .val (.int cD), .val (.ref b176), .val (.int (0 : Int32))] [(.ref b176)])) P232 (by
              intro tt_ kk_
              refine XS.ifYes X231.here hx rfl (pc0 := 181) (pc' := 230) rfl (hb hby at_181) rfl ((if0 _ _).trans (teq c233).1) (by decide) (by decide) ?_
              refine XS.iconst X231.here hx rfl (hb hby at_230) ?_
              refine XS.istore X231.here hx rfl (hb hby at_231) rfl (l' := #[.val (.int an), .val (.int aw), .val (.int ax), .val (.int ay), .val (.int az), .val (.int (3 : Int32)), .val (.int cA), .val (.int cB), .val (.int cC), .val (.int cD), .val (.ref b176), .val (.int (0 : Int32))]) rfl ?_
              refine XS.aload X231.here hx rfl (hb hby at_233) rfl rfl ?_
              exact kk_)
            obtain ⟨_, _, ⟨T235, L235, k235, n235⟩, -, X235, ⟨Lc235, hQ235, l235, y235, z235⟩, st235⟩ := Jvm.LawKit.callS X231 hx (y := (⟨"com/example/issuant/issuant/config/Scopes", "isToken", "(Ljava/lang/String;)Z"⟩ : MethodName)) hown (mvT hZ (hw _ (List.mem_of_getElem? (i := 22) rfl))) (mvT hZ (hw _ (List.mem_of_getElem? (i := 23) rfl))) (mvT hZ (hw _ (List.mem_of_getElem? (i := 24) rfl))) (mvT hZ (hw _ (List.mem_of_getElem? (i := 25) rfl))) (by decide) (backOf (W := 0) (rm_tok3 l Z a0 hw [] b176 (nar .char cA) (nar .char cB) (nar .char cC) fm cs T220.heap n0 Z227 f222 Scs hcs Sad Shi Slo Sfm hfm f221 EaS (own_CN GcA) (own_CN GcB) (own_CN GcC)) hZ (hw _ (List.mem_of_getElem? (i := 25) rfl)) (hw _ (List.mem_of_getElem? (i := 24) rfl)) (by decide) (by decide)) (g := (mkF m 235 #[.val (.int an), .val (.int aw), .val (.int ax), .val (.int ay), .val (.int az), .val (.int (3 : Int32)), .val (.int cA), .val (.int cB), .val (.int cC), .val (.int cD), .val (.ref b176), .val (.int (0 : Int32))] [(.ref b176)])) rfl (by rw [hml]; rfl) (argsL := [(.ref b176)]) (rest := []) (lenOf pd17 rfl) rfl (by show 2 * 0 + _ ≤ _; exact Nat.le_of_eq rfl) (hb hby at_235) (fun _ _ => ⟨rfl, e231, (by decide : 4 + 0 ≤ _), (by decide : 16 + 0 ≤ _)⟩)
            dsimp only [Pt.U, Pt.locs, Pt.cells, Pt.slots] at X235 l235 y235 z235 st235 hQ235
            subst l235 y235 z235
            obtain ⟨rfl, N235q, e235⟩ := hQ235
            have N235 := Fr.app N231 N235q
            have P236 := own_step (C := T235.setTop (mkF m 238 #[.val (.int an), .val (.int aw), .val (.int ax), .val (.int ay), .val (.int az), .val (.int (3 : Int32)), .val (.int cA), .val (.int cB), .val (.int cC), .val (.int cD), .val (.ref b176), .val (.int (0 : Int32))] [(.int (own_tok3 (nar .char cA) (nar .char cB) (nar .char cC)))])) P234 (fun t_ k_ => st235 t_ k_)
            have P237 := own_step (C := T235.setTop (mkF m 240 #[.val (.int an), .val (.int aw), .val (.int ax), .val (.int ay), .val (.int az), .val (.int (3 : Int32)), .val (.int cA), .val (.int cB), .val (.int cC), .val (.int cD), .val (.ref b176), .val (.int (0 : Int32))] [(.int (0 : Int32)), (.int (own_tok3 (nar .char cA) (nar .char cB) (nar .char cC)))])) P236 (by
              intro tt_ kk_
              refine XS.iload X235.here hx rfl (hb hby at_238) rfl ?_
              exact kk_)
            have P238 := own_step (C := T235.setTop (mkF m 248 #[.val (.int an), .val (.int aw), .val (.int ax), .val (.int ay), .val (.int az), .val (.int (3 : Int32)), .val (.int cA), .val (.int cB), .val (.int cC), .val (.int cD), .val (.ref b176), .val (.int (0 : Int32))] [(.int (1 : Int32))])) P237 (by
              intro tt_ kk_
              refine XS.icmpNo X235.here hx rfl (hb hby at_240) rfl (teq (own_e3_10 GcA GcB GcC c233)).2 ?_
              refine XS.iconst X235.here hx rfl (hb hby at_243) ?_
              refine XS.goto X235.here hx rfl (pc0 := 244) (pc' := 248) rfl (hb hby at_244) (by decide) (by decide) ?_
              exact kk_)
            obtain ⟨fs, hr, hrun, hended, hW, hsame⟩ := X235.leave (v := some (.int (1 : Int32))) (fun h => by rw [Bd.returns] at h; cases h)
            refine ⟨_, _, P238 _ ?_, hrun, hended, _, _, rfl, ?_, wide ⟨⟨_, rfl⟩, hW, hsame.mono (by decide) (by decide)⟩⟩
            · exact retN X235 hx (t := .boolean) Bd.returns (by simp) (hb hby at_248) hr
            · show Q0 Z _ _ _ _ _ _ _ h0 n0 _ T235.heap _
              rw [e235]
              exact ⟨rfl, N235⟩
          · have P239 := own_step (C := T231.setTop (mkF m 187 #[.val (.int an), .val (.int aw), .val (.int ax), .val (.int ay), .val (.int az), .val (.int (3 : Int32)), .val (.int cA), .val (.int cB), .val (.int cC), .val (.int cD), .val (.ref b176), .unset] [(.int (2 : Int32)), (.int (3 : Int32))])) P232 (by
              intro tt_ kk_
              refine XS.ifNo X231.here hx rfl (hb hby at_181) rfl ((if0 _ _).trans (feq c233).1) ?_
              refine XS.iload X231.here hx rfl (hb hby at_184) rfl ?_
              refine XS.iconst X231.here hx rfl (hb hby at_186) ?_
              exact kk_)
            have P240 := own_step (C := T231.setTop (mkF m 192 #[.val (.int an), .val (.int aw), .val (.int ax), .val (.int ay), .val (.int az), .val (.int (3 : Int32)), .val (.int cA), .val (.int cB), .val (.int cC), .val (.int cD), .val (.ref b176), .unset] [(.int cB)])) P239 (by
              intro tt_ kk_
              refine XS.icmpNo X231.here hx rfl (hb hby at_187) rfl (flt (by decide : ¬ ((3 : Int32) < (2 : Int32)))).1 ?_
              refine XS.iload X231.here hx rfl (hb hby at_190) rfl ?_
              exact kk_)
            obtain ⟨_, _, ⟨T241, L241, k241, n241⟩, -, X241, ⟨Lc241, hQ241, l241, y241, z241⟩, st241⟩ := Jvm.LawKit.callS X231 hx (y := (⟨"com/example/issuant/issuant/config/ScopesIsTokenPinLaw", "ok", "(C)Z"⟩ : MethodName)) hown (mvT hZ (hw _ (List.mem_of_getElem? (i := 42) rfl))) (mvT hZ (hw _ (List.mem_of_getElem? (i := 43) rfl))) (mvT hZ (hw _ (List.mem_of_getElem? (i := 44) rfl))) (mvT hZ (hw _ (List.mem_of_getElem? (i := 45) rfl))) (by decide) (backOf (W := 0) (rm_own_ok l Z a0 hw [] cB T220.heap n0 Z227 ) hZ (hw _ (List.mem_of_getElem? (i := 45) rfl)) (hw _ (List.mem_of_getElem? (i := 44) rfl)) (by decide) (by decide)) (g := (mkF m 192 #[.val (.int an), .val (.int aw), .val (.int ax), .val (.int ay), .val (.int az), .val (.int (3 : Int32)), .val (.int cA), .val (.int cB), .val (.int cC), .val (.int cD), .val (.ref b176), .unset] [(.int cB)])) rfl (by rw [hml]; rfl) (argsL := [(.int cB)]) (rest := []) (lenOf pd18 rfl) rfl (by show 2 * 0 + _ ≤ _; exact Nat.le_of_eq rfl) (hb hby at_192) (fun _ _ => ⟨rfl, e231, (by decide : 4 + 0 ≤ _), (by decide : 16 + 0 ≤ _)⟩)
            dsimp only [Pt.U, Pt.locs, Pt.cells, Pt.slots] at X241 l241 y241 z241 st241 hQ241
            subst l241 y241 z241
            obtain ⟨rfl, N241q, e241⟩ := hQ241
            have N241 := Fr.app N231 N241q
            have P242 := own_step (C := T241.setTop (mkF m 195 #[.val (.int an), .val (.int aw), .val (.int ax), .val (.int ay), .val (.int az), .val (.int (3 : Int32)), .val (.int cA), .val (.int cB), .val (.int cC), .val (.int cD), .val (.ref b176), .unset] [(.int (own_ok cB))])) P240 (fun t_ k_ => st241 t_ k_)
            by_cases c243 : (own_ok cB) = (0 : Int32)
            · have P244 := own_step (C := T241.setTop (mkF m 235 #[.val (.int an), .val (.int aw), .val (.int ax), .val (.int ay), .val (.int az), .val (.int (3 : Int32)), .val (.int cA), .val (.int cB), .val (.int cC), .val (.int cD), .val (.ref b176), .val (.int (0 : Int32))] [(.ref b176)])) P242 (by
                intro tt_ kk_
                refine XS.ifYes X241.here hx rfl (pc0 := 195) (pc' := 230) rfl (hb hby at_195) rfl ((if0 _ _).trans (teq c243).1) (by decide) (by decide) ?_
                refine XS.iconst X241.here hx rfl (hb hby at_230) ?_
                refine XS.istore X241.here hx rfl (hb hby at_231) rfl (l' := #[.val (.int an), .val (.int aw), .val (.int ax), .val (.int ay), .val (.int az), .val (.int (3 : Int32)), .val (.int cA), .val (.int cB), .val (.int cC), .val (.int cD), .val (.ref b176), .val (.int (0 : Int32))]) rfl ?_
                refine XS.aload X241.here hx rfl (hb hby at_233) rfl rfl ?_
                exact kk_)
              obtain ⟨_, _, ⟨T245, L245, k245, n245⟩, -, X245, ⟨Lc245, hQ245, l245, y245, z245⟩, st245⟩ := Jvm.LawKit.callS X241 hx (y := (⟨"com/example/issuant/issuant/config/Scopes", "isToken", "(Ljava/lang/String;)Z"⟩ : MethodName)) hown (mvT hZ (hw _ (List.mem_of_getElem? (i := 22) rfl))) (mvT hZ (hw _ (List.mem_of_getElem? (i := 23) rfl))) (mvT hZ (hw _ (List.mem_of_getElem? (i := 24) rfl))) (mvT hZ (hw _ (List.mem_of_getElem? (i := 25) rfl))) (by decide) (backOf (W := 0) (rm_tok3 l Z a0 hw [] b176 (nar .char cA) (nar .char cB) (nar .char cC) fm cs T220.heap n0 Z227 f222 Scs hcs Sad Shi Slo Sfm hfm f221 EaS (own_CN GcA) (own_CN GcB) (own_CN GcC)) hZ (hw _ (List.mem_of_getElem? (i := 25) rfl)) (hw _ (List.mem_of_getElem? (i := 24) rfl)) (by decide) (by decide)) (g := (mkF m 235 #[.val (.int an), .val (.int aw), .val (.int ax), .val (.int ay), .val (.int az), .val (.int (3 : Int32)), .val (.int cA), .val (.int cB), .val (.int cC), .val (.int cD), .val (.ref b176), .val (.int (0 : Int32))] [(.ref b176)])) rfl (by rw [hml]; rfl) (argsL := [(.ref b176)]) (rest := []) (lenOf pd17 rfl) rfl (by show 2 * 0 + _ ≤ _; exact Nat.le_of_eq rfl) (hb hby at_235) (fun _ _ => ⟨rfl, e241, (by decide : 4 + 0 ≤ _), (by decide : 16 + 0 ≤ _)⟩)
              dsimp only [Pt.U, Pt.locs, Pt.cells, Pt.slots] at X245 l245 y245 z245 st245 hQ245
              subst l245 y245 z245
              obtain ⟨rfl, N245q, e245⟩ := hQ245
              have N245 := Fr.app N241 N245q
              have P246 := own_step (C := T245.setTop (mkF m 238 #[.val (.int an), .val (.int aw), .val (.int ax), .val (.int ay), .val (.int az), .val (.int (3 : Int32)), .val (.int cA), .val (.int cB), .val (.int cC), .val (.int cD), .val (.ref b176), .val (.int (0 : Int32))] [(.int (own_tok3 (nar .char cA) (nar .char cB) (nar .char cC)))])) P244 (fun t_ k_ => st245 t_ k_)
              have P247 := own_step (C := T245.setTop (mkF m 240 #[.val (.int an), .val (.int aw), .val (.int ax), .val (.int ay), .val (.int az), .val (.int (3 : Int32)), .val (.int cA), .val (.int cB), .val (.int cC), .val (.int cD), .val (.ref b176), .val (.int (0 : Int32))] [(.int (0 : Int32)), (.int (own_tok3 (nar .char cA) (nar .char cB) (nar .char cC)))])) P246 (by
                intro tt_ kk_
                refine XS.iload X245.here hx rfl (hb hby at_238) rfl ?_
                exact kk_)
              have P248 := own_step (C := T245.setTop (mkF m 248 #[.val (.int an), .val (.int aw), .val (.int ax), .val (.int ay), .val (.int az), .val (.int (3 : Int32)), .val (.int cA), .val (.int cB), .val (.int cC), .val (.int cD), .val (.ref b176), .val (.int (0 : Int32))] [(.int (1 : Int32))])) P247 (by
                intro tt_ kk_
                refine XS.icmpNo X245.here hx rfl (hb hby at_240) rfl (teq (own_e3_11 GcA GcB GcC c233 c243)).2 ?_
                refine XS.iconst X245.here hx rfl (hb hby at_243) ?_
                refine XS.goto X245.here hx rfl (pc0 := 244) (pc' := 248) rfl (hb hby at_244) (by decide) (by decide) ?_
                exact kk_)
              obtain ⟨fs, hr, hrun, hended, hW, hsame⟩ := X245.leave (v := some (.int (1 : Int32))) (fun h => by rw [Bd.returns] at h; cases h)
              refine ⟨_, _, P248 _ ?_, hrun, hended, _, _, rfl, ?_, wide ⟨⟨_, rfl⟩, hW, hsame.mono (by decide) (by decide)⟩⟩
              · exact retN X245 hx (t := .boolean) Bd.returns (by simp) (hb hby at_248) hr
              · show Q0 Z _ _ _ _ _ _ _ h0 n0 _ T245.heap _
                rw [e245]
                exact ⟨rfl, N245⟩
            · have P249 := own_step (C := T241.setTop (mkF m 201 #[.val (.int an), .val (.int aw), .val (.int ax), .val (.int ay), .val (.int az), .val (.int (3 : Int32)), .val (.int cA), .val (.int cB), .val (.int cC), .val (.int cD), .val (.ref b176), .unset] [(.int (3 : Int32)), (.int (3 : Int32))])) P242 (by
                intro tt_ kk_
                refine XS.ifNo X241.here hx rfl (hb hby at_195) rfl ((if0 _ _).trans (feq c243).1) ?_
                refine XS.iload X241.here hx rfl (hb hby at_198) rfl ?_
                refine XS.iconst X241.here hx rfl (hb hby at_200) ?_
                exact kk_)
              have P250 := own_step (C := T241.setTop (mkF m 206 #[.val (.int an), .val (.int aw), .val (.int ax), .val (.int ay), .val (.int az), .val (.int (3 : Int32)), .val (.int cA), .val (.int cB), .val (.int cC), .val (.int cD), .val (.ref b176), .unset] [(.int cC)])) P249 (by
                intro tt_ kk_
                refine XS.icmpNo X241.here hx rfl (hb hby at_201) rfl (flt (by decide : ¬ ((3 : Int32) < (3 : Int32)))).1 ?_
                refine XS.iload X241.here hx rfl (hb hby at_204) rfl ?_
                exact kk_)
              obtain ⟨_, _, ⟨T251, L251, k251, n251⟩, -, X251, ⟨Lc251, hQ251, l251, y251, z251⟩, st251⟩ := Jvm.LawKit.callS X241 hx (y := (⟨"com/example/issuant/issuant/config/ScopesIsTokenPinLaw", "ok", "(C)Z"⟩ : MethodName)) hown (mvT hZ (hw _ (List.mem_of_getElem? (i := 42) rfl))) (mvT hZ (hw _ (List.mem_of_getElem? (i := 43) rfl))) (mvT hZ (hw _ (List.mem_of_getElem? (i := 44) rfl))) (mvT hZ (hw _ (List.mem_of_getElem? (i := 45) rfl))) (by decide) (backOf (W := 0) (rm_own_ok l Z a0 hw [] cC T220.heap n0 Z227 ) hZ (hw _ (List.mem_of_getElem? (i := 45) rfl)) (hw _ (List.mem_of_getElem? (i := 44) rfl)) (by decide) (by decide)) (g := (mkF m 206 #[.val (.int an), .val (.int aw), .val (.int ax), .val (.int ay), .val (.int az), .val (.int (3 : Int32)), .val (.int cA), .val (.int cB), .val (.int cC), .val (.int cD), .val (.ref b176), .unset] [(.int cC)])) rfl (by rw [hml]; rfl) (argsL := [(.int cC)]) (rest := []) (lenOf pd18 rfl) rfl (by show 2 * 0 + _ ≤ _; exact Nat.le_of_eq rfl) (hb hby at_206) (fun _ _ => ⟨rfl, e241, (by decide : 4 + 0 ≤ _), (by decide : 16 + 0 ≤ _)⟩)
              dsimp only [Pt.U, Pt.locs, Pt.cells, Pt.slots] at X251 l251 y251 z251 st251 hQ251
              subst l251 y251 z251
              obtain ⟨rfl, N251q, e251⟩ := hQ251
              have N251 := Fr.app N241 N251q
              have P252 := own_step (C := T251.setTop (mkF m 209 #[.val (.int an), .val (.int aw), .val (.int ax), .val (.int ay), .val (.int az), .val (.int (3 : Int32)), .val (.int cA), .val (.int cB), .val (.int cC), .val (.int cD), .val (.ref b176), .unset] [(.int (own_ok cC))])) P250 (fun t_ k_ => st251 t_ k_)
              by_cases c253 : (own_ok cC) = (0 : Int32)
              · have P254 := own_step (C := T251.setTop (mkF m 235 #[.val (.int an), .val (.int aw), .val (.int ax), .val (.int ay), .val (.int az), .val (.int (3 : Int32)), .val (.int cA), .val (.int cB), .val (.int cC), .val (.int cD), .val (.ref b176), .val (.int (0 : Int32))] [(.ref b176)])) P252 (by
                  intro tt_ kk_
                  refine XS.ifYes X251.here hx rfl (pc0 := 209) (pc' := 230) rfl (hb hby at_209) rfl ((if0 _ _).trans (teq c253).1) (by decide) (by decide) ?_
                  refine XS.iconst X251.here hx rfl (hb hby at_230) ?_
                  refine XS.istore X251.here hx rfl (hb hby at_231) rfl (l' := #[.val (.int an), .val (.int aw), .val (.int ax), .val (.int ay), .val (.int az), .val (.int (3 : Int32)), .val (.int cA), .val (.int cB), .val (.int cC), .val (.int cD), .val (.ref b176), .val (.int (0 : Int32))]) rfl ?_
                  refine XS.aload X251.here hx rfl (hb hby at_233) rfl rfl ?_
                  exact kk_)
                obtain ⟨_, _, ⟨T255, L255, k255, n255⟩, -, X255, ⟨Lc255, hQ255, l255, y255, z255⟩, st255⟩ := Jvm.LawKit.callS X251 hx (y := (⟨"com/example/issuant/issuant/config/Scopes", "isToken", "(Ljava/lang/String;)Z"⟩ : MethodName)) hown (mvT hZ (hw _ (List.mem_of_getElem? (i := 22) rfl))) (mvT hZ (hw _ (List.mem_of_getElem? (i := 23) rfl))) (mvT hZ (hw _ (List.mem_of_getElem? (i := 24) rfl))) (mvT hZ (hw _ (List.mem_of_getElem? (i := 25) rfl))) (by decide) (backOf (W := 0) (rm_tok3 l Z a0 hw [] b176 (nar .char cA) (nar .char cB) (nar .char cC) fm cs T220.heap n0 Z227 f222 Scs hcs Sad Shi Slo Sfm hfm f221 EaS (own_CN GcA) (own_CN GcB) (own_CN GcC)) hZ (hw _ (List.mem_of_getElem? (i := 25) rfl)) (hw _ (List.mem_of_getElem? (i := 24) rfl)) (by decide) (by decide)) (g := (mkF m 235 #[.val (.int an), .val (.int aw), .val (.int ax), .val (.int ay), .val (.int az), .val (.int (3 : Int32)), .val (.int cA), .val (.int cB), .val (.int cC), .val (.int cD), .val (.ref b176), .val (.int (0 : Int32))] [(.ref b176)])) rfl (by rw [hml]; rfl) (argsL := [(.ref b176)]) (rest := []) (lenOf pd17 rfl) rfl (by show 2 * 0 + _ ≤ _; exact Nat.le_of_eq rfl) (hb hby at_235) (fun _ _ => ⟨rfl, e251, (by decide : 4 + 0 ≤ _), (by decide : 16 + 0 ≤ _)⟩)
                dsimp only [Pt.U, Pt.locs, Pt.cells, Pt.slots] at X255 l255 y255 z255 st255 hQ255
                subst l255 y255 z255
                obtain ⟨rfl, N255q, e255⟩ := hQ255
                have N255 := Fr.app N251 N255q
                have P256 := own_step (C := T255.setTop (mkF m 238 #[.val (.int an), .val (.int aw), .val (.int ax), .val (.int ay), .val (.int az), .val (.int (3 : Int32)), .val (.int cA), .val (.int cB), .val (.int cC), .val (.int cD), .val (.ref b176), .val (.int (0 : Int32))] [(.int (own_tok3 (nar .char cA) (nar .char cB) (nar .char cC)))])) P254 (fun t_ k_ => st255 t_ k_)
                have P257 := own_step (C := T255.setTop (mkF m 240 #[.val (.int an), .val (.int aw), .val (.int ax), .val (.int ay), .val (.int az), .val (.int (3 : Int32)), .val (.int cA), .val (.int cB), .val (.int cC), .val (.int cD), .val (.ref b176), .val (.int (0 : Int32))] [(.int (0 : Int32)), (.int (own_tok3 (nar .char cA) (nar .char cB) (nar .char cC)))])) P256 (by
                  intro tt_ kk_
                  refine XS.iload X255.here hx rfl (hb hby at_238) rfl ?_
                  exact kk_)
                have P258 := own_step (C := T255.setTop (mkF m 248 #[.val (.int an), .val (.int aw), .val (.int ax), .val (.int ay), .val (.int az), .val (.int (3 : Int32)), .val (.int cA), .val (.int cB), .val (.int cC), .val (.int cD), .val (.ref b176), .val (.int (0 : Int32))] [(.int (1 : Int32))])) P257 (by
                  intro tt_ kk_
                  refine XS.icmpNo X255.here hx rfl (hb hby at_240) rfl (teq (own_e3_12 GcA GcB GcC c233 c243 c253)).2 ?_
                  refine XS.iconst X255.here hx rfl (hb hby at_243) ?_
                  refine XS.goto X255.here hx rfl (pc0 := 244) (pc' := 248) rfl (hb hby at_244) (by decide) (by decide) ?_
                  exact kk_)
                obtain ⟨fs, hr, hrun, hended, hW, hsame⟩ := X255.leave (v := some (.int (1 : Int32))) (fun h => by rw [Bd.returns] at h; cases h)
                refine ⟨_, _, P258 _ ?_, hrun, hended, _, _, rfl, ?_, wide ⟨⟨_, rfl⟩, hW, hsame.mono (by decide) (by decide)⟩⟩
                · exact retN X255 hx (t := .boolean) Bd.returns (by simp) (hb hby at_248) hr
                · show Q0 Z _ _ _ _ _ _ _ h0 n0 _ T255.heap _
                  rw [e255]
                  exact ⟨rfl, N255⟩
              · have P259 := own_step (C := T251.setTop (mkF m 215 #[.val (.int an), .val (.int aw), .val (.int ax), .val (.int ay), .val (.int az), .val (.int (3 : Int32)), .val (.int cA), .val (.int cB), .val (.int cC), .val (.int cD), .val (.ref b176), .unset] [(.int (4 : Int32)), (.int (3 : Int32))])) P252 (by
                  intro tt_ kk_
                  refine XS.ifNo X251.here hx rfl (hb hby at_209) rfl ((if0 _ _).trans (feq c253).1) ?_
                  refine XS.iload X251.here hx rfl (hb hby at_212) rfl ?_
                  refine XS.iconst X251.here hx rfl (hb hby at_214) ?_
                  exact kk_)
                have P260 := own_step (C := T251.setTop (mkF m 235 #[.val (.int an), .val (.int aw), .val (.int ax), .val (.int ay), .val (.int az), .val (.int (3 : Int32)), .val (.int cA), .val (.int cB), .val (.int cC), .val (.int cD), .val (.ref b176), .val (.int (1 : Int32))] [(.ref b176)])) P259 (by
                  intro tt_ kk_
                  refine XS.icmpYes X251.here hx rfl (pc0 := 215) (pc' := 226) rfl (hb hby at_215) rfl (tlt (by decide : (3 : Int32) < (4 : Int32))).1 (by decide) (by decide) ?_
                  refine XS.iconst X251.here hx rfl (hb hby at_226) ?_
                  refine XS.goto X251.here hx rfl (pc0 := 227) (pc' := 231) rfl (hb hby at_227) (by decide) (by decide) ?_
                  refine XS.istore X251.here hx rfl (hb hby at_231) rfl (l' := #[.val (.int an), .val (.int aw), .val (.int ax), .val (.int ay), .val (.int az), .val (.int (3 : Int32)), .val (.int cA), .val (.int cB), .val (.int cC), .val (.int cD), .val (.ref b176), .val (.int (1 : Int32))]) rfl ?_
                  refine XS.aload X251.here hx rfl (hb hby at_233) rfl rfl ?_
                  exact kk_)
                obtain ⟨_, _, ⟨T261, L261, k261, n261⟩, -, X261, ⟨Lc261, hQ261, l261, y261, z261⟩, st261⟩ := Jvm.LawKit.callS X251 hx (y := (⟨"com/example/issuant/issuant/config/Scopes", "isToken", "(Ljava/lang/String;)Z"⟩ : MethodName)) hown (mvT hZ (hw _ (List.mem_of_getElem? (i := 22) rfl))) (mvT hZ (hw _ (List.mem_of_getElem? (i := 23) rfl))) (mvT hZ (hw _ (List.mem_of_getElem? (i := 24) rfl))) (mvT hZ (hw _ (List.mem_of_getElem? (i := 25) rfl))) (by decide) (backOf (W := 0) (rm_tok3 l Z a0 hw [] b176 (nar .char cA) (nar .char cB) (nar .char cC) fm cs T220.heap n0 Z227 f222 Scs hcs Sad Shi Slo Sfm hfm f221 EaS (own_CN GcA) (own_CN GcB) (own_CN GcC)) hZ (hw _ (List.mem_of_getElem? (i := 25) rfl)) (hw _ (List.mem_of_getElem? (i := 24) rfl)) (by decide) (by decide)) (g := (mkF m 235 #[.val (.int an), .val (.int aw), .val (.int ax), .val (.int ay), .val (.int az), .val (.int (3 : Int32)), .val (.int cA), .val (.int cB), .val (.int cC), .val (.int cD), .val (.ref b176), .val (.int (1 : Int32))] [(.ref b176)])) rfl (by rw [hml]; rfl) (argsL := [(.ref b176)]) (rest := []) (lenOf pd17 rfl) rfl (by show 2 * 0 + _ ≤ _; exact Nat.le_of_eq rfl) (hb hby at_235) (fun _ _ => ⟨rfl, e251, (by decide : 4 + 0 ≤ _), (by decide : 16 + 0 ≤ _)⟩)
                dsimp only [Pt.U, Pt.locs, Pt.cells, Pt.slots] at X261 l261 y261 z261 st261 hQ261
                subst l261 y261 z261
                obtain ⟨rfl, N261q, e261⟩ := hQ261
                have N261 := Fr.app N251 N261q
                have P262 := own_step (C := T261.setTop (mkF m 238 #[.val (.int an), .val (.int aw), .val (.int ax), .val (.int ay), .val (.int az), .val (.int (3 : Int32)), .val (.int cA), .val (.int cB), .val (.int cC), .val (.int cD), .val (.ref b176), .val (.int (1 : Int32))] [(.int (own_tok3 (nar .char cA) (nar .char cB) (nar .char cC)))])) P260 (fun t_ k_ => st261 t_ k_)
                have P263 := own_step (C := T261.setTop (mkF m 240 #[.val (.int an), .val (.int aw), .val (.int ax), .val (.int ay), .val (.int az), .val (.int (3 : Int32)), .val (.int cA), .val (.int cB), .val (.int cC), .val (.int cD), .val (.ref b176), .val (.int (1 : Int32))] [(.int (1 : Int32)), (.int (own_tok3 (nar .char cA) (nar .char cB) (nar .char cC)))])) P262 (by
                  intro tt_ kk_
                  refine XS.iload X261.here hx rfl (hb hby at_238) rfl ?_
                  exact kk_)
                have P264 := own_step (C := T261.setTop (mkF m 248 #[.val (.int an), .val (.int aw), .val (.int ax), .val (.int ay), .val (.int az), .val (.int (3 : Int32)), .val (.int cA), .val (.int cB), .val (.int cC), .val (.int cD), .val (.ref b176), .val (.int (1 : Int32))] [(.int (1 : Int32))])) P263 (by
                  intro tt_ kk_
                  refine XS.icmpNo X261.here hx rfl (hb hby at_240) rfl (teq (own_e3_3 GcA GcB GcC c233 c243 c253)).2 ?_
                  refine XS.iconst X261.here hx rfl (hb hby at_243) ?_
                  refine XS.goto X261.here hx rfl (pc0 := 244) (pc' := 248) rfl (hb hby at_244) (by decide) (by decide) ?_
                  exact kk_)
                obtain ⟨fs, hr, hrun, hended, hW, hsame⟩ := X261.leave (v := some (.int (1 : Int32))) (fun h => by rw [Bd.returns] at h; cases h)
                refine ⟨_, _, P264 _ ?_, hrun, hended, _, _, rfl, ?_, wide ⟨⟨_, rfl⟩, hW, hsame.mono (by decide) (by decide)⟩⟩
                · exact retN X261 hx (t := .boolean) Bd.returns (by simp) (hb hby at_248) hr
                · show Q0 Z _ _ _ _ _ _ _ h0 n0 _ T261.heap _
                  rw [e261]
                  exact ⟨rfl, N261⟩
        · have P265 := own_step (C := s₁.setTop (mkF m 138 #[.val (.int an), .val (.int aw), .val (.int ax), .val (.int ay), .val (.int az), .val (.int ln), .val (.int cA), .val (.int cB), .val (.int cC), .val (.int cD), .unset, .unset] [])) P172 (by
            intro tt_ kk_
            refine XS.icmpYes X0.here hx rfl (pc0 := 105) (pc' := 138) rfl (hb hby at_105) rfl (feq c173).2 (by decide) (by decide) ?_
            exact kk_)
          have h4 : ln = (4 : Int32) := own_four gln c8 c44 c99 c173
          clear hln gln
          subst h4
          have P266 := own_step (C := s₁.setTop (mkF m 138 #[.val (.int an), .val (.int aw), .val (.int ax), .val (.int ay), .val (.int az), .val (.int (4 : Int32)), .val (.int cA), .val (.int cB), .val (.int cC), .val (.int cD), .unset, .unset] [])) P265 (fun t_ k_ => k_)
          obtain ⟨T267, h267, X267, e267, E267, A267, D267, -, st267⟩ := newO X0 hx hZ hown (hw _ (List.mem_of_getElem? (i := 0) rfl)) (hw _ (List.mem_of_getElem? (i := 1) rfl)) (hw _ (List.mem_of_getElem? (i := 2) rfl)) e0 (g := (mkF m 138 #[.val (.int an), .val (.int aw), .val (.int ax), .val (.int ay), .val (.int az), .val (.int (4 : Int32)), .val (.int cA), .val (.int cB), .val (.int cC), .val (.int cD), .unset, .unset] [])) rfl (hb hby at_138) (by decide) (by decide)
          obtain ⟨b267, g267⟩ : ∃ z, z = h0.size := ⟨_, rfl⟩
          rw [← g267] at A267 D267 st267
          have g_b267 : n0 ≤ b267 := Nat.le_trans Z0 (Nat.le_of_eq g267.symm)
          have f268 := O.ext E267
          have Z269 : n0 ≤ h267.size := Nat.le_trans Z0 E267.1
          have f270 : Fld Z h267 b267 "java/lang/String" "value" "[B" .null := D267 (Or.inr (hw _ (List.mem_of_getElem? (i := 16) rfl))) (ty := (.array .byte)) (by decide)
          have f271 : Fld Z h267 b267 "java/lang/String" "coder" "B" (.int (0 : Int32)) := D267 (Or.inr (hw _ (List.mem_of_getElem? (i := 17) rfl))) (ty := .byte) (by decide)
          have P272 := own_step (C := T267.setTop (mkF m 141 #[.val (.int an), .val (.int aw), .val (.int ax), .val (.int ay), .val (.int az), .val (.int (4 : Int32)), .val (.int cA), .val (.int cB), .val (.int cC), .val (.int cD), .unset, .unset] [(.ref b267)])) P266 (fun t_ k_ => st267 t_ k_)
          have P273 := own_step (C := T267.setTop (mkF m 143 #[.val (.int an), .val (.int aw), .val (.int ax), .val (.int ay), .val (.int az), .val (.int (4 : Int32)), .val (.int cA), .val (.int cB), .val (.int cC), .val (.int cD), .unset, .unset] [(.int (4 : Int32)), (.ref b267), (.ref b267)])) P272 (by
            intro tt_ kk_
            refine XS.dup X267.here hx rfl (hb hby at_141) rfl rfl ?_
            refine XS.iconst X267.here hx rfl (hb hby at_142) ?_
            exact kk_)
          obtain ⟨T274, h274, k274, X274, e274, E274, A274, st274⟩ := newP X267 hx hZ (hw _ (List.mem_of_getElem? (i := 3) rfl)) e267 (g := (mkF m 143 #[.val (.int an), .val (.int aw), .val (.int ax), .val (.int ay), .val (.int az), .val (.int (4 : Int32)), .val (.int cA), .val (.int cB), .val (.int cC), .val (.int cD), .unset, .unset] [(.int (4 : Int32)), (.ref b267), (.ref b267)])) rfl (hb hby at_143) rfl (by decide) (cap := 4) (by decide) (by decide) (by decide) (by decide)
          obtain ⟨b274, g274⟩ : ∃ z, z = h267.size := ⟨_, rfl⟩
          rw [← g274] at A274 st274
          have ne_b267_b274 : b267 ≠ b274 := Nat.ne_of_lt (Nat.lt_of_lt_of_le A267.lt (Nat.le_of_eq g274.symm))
          have g_b274 : n0 ≤ b274 := Nat.le_trans Z269 (Nat.le_of_eq g274.symm)
          have f275 := f268.ext E274
          have f276 := A267.ext E274
          have f277 := f270.ext E274
          have f278 := f271.ext E274
          have Z279 : n0 ≤ h274.size := Nat.le_trans Z269 E274.1
          have V274 : Arv Z h274 b274 k274 .char (4 : Int32) [(.int (0 : Int32)), (.int (0 : Int32)), (.int (0 : Int32)), (.int (0 : Int32))] (.int (0 : Int32)) := (Arv.new A274 (by decide)).pad (pad_rep [] _ 4)
          have P280 := own_step (C := T274.setTop (mkF m 145 #[.val (.int an), .val (.int aw), .val (.int ax), .val (.int ay), .val (.int az), .val (.int (4 : Int32)), .val (.int cA), .val (.int cB), .val (.int cC), .val (.int cD), .unset, .unset] [(.ref b274), (.ref b267), (.ref b267)])) P273 (fun t_ k_ => st274 t_ k_)
          have P281 := own_step (C := T274.setTop (mkF m 149 #[.val (.int an), .val (.int aw), .val (.int ax), .val (.int ay), .val (.int az), .val (.int (4 : Int32)), .val (.int cA), .val (.int cB), .val (.int cC), .val (.int cD), .unset, .unset] [(.int cA), (.int (0 : Int32)), (.ref b274), (.ref b274), (.ref b267), (.ref b267)])) P280 (by
            intro tt_ kk_
            refine XS.dup X274.here hx rfl (hb hby at_145) rfl rfl ?_
            refine XS.iconst X274.here hx rfl (hb hby at_146) ?_
            refine XS.iload X274.here hx rfl (hb hby at_147) rfl ?_
            exact kk_)
          obtain ⟨cl282, Ar282, q282, S282, M282, H282, G282⟩ := id V274
          obtain ⟨T283, h283, X283, e283, W283, st283⟩ := stC X274 hx hZ e274 Ar282 (j := (0 : Int32)) (inb_of S282 (by decide : ¬ (0 : Int32) < 0 ∧ (0 : Int32) < (4 : Int32))) (g := (mkF m 149 #[.val (.int an), .val (.int aw), .val (.int ax), .val (.int ay), .val (.int az), .val (.int (4 : Int32)), .val (.int cA), .val (.int cB), .val (.int cC), .val (.int cD), .unset, .unset] [(.int cA), (.int (0 : Int32)), (.ref b274), (.ref b274), (.ref b267), (.ref b267)])) rfl rfl (hb hby at_149)
          have f284 := f275.wr W283 g_b274
          have f285 := f276.wr W283
          have f286 := f277.other W283 (Or.inl ne_b267_b274)
          have f287 := f278.other W283 (Or.inl ne_b267_b274)
          have Z289 : n0 ≤ h283.size := Nat.le_trans Z279 (Keep.of_wr W283).1
          have V283 : Arv Z h283 b274 k274 .char (4 : Int32) [(.int (nar .char cA)), (.int (0 : Int32)), (.int (0 : Int32)), (.int (0 : Int32))] (.int (0 : Int32)) := Arv.set Ar282 q282 S282 M282 H282 G282 (fits_nar_char _) W283 0 rfl (Nat.le_of_ble_eq_true rfl)
          have N283 := Fr.snoc X283 N0 g_b274
          have P290 := own_step (C := T283.setTop (mkF m 150 #[.val (.int an), .val (.int aw), .val (.int ax), .val (.int ay), .val (.int az), .val (.int (4 : Int32)), .val (.int cA), .val (.int cB), .val (.int cC), .val (.int cD), .unset, .unset] [(.ref b274), (.ref b267), (.ref b267)])) P281 (fun t_ k_ => st283 t_ k_)
          have P291 := own_step (C := T283.setTop (mkF m 154 #[.val (.int an), .val (.int aw), .val (.int ax), .val (.int ay), .val (.int az), .val (.int (4 : Int32)), .val (.int cA), .val (.int cB), .val (.int cC), .val (.int cD), .unset, .unset] [(.int cB), (.int (1 : Int32)), (.ref b274), (.ref b274), (.ref b267), (.ref b267)])) P290 (by
            intro tt_ kk_
            refine XS.dup X283.here hx rfl (hb hby at_150) rfl rfl ?_
            refine XS.iconst X283.here hx rfl (hb hby at_151) ?_
            refine XS.iload X283.here hx rfl (hb hby at_152) rfl ?_
            exact kk_)
          obtain ⟨cl292, Ar292, q292, S292, M292, H292, G292⟩ := id V283
          obtain ⟨T293, h293, X293, e293, W293, st293⟩ := stC X283 hx hZ e283 Ar292 (j := (1 : Int32)) (inb_of S292 (by decide : ¬ (1 : Int32) < 0 ∧ (1 : Int32) < (4 : Int32))) (g := (mkF m 154 #[.val (.int an), .val (.int aw), .val (.int ax), .val (.int ay), .val (.int az), .val (.int (4 : Int32)), .val (.int cA), .val (.int cB), .val (.int cC), .val (.int cD), .unset, .unset] [(.int cB), (.int (1 : Int32)), (.ref b274), (.ref b274), (.ref b267), (.ref b267)])) rfl rfl (hb hby at_154)
          have f294 := f284.wr W293 g_b274
          have f295 := f285.wr W293
          have f296 := f286.other W293 (Or.inl ne_b267_b274)
          have f297 := f287.other W293 (Or.inl ne_b267_b274)
          have Z299 : n0 ≤ h293.size := Nat.le_trans Z289 (Keep.of_wr W293).1
          have V293 : Arv Z h293 b274 k274 .char (4 : Int32) [(.int (nar .char cA)), (.int (nar .char cB)), (.int (0 : Int32)), (.int (0 : Int32))] (.int (0 : Int32)) := Arv.set Ar292 q292 S292 M292 H292 G292 (fits_nar_char _) W293 1 rfl (Nat.le_of_ble_eq_true rfl)
          have N293 := Fr.snoc X293 N283 g_b274
          have P300 := own_step (C := T293.setTop (mkF m 155 #[.val (.int an), .val (.int aw), .val (.int ax), .val (.int ay), .val (.int az), .val (.int (4 : Int32)), .val (.int cA), .val (.int cB), .val (.int cC), .val (.int cD), .unset, .unset] [(.ref b274), (.ref b267), (.ref b267)])) P291 (fun t_ k_ => st293 t_ k_)
          have P301 := own_step (C := T293.setTop (mkF m 159 #[.val (.int an), .val (.int aw), .val (.int ax), .val (.int ay), .val (.int az), .val (.int (4 : Int32)), .val (.int cA), .val (.int cB), .val (.int cC), .val (.int cD), .unset, .unset] [(.int cC), (.int (2 : Int32)), (.ref b274), (.ref b274), (.ref b267), (.ref b267)])) P300 (by
            intro tt_ kk_
            refine XS.dup X293.here hx rfl (hb hby at_155) rfl rfl ?_
            refine XS.iconst X293.here hx rfl (hb hby at_156) ?_
            refine XS.iload X293.here hx rfl (hb hby at_157) rfl ?_
            exact kk_)
          obtain ⟨cl302, Ar302, q302, S302, M302, H302, G302⟩ := id V293
          obtain ⟨T303, h303, X303, e303, W303, st303⟩ := stC X293 hx hZ e293 Ar302 (j := (2 : Int32)) (inb_of S302 (by decide : ¬ (2 : Int32) < 0 ∧ (2 : Int32) < (4 : Int32))) (g := (mkF m 159 #[.val (.int an), .val (.int aw), .val (.int ax), .val (.int ay), .val (.int az), .val (.int (4 : Int32)), .val (.int cA), .val (.int cB), .val (.int cC), .val (.int cD), .unset, .unset] [(.int cC), (.int (2 : Int32)), (.ref b274), (.ref b274), (.ref b267), (.ref b267)])) rfl rfl (hb hby at_159)
          have f304 := f294.wr W303 g_b274
          have f305 := f295.wr W303
          have f306 := f296.other W303 (Or.inl ne_b267_b274)
          have f307 := f297.other W303 (Or.inl ne_b267_b274)
          have Z309 : n0 ≤ h303.size := Nat.le_trans Z299 (Keep.of_wr W303).1
          have V303 : Arv Z h303 b274 k274 .char (4 : Int32) [(.int (nar .char cA)), (.int (nar .char cB)), (.int (nar .char cC)), (.int (0 : Int32))] (.int (0 : Int32)) := Arv.set Ar302 q302 S302 M302 H302 G302 (fits_nar_char _) W303 2 rfl (Nat.le_of_ble_eq_true rfl)
          have N303 := Fr.snoc X303 N293 g_b274
          have P310 := own_step (C := T303.setTop (mkF m 160 #[.val (.int an), .val (.int aw), .val (.int ax), .val (.int ay), .val (.int az), .val (.int (4 : Int32)), .val (.int cA), .val (.int cB), .val (.int cC), .val (.int cD), .unset, .unset] [(.ref b274), (.ref b267), (.ref b267)])) P301 (fun t_ k_ => st303 t_ k_)
          have P311 := own_step (C := T303.setTop (mkF m 164 #[.val (.int an), .val (.int aw), .val (.int ax), .val (.int ay), .val (.int az), .val (.int (4 : Int32)), .val (.int cA), .val (.int cB), .val (.int cC), .val (.int cD), .unset, .unset] [(.int cD), (.int (3 : Int32)), (.ref b274), (.ref b274), (.ref b267), (.ref b267)])) P310 (by
            intro tt_ kk_
            refine XS.dup X303.here hx rfl (hb hby at_160) rfl rfl ?_
            refine XS.iconst X303.here hx rfl (hb hby at_161) ?_
            refine XS.iload X303.here hx rfl (hb hby at_162) rfl ?_
            exact kk_)
          obtain ⟨cl312, Ar312, q312, S312, M312, H312, G312⟩ := id V303
          obtain ⟨T313, h313, X313, e313, W313, st313⟩ := stC X303 hx hZ e303 Ar312 (j := (3 : Int32)) (inb_of S312 (by decide : ¬ (3 : Int32) < 0 ∧ (3 : Int32) < (4 : Int32))) (g := (mkF m 164 #[.val (.int an), .val (.int aw), .val (.int ax), .val (.int ay), .val (.int az), .val (.int (4 : Int32)), .val (.int cA), .val (.int cB), .val (.int cC), .val (.int cD), .unset, .unset] [(.int cD), (.int (3 : Int32)), (.ref b274), (.ref b274), (.ref b267), (.ref b267)])) rfl rfl (hb hby at_164)
          have f314 := f304.wr W313 g_b274
          have f315 := f305.wr W313
          have f316 := f306.other W313 (Or.inl ne_b267_b274)
          have f317 := f307.other W313 (Or.inl ne_b267_b274)
          have Z319 : n0 ≤ h313.size := Nat.le_trans Z309 (Keep.of_wr W313).1
          have V313 : Arv Z h313 b274 k274 .char (4 : Int32) [(.int (nar .char cA)), (.int (nar .char cB)), (.int (nar .char cC)), (.int (nar .char cD))] (.int (0 : Int32)) := Arv.set Ar312 q312 S312 M312 H312 G312 (fits_nar_char _) W313 3 rfl (Nat.le_of_ble_eq_true rfl)
          have N313 := Fr.snoc X313 N303 g_b274
          have P320 := own_step (C := T313.setTop (mkF m 165 #[.val (.int an), .val (.int aw), .val (.int ax), .val (.int ay), .val (.int az), .val (.int (4 : Int32)), .val (.int cA), .val (.int cB), .val (.int cC), .val (.int cD), .unset, .unset] [(.ref b274), (.ref b267), (.ref b267)])) P311 (fun t_ k_ => st313 t_ k_)
          obtain ⟨_, _, ⟨T321, L321, k321, n321⟩, -, X321, ⟨Lc321, hQ321, l321, y321, z321⟩, st321⟩ := X313.specialBack hx (y := (⟨"java/lang/String", "<init>", "([C)V"⟩ : MethodName)) rfl hown (mvT hZ (hw _ (List.mem_of_getElem? (i := 4) rfl))) (mvT hZ (hw _ (List.mem_of_getElem? (i := 5) rfl))) (mvT hZ (hw _ (List.mem_of_getElem? (i := 6) rfl))) (by decide) (backOf (W := 1) (rm_initA_4 l Z a0 hw [] b267 b274 k274 (nar .char cA) (nar .char cB) (nar .char cC) (nar .char cD) cs h313 n0 Z319 f314 Scs hcs f315 f316 f317 g_b267 V313 Sad Shi Slo (own_CN GcA) (own_CN GcB) (own_CN GcC) (own_CN GcD)) hZ (hw _ (List.mem_of_getElem? (i := 6) rfl)) (hw _ (List.mem_of_getElem? (i := 2) rfl)) (by decide) (by decide)) (g := (mkF m 165 #[.val (.int an), .val (.int aw), .val (.int ax), .val (.int ay), .val (.int az), .val (.int (4 : Int32)), .val (.int cA), .val (.int cB), .val (.int cC), .val (.int cD), .unset, .unset] [(.ref b274), (.ref b267), (.ref b267)])) rfl (by rw [hml]; rfl) (Steps.refl _) (a := b267) (argsL := [(.ref b274)]) (rest := [(.ref b267)]) (lenOf pd16 rfl) rfl (by show 2 * 0 + _ ≤ _; exact Nat.le_of_eq rfl) (hb hby at_165) (fun _ _ => ⟨rfl, e313, (by decide : 2 + 2 ≤ _), (by decide : 8 + 12 ≤ _)⟩)
          dsimp only [Pt.U, Pt.locs, Pt.cells, Pt.slots] at X321 l321 y321 z321 st321 hQ321
          subst l321 y321 z321
          obtain ⟨rfl, N321q, K321, f322⟩ := hQ321
          have N321 := Fr.app N313 N321q
          have f323 := f314.keep K321 (allS g_b267 all0)
          have f324 := f315.keep K321
          have f327 := V313.keep K321 (ninS (Ne.symm ne_b267_b274) nin0)
          have Z328 : n0 ≤ T321.heap.size := Nat.le_trans Z319 K321.1
          have P329 := own_step (C := T321.setTop (mkF m 168 #[.val (.int an), .val (.int aw), .val (.int ax), .val (.int ay), .val (.int az), .val (.int (4 : Int32)), .val (.int cA), .val (.int cB), .val (.int cC), .val (.int cD), .unset, .unset] [(.ref b267)])) P320 (fun t_ k_ => st321.trans k_)
          obtain ⟨_, _, EaS, -⟩ := id f322
          have P330 := own_step (C := T321.setTop (mkF m 173 #[.val (.int an), .val (.int aw), .val (.int ax), .val (.int ay), .val (.int az), .val (.int (4 : Int32)), .val (.int cA), .val (.int cB), .val (.int cC), .val (.int cD), .val (.ref b267), .unset] [(.int (1 : Int32)), (.int (4 : Int32))])) P329 (by
            intro tt_ kk_
            refine XS.astore X321.here hx rfl (hb hby at_168) rfl rfl (l' := #[.val (.int an), .val (.int aw), .val (.int ax), .val (.int ay), .val (.int az), .val (.int (4 : Int32)), .val (.int cA), .val (.int cB), .val (.int cC), .val (.int cD), .val (.ref b267), .unset]) rfl ?_
            refine XS.iload X321.here hx rfl (hb hby at_170) rfl ?_
            refine XS.iconst X321.here hx rfl (hb hby at_172) ?_
            exact kk_)
          have P331 := own_step (C := T321.setTop (mkF m 178 #[.val (.int an), .val (.int aw), .val (.int ax), .val (.int ay), .val (.int az), .val (.int (4 : Int32)), .val (.int cA), .val (.int cB), .val (.int cC), .val (.int cD), .val (.ref b267), .unset] [(.int cA)])) P330 (by
            intro tt_ kk_
            refine XS.icmpNo X321.here hx rfl (hb hby at_173) rfl (flt (by decide : ¬ ((4 : Int32) < (1 : Int32)))).1 ?_
            refine XS.iload X321.here hx rfl (hb hby at_176) rfl ?_
            exact kk_)
          obtain ⟨_, _, ⟨T332, L332, k332, n332⟩, -, X332, ⟨Lc332, hQ332, l332, y332, z332⟩, st332⟩ := Jvm.LawKit.callS X321 hx (y := (⟨"com/example/issuant/issuant/config/ScopesIsTokenPinLaw", "ok", "(C)Z"⟩ : MethodName)) hown (mvT hZ (hw _ (List.mem_of_getElem? (i := 42) rfl))) (mvT hZ (hw _ (List.mem_of_getElem? (i := 43) rfl))) (mvT hZ (hw _ (List.mem_of_getElem? (i := 44) rfl))) (mvT hZ (hw _ (List.mem_of_getElem? (i := 45) rfl))) (by decide) (backOf (W := 0) (rm_own_ok l Z a0 hw [] cA T321.heap n0 Z328 ) hZ (hw _ (List.mem_of_getElem? (i := 45) rfl)) (hw _ (List.mem_of_getElem? (i := 44) rfl)) (by decide) (by decide)) (g := (mkF m 178 #[.val (.int an), .val (.int aw), .val (.int ax), .val (.int ay), .val (.int az), .val (.int (4 : Int32)), .val (.int cA), .val (.int cB), .val (.int cC), .val (.int cD), .val (.ref b267), .unset] [(.int cA)])) rfl (by rw [hml]; rfl) (argsL := [(.int cA)]) (rest := []) (lenOf pd18 rfl) rfl (by show 2 * 0 + _ ≤ _; exact Nat.le_of_eq rfl) (hb hby at_178) (fun _ _ => ⟨rfl, rfl, (by decide : 4 + 0 ≤ _), (by decide : 20 + 0 ≤ _)⟩)
          dsimp only [Pt.U, Pt.locs, Pt.cells, Pt.slots] at X332 l332 y332 z332 st332 hQ332
          subst l332 y332 z332
          obtain ⟨rfl, N332q, e332⟩ := hQ332
          have N332 := Fr.app N321 N332q
          have P333 := own_step (C := T332.setTop (mkF m 181 #[.val (.int an), .val (.int aw), .val (.int ax), .val (.int ay), .val (.int az), .val (.int (4 : Int32)), .val (.int cA), .val (.int cB), .val (.int cC), .val (.int cD), .val (.ref b267), .unset] [(.int (own_ok cA))])) P331 (fun t_ k_ => st332 t_ k_)
          by_cases c334 : (own_ok cA) = (0 : Int32)
          · have P335 := own_step (C := T332.setTop (mkF m 235 #[.val (.int an), .val (.int aw), .val (.int ax), .val (.int ay), .val (.int az), .val (.int (4 : Int32)), .val (.int cA), .val (.int cB), .val (.int cC), .val (.int cD), .val (.ref b267), .val (.int (0 : Int32))] [(.ref b267)])) P333 (by
              intro tt_ kk_
              refine XS.ifYes X332.here hx rfl (pc0 := 181) (pc' := 230) rfl (hb hby at_181) rfl ((if0 _ _).trans (teq c334).1) (by decide) (by decide) ?_
              refine XS.iconst X332.here hx rfl (hb hby at_230) ?_
              refine XS.istore X332.here hx rfl (hb hby at_231) rfl (l' := #[.val (.int an), .val (.int aw), .val (.int ax), .val (.int ay), .val (.int az), .val (.int (4 : Int32)), .val (.int cA), .val (.int cB), .val (.int cC), .val (.int cD), .val (.ref b267), .val (.int (0 : Int32))]) rfl ?_
              refine XS.aload X332.here hx rfl (hb hby at_233) rfl rfl ?_
              exact kk_)
            obtain ⟨_, _, ⟨T336, L336, k336, n336⟩, -, X336, ⟨Lc336, hQ336, l336, y336, z336⟩, st336⟩ := Jvm.LawKit.callS X332 hx (y := (⟨"com/example/issuant/issuant/config/Scopes", "isToken", "(Ljava/lang/String;)Z"⟩ : MethodName)) hown (mvT hZ (hw _ (List.mem_of_getElem? (i := 22) rfl))) (mvT hZ (hw _ (List.mem_of_getElem? (i := 23) rfl))) (mvT hZ (hw _ (List.mem_of_getElem? (i := 24) rfl))) (mvT hZ (hw _ (List.mem_of_getElem? (i := 25) rfl))) (by decide) (backOf (W := 0) (rm_tok4 l Z a0 hw [] b267 (nar .char cA) (nar .char cB) (nar .char cC) (nar .char cD) fm cs T321.heap n0 Z328 f323 Scs hcs Sad Shi Slo Sfm hfm f322 EaS (own_CN GcA) (own_CN GcB) (own_CN GcC) (own_CN GcD)) hZ (hw _ (List.mem_of_getElem? (i := 25) rfl)) (hw _ (List.mem_of_getElem? (i := 24) rfl)) (by decide) (by decide)) (g := (mkF m 235 #[.val (.int an), .val (.int aw), .val (.int ax), .val (.int ay), .val (.int az), .val (.int (4 : Int32)), .val (.int cA), .val (.int cB), .val (.int cC), .val (.int cD), .val (.ref b267), .val (.int (0 : Int32))] [(.ref b267)])) rfl (by rw [hml]; rfl) (argsL := [(.ref b267)]) (rest := []) (lenOf pd17 rfl) rfl (by show 2 * 0 + _ ≤ _; exact Nat.le_of_eq rfl) (hb hby at_235) (fun _ _ => ⟨rfl, e332, (by decide : 4 + 0 ≤ _), (by decide : 20 + 0 ≤ _)⟩)
            dsimp only [Pt.U, Pt.locs, Pt.cells, Pt.slots] at X336 l336 y336 z336 st336 hQ336
            subst l336 y336 z336
            obtain ⟨rfl, N336q, e336⟩ := hQ336
            have N336 := Fr.app N332 N336q
            have P337 := own_step (C := T336.setTop (mkF m 238 #[.val (.int an), .val (.int aw), .val (.int ax), .val (.int ay), .val (.int az), .val (.int (4 : Int32)), .val (.int cA), .val (.int cB), .val (.int cC), .val (.int cD), .val (.ref b267), .val (.int (0 : Int32))] [(.int (own_tok4 (nar .char cA) (nar .char cB) (nar .char cC) (nar .char cD)))])) P335 (fun t_ k_ => st336 t_ k_)
            have P338 := own_step (C := T336.setTop (mkF m 240 #[.val (.int an), .val (.int aw), .val (.int ax), .val (.int ay), .val (.int az), .val (.int (4 : Int32)), .val (.int cA), .val (.int cB), .val (.int cC), .val (.int cD), .val (.ref b267), .val (.int (0 : Int32))] [(.int (0 : Int32)), (.int (own_tok4 (nar .char cA) (nar .char cB) (nar .char cC) (nar .char cD)))])) P337 (by
              intro tt_ kk_
              refine XS.iload X336.here hx rfl (hb hby at_238) rfl ?_
              exact kk_)
            have P339 := own_step (C := T336.setTop (mkF m 248 #[.val (.int an), .val (.int aw), .val (.int ax), .val (.int ay), .val (.int az), .val (.int (4 : Int32)), .val (.int cA), .val (.int cB), .val (.int cC), .val (.int cD), .val (.ref b267), .val (.int (0 : Int32))] [(.int (1 : Int32))])) P338 (by
              intro tt_ kk_
              refine XS.icmpNo X336.here hx rfl (hb hby at_240) rfl (teq (own_e4_10 GcA GcB GcC GcD c334)).2 ?_
              refine XS.iconst X336.here hx rfl (hb hby at_243) ?_
              refine XS.goto X336.here hx rfl (pc0 := 244) (pc' := 248) rfl (hb hby at_244) (by decide) (by decide) ?_
              exact kk_)
            obtain ⟨fs, hr, hrun, hended, hW, hsame⟩ := X336.leave (v := some (.int (1 : Int32))) (fun h => by rw [Bd.returns] at h; cases h)
            refine ⟨_, _, P339 _ ?_, hrun, hended, _, _, rfl, ?_, wide ⟨⟨_, rfl⟩, hW, hsame.mono (by decide) (by decide)⟩⟩
            · exact retN X336 hx (t := .boolean) Bd.returns (by simp) (hb hby at_248) hr
            · show Q0 Z _ _ _ _ _ _ _ h0 n0 _ T336.heap _
              rw [e336]
              exact ⟨rfl, N336⟩
          · have P340 := own_step (C := T332.setTop (mkF m 187 #[.val (.int an), .val (.int aw), .val (.int ax), .val (.int ay), .val (.int az), .val (.int (4 : Int32)), .val (.int cA), .val (.int cB), .val (.int cC), .val (.int cD), .val (.ref b267), .unset] [(.int (2 : Int32)), (.int (4 : Int32))])) P333 (by
              intro tt_ kk_
              refine XS.ifNo X332.here hx rfl (hb hby at_181) rfl ((if0 _ _).trans (feq c334).1) ?_
              refine XS.iload X332.here hx rfl (hb hby at_184) rfl ?_
              refine XS.iconst X332.here hx rfl (hb hby at_186) ?_
              exact kk_)
            have P341 := own_step (C := T332.setTop (mkF m 192 #[.val (.int an), .val (.int aw), .val (.int ax), .val (.int ay), .val (.int az), .val (.int (4 : Int32)), .val (.int cA), .val (.int cB), .val (.int cC), .val (.int cD), .val (.ref b267), .unset] [(.int cB)])) P340 (by
              intro tt_ kk_
              refine XS.icmpNo X332.here hx rfl (hb hby at_187) rfl (flt (by decide : ¬ ((4 : Int32) < (2 : Int32)))).1 ?_
              refine XS.iload X332.here hx rfl (hb hby at_190) rfl ?_
              exact kk_)
            obtain ⟨_, _, ⟨T342, L342, k342, n342⟩, -, X342, ⟨Lc342, hQ342, l342, y342, z342⟩, st342⟩ := Jvm.LawKit.callS X332 hx (y := (⟨"com/example/issuant/issuant/config/ScopesIsTokenPinLaw", "ok", "(C)Z"⟩ : MethodName)) hown (mvT hZ (hw _ (List.mem_of_getElem? (i := 42) rfl))) (mvT hZ (hw _ (List.mem_of_getElem? (i := 43) rfl))) (mvT hZ (hw _ (List.mem_of_getElem? (i := 44) rfl))) (mvT hZ (hw _ (List.mem_of_getElem? (i := 45) rfl))) (by decide) (backOf (W := 0) (rm_own_ok l Z a0 hw [] cB T321.heap n0 Z328 ) hZ (hw _ (List.mem_of_getElem? (i := 45) rfl)) (hw _ (List.mem_of_getElem? (i := 44) rfl)) (by decide) (by decide)) (g := (mkF m 192 #[.val (.int an), .val (.int aw), .val (.int ax), .val (.int ay), .val (.int az), .val (.int (4 : Int32)), .val (.int cA), .val (.int cB), .val (.int cC), .val (.int cD), .val (.ref b267), .unset] [(.int cB)])) rfl (by rw [hml]; rfl) (argsL := [(.int cB)]) (rest := []) (lenOf pd18 rfl) rfl (by show 2 * 0 + _ ≤ _; exact Nat.le_of_eq rfl) (hb hby at_192) (fun _ _ => ⟨rfl, e332, (by decide : 4 + 0 ≤ _), (by decide : 20 + 0 ≤ _)⟩)
            dsimp only [Pt.U, Pt.locs, Pt.cells, Pt.slots] at X342 l342 y342 z342 st342 hQ342
            subst l342 y342 z342
            obtain ⟨rfl, N342q, e342⟩ := hQ342
            have N342 := Fr.app N332 N342q
            have P343 := own_step (C := T342.setTop (mkF m 195 #[.val (.int an), .val (.int aw), .val (.int ax), .val (.int ay), .val (.int az), .val (.int (4 : Int32)), .val (.int cA), .val (.int cB), .val (.int cC), .val (.int cD), .val (.ref b267), .unset] [(.int (own_ok cB))])) P341 (fun t_ k_ => st342 t_ k_)
            by_cases c344 : (own_ok cB) = (0 : Int32)
            · have P345 := own_step (C := T342.setTop (mkF m 235 #[.val (.int an), .val (.int aw), .val (.int ax), .val (.int ay), .val (.int az), .val (.int (4 : Int32)), .val (.int cA), .val (.int cB), .val (.int cC), .val (.int cD), .val (.ref b267), .val (.int (0 : Int32))] [(.ref b267)])) P343 (by
                intro tt_ kk_
                refine XS.ifYes X342.here hx rfl (pc0 := 195) (pc' := 230) rfl (hb hby at_195) rfl ((if0 _ _).trans (teq c344).1) (by decide) (by decide) ?_
                refine XS.iconst X342.here hx rfl (hb hby at_230) ?_
                refine XS.istore X342.here hx rfl (hb hby at_231) rfl (l' := #[.val (.int an), .val (.int aw), .val (.int ax), .val (.int ay), .val (.int az), .val (.int (4 : Int32)), .val (.int cA), .val (.int cB), .val (.int cC), .val (.int cD), .val (.ref b267), .val (.int (0 : Int32))]) rfl ?_
                refine XS.aload X342.here hx rfl (hb hby at_233) rfl rfl ?_
                exact kk_)
              obtain ⟨_, _, ⟨T346, L346, k346, n346⟩, -, X346, ⟨Lc346, hQ346, l346, y346, z346⟩, st346⟩ := Jvm.LawKit.callS X342 hx (y := (⟨"com/example/issuant/issuant/config/Scopes", "isToken", "(Ljava/lang/String;)Z"⟩ : MethodName)) hown (mvT hZ (hw _ (List.mem_of_getElem? (i := 22) rfl))) (mvT hZ (hw _ (List.mem_of_getElem? (i := 23) rfl))) (mvT hZ (hw _ (List.mem_of_getElem? (i := 24) rfl))) (mvT hZ (hw _ (List.mem_of_getElem? (i := 25) rfl))) (by decide) (backOf (W := 0) (rm_tok4 l Z a0 hw [] b267 (nar .char cA) (nar .char cB) (nar .char cC) (nar .char cD) fm cs T321.heap n0 Z328 f323 Scs hcs Sad Shi Slo Sfm hfm f322 EaS (own_CN GcA) (own_CN GcB) (own_CN GcC) (own_CN GcD)) hZ (hw _ (List.mem_of_getElem? (i := 25) rfl)) (hw _ (List.mem_of_getElem? (i := 24) rfl)) (by decide) (by decide)) (g := (mkF m 235 #[.val (.int an), .val (.int aw), .val (.int ax), .val (.int ay), .val (.int az), .val (.int (4 : Int32)), .val (.int cA), .val (.int cB), .val (.int cC), .val (.int cD), .val (.ref b267), .val (.int (0 : Int32))] [(.ref b267)])) rfl (by rw [hml]; rfl) (argsL := [(.ref b267)]) (rest := []) (lenOf pd17 rfl) rfl (by show 2 * 0 + _ ≤ _; exact Nat.le_of_eq rfl) (hb hby at_235) (fun _ _ => ⟨rfl, e342, (by decide : 4 + 0 ≤ _), (by decide : 20 + 0 ≤ _)⟩)
              dsimp only [Pt.U, Pt.locs, Pt.cells, Pt.slots] at X346 l346 y346 z346 st346 hQ346
              subst l346 y346 z346
              obtain ⟨rfl, N346q, e346⟩ := hQ346
              have N346 := Fr.app N342 N346q
              have P347 := own_step (C := T346.setTop (mkF m 238 #[.val (.int an), .val (.int aw), .val (.int ax), .val (.int ay), .val (.int az), .val (.int (4 : Int32)), .val (.int cA), .val (.int cB), .val (.int cC), .val (.int cD), .val (.ref b267), .val (.int (0 : Int32))] [(.int (own_tok4 (nar .char cA) (nar .char cB) (nar .char cC) (nar .char cD)))])) P345 (fun t_ k_ => st346 t_ k_)
              have P348 := own_step (C := T346.setTop (mkF m 240 #[.val (.int an), .val (.int aw), .val (.int ax), .val (.int ay), .val (.int az), .val (.int (4 : Int32)), .val (.int cA), .val (.int cB), .val (.int cC), .val (.int cD), .val (.ref b267), .val (.int (0 : Int32))] [(.int (0 : Int32)), (.int (own_tok4 (nar .char cA) (nar .char cB) (nar .char cC) (nar .char cD)))])) P347 (by
                intro tt_ kk_
                refine XS.iload X346.here hx rfl (hb hby at_238) rfl ?_
                exact kk_)
              have P349 := own_step (C := T346.setTop (mkF m 248 #[.val (.int an), .val (.int aw), .val (.int ax), .val (.int ay), .val (.int az), .val (.int (4 : Int32)), .val (.int cA), .val (.int cB), .val (.int cC), .val (.int cD), .val (.ref b267), .val (.int (0 : Int32))] [(.int (1 : Int32))])) P348 (by
                intro tt_ kk_
                refine XS.icmpNo X346.here hx rfl (hb hby at_240) rfl (teq (own_e4_11 GcA GcB GcC GcD c334 c344)).2 ?_
                refine XS.iconst X346.here hx rfl (hb hby at_243) ?_
                refine XS.goto X346.here hx rfl (pc0 := 244) (pc' := 248) rfl (hb hby at_244) (by decide) (by decide) ?_
                exact kk_)
              obtain ⟨fs, hr, hrun, hended, hW, hsame⟩ := X346.leave (v := some (.int (1 : Int32))) (fun h => by rw [Bd.returns] at h; cases h)
              refine ⟨_, _, P349 _ ?_, hrun, hended, _, _, rfl, ?_, wide ⟨⟨_, rfl⟩, hW, hsame.mono (by decide) (by decide)⟩⟩
              · exact retN X346 hx (t := .boolean) Bd.returns (by simp) (hb hby at_248) hr
              · show Q0 Z _ _ _ _ _ _ _ h0 n0 _ T346.heap _
                rw [e346]
                exact ⟨rfl, N346⟩
            · have P350 := own_step (C := T342.setTop (mkF m 201 #[.val (.int an), .val (.int aw), .val (.int ax), .val (.int ay), .val (.int az), .val (.int (4 : Int32)), .val (.int cA), .val (.int cB), .val (.int cC), .val (.int cD), .val (.ref b267), .unset] [(.int (3 : Int32)), (.int (4 : Int32))])) P343 (by
                intro tt_ kk_
                refine XS.ifNo X342.here hx rfl (hb hby at_195) rfl ((if0 _ _).trans (feq c344).1) ?_
                refine XS.iload X342.here hx rfl (hb hby at_198) rfl ?_
                refine XS.iconst X342.here hx rfl (hb hby at_200) ?_
                exact kk_)
              have P351 := own_step (C := T342.setTop (mkF m 206 #[.val (.int an), .val (.int aw), .val (.int ax), .val (.int ay), .val (.int az), .val (.int (4 : Int32)), .val (.int cA), .val (.int cB), .val (.int cC), .val (.int cD), .val (.ref b267), .unset] [(.int cC)])) P350 (by
                intro tt_ kk_
                refine XS.icmpNo X342.here hx rfl (hb hby at_201) rfl (flt (by decide : ¬ ((4 : Int32) < (3 : Int32)))).1 ?_
                refine XS.iload X342.here hx rfl (hb hby at_204) rfl ?_
                exact kk_)
              obtain ⟨_, _, ⟨T352, L352, k352, n352⟩, -, X352, ⟨Lc352, hQ352, l352, y352, z352⟩, st352⟩ := Jvm.LawKit.callS X342 hx (y := (⟨"com/example/issuant/issuant/config/ScopesIsTokenPinLaw", "ok", "(C)Z"⟩ : MethodName)) hown (mvT hZ (hw _ (List.mem_of_getElem? (i := 42) rfl))) (mvT hZ (hw _ (List.mem_of_getElem? (i := 43) rfl))) (mvT hZ (hw _ (List.mem_of_getElem? (i := 44) rfl))) (mvT hZ (hw _ (List.mem_of_getElem? (i := 45) rfl))) (by decide) (backOf (W := 0) (rm_own_ok l Z a0 hw [] cC T321.heap n0 Z328 ) hZ (hw _ (List.mem_of_getElem? (i := 45) rfl)) (hw _ (List.mem_of_getElem? (i := 44) rfl)) (by decide) (by decide)) (g := (mkF m 206 #[.val (.int an), .val (.int aw), .val (.int ax), .val (.int ay), .val (.int az), .val (.int (4 : Int32)), .val (.int cA), .val (.int cB), .val (.int cC), .val (.int cD), .val (.ref b267), .unset] [(.int cC)])) rfl (by rw [hml]; rfl) (argsL := [(.int cC)]) (rest := []) (lenOf pd18 rfl) rfl (by show 2 * 0 + _ ≤ _; exact Nat.le_of_eq rfl) (hb hby at_206) (fun _ _ => ⟨rfl, e342, (by decide : 4 + 0 ≤ _), (by decide : 20 + 0 ≤ _)⟩)
              dsimp only [Pt.U, Pt.locs, Pt.cells, Pt.slots] at X352 l352 y352 z352 st352 hQ352
              subst l352 y352 z352
              obtain ⟨rfl, N352q, e352⟩ := hQ352
              have N352 := Fr.app N342 N352q
              have P353 := own_step (C := T352.setTop (mkF m 209 #[.val (.int an), .val (.int aw), .val (.int ax), .val (.int ay), .val (.int az), .val (.int (4 : Int32)), .val (.int cA), .val (.int cB), .val (.int cC), .val (.int cD), .val (.ref b267), .unset] [(.int (own_ok cC))])) P351 (fun t_ k_ => st352 t_ k_)
              by_cases c354 : (own_ok cC) = (0 : Int32)
              · have P355 := own_step (C := T352.setTop (mkF m 235 #[.val (.int an), .val (.int aw), .val (.int ax), .val (.int ay), .val (.int az), .val (.int (4 : Int32)), .val (.int cA), .val (.int cB), .val (.int cC), .val (.int cD), .val (.ref b267), .val (.int (0 : Int32))] [(.ref b267)])) P353 (by
                  intro tt_ kk_
                  refine XS.ifYes X352.here hx rfl (pc0 := 209) (pc' := 230) rfl (hb hby at_209) rfl ((if0 _ _).trans (teq c354).1) (by decide) (by decide) ?_
                  refine XS.iconst X352.here hx rfl (hb hby at_230) ?_
                  refine XS.istore X352.here hx rfl (hb hby at_231) rfl (l' := #[.val (.int an), .val (.int aw), .val (.int ax), .val (.int ay), .val (.int az), .val (.int (4 : Int32)), .val (.int cA), .val (.int cB), .val (.int cC), .val (.int cD), .val (.ref b267), .val (.int (0 : Int32))]) rfl ?_
                  refine XS.aload X352.here hx rfl (hb hby at_233) rfl rfl ?_
                  exact kk_)
                obtain ⟨_, _, ⟨T356, L356, k356, n356⟩, -, X356, ⟨Lc356, hQ356, l356, y356, z356⟩, st356⟩ := Jvm.LawKit.callS X352 hx (y := (⟨"com/example/issuant/issuant/config/Scopes", "isToken", "(Ljava/lang/String;)Z"⟩ : MethodName)) hown (mvT hZ (hw _ (List.mem_of_getElem? (i := 22) rfl))) (mvT hZ (hw _ (List.mem_of_getElem? (i := 23) rfl))) (mvT hZ (hw _ (List.mem_of_getElem? (i := 24) rfl))) (mvT hZ (hw _ (List.mem_of_getElem? (i := 25) rfl))) (by decide) (backOf (W := 0) (rm_tok4 l Z a0 hw [] b267 (nar .char cA) (nar .char cB) (nar .char cC) (nar .char cD) fm cs T321.heap n0 Z328 f323 Scs hcs Sad Shi Slo Sfm hfm f322 EaS (own_CN GcA) (own_CN GcB) (own_CN GcC) (own_CN GcD)) hZ (hw _ (List.mem_of_getElem? (i := 25) rfl)) (hw _ (List.mem_of_getElem? (i := 24) rfl)) (by decide) (by decide)) (g := (mkF m 235 #[.val (.int an), .val (.int aw), .val (.int ax), .val (.int ay), .val (.int az), .val (.int (4 : Int32)), .val (.int cA), .val (.int cB), .val (.int cC), .val (.int cD), .val (.ref b267), .val (.int (0 : Int32))] [(.ref b267)])) rfl (by rw [hml]; rfl) (argsL := [(.ref b267)]) (rest := []) (lenOf pd17 rfl) rfl (by show 2 * 0 + _ ≤ _; exact Nat.le_of_eq rfl) (hb hby at_235) (fun _ _ => ⟨rfl, e352, (by decide : 4 + 0 ≤ _), (by decide : 20 + 0 ≤ _)⟩)
                dsimp only [Pt.U, Pt.locs, Pt.cells, Pt.slots] at X356 l356 y356 z356 st356 hQ356
                subst l356 y356 z356
                obtain ⟨rfl, N356q, e356⟩ := hQ356
                have N356 := Fr.app N352 N356q
                have P357 := own_step (C := T356.setTop (mkF m 238 #[.val (.int an), .val (.int aw), .val (.int ax), .val (.int ay), .val (.int az), .val (.int (4 : Int32)), .val (.int cA), .val (.int cB), .val (.int cC), .val (.int cD), .val (.ref b267), .val (.int (0 : Int32))] [(.int (own_tok4 (nar .char cA) (nar .char cB) (nar .char cC) (nar .char cD)))])) P355 (fun t_ k_ => st356 t_ k_)
                have P358 := own_step (C := T356.setTop (mkF m 240 #[.val (.int an), .val (.int aw), .val (.int ax), .val (.int ay), .val (.int az), .val (.int (4 : Int32)), .val (.int cA), .val (.int cB), .val (.int cC), .val (.int cD), .val (.ref b267), .val (.int (0 : Int32))] [(.int (0 : Int32)), (.int (own_tok4 (nar .char cA) (nar .char cB) (nar .char cC) (nar .char cD)))])) P357 (by
                  intro tt_ kk_
                  refine XS.iload X356.here hx rfl (hb hby at_238) rfl ?_
                  exact kk_)
                have P359 := own_step (C := T356.setTop (mkF m 248 #[.val (.int an), .val (.int aw), .val (.int ax), .val (.int ay), .val (.int az), .val (.int (4 : Int32)), .val (.int cA), .val (.int cB), .val (.int cC), .val (.int cD), .val (.ref b267), .val (.int (0 : Int32))] [(.int (1 : Int32))])) P358 (by
                  intro tt_ kk_
                  refine XS.icmpNo X356.here hx rfl (hb hby at_240) rfl (teq (own_e4_12 GcA GcB GcC GcD c334 c344 c354)).2 ?_
                  refine XS.iconst X356.here hx rfl (hb hby at_243) ?_
                  refine XS.goto X356.here hx rfl (pc0 := 244) (pc' := 248) rfl (hb hby at_244) (by decide) (by decide) ?_
                  exact kk_)
                obtain ⟨fs, hr, hrun, hended, hW, hsame⟩ := X356.leave (v := some (.int (1 : Int32))) (fun h => by rw [Bd.returns] at h; cases h)
                refine ⟨_, _, P359 _ ?_, hrun, hended, _, _, rfl, ?_, wide ⟨⟨_, rfl⟩, hW, hsame.mono (by decide) (by decide)⟩⟩
                · exact retN X356 hx (t := .boolean) Bd.returns (by simp) (hb hby at_248) hr
                · show Q0 Z _ _ _ _ _ _ _ h0 n0 _ T356.heap _
                  rw [e356]
                  exact ⟨rfl, N356⟩
              · have P360 := own_step (C := T352.setTop (mkF m 215 #[.val (.int an), .val (.int aw), .val (.int ax), .val (.int ay), .val (.int az), .val (.int (4 : Int32)), .val (.int cA), .val (.int cB), .val (.int cC), .val (.int cD), .val (.ref b267), .unset] [(.int (4 : Int32)), (.int (4 : Int32))])) P353 (by
                  intro tt_ kk_
                  refine XS.ifNo X352.here hx rfl (hb hby at_209) rfl ((if0 _ _).trans (feq c354).1) ?_
                  refine XS.iload X352.here hx rfl (hb hby at_212) rfl ?_
                  refine XS.iconst X352.here hx rfl (hb hby at_214) ?_
                  exact kk_)
                have P361 := own_step (C := T352.setTop (mkF m 220 #[.val (.int an), .val (.int aw), .val (.int ax), .val (.int ay), .val (.int az), .val (.int (4 : Int32)), .val (.int cA), .val (.int cB), .val (.int cC), .val (.int cD), .val (.ref b267), .unset] [(.int cD)])) P360 (by
                  intro tt_ kk_
                  refine XS.icmpNo X352.here hx rfl (hb hby at_215) rfl (flt (by decide : ¬ ((4 : Int32) < (4 : Int32)))).1 ?_
                  refine XS.iload X352.here hx rfl (hb hby at_218) rfl ?_
                  exact kk_)
                obtain ⟨_, _, ⟨T362, L362, k362, n362⟩, -, X362, ⟨Lc362, hQ362, l362, y362, z362⟩, st362⟩ := Jvm.LawKit.callS X352 hx (y := (⟨"com/example/issuant/issuant/config/ScopesIsTokenPinLaw", "ok", "(C)Z"⟩ : MethodName)) hown (mvT hZ (hw _ (List.mem_of_getElem? (i := 42) rfl))) (mvT hZ (hw _ (List.mem_of_getElem? (i := 43) rfl))) (mvT hZ (hw _ (List.mem_of_getElem? (i := 44) rfl))) (mvT hZ (hw _ (List.mem_of_getElem? (i := 45) rfl))) (by decide) (backOf (W := 0) (rm_own_ok l Z a0 hw [] cD T321.heap n0 Z328 ) hZ (hw _ (List.mem_of_getElem? (i := 45) rfl)) (hw _ (List.mem_of_getElem? (i := 44) rfl)) (by decide) (by decide)) (g := (mkF m 220 #[.val (.int an), .val (.int aw), .val (.int ax), .val (.int ay), .val (.int az), .val (.int (4 : Int32)), .val (.int cA), .val (.int cB), .val (.int cC), .val (.int cD), .val (.ref b267), .unset] [(.int cD)])) rfl (by rw [hml]; rfl) (argsL := [(.int cD)]) (rest := []) (lenOf pd18 rfl) rfl (by show 2 * 0 + _ ≤ _; exact Nat.le_of_eq rfl) (hb hby at_220) (fun _ _ => ⟨rfl, e352, (by decide : 4 + 0 ≤ _), (by decide : 20 + 0 ≤ _)⟩)
                dsimp only [Pt.U, Pt.locs, Pt.cells, Pt.slots] at X362 l362 y362 z362 st362 hQ362
                subst l362 y362 z362
                obtain ⟨rfl, N362q, e362⟩ := hQ362
                have N362 := Fr.app N352 N362q
                have P363 := own_step (C := T362.setTop (mkF m 223 #[.val (.int an), .val (.int aw), .val (.int ax), .val (.int ay), .val (.int az), .val (.int (4 : Int32)), .val (.int cA), .val (.int cB), .val (.int cC), .val (.int cD), .val (.ref b267), .unset] [(.int (own_ok cD))])) P361 (fun t_ k_ => st362 t_ k_)
                by_cases c364 : (own_ok cD) = (0 : Int32)
                · have P365 := own_step (C := T362.setTop (mkF m 235 #[.val (.int an), .val (.int aw), .val (.int ax), .val (.int ay), .val (.int az), .val (.int (4 : Int32)), .val (.int cA), .val (.int cB), .val (.int cC), .val (.int cD), .val (.ref b267), .val (.int (0 : Int32))] [(.ref b267)])) P363 (by
                    intro tt_ kk_
                    refine XS.ifYes X362.here hx rfl (pc0 := 223) (pc' := 230) rfl (hb hby at_223) rfl ((if0 _ _).trans (teq c364).1) (by decide) (by decide) ?_
                    refine XS.iconst X362.here hx rfl (hb hby at_230) ?_
                    refine XS.istore X362.here hx rfl (hb hby at_231) rfl (l' := #[.val (.int an), .val (.int aw), .val (.int ax), .val (.int ay), .val (.int az), .val (.int (4 : Int32)), .val (.int cA), .val (.int cB), .val (.int cC), .val (.int cD), .val (.ref b267), .val (.int (0 : Int32))]) rfl ?_
                    refine XS.aload X362.here hx rfl (hb hby at_233) rfl rfl ?_
                    exact kk_)
                  obtain ⟨_, _, ⟨T366, L366, k366, n366⟩, -, X366, ⟨Lc366, hQ366, l366, y366, z366⟩, st366⟩ := Jvm.LawKit.callS X362 hx (y := (⟨"com/example/issuant/issuant/config/Scopes", "isToken", "(Ljava/lang/String;)Z"⟩ : MethodName)) hown (mvT hZ (hw _ (List.mem_of_getElem? (i := 22) rfl))) (mvT hZ (hw _ (List.mem_of_getElem? (i := 23) rfl))) (mvT hZ (hw _ (List.mem_of_getElem? (i := 24) rfl))) (mvT hZ (hw _ (List.mem_of_getElem? (i := 25) rfl))) (by decide) (backOf (W := 0) (rm_tok4 l Z a0 hw [] b267 (nar .char cA) (nar .char cB) (nar .char cC) (nar .char cD) fm cs T321.heap n0 Z328 f323 Scs hcs Sad Shi Slo Sfm hfm f322 EaS (own_CN GcA) (own_CN GcB) (own_CN GcC) (own_CN GcD)) hZ (hw _ (List.mem_of_getElem? (i := 25) rfl)) (hw _ (List.mem_of_getElem? (i := 24) rfl)) (by decide) (by decide)) (g := (mkF m 235 #[.val (.int an), .val (.int aw), .val (.int ax), .val (.int ay), .val (.int az), .val (.int (4 : Int32)), .val (.int cA), .val (.int cB), .val (.int cC), .val (.int cD), .val (.ref b267), .val (.int (0 : Int32))] [(.ref b267)])) rfl (by rw [hml]; rfl) (argsL := [(.ref b267)]) (rest := []) (lenOf pd17 rfl) rfl (by show 2 * 0 + _ ≤ _; exact Nat.le_of_eq rfl) (hb hby at_235) (fun _ _ => ⟨rfl, e362, (by decide : 4 + 0 ≤ _), (by decide : 20 + 0 ≤ _)⟩)
                  dsimp only [Pt.U, Pt.locs, Pt.cells, Pt.slots] at X366 l366 y366 z366 st366 hQ366
                  subst l366 y366 z366
                  obtain ⟨rfl, N366q, e366⟩ := hQ366
                  have N366 := Fr.app N362 N366q
                  have P367 := own_step (C := T366.setTop (mkF m 238 #[.val (.int an), .val (.int aw), .val (.int ax), .val (.int ay), .val (.int az), .val (.int (4 : Int32)), .val (.int cA), .val (.int cB), .val (.int cC), .val (.int cD), .val (.ref b267), .val (.int (0 : Int32))] [(.int (own_tok4 (nar .char cA) (nar .char cB) (nar .char cC) (nar .char cD)))])) P365 (fun t_ k_ => st366 t_ k_)
                  have P368 := own_step (C := T366.setTop (mkF m 240 #[.val (.int an), .val (.int aw), .val (.int ax), .val (.int ay), .val (.int az), .val (.int (4 : Int32)), .val (.int cA), .val (.int cB), .val (.int cC), .val (.int cD), .val (.ref b267), .val (.int (0 : Int32))] [(.int (0 : Int32)), (.int (own_tok4 (nar .char cA) (nar .char cB) (nar .char cC) (nar .char cD)))])) P367 (by
                    intro tt_ kk_
                    refine XS.iload X366.here hx rfl (hb hby at_238) rfl ?_
                    exact kk_)
                  have P369 := own_step (C := T366.setTop (mkF m 248 #[.val (.int an), .val (.int aw), .val (.int ax), .val (.int ay), .val (.int az), .val (.int (4 : Int32)), .val (.int cA), .val (.int cB), .val (.int cC), .val (.int cD), .val (.ref b267), .val (.int (0 : Int32))] [(.int (1 : Int32))])) P368 (by
                    intro tt_ kk_
                    refine XS.icmpNo X366.here hx rfl (hb hby at_240) rfl (teq (own_e4_13 GcA GcB GcC GcD c334 c344 c354 c364)).2 ?_
                    refine XS.iconst X366.here hx rfl (hb hby at_243) ?_
                    refine XS.goto X366.here hx rfl (pc0 := 244) (pc' := 248) rfl (hb hby at_244) (by decide) (by decide) ?_
                    exact kk_)
                  obtain ⟨fs, hr, hrun, hended, hW, hsame⟩ := X366.leave (v := some (.int (1 : Int32))) (fun h => by rw [Bd.returns] at h; cases h)
                  refine ⟨_, _, P369 _ ?_, hrun, hended, _, _, rfl, ?_, wide ⟨⟨_, rfl⟩, hW, hsame.mono (by decide) (by decide)⟩⟩
                  · exact retN X366 hx (t := .boolean) Bd.returns (by simp) (hb hby at_248) hr
                  · show Q0 Z _ _ _ _ _ _ _ h0 n0 _ T366.heap _
                    rw [e366]
                    exact ⟨rfl, N366⟩
                · have P370 := own_step (C := T362.setTop (mkF m 235 #[.val (.int an), .val (.int aw), .val (.int ax), .val (.int ay), .val (.int az), .val (.int (4 : Int32)), .val (.int cA), .val (.int cB), .val (.int cC), .val (.int cD), .val (.ref b267), .val (.int (1 : Int32))] [(.ref b267)])) P363 (by
                    intro tt_ kk_
                    refine XS.ifNo X362.here hx rfl (hb hby at_223) rfl ((if0 _ _).trans (feq c364).1) ?_
                    refine XS.iconst X362.here hx rfl (hb hby at_226) ?_
                    refine XS.goto X362.here hx rfl (pc0 := 227) (pc' := 231) rfl (hb hby at_227) (by decide) (by decide) ?_
                    refine XS.istore X362.here hx rfl (hb hby at_231) rfl (l' := #[.val (.int an), .val (.int aw), .val (.int ax), .val (.int ay), .val (.int az), .val (.int (4 : Int32)), .val (.int cA), .val (.int cB), .val (.int cC), .val (.int cD), .val (.ref b267), .val (.int (1 : Int32))]) rfl ?_
                    refine XS.aload X362.here hx rfl (hb hby at_233) rfl rfl ?_
                    exact kk_)
                  obtain ⟨_, _, ⟨T371, L371, k371, n371⟩, -, X371, ⟨Lc371, hQ371, l371, y371, z371⟩, st371⟩ := Jvm.LawKit.callS X362 hx (y := (⟨"com/example/issuant/issuant/config/Scopes", "isToken", "(Ljava/lang/String;)Z"⟩ : MethodName)) hown (mvT hZ (hw _ (List.mem_of_getElem? (i := 22) rfl))) (mvT hZ (hw _ (List.mem_of_getElem? (i := 23) rfl))) (mvT hZ (hw _ (List.mem_of_getElem? (i := 24) rfl))) (mvT hZ (hw _ (List.mem_of_getElem? (i := 25) rfl))) (by decide) (backOf (W := 0) (rm_tok4 l Z a0 hw [] b267 (nar .char cA) (nar .char cB) (nar .char cC) (nar .char cD) fm cs T321.heap n0 Z328 f323 Scs hcs Sad Shi Slo Sfm hfm f322 EaS (own_CN GcA) (own_CN GcB) (own_CN GcC) (own_CN GcD)) hZ (hw _ (List.mem_of_getElem? (i := 25) rfl)) (hw _ (List.mem_of_getElem? (i := 24) rfl)) (by decide) (by decide)) (g := (mkF m 235 #[.val (.int an), .val (.int aw), .val (.int ax), .val (.int ay), .val (.int az), .val (.int (4 : Int32)), .val (.int cA), .val (.int cB), .val (.int cC), .val (.int cD), .val (.ref b267), .val (.int (1 : Int32))] [(.ref b267)])) rfl (by rw [hml]; rfl) (argsL := [(.ref b267)]) (rest := []) (lenOf pd17 rfl) rfl (by show 2 * 0 + _ ≤ _; exact Nat.le_of_eq rfl) (hb hby at_235) (fun _ _ => ⟨rfl, e362, (by decide : 4 + 0 ≤ _), (by decide : 20 + 0 ≤ _)⟩)
                  dsimp only [Pt.U, Pt.locs, Pt.cells, Pt.slots] at X371 l371 y371 z371 st371 hQ371
                  subst l371 y371 z371
                  obtain ⟨rfl, N371q, e371⟩ := hQ371
                  have N371 := Fr.app N362 N371q
                  have P372 := own_step (C := T371.setTop (mkF m 238 #[.val (.int an), .val (.int aw), .val (.int ax), .val (.int ay), .val (.int az), .val (.int (4 : Int32)), .val (.int cA), .val (.int cB), .val (.int cC), .val (.int cD), .val (.ref b267), .val (.int (1 : Int32))] [(.int (own_tok4 (nar .char cA) (nar .char cB) (nar .char cC) (nar .char cD)))])) P370 (fun t_ k_ => st371 t_ k_)
                  have P373 := own_step (C := T371.setTop (mkF m 240 #[.val (.int an), .val (.int aw), .val (.int ax), .val (.int ay), .val (.int az), .val (.int (4 : Int32)), .val (.int cA), .val (.int cB), .val (.int cC), .val (.int cD), .val (.ref b267), .val (.int (1 : Int32))] [(.int (1 : Int32)), (.int (own_tok4 (nar .char cA) (nar .char cB) (nar .char cC) (nar .char cD)))])) P372 (by
                    intro tt_ kk_
                    refine XS.iload X371.here hx rfl (hb hby at_238) rfl ?_
                    exact kk_)
                  have P374 := own_step (C := T371.setTop (mkF m 248 #[.val (.int an), .val (.int aw), .val (.int ax), .val (.int ay), .val (.int az), .val (.int (4 : Int32)), .val (.int cA), .val (.int cB), .val (.int cC), .val (.int cD), .val (.ref b267), .val (.int (1 : Int32))] [(.int (1 : Int32))])) P373 (by
                    intro tt_ kk_
                    refine XS.icmpNo X371.here hx rfl (hb hby at_240) rfl (teq (own_e4_4 GcA GcB GcC GcD c334 c344 c354 c364)).2 ?_
                    refine XS.iconst X371.here hx rfl (hb hby at_243) ?_
                    refine XS.goto X371.here hx rfl (pc0 := 244) (pc' := 248) rfl (hb hby at_244) (by decide) (by decide) ?_
                    exact kk_)
                  obtain ⟨fs, hr, hrun, hended, hW, hsame⟩ := X371.leave (v := some (.int (1 : Int32))) (fun h => by rw [Bd.returns] at h; cases h)
                  refine ⟨_, _, P374 _ ?_, hrun, hended, _, _, rfl, ?_, wide ⟨⟨_, rfl⟩, hW, hsame.mono (by decide) (by decide)⟩⟩
                  · exact retN X371 hx (t := .boolean) Bd.returns (by simp) (hb hby at_248) hr
                  · show Q0 Z _ _ _ _ _ _ _ h0 n0 _ T371.heap _
                    rw [e371]
                    exact ⟨rfl, N371⟩
set_option maxRecDepth 65536 in
set_option maxHeartbeats 40000000 in
theorem comes_1 {Post : Tables → Env → Array Value → State → Outcome → State → Prop} (hpost : ∀ tb e args s v u, (limb_1_1.after args s (.returned v) u = true ∧ limb_1_2.after args s (.returned v) u = true ∧ True) → ReturnedEndW s (.returned v) u (Jvm.fieldLocs frame_1_writes args s ++ Jvm.arrayLocs frame_1_arrays args s ++ Jvm.staticLocs frame_1_statics s) 24 1152 → Post tb e args s (.returned v) u) :
    ArmFor flags0 classFile x code maxLocals ret World_1 tables_1 room_1 Calls_1 rest_1 Pre_1 Post := by
  intro l hfl _ _ p e ha hc hk s m args below hf hA hF happ hP
  obtain ⟨hcalls, hrest, hpre⟩ := hP
  obtain ⟨-, -, -, hnamed, -, -, -, hat⟩ := (Spec.applies_iff hf).mp happ
  obtain ⟨hg, hn⟩ := and_e (Cond.before_iff.mp (show (Jvm.Cond.and given_1 narrow_1).before args s = true from hpre))
  obtain ⟨hgc, hg0⟩ := and_e hg
  obtain ⟨ha0, hg1⟩ := and_e hg0
  obtain ⟨ha1, hg2⟩ := and_e hg1
  obtain ⟨ha2, hg3⟩ := and_e hg2
  obtain ⟨ha3, hg4⟩ := and_e hg3
  have ha4 := hg4
  obtain ⟨w0, w1, w2, w3, w4, rfl⟩ : ∃ w0 w1 w2 w3 w4 : Value, args = #[w0, w1, w2, w3, w4] := by
    have hs : args.size = 5 := by simpa [Cond.value, given_1] using hgc
    obtain ⟨L⟩ := args
    match L, hs with
    | [w0, w1, w2, w3, w4], _ => exact ⟨w0, w1, w2, w3, w4, rfl⟩
  have hw := fun d (hd : d ∈ tables_1) => atoms_spec (ws := Jvm.Cond.code x code maxLocals ret :: tables_1) hat d (List.mem_cons_of_mem _ hd)
  have hfit : Fit s := fun {y c} hc i hi => by
    obtain ⟨ha, rfl⟩ := Array.getElem?_eq_some_iff.mp hc
    have q := List.all_eq_true.mp ((Array.all_eq_true_iff_forall_mem.mp hF) _ (Array.getElem_mem ha)) i (List.mem_range.mpr hi)
    simpa [Array.getElem?_eq_getElem hi] using q
  obtain ⟨hsets, hown0⟩ := atoms_of _ (rest_1_c_eq ▸ (show rest_1_c.before _ s = true from hrest))
  obtain ⟨i0, ei0⟩ := is_v ha0
  obtain rfl : w0 = (.int i0) := Option.some.inj ei0
  obtain ⟨i1, ei1⟩ := is_v ha1
  obtain rfl : w1 = (.int i1) := Option.some.inj ei1
  obtain ⟨i2, ei2⟩ := is_v ha2
  obtain rfl : w2 = (.int i2) := Option.some.inj ei2
  obtain ⟨i3, ei3⟩ := is_v ha3
  obtain rfl : w3 = (.int i3) := Option.some.inj ei3
  obtain ⟨i4, ei4⟩ := is_v ha4
  obtain rfl : w4 = (.int i4) := Option.some.inj ei4
  have hheld : Jvm.Lit.constHeld s "java/lang/String" 7 := hcalls.1 _ (List.mem_of_getElem? (i := 0) rfl)
  have hcw : Jvm.Lit.compactW.before _ s = true := hsets _ (List.mem_of_getElem? (i := 2) rfl)
  obtain ⟨cs, ecs⟩ := is_v (Cond.before_iff.mp (hsets _ (List.mem_of_getElem? (i := 1) rfl)))
  have Scs := Sta.start ecs (Or.inl (hsets _ (List.mem_of_getElem? (i := 0) rfl)))
  have hcs : ¬ (cs = (0 : Int32)) := own_cs ecs hcw
  obtain ⟨fm, efm, rfm⟩ := isR_v (Cond.before_iff.mp (hsets _ (List.mem_of_getElem? (i := 8) rfl)))
  have Sfm := Sta.start efm (Or.inl (hsets _ (List.mem_of_getElem? (i := 7) rfl)))
  have hfm : fm.category = 1 := by rcases ref_cases rfm with rfl | ⟨_, rfl⟩ <;> rfl
  have Sad := Sta.start (Jvm.RoadKit.eqv_i rfl (Cond.before_iff.mp (hsets _ (List.mem_of_getElem? (i := 12) rfl)))) (Or.inl (hsets _ (List.mem_of_getElem? (i := 11) rfl)))
  have Shi := Sta.start (Jvm.RoadKit.eqv_i rfl (Cond.before_iff.mp (hsets _ (List.mem_of_getElem? (i := 15) rfl)))) (Or.inl (hsets _ (List.mem_of_getElem? (i := 14) rfl)))
  have Slo := Sta.start (Jvm.RoadKit.eqv_i rfl (Cond.before_iff.mp (hsets _ (List.mem_of_getElem? (i := 18) rfl)))) (Or.inl (hsets _ (List.mem_of_getElem? (i := 17) rfl)))
  obtain ⟨n, o, h1, h2, h3, _, L, rfl, ⟨rfl, N⟩, hq⟩ := rm0 l s _ hw tables_1 i0 i1 i2 i3 i4 fm cs s.heap s.heap.size (Nat.le_refl _) (Old.start s) Scs hcs Sad Shi Slo Sfm hfm hheld hcw p e ha hc hk s m _ below hf ((Spec.applies_iff_loose hf).mp happ).1 ⟨rfl, State.Warmed39.refl s, rfl, IB.start⟩ trivial
  exact ⟨n, _, h1, h2, h3, hpost _ _ _ _ _ _ ⟨Cond.after_iff.mpr rfl, Cond.after_iff.mpr (eq_i res_at (Term.int_eval (1)) rfl), trivial⟩ ⟨hq.1, hq.2.1, hq.2.2.1, (hq.2.2.2.sift fun y hy => Or.inr (N y hy)).mono (by decide) (by decide)⟩⟩
theorem main_1_1 : Claimed_1_1 := comes_1 fun _ _ _ _ _ _ h hF => ⟨h.1, hF⟩
theorem main_1_2 : Claimed_1_2 := comes_1 fun _ _ _ _ _ _ h hF => ⟨h.2.1, hF⟩
end Jvm.Pilot.@@N@@
namespace Jvm.Pilot.@@N@@
open Jvm Jvm.ClassFile Sem Op Lib Jvm.Free Jvm.Stand Jvm.Pilot.@@N@@.Jvm.D
/-! MADE BY PROGRAM (witnessworld.py) out of the Statement's table words and the real class files: 20 classes; the members and pool entries that the words name. The judged class is class 1, her method 2. -/
namespace start1
open Jvm.ClassFile
def u (s : String) : CpInfo := .utf8 (stringToUtf16 s)
/-- a pool by its gaps: so many unusable entries, then the entry; so many at the end -/
def gap : Nat → List CpInfo → List CpInfo
  | 0, r => r
  | n + 1, r => .unusable :: gap n r
def poolList (es : List (Nat × CpInfo)) (last : Nat) : List CpInfo := es.foldr (fun e r => gap e.1 (e.2 :: r)) (gap last [])
def pool (es : List (Nat × CpInfo)) (last : Nat) : Array CpInfo := ⟨poolList es last⟩
def fileOf (pool : Array CpInfo) (this : Nat) (attrs : Array Attribute := #[]) (ms : Array MethodInfo := #[]) (fl : Nat := 33) (sup : Nat := 0) (ifs : Array Nat := #[]) (fds : Array FieldInfo := #[]) : ClassFile where
  minorVersion := 0
  majorVersion := 65
  constantPool := pool
  accessFlags := fl
  thisClass := this
  superClass := sup
  interfaces := ifs
  fields := fds
  methods := ms
  attributes := attrs
def plain (name : String) (sup : Option ClassId) : Class where
  name := name
  kind := .ordinary
  loader := none
  accessFlags := 33
  super := sup
  interfaces := #[]
  cf := none
  fields := #[]
  methods := #[]
  instanceTypes := #[]
  staticTypes := #[]
  resolved := #[]
  callSites := []
  init := .initialized
  statics := none
  mirror := none

def pool0 : Array CpInfo := pool [(5, u "<init>"), (0, u "()V"), (1, .class_ 10), (1, u "java/lang/Object")] 113

def k0c0 : Code := { maxStack := 0, maxLocals := 1, code := object_method_1_code, exceptionTable := #[], attributes := #[] }
def k0m0 : Method := { name := "<init>", desc := "()V", sig := { parameters := [], returnType := none }, accessFlags := 1, code := some k0c0 }
/-- java/lang/Object -/
def k0 : Class := { plain "java/lang/Object" none with
  accessFlags := 33
  interfaces := #[]
  cf := some (fileOf pool0 8 #[] #[{ accessFlags := 1, nameIndex := 5, descriptorIndex := 6, attributes := #[] }] 33 0 #[] #[])
  fields := #[]
  methods := #[k0m0]
  instanceTypes := #[]
  staticTypes := #[]
  resolved := Array.replicate 124 none
  statics := none }

def pool1 : Array CpInfo := pool [(2, .class_ 4), (1, u "java/lang/Object"), (0, u "<init>"), (0, u "()V"), (0, .class_ 8), (0, u "java/lang/String"), (0, .methodref 7 10), (0, .nameAndType 5 11), (0, u "([C)V"), (0, .methodref 13 14), (0, .class_ 15), (0, .nameAndType 16 17), (0, u "com/example/issuant/issuant/config/ScopesIsTokenPinLaw"), (0, u "ok"), (0, u "(C)Z"), (0, .methodref 19 20), (0, .class_ 21), (0, .nameAndType 22 23), (0, u "com/example/issuant/issuant/config/Scopes"), (0, u "isToken"), (0, u "(Ljava/lang/String;)Z"), (3, u "law"), (0, u "(IIIII)Z")] 2

def k1m0 : Method := { name := "<init>", desc := "()V", sig := { parameters := [], returnType := none }, accessFlags := 1, code := none }
def k1c1 : Code := { maxStack := 2, maxLocals := 2, code := method_2_code, exceptionTable := #[], attributes := #[] }
def k1m1 : Method := { name := "ok", desc := "(C)Z", sig := { parameters := [.char], returnType := some .boolean }, accessFlags := 10, code := some k1c1 }
def k1c2 : Code := { maxStack := 6, maxLocals := 12, code := code, exceptionTable := #[], attributes := #[] }
def k1m2 : Method := { name := "law", desc := "(IIIII)Z", sig := { parameters := [.int, .int, .int, .int, .int], returnType := some .boolean }, accessFlags := 9, code := some k1c2 }
/-- com/example/issuant/issuant/config/ScopesIsTokenPinLaw -/
def k1 : Class := { plain "com/example/issuant/issuant/config/ScopesIsTokenPinLaw" (some 0) with
  accessFlags := 49
  interfaces := #[]
  cf := some (fileOf pool1 13 #[] #[{ accessFlags := 1, nameIndex := 5, descriptorIndex := 6, attributes := #[] }, { accessFlags := 10, nameIndex := 16, descriptorIndex := 17, attributes := #[] }, { accessFlags := 9, nameIndex := 27, descriptorIndex := 28, attributes := #[] }] 49 2 #[] #[])
  fields := #[]
  methods := #[k1m0, k1m1, k1m2]
  instanceTypes := #[]
  staticTypes := #[]
  resolved := Array.replicate 31 none
  statics := none }

def pool2 : Array CpInfo := pool [(1, .class_ 2), (0, u "java/io/Serializable"), (0, .class_ 4), (0, u "java/lang/Object")] 2

/-- java/io/Serializable -/
def k2 : Class := { plain "java/io/Serializable" (some 0) with
  accessFlags := 1537
  interfaces := #[]
  cf := some (fileOf pool2 1 #[] #[] 1537 3 #[] #[])
  fields := #[]
  methods := #[]
  instanceTypes := #[]
  staticTypes := #[]
  resolved := Array.replicate 7 none
  statics := none }

def pool3 : Array CpInfo := pool [(1, .class_ 2), (0, u "java/lang/Comparable"), (0, .class_ 4), (0, u "java/lang/Object")] 7

/-- java/lang/Comparable -/
def k3 : Class := { plain "java/lang/Comparable" (some 0) with
  accessFlags := 1537
  interfaces := #[]
  cf := some (fileOf pool3 1 #[] #[] 1537 3 #[] #[])
  fields := #[]
  methods := #[]
  instanceTypes := #[]
  staticTypes := #[]
  resolved := Array.replicate 12 none
  statics := none }

def pool4 : Array CpInfo := pool [(2, .class_ 4), (1, u "java/lang/CharSequence"), (42, .class_ 48), (0, u "java/lang/CharSequence$1CodePointIterator"), (10, .class_ 60), (0, u "java/lang/CharSequence$1CharIterator"), (5, .class_ 67), (0, u "java/lang/Object")] 63

/-- java/lang/CharSequence -/
def k4 : Class := { plain "java/lang/CharSequence" (some 0) with
  accessFlags := 1537
  interfaces := #[]
  cf := some (fileOf pool4 2 #[.nestMembers #[47, 59]] #[] 1537 66 #[] #[])
  fields := #[]
  methods := #[]
  instanceTypes := #[]
  staticTypes := #[]
  resolved := Array.replicate 131 none
  statics := none }

def pool5 : Array CpInfo := pool [(1, .class_ 2), (0, u "java/lang/constant/Constable"), (0, .class_ 4), (0, u "java/lang/Object")] 6

/-- java/lang/constant/Constable -/
def k5 : Class := { plain "java/lang/constant/Constable" (some 0) with
  accessFlags := 1537
  interfaces := #[]
  cf := some (fileOf pool5 1 #[] #[] 1537 3 #[] #[])
  fields := #[]
  methods := #[]
  instanceTypes := #[]
  staticTypes := #[]
  resolved := Array.replicate 11 none
  statics := none }

def pool6 : Array CpInfo := pool [(1, .class_ 2), (0, u "java/lang/constant/ConstantDesc"), (0, .class_ 4), (0, u "java/lang/Object")] 32

/-- java/lang/constant/ConstantDesc -/
def k6 : Class := { plain "java/lang/constant/ConstantDesc" (some 0) with
  accessFlags := 1537
  interfaces := #[]
  cf := some (fileOf pool6 1 #[] #[] 1537 3 #[] #[])
  fields := #[]
  methods := #[]
  instanceTypes := #[]
  staticTypes := #[]
  resolved := Array.replicate 37 none
  statics := none }

def pool7 : Array CpInfo := pool [(1, .methodref 2 3), (0, .class_ 4), (0, .nameAndType 5 6), (0, u "java/lang/Object"), (0, u "<init>"), (0, u "()V"), (0, .string 8), (0, u ""), (0, .fieldref 10 11), (0, .class_ 12), (0, .nameAndType 13 14), (0, u "java/lang/String"), (0, u "value"), (0, u "[B"), (0, .fieldref 10 16), (0, .nameAndType 17 18), (0, u "coder"), (0, u "B"), (2, u "hash"), (0, u "I"), (2, u "hashIsZero"), (0, u "Z"), (0, .methodref 10 28), (0, .nameAndType 5 29), (0, u "([CIILjava/lang/Void;)V"), (8, .fieldref 10 39), (0, .nameAndType 40 26), (0, u "COMPACT_STRINGS"), (1, .class_ 44), (1, u "java/lang/StringUTF16"), (0, u "compress"), (1, .methodref 42 48), (0, .nameAndType 49 50), (0, u "coderFromArrayLen"), (0, u "([BI)B"), (56, .class_ 109), (1, u "java/lang/StringLatin1"), (32, u "()Z"), (34, .methodref 42 178), (0, .nameAndType 45 179), (0, u "([CII)[B"), (154, u "()I"), (0, .methodref 10 336), (0, .nameAndType 17 337), (0, u "()B"), (25, u "([BI)C"), (27, u "(II)V"), (35, u "(I)C"), (64, .methodref 10 493), (0, .nameAndType 494 142), (0, u "isLatin1"), (0, .methodref 107 496), (0, .nameAndType 497 363), (0, u "charAt"), (0, .methodref 42 496), (2, u "checkIndex"), (5, u "length"), (67, .class_ 576), (0, u "java/lang/CharSequence"), (22, u "CASE_INSENSITIVE_ORDER"), (0, u "Ljava/util/Comparator;"), (91, u "isEmpty"), (317, u "([C)V"), (42, .fieldref 1054 1055), (0, .class_ 1056), (0, .nameAndType 1057 1058), (0, u "jdk/internal/util/Preconditions"), (0, u "SIOOBE_FORMATTER"), (0, u "Ljava/util/function/BiFunction;"), (0, .methodref 1054 1060), (0, .nameAndType 501 1061), (0, u "(IILjava/util/function/BiFunction;)I"), (39, u "serialPersistentFields"), (0, u "[Ljava/io/ObjectStreamField;"), (0, .class_ 1104), (0, u "java/lang/String$CaseInsensitiveComparator"), (1, .class_ 1107), (0, u "java/io/Serializable"), (0, .class_ 1109), (0, u "java/lang/Comparable"), (0, .class_ 1111), (0, u "java/lang/constant/Constable"), (0, .class_ 1113), (0, u "java/lang/constant/ConstantDesc"), (2, u "serialVersionUID"), (0, u "J"), (3, u "REPL"), (0, u "C"), (2, u "LATIN1"), (1, u "UTF16")] 323

def k7m0 : Method := { name := "<init>", desc := "()V", sig := { parameters := [], returnType := none }, accessFlags := 1, code := none }
def k7c1 : Code := { maxStack := 5, maxLocals := 2, code := jdk_42_method_3_code, exceptionTable := #[], attributes := #[] }
def k7m1 : Method := { name := "<init>", desc := "([C)V", sig := { parameters := [(.array .char)], returnType := none }, accessFlags := 1, code := some k7c1 }
def k7c2 : Code := { maxStack := 2, maxLocals := 1, code := jdk_42_method_54_code, exceptionTable := #[], attributes := #[] }
def k7m2 : Method := { name := "length", desc := "()I", sig := { parameters := [], returnType := some .int }, accessFlags := 1, code := some k7c2 }
def k7c3 : Code := { maxStack := 1, maxLocals := 1, code := jdk_42_method_55_code, exceptionTable := #[], attributes := #[] }
def k7m3 : Method := { name := "isEmpty", desc := "()Z", sig := { parameters := [], returnType := some .boolean }, accessFlags := 1, code := some k7c3 }
def k7c4 : Code := { maxStack := 2, maxLocals := 2, code := jdk_42_method_56_code, exceptionTable := #[], attributes := #[] }
def k7m4 : Method := { name := "charAt", desc := "(I)C", sig := { parameters := [.int], returnType := some .char }, accessFlags := 1, code := some k7c4 }
def k7c5 : Code := { maxStack := 4, maxLocals := 6, code := jdk_42_method_149_code, exceptionTable := #[], attributes := #[] }
def k7m5 : Method := { name := "<init>", desc := "([CIILjava/lang/Void;)V", sig := { parameters := [(.array .char), .int, .int, (.object "java/lang/Void")], returnType := none }, accessFlags := 2, code := some k7c5 }
def k7c6 : Code := { maxStack := 1, maxLocals := 1, code := jdk_42_method_152_code, exceptionTable := #[], attributes := #[] }
def k7m6 : Method := { name := "coder", desc := "()B", sig := { parameters := [], returnType := some .byte }, accessFlags := 0, code := some k7c6 }
def k7c7 : Code := { maxStack := 1, maxLocals := 1, code := jdk_42_method_154_code, exceptionTable := #[], attributes := #[] }
def k7m7 : Method := { name := "isLatin1", desc := "()Z", sig := { parameters := [], returnType := some .boolean }, accessFlags := 0, code := some k7c7 }
def k7c8 : Code := { maxStack := 3, maxLocals := 2, code := jdk_42_method_155_code, exceptionTable := #[], attributes := #[] }
def k7m8 : Method := { name := "checkIndex", desc := "(II)V", sig := { parameters := [.int, .int], returnType := none }, accessFlags := 8, code := some k7c8 }
/-- java/lang/String -/
def k7 : Class := { plain "java/lang/String" (some 0) with
  accessFlags := 49
  interfaces := #[2, 3, 4, 5, 6]
  cf := some (fileOf pool7 10 #[.nestMembers #[1103]] #[{ accessFlags := 1, nameIndex := 5, descriptorIndex := 6, attributes := #[] }, { accessFlags := 1, nameIndex := 5, descriptorIndex := 1010, attributes := #[] }, { accessFlags := 1, nameIndex := 507, descriptorIndex := 334, attributes := #[] }, { accessFlags := 1, nameIndex := 692, descriptorIndex := 142, attributes := #[] }, { accessFlags := 1, nameIndex := 497, descriptorIndex := 427, attributes := #[] }, { accessFlags := 2, nameIndex := 5, descriptorIndex := 29, attributes := #[] }, { accessFlags := 0, nameIndex := 17, descriptorIndex := 337, attributes := #[] }, { accessFlags := 0, nameIndex := 494, descriptorIndex := 142, attributes := #[] }, { accessFlags := 8, nameIndex := 501, descriptorIndex := 391, attributes := #[] }] 49 2 #[1106, 1108, 575, 1110, 1112] #[{ accessFlags := 18, nameIndex := 13, descriptorIndex := 14, attributes := #[] }, { accessFlags := 18, nameIndex := 17, descriptorIndex := 18, attributes := #[] }, { accessFlags := 2, nameIndex := 21, descriptorIndex := 22, attributes := #[] }, { accessFlags := 2, nameIndex := 25, descriptorIndex := 26, attributes := #[] }, { accessFlags := 26, nameIndex := 1116, descriptorIndex := 1117, attributes := #[] }, { accessFlags := 24, nameIndex := 40, descriptorIndex := 26, attributes := #[] }, { accessFlags := 26, nameIndex := 1101, descriptorIndex := 1102, attributes := #[] }, { accessFlags := 26, nameIndex := 1121, descriptorIndex := 1122, attributes := #[] }, { accessFlags := 25, nameIndex := 599, descriptorIndex := 600, attributes := #[] }, { accessFlags := 24, nameIndex := 1125, descriptorIndex := 18, attributes := #[] }, { accessFlags := 24, nameIndex := 1127, descriptorIndex := 18, attributes := #[] }])
  fields := #[{ name := "value", type := (.array .byte), accessFlags := 18, slot := 0, constantValue := 0 }, { name := "coder", type := .byte, accessFlags := 18, slot := 1, constantValue := 0 }, { name := "hash", type := .int, accessFlags := 2, slot := 2, constantValue := 0 }, { name := "hashIsZero", type := .boolean, accessFlags := 2, slot := 3, constantValue := 0 }, { name := "serialVersionUID", type := .long, accessFlags := 26, slot := 0, constantValue := 0 }, { name := "COMPACT_STRINGS", type := .boolean, accessFlags := 24, slot := 1, constantValue := 0 }, { name := "serialPersistentFields", type := (.array (.object "java/io/ObjectStreamField")), accessFlags := 26, slot := 2, constantValue := 0 }, { name := "REPL", type := .char, accessFlags := 26, slot := 3, constantValue := 0 }, { name := "CASE_INSENSITIVE_ORDER", type := (.object "java/util/Comparator"), accessFlags := 25, slot := 4, constantValue := 0 }, { name := "LATIN1", type := .byte, accessFlags := 24, slot := 5, constantValue := 0 }, { name := "UTF16", type := .byte, accessFlags := 24, slot := 6, constantValue := 0 }]
  methods := #[k7m0, k7m1, k7m2, k7m3, k7m4, k7m5, k7m6, k7m7, k7m8]
  instanceTypes := #[(.array .byte), .byte, .int, .boolean]
  staticTypes := #[.long, .boolean, (.array (.object "java/io/ObjectStreamField")), .char, (.object "java/util/Comparator"), .byte, .byte]
  resolved := Array.replicate 1451 none
  statics := some 0 }

def pool8 : Array CpInfo := pool [(2, .class_ 4), (1, u "java/lang/Object"), (0, u "<init>"), (0, u "()V"), (0, .methodref 8 9), (0, .class_ 10), (0, .nameAndType 11 12), (0, u "java/lang/String"), (0, u "isEmpty"), (0, u "()Z"), (0, .methodref 8 14), (0, .nameAndType 15 16), (0, u "length"), (0, u "()I"), (0, .methodref 8 18), (0, .nameAndType 19 20), (0, u "charAt"), (0, u "(I)C"), (10, .class_ 33), (1, u "com/example/issuant/issuant/config/Scopes"), (0, u "isToken"), (0, u "(Ljava/lang/String;)Z"), (65, u "OPENID"), (0, u "Ljava/lang/String;")] 37

def k8m0 : Method := { name := "<init>", desc := "()V", sig := { parameters := [], returnType := none }, accessFlags := 2, code := none }
def k8c1 : Code := { maxStack := 2, maxLocals := 3, code := prog_5_method_2_code, exceptionTable := #[], attributes := #[] }
def k8m1 : Method := { name := "isToken", desc := "(Ljava/lang/String;)Z", sig := { parameters := [(.object "java/lang/String")], returnType := some .boolean }, accessFlags := 9, code := some k8c1 }
/-- com/example/issuant/issuant/config/Scopes -/
def k8 : Class := { plain "com/example/issuant/issuant/config/Scopes" (some 0) with
  accessFlags := 49
  interfaces := #[]
  cf := some (fileOf pool8 31 #[] #[{ accessFlags := 2, nameIndex := 5, descriptorIndex := 6, attributes := #[] }, { accessFlags := 9, nameIndex := 34, descriptorIndex := 35, attributes := #[] }] 49 2 #[] #[{ accessFlags := 25, nameIndex := 101, descriptorIndex := 102, attributes := #[] }])
  fields := #[{ name := "OPENID", type := (.object "java/lang/String"), accessFlags := 25, slot := 0, constantValue := 0 }]
  methods := #[k8m0, k8m1]
  instanceTypes := #[]
  staticTypes := #[(.object "java/lang/String")]
  resolved := Array.replicate 140 none
  statics := none }

def pool9 : Array CpInfo := pool [(3, .class_ 4), (0, u "java/lang/String"), (1, .class_ 8), (1, u "java/lang/Object"), (0, u "<init>"), (0, u "()V"), (0, .methodref 12 13), (0, .class_ 14), (0, .nameAndType 15 16), (0, u "java/lang/StringUTF16"), (0, u "newBytesLength"), (0, u "(I)I"), (3, .integer 1073741823), (23, .fieldref 12 45), (0, .nameAndType 46 47), (0, u "$assertionsDisabled"), (0, u "Z"), (0, .methodref 12 49), (0, .nameAndType 50 51), (0, u "length"), (0, u "([B)I"), (7, .fieldref 12 60), (0, .nameAndType 61 62), (0, u "HI_BYTE_SHIFT"), (0, u "I"), (0, .fieldref 12 64), (0, .nameAndType 65 62), (0, u "LO_BYTE_SHIFT"), (1, .methodref 12 68), (0, .nameAndType 69 70), (0, u "checkIndex"), (0, u "(I[B)V"), (0, .methodref 12 72), (0, .nameAndType 73 74), (0, u "getChar"), (0, u "([BI)C"), (32, .methodref 12 108), (0, .nameAndType 109 110), (0, u "newBytesFor"), (0, u "(I)[B"), (0, .methodref 12 112), (0, .nameAndType 113 114), (0, u "putChar"), (0, u "([BII)V"), (0, .methodref 12 116), (0, .nameAndType 117 118), (0, u "compress"), (0, u "([CI[BII)I"), (0, .methodref 12 120), (0, .nameAndType 121 122), (0, u "toBytes"), (0, u "([CII)[B"), (138, u "coderFromArrayLen"), (0, u "([BI)B"), (106, .class_ 371), (1, u "java/lang/StringUTF16$LinesSpliterator"), (20, u "charAt"), (21, .methodref 3 415), (0, .nameAndType 69 416), (0, u "(II)V"), (13, u "MAX_LENGTH"), (196, .class_ 628), (0, u "java/lang/StringUTF16$CodePointsSpliterator"), (0, .class_ 630), (0, u "java/lang/StringUTF16$CharsSpliterator")] 4

def k9m0 : Method := { name := "<init>", desc := "()V", sig := { parameters := [], returnType := none }, accessFlags := 0, code := none }
def k9c1 : Code := { maxStack := 1, maxLocals := 1, code := jdk_52_method_2_code, exceptionTable := #[], attributes := #[] }
def k9m1 : Method := { name := "newBytesFor", desc := "(I)[B", sig := { parameters := [.int], returnType := some (.array .byte) }, accessFlags := 9, code := some k9c1 }
def k9c2 : Code := { maxStack := 4, maxLocals := 1, code := jdk_52_method_3_code, exceptionTable := #[], attributes := #[] }
def k9m2 : Method := { name := "newBytesLength", desc := "(I)I", sig := { parameters := [.int], returnType := some .int }, accessFlags := 9, code := some k9c2 }
def k9c3 : Code := { maxStack := 4, maxLocals := 3, code := jdk_52_method_4_code, exceptionTable := #[], attributes := #[] }
def k9m3 : Method := { name := "putChar", desc := "([BII)V", sig := { parameters := [(.array .byte), .int, .int], returnType := none }, accessFlags := 8, code := some k9c3 }
def k9c4 : Code := { maxStack := 3, maxLocals := 2, code := jdk_52_method_5_code, exceptionTable := #[], attributes := #[] }
def k9m4 : Method := { name := "getChar", desc := "([BI)C", sig := { parameters := [(.array .byte), .int], returnType := some .char }, accessFlags := 8, code := some k9c4 }
def k9c5 : Code := { maxStack := 2, maxLocals := 1, code := jdk_52_method_6_code, exceptionTable := #[], attributes := #[] }
def k9m5 : Method := { name := "length", desc := "([B)I", sig := { parameters := [(.array .byte)], returnType := some .int }, accessFlags := 9, code := some k9c5 }
def k9c6 : Code := { maxStack := 4, maxLocals := 5, code := jdk_52_method_14_code, exceptionTable := #[], attributes := #[] }
def k9m6 : Method := { name := "toBytes", desc := "([CII)[B", sig := { parameters := [(.array .char), .int, .int], returnType := some (.array .byte) }, accessFlags := 9, code := some k9c6 }
def k9c7 : Code := { maxStack := 2, maxLocals := 2, code := jdk_52_method_15_code, exceptionTable := #[], attributes := #[] }
def k9m7 : Method := { name := "coderFromArrayLen", desc := "([BI)B", sig := { parameters := [(.array .byte), .int], returnType := some .byte }, accessFlags := 8, code := some k9c7 }
def k9c8 : Code := { maxStack := 5, maxLocals := 6, code := jdk_52_method_16_code, exceptionTable := #[], attributes := #[] }
def k9m8 : Method := { name := "compress", desc := "([CII)[B", sig := { parameters := [(.array .char), .int, .int], returnType := some (.array .byte) }, accessFlags := 9, code := some k9c8 }
def k9c9 : Code := { maxStack := 3, maxLocals := 7, code := jdk_52_method_21_code, exceptionTable := #[], attributes := #[] }
def k9m9 : Method := { name := "compress", desc := "([CI[BII)I", sig := { parameters := [(.array .char), .int, (.array .byte), .int, .int], returnType := some .int }, accessFlags := 9, code := some k9c9 }
def k9c10 : Code := { maxStack := 2, maxLocals := 2, code := jdk_52_method_83_code, exceptionTable := #[], attributes := #[] }
def k9m10 : Method := { name := "charAt", desc := "([BI)C", sig := { parameters := [(.array .byte), .int], returnType := some .char }, accessFlags := 9, code := some k9c10 }
def k9c11 : Code := { maxStack := 2, maxLocals := 2, code := jdk_52_method_91_code, exceptionTable := #[], attributes := #[] }
def k9m11 : Method := { name := "checkIndex", desc := "(I[B)V", sig := { parameters := [.int, (.array .byte)], returnType := none }, accessFlags := 9, code := some k9c11 }
/-- java/lang/StringUTF16 -/
def k9 : Class := { plain "java/lang/StringUTF16" (some 0) with
  accessFlags := 48
  interfaces := #[]
  cf := some (fileOf pool9 12 #[.nestMembers #[627, 629, 369]] #[{ accessFlags := 0, nameIndex := 9, descriptorIndex := 10, attributes := #[] }, { accessFlags := 9, nameIndex := 109, descriptorIndex := 110, attributes := #[] }, { accessFlags := 9, nameIndex := 15, descriptorIndex := 16, attributes := #[] }, { accessFlags := 8, nameIndex := 113, descriptorIndex := 114, attributes := #[] }, { accessFlags := 8, nameIndex := 73, descriptorIndex := 74, attributes := #[] }, { accessFlags := 9, nameIndex := 50, descriptorIndex := 51, attributes := #[] }, { accessFlags := 9, nameIndex := 121, descriptorIndex := 122, attributes := #[] }, { accessFlags := 8, nameIndex := 261, descriptorIndex := 262, attributes := #[] }, { accessFlags := 9, nameIndex := 117, descriptorIndex := 122, attributes := #[] }, { accessFlags := 9, nameIndex := 117, descriptorIndex := 118, attributes := #[] }, { accessFlags := 9, nameIndex := 392, descriptorIndex := 74, attributes := #[] }, { accessFlags := 9, nameIndex := 69, descriptorIndex := 70, attributes := #[] }] 48 6 #[] #[{ accessFlags := 26, nameIndex := 61, descriptorIndex := 62, attributes := #[] }, { accessFlags := 26, nameIndex := 65, descriptorIndex := 62, attributes := #[] }, { accessFlags := 24, nameIndex := 430, descriptorIndex := 62, attributes := #[] }, { accessFlags := 4120, nameIndex := 46, descriptorIndex := 47, attributes := #[] }])
  fields := #[{ name := "HI_BYTE_SHIFT", type := .int, accessFlags := 26, slot := 0, constantValue := 0 }, { name := "LO_BYTE_SHIFT", type := .int, accessFlags := 26, slot := 1, constantValue := 0 }, { name := "MAX_LENGTH", type := .int, accessFlags := 24, slot := 2, constantValue := 0 }, { name := "$assertionsDisabled", type := .boolean, accessFlags := 4120, slot := 3, constantValue := 0 }]
  methods := #[k9m0, k9m1, k9m2, k9m3, k9m4, k9m5, k9m6, k9m7, k9m8, k9m9, k9m10, k9m11]
  instanceTypes := #[]
  staticTypes := #[.int, .int, .int, .boolean]
  resolved := Array.replicate 635 none
  statics := some 1 }

def pool10 : Array CpInfo := pool [(1, .class_ 2), (0, u "java/lang/String"), (1, .class_ 6), (1, u "java/lang/Object"), (0, u "<init>"), (0, u "()V"), (0, .methodref 1 10), (0, .nameAndType 11 12), (0, u "checkIndex"), (0, u "(II)V"), (1, .class_ 16), (1, u "java/lang/StringLatin1"), (36, u "([BI)C"), (67, u "$assertionsDisabled"), (0, u "Z"), (98, .class_ 223), (1, u "java/lang/StringLatin1$LinesSpliterator"), (28, u "charAt"), (137, .class_ 391), (0, u "java/lang/StringLatin1$CharsSpliterator")] 3

def k10m0 : Method := { name := "<init>", desc := "()V", sig := { parameters := [], returnType := none }, accessFlags := 0, code := none }
def k10c1 : Code := { maxStack := 2, maxLocals := 2, code := jdk_43_method_2_code, exceptionTable := #[], attributes := #[] }
def k10m1 : Method := { name := "charAt", desc := "([BI)C", sig := { parameters := [(.array .byte), .int], returnType := some .char }, accessFlags := 9, code := some k10c1 }
/-- java/lang/StringLatin1 -/
def k10 : Class := { plain "java/lang/StringLatin1" (some 0) with
  accessFlags := 48
  interfaces := #[]
  cf := some (fileOf pool10 14 #[.nestMembers #[390, 221]] #[{ accessFlags := 0, nameIndex := 7, descriptorIndex := 8, attributes := #[] }, { accessFlags := 9, nameIndex := 252, descriptorIndex := 53, attributes := #[] }] 48 4 #[] #[{ accessFlags := 4120, nameIndex := 121, descriptorIndex := 122, attributes := #[] }])
  fields := #[{ name := "$assertionsDisabled", type := .boolean, accessFlags := 4120, slot := 0, constantValue := 0 }]
  methods := #[k10m0, k10m1]
  instanceTypes := #[]
  staticTypes := #[.boolean]
  resolved := Array.replicate 395 none
  statics := none }

def pool11 : Array CpInfo := pool [(2, .class_ 4), (1, u "java/lang/Object"), (0, u "<init>"), (0, u "()V"), (17, .class_ 26), (1, u "jdk/internal/util/Preconditions"), (6, u "checkIndex"), (21, .class_ 56), (0, u "jdk/internal/util/Preconditions$4"), (57, .class_ 115), (0, u "jdk/internal/util/Preconditions$1"), (7, u "SIOOBE_FORMATTER"), (0, u "Ljava/util/function/BiFunction;"), (0, .class_ 126), (0, u "jdk/internal/util/Preconditions$2"), (3, u "AIOOBE_FORMATTER"), (0, .class_ 132), (0, u "jdk/internal/util/Preconditions$3"), (3, u "IOOBE_FORMATTER"), (41, u "(IILjava/util/function/BiFunction;)I")] 15

def k11m0 : Method := { name := "<init>", desc := "()V", sig := { parameters := [], returnType := none }, accessFlags := 1, code := none }
def k11c1 : Code := { maxStack := 3, maxLocals := 3, code := jdk_41_method_11_code, exceptionTable := #[], attributes := #[] }
def k11m1 : Method := { name := "checkIndex", desc := "(IILjava/util/function/BiFunction;)I", sig := { parameters := [.int, .int, (.object "java/util/function/BiFunction")], returnType := some .int }, accessFlags := 9, code := some k11c1 }
/-- jdk/internal/util/Preconditions -/
def k11 : Class := { plain "jdk/internal/util/Preconditions" (some 0) with
  accessFlags := 33
  interfaces := #[]
  cf := some (fileOf pool11 24 #[.nestMembers #[55, 131, 125, 114]] #[{ accessFlags := 1, nameIndex := 5, descriptorIndex := 6, attributes := #[] }, { accessFlags := 9, nameIndex := 33, descriptorIndex := 178, attributes := #[] }] 33 2 #[] #[{ accessFlags := 25, nameIndex := 123, descriptorIndex := 124, attributes := #[] }, { accessFlags := 25, nameIndex := 130, descriptorIndex := 124, attributes := #[] }, { accessFlags := 25, nameIndex := 136, descriptorIndex := 124, attributes := #[] }])
  fields := #[{ name := "SIOOBE_FORMATTER", type := (.object "java/util/function/BiFunction"), accessFlags := 25, slot := 0, constantValue := 0 }, { name := "AIOOBE_FORMATTER", type := (.object "java/util/function/BiFunction"), accessFlags := 25, slot := 1, constantValue := 0 }, { name := "IOOBE_FORMATTER", type := (.object "java/util/function/BiFunction"), accessFlags := 25, slot := 2, constantValue := 0 }]
  methods := #[k11m0, k11m1]
  instanceTypes := #[]
  staticTypes := #[(.object "java/util/function/BiFunction"), (.object "java/util/function/BiFunction"), (.object "java/util/function/BiFunction")]
  resolved := Array.replicate 194 none
  statics := some 2 }

def pool12 : Array CpInfo := pool [(9, u "<init>"), (6, .class_ 18), (1, u "java/lang/Object"), (0, u "()V"), (1, .class_ 23), (1, u "jdk/internal/util/ArraysSupport"), (0, u "LOG2_ARRAY_LONG_INDEX_SCALE"), (0, u "I"), (2, u "U"), (0, u "Ljdk/internal/misc/Unsafe;"), (8, u "BIG_ENDIAN"), (0, u "Z"), (8, u "LOG2_BYTE_BIT_SIZE"), (4, u "LOG2_ARRAY_INT_INDEX_SCALE"), (54, u "JLA"), (0, u "Ljdk/internal/access/JavaLangAccess;"), (11, u "LOG2_ARRAY_BOOLEAN_INDEX_SCALE"), (9, u "LOG2_ARRAY_BYTE_INDEX_SCALE"), (5, u "LOG2_ARRAY_CHAR_INDEX_SCALE"), (5, u "LOG2_ARRAY_SHORT_INDEX_SCALE"), (18, u "LOG2_ARRAY_FLOAT_INDEX_SCALE"), (24, u "LOG2_ARRAY_DOUBLE_INDEX_SCALE"), (89, u "T_BOOLEAN"), (2, u "T_CHAR"), (1, u "T_FLOAT"), (1, u "T_DOUBLE"), (1, u "T_BYTE"), (1, u "T_SHORT"), (1, u "T_INT"), (1, u "T_LONG"), (1, u "SOFT_MAX_ARRAY_LENGTH")] 83

def k12m0 : Method := { name := "<init>", desc := "()V", sig := { parameters := [], returnType := none }, accessFlags := 2, code := none }
/-- jdk/internal/util/ArraysSupport -/
def k12 : Class := { plain "jdk/internal/util/ArraysSupport" (some 0) with
  accessFlags := 33
  interfaces := #[]
  cf := some (fileOf pool12 21 #[] #[{ accessFlags := 2, nameIndex := 9, descriptorIndex := 19, attributes := #[] }] 33 16 #[] #[{ accessFlags := 24, nameIndex := 28, descriptorIndex := 29, attributes := #[] }, { accessFlags := 26, nameIndex := 38, descriptorIndex := 39, attributes := #[] }, { accessFlags := 25, nameIndex := 121, descriptorIndex := 25, attributes := #[] }, { accessFlags := 25, nameIndex := 131, descriptorIndex := 25, attributes := #[] }, { accessFlags := 25, nameIndex := 137, descriptorIndex := 25, attributes := #[] }, { accessFlags := 25, nameIndex := 143, descriptorIndex := 25, attributes := #[] }, { accessFlags := 25, nameIndex := 53, descriptorIndex := 25, attributes := #[] }, { accessFlags := 25, nameIndex := 24, descriptorIndex := 25, attributes := #[] }, { accessFlags := 25, nameIndex := 162, descriptorIndex := 25, attributes := #[] }, { accessFlags := 25, nameIndex := 187, descriptorIndex := 25, attributes := #[] }, { accessFlags := 26, nameIndex := 48, descriptorIndex := 25, attributes := #[] }, { accessFlags := 25, nameIndex := 277, descriptorIndex := 25, attributes := #[] }, { accessFlags := 25, nameIndex := 280, descriptorIndex := 25, attributes := #[] }, { accessFlags := 25, nameIndex := 282, descriptorIndex := 25, attributes := #[] }, { accessFlags := 25, nameIndex := 284, descriptorIndex := 25, attributes := #[] }, { accessFlags := 25, nameIndex := 286, descriptorIndex := 25, attributes := #[] }, { accessFlags := 25, nameIndex := 288, descriptorIndex := 25, attributes := #[] }, { accessFlags := 25, nameIndex := 290, descriptorIndex := 25, attributes := #[] }, { accessFlags := 25, nameIndex := 292, descriptorIndex := 25, attributes := #[] }, { accessFlags := 26, nameIndex := 108, descriptorIndex := 109, attributes := #[] }, { accessFlags := 25, nameIndex := 294, descriptorIndex := 25, attributes := #[] }])
  fields := #[{ name := "U", type := (.object "jdk/internal/misc/Unsafe"), accessFlags := 24, slot := 0, constantValue := 0 }, { name := "BIG_ENDIAN", type := .boolean, accessFlags := 26, slot := 1, constantValue := 0 }, { name := "LOG2_ARRAY_BOOLEAN_INDEX_SCALE", type := .int, accessFlags := 25, slot := 2, constantValue := 0 }, { name := "LOG2_ARRAY_BYTE_INDEX_SCALE", type := .int, accessFlags := 25, slot := 3, constantValue := 0 }, { name := "LOG2_ARRAY_CHAR_INDEX_SCALE", type := .int, accessFlags := 25, slot := 4, constantValue := 0 }, { name := "LOG2_ARRAY_SHORT_INDEX_SCALE", type := .int, accessFlags := 25, slot := 5, constantValue := 0 }, { name := "LOG2_ARRAY_INT_INDEX_SCALE", type := .int, accessFlags := 25, slot := 6, constantValue := 0 }, { name := "LOG2_ARRAY_LONG_INDEX_SCALE", type := .int, accessFlags := 25, slot := 7, constantValue := 0 }, { name := "LOG2_ARRAY_FLOAT_INDEX_SCALE", type := .int, accessFlags := 25, slot := 8, constantValue := 0 }, { name := "LOG2_ARRAY_DOUBLE_INDEX_SCALE", type := .int, accessFlags := 25, slot := 9, constantValue := 0 }, { name := "LOG2_BYTE_BIT_SIZE", type := .int, accessFlags := 26, slot := 10, constantValue := 0 }, { name := "T_BOOLEAN", type := .int, accessFlags := 25, slot := 11, constantValue := 0 }, { name := "T_CHAR", type := .int, accessFlags := 25, slot := 12, constantValue := 0 }, { name := "T_FLOAT", type := .int, accessFlags := 25, slot := 13, constantValue := 0 }, { name := "T_DOUBLE", type := .int, accessFlags := 25, slot := 14, constantValue := 0 }, { name := "T_BYTE", type := .int, accessFlags := 25, slot := 15, constantValue := 0 }, { name := "T_SHORT", type := .int, accessFlags := 25, slot := 16, constantValue := 0 }, { name := "T_INT", type := .int, accessFlags := 25, slot := 17, constantValue := 0 }, { name := "T_LONG", type := .int, accessFlags := 25, slot := 18, constantValue := 0 }, { name := "JLA", type := (.object "jdk/internal/access/JavaLangAccess"), accessFlags := 26, slot := 19, constantValue := 0 }, { name := "SOFT_MAX_ARRAY_LENGTH", type := .int, accessFlags := 25, slot := 20, constantValue := 0 }]
  methods := #[k12m0]
  instanceTypes := #[]
  staticTypes := #[(.object "jdk/internal/misc/Unsafe"), .boolean, .int, .int, .int, .int, .int, .int, .int, .int, .int, .int, .int, .int, .int, .int, .int, .int, .int, (.object "jdk/internal/access/JavaLangAccess"), .int]
  resolved := Array.replicate 378 none
  statics := none }

def pool13 : Array CpInfo := pool [(1, u "java/lang/Cloneable"), (0, .class_ 1), (0, u "java/lang/Object"), (0, .class_ 3)] 3

/-- java/lang/Cloneable -/
def k13 : Class := { plain "java/lang/Cloneable" (some 0) with
  accessFlags := 1537
  interfaces := #[]
  cf := some (fileOf pool13 2 #[] #[] 1537 4 #[] #[])
  fields := #[]
  methods := #[]
  instanceTypes := #[]
  staticTypes := #[]
  resolved := Array.replicate 8 none
  statics := none }

/-- the primitive byte -/
def k14 : Class := { plain "byte" none with kind := .primitive 'B', accessFlags := 0x411 }
/-- [B -/
def k15 : Class := { plain "[B" (some 0) with kind := .array 14 .byte, interfaces := #[13, 2], accessFlags := 1041 }

/-- the primitive char -/
def k16 : Class := { plain "char" none with kind := .primitive 'C', accessFlags := 0x411 }
/-- [C -/
def k17 : Class := { plain "[C" (some 0) with kind := .array 16 .char, interfaces := #[13, 2], accessFlags := 1041 }

/-- the primitive int -/
def k18 : Class := { plain "int" none with kind := .primitive 'I', accessFlags := 0x411 }
/-- [I -/
def k19 : Class := { plain "[I" (some 0) with kind := .array 18 .int, interfaces := #[13, 2], accessFlags := 1041 }

def heap : Heap := #[{ cls := 7, slots := #[.long 0, .int 1, .null, .int 0, .null, .int 0, .int 0], vm := .statics 7 },
  { cls := 9, slots := #[.int 0, .int 8, .int 0, .int 1], vm := .statics 9 },
  { cls := 11, slots := #[.null, .null, .null], vm := .statics 11 }]
def classes : Array Class := #[k0, k1, k2, k3, k4, k5, k6, k7, k8, k9, k10, k11, k12, k13, k14, k15, k16, k17, k18, k19]
def interned : List (Array UInt16 × Addr) := []
def slotsUsed : Nat := 14
def theMethod : MethodId := ⟨1, 2⟩
def args0 : Array Value := #[.int 1, .int 65, .int 7, .int 9, .int 3]
def aboutOver (below : List Frame) : State where
  vm := { classes := classes, interned := interned.toArray }
  heap := heap
  slotsUsed := slotsUsed
  threads := #[{ frames := .invoking theMethod args0 :: below }]
def below0 : List Frame := [.native { method := ⟨0, 0⟩, args := #[] }]
def about1 : State := aboutOver below0
def p0 : Program := .bare "" "" ""
def e0 : Env := launch0.env 0 0 0
theorem w_frames : about1.frames = Frame.invoking theMethod args0 :: below0 := rfl
set_option maxRecDepth 65536 in
theorem w_args : argsFit about1.vm theMethod args0 = true := by decide +kernel
set_option maxRecDepth 65536 in
theorem w_heap : heapFits about1 = true := by decide +kernel
set_option maxRecDepth 65536 in
theorem w_runnable : about1.curStatus? = some .runnable := by decide +kernel
set_option maxRecDepth 65536 in
theorem w_alone : about1.alone = true := by decide +kernel
set_option maxRecDepth 65536 in
theorem w_named : about1.methodNamed? x = some theMethod := by decide +kernel
set_option maxRecDepth 65536 in
theorem w_hears : about1.hears theMethod below0 = true := by decide +kernel
set_option maxRecDepth 65536 in
theorem w_ripe : about1.ripe theMethod args0 below0 = true := by decide +kernel
theorem w_running : about1.status = .running := rfl
set_option maxRecDepth 65536 in
theorem w_room : about1.hasRoom e0.platform room_1 = true :=
  launch0.hasRoom_least _ room_1 (by decide +kernel) (by decide +kernel) (by decide +kernel) (by decide +kernel) (by decide +kernel) (by decide +kernel)
theorem allAtoms_all (ts : List Jvm.Cond) (a : Array Jvm.Value) (st : Jvm.State) : (allAtoms ts).before a st = ts.all (fun c => c.before a st) := by
  induction ts with
  | nil => rfl
  | cons c t ih =>
    show (Jvm.Cond.and c (allAtoms t)).before a st = _
    rw [Jvm.Cond.before_and, ih, List.all_cons]
def words1 : List Jvm.Cond := Jvm.Cond.code x code maxLocals ret :: tables_1
/-- a 'code' word, met by the world's own term for the bytes: nothing is compared byte by byte -/
theorem code_word {y : MethodName} {bytes : ByteArray} {mx : Nat} {rt : Option FieldType} {a : Array Value} {s : State} {m : MethodId} {meth : Method} {c : Code} (h1 : s.methodNamed? y = some m) (h2 : s.vm.method? m = some meth) (h3 : meth.code = some c) (h4 : c.code = bytes)
    (h5 : (c.maxLocals == mx && c.exceptionTable.isEmpty && decide (c.maxStack ≤ mostOperands) && decide (meth.sig.returnType = rt) && !meth.locks && decide (parseMethodDescriptor y.desc = some meth.sig)) = true) : (Jvm.Cond.code y bytes mx rt).before a s = true := by
  simp only [Bool.and_eq_true, beq_iff_eq, Bool.not_eq_true', decide_eq_true_eq] at h5
  obtain ⟨⟨⟨⟨⟨g1, g2⟩, g3⟩, g4⟩, g5⟩, g6⟩ := h5
  simp [Cond.before, Cond.holds, Cond.value, h1, h2, h3, h4, g1, g2, g3, g4, g5, g6]
def isCode : Jvm.Cond → Bool
  | .code _ _ _ _ => true
  | _ => false
theorem all_split {L : List Jvm.Cond} {P : Jvm.Cond → Bool} (h1 : L.all (fun c => isCode c || P c) = true) (h2 : ∀ c ∈ L.filter isCode, P c = true) : L.all P = true := by
  refine List.all_eq_true.mpr fun c hc => ?_
  have h := List.all_eq_true.mp h1 c hc
  rcases Bool.eq_false_or_eq_true (isCode c) with hi | hi
  · exact h2 c (List.mem_filter.mpr ⟨hc, hi⟩)
  · simpa [hi] using h
set_option maxRecDepth 65536 in
theorem w_c0 : (Jvm.Cond.code x code maxLocals ret).before args0 about1 = true := code_word (m := ⟨1, 2⟩) (meth := k1m2) (c := k1c2) (by decide +kernel) rfl rfl rfl (by decide +kernel)
set_option maxRecDepth 65536 in
theorem w_c1 : (Jvm.Cond.code ({ cls := "java/lang/String", name := "<init>", desc := "([C)V" } : Jvm.MethodName) jdk_42_method_3_code (2 : Nat) (Option.none : Option Jvm.ClassFile.FieldType)).before args0 about1 = true := code_word (m := ⟨7, 1⟩) (meth := k7m1) (c := k7c1) (by decide +kernel) rfl rfl rfl (by decide +kernel)
set_option maxRecDepth 65536 in
theorem w_c2 : (Jvm.Cond.code ({ cls := "java/lang/String", name := "<init>", desc := "([CIILjava/lang/Void;)V" } : Jvm.MethodName) jdk_42_method_149_code (6 : Nat) (Option.none : Option Jvm.ClassFile.FieldType)).before args0 about1 = true := code_word (m := ⟨7, 5⟩) (meth := k7m5) (c := k7c5) (by decide +kernel) rfl rfl rfl (by decide +kernel)
set_option maxRecDepth 65536 in
theorem w_c3 : (Jvm.Cond.code ({ cls := "java/lang/Object", name := "<init>", desc := "()V" } : Jvm.MethodName) object_method_1_code (1 : Nat) (Option.none : Option Jvm.ClassFile.FieldType)).before args0 about1 = true := code_word (m := ⟨0, 0⟩) (meth := k0m0) (c := k0c0) (by decide +kernel) rfl rfl rfl (by decide +kernel)
set_option maxRecDepth 65536 in
theorem w_c4 : (Jvm.Cond.code ({ cls := "com/example/issuant/issuant/config/Scopes", name := "isToken", desc := "(Ljava/lang/String;)Z" } : Jvm.MethodName) prog_5_method_2_code (3 : Nat) (Option.some Jvm.ClassFile.FieldType.boolean)).before args0 about1 = true := code_word (m := ⟨8, 1⟩) (meth := k8m1) (c := k8c1) (by decide +kernel) rfl rfl rfl (by decide +kernel)
set_option maxRecDepth 65536 in
theorem w_c5 : (Jvm.Cond.code ({ cls := "java/lang/String", name := "isEmpty", desc := "()Z" } : Jvm.MethodName) jdk_42_method_55_code (1 : Nat) (Option.some Jvm.ClassFile.FieldType.boolean)).before args0 about1 = true := code_word (m := ⟨7, 3⟩) (meth := k7m3) (c := k7c3) (by decide +kernel) rfl rfl rfl (by decide +kernel)
set_option maxRecDepth 65536 in
theorem w_c6 : (Jvm.Cond.code ({ cls := "java/lang/StringUTF16", name := "compress", desc := "([CII)[B" } : Jvm.MethodName) jdk_52_method_16_code (6 : Nat) (Option.some (Jvm.ClassFile.FieldType.array Jvm.ClassFile.FieldType.byte))).before args0 about1 = true := code_word (m := ⟨9, 8⟩) (meth := k9m8) (c := k9c8) (by decide +kernel) rfl rfl rfl (by decide +kernel)
set_option maxRecDepth 65536 in
theorem w_c7 : (Jvm.Cond.code ({ cls := "java/lang/StringUTF16", name := "compress", desc := "([CI[BII)I" } : Jvm.MethodName) jdk_52_method_21_code (7 : Nat) (Option.some Jvm.ClassFile.FieldType.int)).before args0 about1 = true := code_word (m := ⟨9, 9⟩) (meth := k9m9) (c := k9c9) (by decide +kernel) rfl rfl rfl (by decide +kernel)
set_option maxRecDepth 65536 in
theorem w_c8 : (Jvm.Cond.code ({ cls := "java/lang/StringUTF16", name := "coderFromArrayLen", desc := "([BI)B" } : Jvm.MethodName) jdk_52_method_15_code (2 : Nat) (Option.some Jvm.ClassFile.FieldType.byte)).before args0 about1 = true := code_word (m := ⟨9, 7⟩) (meth := k9m7) (c := k9c7) (by decide +kernel) rfl rfl rfl (by decide +kernel)
set_option maxRecDepth 65536 in
theorem w_c9 : (Jvm.Cond.code ({ cls := "com/example/issuant/issuant/config/ScopesIsTokenPinLaw", name := "ok", desc := "(C)Z" } : Jvm.MethodName) method_2_code (2 : Nat) (Option.some Jvm.ClassFile.FieldType.boolean)).before args0 about1 = true := code_word (m := ⟨1, 1⟩) (meth := k1m1) (c := k1c1) (by decide +kernel) rfl rfl rfl (by decide +kernel)
set_option maxRecDepth 65536 in
theorem w_c10 : (Jvm.Cond.code ({ cls := "java/lang/String", name := "length", desc := "()I" } : Jvm.MethodName) jdk_42_method_54_code (1 : Nat) (Option.some Jvm.ClassFile.FieldType.int)).before args0 about1 = true := code_word (m := ⟨7, 2⟩) (meth := k7m2) (c := k7c2) (by decide +kernel) rfl rfl rfl (by decide +kernel)
set_option maxRecDepth 65536 in
theorem w_c11 : (Jvm.Cond.code ({ cls := "java/lang/String", name := "coder", desc := "()B" } : Jvm.MethodName) jdk_42_method_152_code (1 : Nat) (Option.some Jvm.ClassFile.FieldType.byte)).before args0 about1 = true := code_word (m := ⟨7, 6⟩) (meth := k7m6) (c := k7c6) (by decide +kernel) rfl rfl rfl (by decide +kernel)
set_option maxRecDepth 65536 in
theorem w_c12 : (Jvm.Cond.code ({ cls := "java/lang/String", name := "charAt", desc := "(I)C" } : Jvm.MethodName) jdk_42_method_56_code (2 : Nat) (Option.some Jvm.ClassFile.FieldType.char)).before args0 about1 = true := code_word (m := ⟨7, 4⟩) (meth := k7m4) (c := k7c4) (by decide +kernel) rfl rfl rfl (by decide +kernel)
set_option maxRecDepth 65536 in
theorem w_c13 : (Jvm.Cond.code ({ cls := "java/lang/String", name := "isLatin1", desc := "()Z" } : Jvm.MethodName) jdk_42_method_154_code (1 : Nat) (Option.some Jvm.ClassFile.FieldType.boolean)).before args0 about1 = true := code_word (m := ⟨7, 7⟩) (meth := k7m7) (c := k7c7) (by decide +kernel) rfl rfl rfl (by decide +kernel)
set_option maxRecDepth 65536 in
theorem w_c14 : (Jvm.Cond.code ({ cls := "java/lang/StringLatin1", name := "charAt", desc := "([BI)C" } : Jvm.MethodName) jdk_43_method_2_code (2 : Nat) (Option.some Jvm.ClassFile.FieldType.char)).before args0 about1 = true := code_word (m := ⟨10, 1⟩) (meth := k10m1) (c := k10c1) (by decide +kernel) rfl rfl rfl (by decide +kernel)
set_option maxRecDepth 65536 in
theorem w_c15 : (Jvm.Cond.code ({ cls := "java/lang/String", name := "checkIndex", desc := "(II)V" } : Jvm.MethodName) jdk_42_method_155_code (2 : Nat) (Option.none : Option Jvm.ClassFile.FieldType)).before args0 about1 = true := code_word (m := ⟨7, 8⟩) (meth := k7m8) (c := k7c8) (by decide +kernel) rfl rfl rfl (by decide +kernel)
set_option maxRecDepth 65536 in
theorem w_c16 : (Jvm.Cond.code ({ cls := "jdk/internal/util/Preconditions", name := "checkIndex", desc := "(IILjava/util/function/BiFunction;)I" } : Jvm.MethodName) jdk_41_method_11_code (3 : Nat) (Option.some Jvm.ClassFile.FieldType.int)).before args0 about1 = true := code_word (m := ⟨11, 1⟩) (meth := k11m1) (c := k11c1) (by decide +kernel) rfl rfl rfl (by decide +kernel)
set_option maxRecDepth 65536 in
theorem w_c17 : (Jvm.Cond.code ({ cls := "java/lang/StringUTF16", name := "toBytes", desc := "([CII)[B" } : Jvm.MethodName) jdk_52_method_14_code (5 : Nat) (Option.some (Jvm.ClassFile.FieldType.array Jvm.ClassFile.FieldType.byte))).before args0 about1 = true := code_word (m := ⟨9, 6⟩) (meth := k9m6) (c := k9c6) (by decide +kernel) rfl rfl rfl (by decide +kernel)
set_option maxRecDepth 65536 in
theorem w_c18 : (Jvm.Cond.code ({ cls := "java/lang/StringUTF16", name := "newBytesFor", desc := "(I)[B" } : Jvm.MethodName) jdk_52_method_2_code (1 : Nat) (Option.some (Jvm.ClassFile.FieldType.array Jvm.ClassFile.FieldType.byte))).before args0 about1 = true := code_word (m := ⟨9, 1⟩) (meth := k9m1) (c := k9c1) (by decide +kernel) rfl rfl rfl (by decide +kernel)
set_option maxRecDepth 65536 in
theorem w_c19 : (Jvm.Cond.code ({ cls := "java/lang/StringUTF16", name := "newBytesLength", desc := "(I)I" } : Jvm.MethodName) jdk_52_method_3_code (1 : Nat) (Option.some Jvm.ClassFile.FieldType.int)).before args0 about1 = true := code_word (m := ⟨9, 2⟩) (meth := k9m2) (c := k9c2) (by decide +kernel) rfl rfl rfl (by decide +kernel)
set_option maxRecDepth 65536 in
theorem w_c20 : (Jvm.Cond.code ({ cls := "java/lang/StringUTF16", name := "putChar", desc := "([BII)V" } : Jvm.MethodName) jdk_52_method_4_code (3 : Nat) (Option.none : Option Jvm.ClassFile.FieldType)).before args0 about1 = true := code_word (m := ⟨9, 3⟩) (meth := k9m3) (c := k9c3) (by decide +kernel) rfl rfl rfl (by decide +kernel)
set_option maxRecDepth 65536 in
theorem w_c21 : (Jvm.Cond.code ({ cls := "java/lang/StringUTF16", name := "getChar", desc := "([BI)C" } : Jvm.MethodName) jdk_52_method_5_code (2 : Nat) (Option.some Jvm.ClassFile.FieldType.char)).before args0 about1 = true := code_word (m := ⟨9, 4⟩) (meth := k9m4) (c := k9c4) (by decide +kernel) rfl rfl rfl (by decide +kernel)
set_option maxRecDepth 65536 in
theorem w_c22 : (Jvm.Cond.code ({ cls := "java/lang/StringUTF16", name := "charAt", desc := "([BI)C" } : Jvm.MethodName) jdk_52_method_83_code (2 : Nat) (Option.some Jvm.ClassFile.FieldType.char)).before args0 about1 = true := code_word (m := ⟨9, 10⟩) (meth := k9m10) (c := k9c10) (by decide +kernel) rfl rfl rfl (by decide +kernel)
set_option maxRecDepth 65536 in
theorem w_c23 : (Jvm.Cond.code ({ cls := "java/lang/StringUTF16", name := "checkIndex", desc := "(I[B)V" } : Jvm.MethodName) jdk_52_method_91_code (2 : Nat) (Option.none : Option Jvm.ClassFile.FieldType)).before args0 about1 = true := code_word (m := ⟨9, 11⟩) (meth := k9m11) (c := k9c11) (by decide +kernel) rfl rfl rfl (by decide +kernel)
set_option maxRecDepth 65536 in
theorem w_c24 : (Jvm.Cond.code ({ cls := "java/lang/StringUTF16", name := "length", desc := "([B)I" } : Jvm.MethodName) jdk_52_method_6_code (1 : Nat) (Option.some Jvm.ClassFile.FieldType.int)).before args0 about1 = true := code_word (m := ⟨9, 5⟩) (meth := k9m5) (c := k9c5) (by decide +kernel) rfl rfl rfl (by decide +kernel)
def codes1 : List Jvm.Cond := [Jvm.Cond.code x code maxLocals ret, Jvm.Cond.code ({ cls := "java/lang/String", name := "<init>", desc := "([C)V" } : Jvm.MethodName) jdk_42_method_3_code (2 : Nat) (Option.none : Option Jvm.ClassFile.FieldType), Jvm.Cond.code ({ cls := "java/lang/String", name := "<init>", desc := "([CIILjava/lang/Void;)V" } : Jvm.MethodName) jdk_42_method_149_code (6 : Nat) (Option.none : Option Jvm.ClassFile.FieldType), Jvm.Cond.code ({ cls := "java/lang/Object", name := "<init>", desc := "()V" } : Jvm.MethodName) object_method_1_code (1 : Nat) (Option.none : Option Jvm.ClassFile.FieldType), Jvm.Cond.code ({ cls := "com/example/issuant/issuant/config/Scopes", name := "isToken", desc := "(Ljava/lang/String;)Z" } : Jvm.MethodName) prog_5_method_2_code (3 : Nat) (Option.some Jvm.ClassFile.FieldType.boolean), Jvm.Cond.code ({ cls := "java/lang/String", name := "isEmpty", desc := "()Z" } : Jvm.MethodName) jdk_42_method_55_code (1 : Nat) (Option.some Jvm.ClassFile.FieldType.boolean), Jvm.Cond.code ({ cls := "java/lang/StringUTF16", name := "compress", desc := "([CII)[B" } : Jvm.MethodName) jdk_52_method_16_code (6 : Nat) (Option.some (Jvm.ClassFile.FieldType.array Jvm.ClassFile.FieldType.byte)), Jvm.Cond.code ({ cls := "java/lang/StringUTF16", name := "compress", desc := "([CI[BII)I" } : Jvm.MethodName) jdk_52_method_21_code (7 : Nat) (Option.some Jvm.ClassFile.FieldType.int), Jvm.Cond.code ({ cls := "java/lang/StringUTF16", name := "coderFromArrayLen", desc := "([BI)B" } : Jvm.MethodName) jdk_52_method_15_code (2 : Nat) (Option.some Jvm.ClassFile.FieldType.byte), Jvm.Cond.code ({ cls := "com/example/issuant/issuant/config/ScopesIsTokenPinLaw", name := "ok", desc := "(C)Z" } : Jvm.MethodName) method_2_code (2 : Nat) (Option.some Jvm.ClassFile.FieldType.boolean), Jvm.Cond.code ({ cls := "java/lang/String", name := "length", desc := "()I" } : Jvm.MethodName) jdk_42_method_54_code (1 : Nat) (Option.some Jvm.ClassFile.FieldType.int), Jvm.Cond.code ({ cls := "java/lang/String", name := "coder", desc := "()B" } : Jvm.MethodName) jdk_42_method_152_code (1 : Nat) (Option.some Jvm.ClassFile.FieldType.byte), Jvm.Cond.code ({ cls := "java/lang/String", name := "charAt", desc := "(I)C" } : Jvm.MethodName) jdk_42_method_56_code (2 : Nat) (Option.some Jvm.ClassFile.FieldType.char), Jvm.Cond.code ({ cls := "java/lang/String", name := "isLatin1", desc := "()Z" } : Jvm.MethodName) jdk_42_method_154_code (1 : Nat) (Option.some Jvm.ClassFile.FieldType.boolean), Jvm.Cond.code ({ cls := "java/lang/StringLatin1", name := "charAt", desc := "([BI)C" } : Jvm.MethodName) jdk_43_method_2_code (2 : Nat) (Option.some Jvm.ClassFile.FieldType.char), Jvm.Cond.code ({ cls := "java/lang/String", name := "checkIndex", desc := "(II)V" } : Jvm.MethodName) jdk_42_method_155_code (2 : Nat) (Option.none : Option Jvm.ClassFile.FieldType), Jvm.Cond.code ({ cls := "jdk/internal/util/Preconditions", name := "checkIndex", desc := "(IILjava/util/function/BiFunction;)I" } : Jvm.MethodName) jdk_41_method_11_code (3 : Nat) (Option.some Jvm.ClassFile.FieldType.int), Jvm.Cond.code ({ cls := "java/lang/StringUTF16", name := "toBytes", desc := "([CII)[B" } : Jvm.MethodName) jdk_52_method_14_code (5 : Nat) (Option.some (Jvm.ClassFile.FieldType.array Jvm.ClassFile.FieldType.byte)), Jvm.Cond.code ({ cls := "java/lang/StringUTF16", name := "newBytesFor", desc := "(I)[B" } : Jvm.MethodName) jdk_52_method_2_code (1 : Nat) (Option.some (Jvm.ClassFile.FieldType.array Jvm.ClassFile.FieldType.byte)), Jvm.Cond.code ({ cls := "java/lang/StringUTF16", name := "newBytesLength", desc := "(I)I" } : Jvm.MethodName) jdk_52_method_3_code (1 : Nat) (Option.some Jvm.ClassFile.FieldType.int), Jvm.Cond.code ({ cls := "java/lang/StringUTF16", name := "putChar", desc := "([BII)V" } : Jvm.MethodName) jdk_52_method_4_code (3 : Nat) (Option.none : Option Jvm.ClassFile.FieldType), Jvm.Cond.code ({ cls := "java/lang/StringUTF16", name := "getChar", desc := "([BI)C" } : Jvm.MethodName) jdk_52_method_5_code (2 : Nat) (Option.some Jvm.ClassFile.FieldType.char), Jvm.Cond.code ({ cls := "java/lang/StringUTF16", name := "charAt", desc := "([BI)C" } : Jvm.MethodName) jdk_52_method_83_code (2 : Nat) (Option.some Jvm.ClassFile.FieldType.char), Jvm.Cond.code ({ cls := "java/lang/StringUTF16", name := "checkIndex", desc := "(I[B)V" } : Jvm.MethodName) jdk_52_method_91_code (2 : Nat) (Option.none : Option Jvm.ClassFile.FieldType), Jvm.Cond.code ({ cls := "java/lang/StringUTF16", name := "length", desc := "([B)I" } : Jvm.MethodName) jdk_52_method_6_code (1 : Nat) (Option.some Jvm.ClassFile.FieldType.int)]
set_option maxRecDepth 65536 in
theorem codes_eq : words1.filter isCode = codes1 := rfl
theorem w_codes : ∀ c ∈ words1.filter isCode, c.before args0 about1 = true := by
  rw [codes_eq]
  intro c hc
  simp only [codes1, List.mem_cons, List.not_mem_nil, or_false] at hc
  rcases hc with rfl | rfl | rfl | rfl | rfl | rfl | rfl | rfl | rfl | rfl | rfl | rfl | rfl | rfl | rfl | rfl | rfl | rfl | rfl | rfl | rfl | rfl | rfl | rfl | rfl
  · exact w_c0
  · exact w_c1
  · exact w_c2
  · exact w_c3
  · exact w_c4
  · exact w_c5
  · exact w_c6
  · exact w_c7
  · exact w_c8
  · exact w_c9
  · exact w_c10
  · exact w_c11
  · exact w_c12
  · exact w_c13
  · exact w_c14
  · exact w_c15
  · exact w_c16
  · exact w_c17
  · exact w_c18
  · exact w_c19
  · exact w_c20
  · exact w_c21
  · exact w_c22
  · exact w_c23
  · exact w_c24
set_option maxRecDepth 65536 in
theorem w_t1 : (words1.take 24).all (fun c => isCode c || c.before args0 about1) = true := by decide +kernel
set_option maxRecDepth 65536 in
theorem w_t2 : ((words1.drop 24).take 24).all (fun c => isCode c || c.before args0 about1) = true := by decide +kernel
set_option maxRecDepth 65536 in
theorem w_t3 : (((words1.drop 24).drop 24).take 24).all (fun c => isCode c || c.before args0 about1) = true := by decide +kernel
set_option maxRecDepth 65536 in
theorem w_t4 : ((((words1.drop 24).drop 24).drop 24).take 24).all (fun c => isCode c || c.before args0 about1) = true := by decide +kernel
set_option maxRecDepth 65536 in
theorem w_t5 : ((((words1.drop 24).drop 24).drop 24).drop 24).all (fun c => isCode c || c.before args0 about1) = true := by decide +kernel
theorem w_tables : (allAtoms (Jvm.Cond.code x code maxLocals ret :: tables_1)).before args0 about1 = true := by
  rw [allAtoms_all]
  show words1.all (fun c => c.before args0 about1) = true
  refine all_split ?_ w_codes
  rw [← List.take_append_drop 24 words1, List.all_append, w_t1, ← List.take_append_drop 24 (words1.drop 24), List.all_append, w_t2, ← List.take_append_drop 24 ((words1.drop 24).drop 24), List.all_append, w_t3, ← List.take_append_drop 24 (((words1.drop 24).drop 24).drop 24), List.all_append, w_t4, w_t5]
  rfl
set_option maxRecDepth 65536 in
theorem w_rest : rest_1_c.before args0 about1 = true := by decide +kernel
set_option maxRecDepth 65536 in
theorem w_case : (Jvm.Cond.and given_1 narrow_1).before args0 about1 = true := by decide +kernel
set_option maxRecDepth 65536 in
theorem w_consts : constsHeld consts_1 about1 := Jvm.Lit.constsHeldB_iff.mp (by decide +kernel)
theorem w_applies : (headSpec (Jvm.Cond.code x code maxLocals ret :: tables_1) room_1).applies x e0.platform about1 = true :=
  (Spec.applies_iff w_frames).mpr ⟨w_running, w_runnable, w_alone, w_named, w_hears, w_ripe, w_room, w_tables⟩
theorem atStart : AtStart classFile x code maxLocals ret World_1 tables_1 room_1 Calls_1 rest_1 Pre_1 launch0 p0 e0 about1 theMethod args0 below0 :=
  ⟨lists_1, trivial, launch0.admits_env _ _ _, launch0.least_env, fairChoices_fair.cas, fairChoices_fair.clock, w_frames, w_args, w_heap, w_applies, ⟨w_consts, trivial⟩, w_rest, w_case⟩
end start1
theorem witness_1 : WitnessClaimed_1 := ⟨start1.p0, start1.e0, start1.about1, start1.theMethod, start1.args0, start1.below0, start1.atStart⟩
end Jvm.Pilot.@@N@@
