import JvmDerived
import JvmDerived.Pilot.@@N@@Statement
import JvmDerived.Pilot.@@N@@Code
set_option linter.unusedVariables false
set_option linter.unusedSimpArgs false
@@BLOCK:NumsL.lean.txt@@
namespace Jvm.RoadKit
open Sem ClassFile Op Lib Jvm.Stand Jvm.Free Jvm.LawKit
section New
variable {p : Program} {l : Launch} {e : Env} {R : Room} {s : State} {m : MethodId} {args : Array Value} {below : List Frame} {meth : Method} {c : Code} {T : State} {locs : List Loc} {cells slots : Nat}
theorem retI (X : Stand p l e R s m args below meth c T locs cells slots) (hx : p.tables.exec = Jvm.exec) {pc : Nat} {Ls : Array Slot} {z : Int32} {rest : List Value} (hret : meth.sig.returnType = some .int) (hd : decode c.code pc = .ok (.ireturn, 1)) {fs : List Frame}
    (hl : ∀ (f : JFrame) (acts : List Action), f.method = m → f.locked = none → f.entered = [] → (doReturn e (T.setTop f) acts (some (.int z))).1 = T.setFrames fs) : Steps p.tables e below (T.setTop (mkF m pc Ls (.int z :: rest))) (T.setFrames fs) := by
  have hm' : T.vm.method? m = some meth := X.method'
  have hn : narrow .int (.int z) = .int z := rfl
  show Steps p.tables e below (T.setTop { method := m, pc := pc, locals := Ls, stack := _ :: rest, locked := none }) _
  jvm_step X.here [X.here.top, hx, hd, hm', hret, hn]
  first | (intro acts; rw [hl _ acts rfl rfl rfl]) | rw [hl _ _ rfl rfl rfl]
  exact Steps.refl _
end New
end Jvm.RoadKit
namespace Jvm.Pilot.@@N@@
open Jvm Jvm.ClassFile Sem Op Lib Jvm.Free Jvm.Stand Jvm.LawKit Jvm.RoadKit Bundle Jvm.Pilot.@@N@@.Jvm.D
/-- what is still to be run from the state A on: it ends, returned, and Q says what it leaves -/
def own_Gl (FE : State → Outcome → State → List Loc → Nat → Nat → Prop) (p : Program) (e : Env) (below : List Frame) (s : State) (Q : Option Value → Heap → List Loc → Prop) (C N : Nat) (A : State) : Prop :=
  ∃ s₂ o, Steps p.tables e below A s₂ ∧ s₂.status = .running ∧ Ended s₂ below o ∧ ∃ v L, o = .returned v ∧ Q v s₂.heap L ∧ FE s o s₂ L C N
theorem own_st {FE : State → Outcome → State → List Loc → Nat → Nat → Prop} {p : Program} {e : Env} {below : List Frame} {s : State} {Q : Option Value → Heap → List Loc → Prop} {C N : Nat} {A A' : State} (h : ∀ t, Steps p.tables e below A' t → Steps p.tables e below A t) (k : own_Gl FE p e below s Q C N A') : own_Gl FE p e below s Q C N A := by
  obtain ⟨s2, o, h1, r⟩ := k
  exact ⟨s2, o, h _ h1, r⟩
theorem own_tr {FE : State → Outcome → State → List Loc → Nat → Nat → Prop} {p : Program} {e : Env} {below : List Frame} {s : State} {Q : Option Value → Heap → List Loc → Prop} {C N : Nat} {A A' : State} (h : Steps p.tables e below A A') (k : own_Gl FE p e below s Q C N A') : own_Gl FE p e below s Q C N A := by
  obtain ⟨s2, o, h1, r⟩ := k
  exact ⟨s2, o, h.trans h1, r⟩
theorem own_ret {p : Program} {l : Launch} {e : Env} {R : Room} {s : State} {m : MethodId} {args : Array Value} {below : List Frame} {meth : Method} {c : Code} {T : State} {locs : List Loc} {cells slots : Nat} {Q : Option Value → Heap → List Loc → Prop} {C N : Nat} {A : State}
    (X : Stand p l e R s m args below meth c T locs cells slots) {v : Option Value} (hv : meth.sig.returnType = none → v = none) (hlocks : meth.locks = false) (hC : cells ≤ C) (hN : slots ≤ N) (q : Q v T.heap locs)
    (h : ∀ fs, (∀ (f : JFrame) (acts : List Action), f.method = m → f.locked = none → f.entered = [] → (doReturn e (T.setTop f) acts v).1 = T.setFrames fs) → Steps p.tables e below A (T.setFrames fs)) : own_Gl FrameEnd p e below s Q C N A := by
  obtain ⟨fs, hr, hrun, hended, hW, hsame⟩ := X.leave (v := v) hv hlocks
  exact ⟨_, _, h fs hr, hrun, hended, v, locs, rfl, q, ⟨v, rfl⟩, hW, hsame.mono hC hN⟩
theorem own_retW {p : Program} {l : Launch} {e : Env} {R : Room} {s : State} {vm0 : Vm} {m : MethodId} {args : Array Value} {below : List Frame} {meth : Method} {c : Code} {T : State} {locs : List Loc} {cells slots : Nat} {Q : Option Value → Heap → List Loc → Prop} {C N : Nat} {A : State}
    (X : Stand p l e R (s.setVm vm0) m args below meth c T locs cells slots) {k0 : Nat} (hS : s.Since vm0 k0) (hk : k0 ≤ T.heap.size) {v : Option Value} (hv : meth.sig.returnType = none → v = none) (hlocks : meth.locks = false) (hC : cells ≤ C) (hN : slots ≤ N) (q : Q v T.heap locs)
    (h : ∀ fs, (∀ (f : JFrame) (acts : List Action), f.method = m → f.locked = none → f.entered = [] → (doReturn e (T.setTop f) acts v).1 = T.setFrames fs) → Steps p.tables e below A (T.setFrames fs)) : own_Gl ReturnedEndW p e below s Q C N A := by
  obtain ⟨fs, hr, hrun, hended, h1, h2, h3, h4⟩ := X.leaveW hS hk (v := v) hv hlocks
  exact ⟨_, _, h fs hr, hrun, hended, v, locs, rfl, q, h1, h2, h3, h4.mono hC hN⟩
theorem own_kext {h0 h : Heap} (K : Keep h0 h ([] : List Addr)) : Ext h0 h := ⟨K.1, fun a c q => K.2.1 a c q nin0⟩
def own_FEH (Z : State) (EL : List (String × Nat)) (s : State) (o : Outcome) (t : State) (L : List Loc) (k n : Nat) : Prop := CHr Z EL s.vm s.heap t.vm t.heap ∧ ReturnedEndW s o t L k n
theorem own_retH {Z : State} {EL : List (String × Nat)} {a0 : Array Value} {p : Program} {l : Launch} {e : Env} {R : Room} {s : State} {vm0 : Vm} {m : MethodId} {args : Array Value} {below : List Frame} {meth : Method} {c : Code} {T : State} {locs : List Loc} {cells slots : Nat} {Q : Option Value → Heap → List Loc → Prop} {C N : Nat} {A : State} {h : Heap}
    (X : Stand p l e R (s.setVm vm0) m args below meth c T locs cells slots) {k0 : Nat} (hS : s.Since vm0 k0) (hk : k0 ≤ T.heap.size) (hZ : Z.Warmed39 vm0) (hEL : EW Z a0 EL) (eT : T.heap = h) (hR : CHr Z EL s.vm s.heap vm0 h) {v : Option Value} (hv : meth.sig.returnType = none → v = none) (hlocks : meth.locks = false) (hC : cells ≤ C) (hN : slots ≤ N) (q : Q v T.heap locs)
    (h' : ∀ fs, (∀ (f : JFrame) (acts : List Action), f.method = m → f.locked = none → f.entered = [] → (doReturn e (T.setTop f) acts v).1 = T.setFrames fs) → Steps p.tables e below A (T.setFrames fs)) : own_Gl (own_FEH Z EL) p e below s Q C N A := by
  obtain ⟨fs, hr, hrun, hended, h1, h2, h3, h4⟩ := X.leaveW hS hk (v := v) hv hlocks
  subst eT
  exact ⟨_, _, h' fs hr, hrun, hended, v, locs, rfl, q, (show CHr Z EL s.vm s.heap T.vm T.heap from hR.trans (CHv.at X hZ hEL hR.1)), h1, h2, h3, h4.mono hC hN⟩
theorem own_lgt {x y : Int64} (h : y < x) : (0 : Int32) < lcmpW x y := by rw [lcW]; exact (lc_gt _ _).mpr h
theorem own_ngt {x y : Int64} (h : ¬ y < x) : ¬ (0 : Int32) < lcmpW x y := by rw [lcW]; exact fun q => h ((lc_gt _ _).mp q)
theorem own_llt {x y : Int64} (h : x < y) : lcmpW x y < (0 : Int32) := by rw [lcW]; exact (lc_lt _ _).mpr h
theorem own_nlt {x y : Int64} (h : ¬ x < y) : ¬ lcmpW x y < (0 : Int32) := by rw [lcW]; exact fun q => h ((lc_lt _ _).mp q)
theorem own_leq {x y : Int64} (h : x = y) : lcmpW x y = (0 : Int32) := by rw [lcW]; exact (lc_eq _ _).mpr h
theorem own_neq {x y : Int64} (h : ¬ x = y) : ¬ lcmpW x y = (0 : Int32) := by rw [lcW]; exact fun q => h ((lc_eq _ _).mp q)
theorem own_lrem {p : Program} {l : Launch} {e : Env} {R : Room} {s : State} {m : MethodId} {args : Array Value} {below : List Frame} {meth : Method} {c : Code} {T : State} {locs : List Loc} {cells slots : Nat} {g : JFrame} {target : State} (X : Stand p l e R s m args below meth c T locs cells slots) (hx : p.tables.exec = Jvm.exec) (hg : g.method = m) {x y : Int64} {rest : List Value} (hd : decode c.code g.pc = .ok (.lrem, 1)) (hs : g.stack = .long y :: .long x :: rest) (hy : y ≠ 0)
    (hr : Steps p.tables e below (T.setTop { g with pc := g.pc + 1, stack := .long (x - (x / y) * y) :: rest }) target) : Steps p.tables e below (T.setTop g) target := XS.lrem X.here hx hg hd hs hy hr
def own_max (a b : Int32) : Int32 := if a < b then b else a
def own_fm (x y : Int64) : Int64 := Int64.ofInt (x.toInt % y.toInt)
theorem own_fm_toInt {x y : Int64} (h0 : 0 < y.toInt) (h1 : y.toInt < 2 ^ 31) : (own_fm x y).toInt = x.toInt % y.toInt := by
  have a := Int.emod_nonneg x.toInt (Int.ne_of_gt h0)
  have b := Int.emod_lt_of_pos x.toInt h0
  unfold own_fm
  rw [Int64.toInt_ofInt, Jvm.Kit.bmod64 (by omega) (by omega)]
theorem own_xor_neg {x y : Int64} (h0 : 0 < y.toInt) : (x ^^^ y) < 0 ↔ x.toInt < 0 := by
  rw [Int64.lt_iff_toInt_lt, Int64.toInt_zero]
  have e : ∀ z : Int64, z.toInt = z.toBitVec.toInt := fun _ => rfl
  have m : ∀ z : Int64, z.toBitVec.msb = decide (z.toInt < 0) := fun z => by rw [BitVec.msb_eq_toInt, e]
  have k : (x ^^^ y).toBitVec.msb = (x.toBitVec.msb ^^ y.toBitVec.msb) := by rw [Int64.toBitVec_xor, BitVec.msb_xor]
  rw [m, m, m] at k
  have : decide (y.toInt < 0) = false := decide_eq_false (by omega)
  rw [this, Bool.xor_false] at k
  exact ⟨fun h => of_decide_eq_true (k ▸ decide_eq_true h), fun h => of_decide_eq_true (k.symm ▸ decide_eq_true h)⟩
theorem own_tm_pos {a b : Int} (ha : 0 ≤ a) : a.tmod b = a % b := Int.tmod_eq_emod_of_nonneg ha
theorem own_tm_neg {a b : Int} (ha : a < 0) (hb : 0 < b) : a.tmod b ≤ 0 ∧ -b < a.tmod b ∧ a % b = (a.tmod b) % b := by
  have e : a.tmod b = -((-a) % b) := by
    have q : a.tmod b = -((-a).tmod b) := by rw [Int.neg_tmod, Int.neg_neg]
    rw [q, Int.tmod_eq_emod_of_nonneg (by omega)]
  have n := Int.emod_nonneg (-a) (Int.ne_of_gt hb)
  have l := Int.emod_lt_of_pos (-a) hb
  refine ⟨by omega, by omega, ?_⟩
  have d : a = a.tmod b + b * a.tdiv b := (Int.tmod_add_mul_tdiv a b).symm
  conv => lhs; rw [d]
  exact Int.add_mul_emod_self_left _ _ _
theorem own_fm_a {x y : Int64} (h0 : 0 < y.toInt) (h1 : y.toInt < 2 ^ 31) (h : ¬ (x ^^^ y) < (0 : Int64)) : x - (x / y) * y = own_fm x y := by
  rw [own_xor_neg h0] at h
  apply Int64.toInt_inj.mp
  rw [own_fm_toInt h0 h1, Jvm.Kit.i64_rem, own_tm_pos (by omega)]
theorem own_fm_b {x y : Int64} (h0 : 0 < y.toInt) (h1 : y.toInt < 2 ^ 31) (h : (x ^^^ y) < (0 : Int64)) (hm : x - (x / y) * y = (0 : Int64)) : x - (x / y) * y = own_fm x y := by
  rw [own_xor_neg h0] at h
  have t := Jvm.Kit.i64_rem x y
  rw [hm, Int64.toInt_zero] at t
  obtain ⟨-, -, q⟩ := own_tm_neg h h0
  rw [← t, Int.zero_emod] at q
  apply Int64.toInt_inj.mp
  rw [own_fm_toInt h0 h1, hm, Int64.toInt_zero, q]
theorem own_fm_c {x y : Int64} (h0 : 0 < y.toInt) (h1 : y.toInt < 2 ^ 31) (h : (x ^^^ y) < (0 : Int64)) (hm : ¬ x - (x / y) * y = (0 : Int64)) : (x - (x / y) * y) + y = own_fm x y := by
  rw [own_xor_neg h0] at h
  have t := Jvm.Kit.i64_rem x y
  obtain ⟨q1, q2, q⟩ := own_tm_neg h h0
  have z : x.toInt.tmod y.toInt ≠ 0 := fun k => hm (Int64.toInt_inj.mp (by rw [t, k, Int64.toInt_zero]))
  apply Int64.toInt_inj.mp
  rw [own_fm_toInt h0 h1, Jvm.Kit.i64_add (by rw [t]; omega) (by rw [t]; omega), t, q]
  have w : x.toInt.tmod y.toInt % y.toInt = (x.toInt.tmod y.toInt + y.toInt) % y.toInt := (Int.add_emod_right _ _).symm
  rw [w, Int.emod_eq_of_lt (by omega) (by omega)]
theorem own_shr2 (x : Int64) : (x >>> ((2 : Int32) &&& 0x3f).toInt64).toInt = x.toInt / 4 := Jvm.Kit.i64_shr x _ (k := 2) (by decide)
/-- the plain law -/
theorem own_law {fr to lo : Int64} {per : Int32} (hf : -2 ^ 61 ≤ fr.toInt ∧ fr.toInt < 2 ^ 61) (ht : -2 ^ 61 ≤ to.toInt ∧ to.toInt < 2 ^ 61) (hl : -2 ^ 61 ≤ lo.toInt ∧ lo.toInt < 2 ^ 61) (hp : 0 < per.toInt) {r : Int64} (hr : r = own_fm ((to - fr) - lo) per.toInt64 + lo) :
    ¬ r < lo ∧ r - lo < per.toInt64 ∧ (r - (to - fr)) - ((r - (to - fr)) / per.toInt64) * per.toInt64 = 0 := by
  have b1 := per.toInt_lt
  have ep : per.toInt64.toInt = per.toInt := Jvm.Kit.i64_of_i32 per
  have e1 : (to - fr).toInt = to.toInt - fr.toInt := Jvm.Kit.i64_sub (by omega) (by omega)
  have e2 : ((to - fr) - lo).toInt = to.toInt - fr.toInt - lo.toInt := by rw [Jvm.Kit.i64_sub (by rw [e1]; omega) (by rw [e1]; omega), e1]
  have e3 : (own_fm ((to - fr) - lo) per.toInt64).toInt = (to.toInt - fr.toInt - lo.toInt) % per.toInt := by rw [own_fm_toInt (by rw [ep]; exact hp) (by rw [ep]; exact b1), e2, ep]
  have n := Int.emod_nonneg (to.toInt - fr.toInt - lo.toInt) (Int.ne_of_gt hp)
  have l := Int.emod_lt_of_pos (to.toInt - fr.toInt - lo.toInt) hp
  have dv := Int.emod_add_mul_ediv (to.toInt - fr.toInt - lo.toInt) per.toInt
  generalize hm : (to.toInt - fr.toInt - lo.toInt) % per.toInt = mm at *
  generalize (to.toInt - fr.toInt - lo.toInt) / per.toInt = qq at *
  have er : r.toInt = mm + lo.toInt := by rw [hr, Jvm.Kit.i64_add (by rw [e3]; omega) (by rw [e3]; omega), e3]
  refine ⟨by rw [Int64.lt_iff_toInt_lt, er]; omega, ?_, ?_⟩
  · rw [Int64.lt_iff_toInt_lt, Jvm.Kit.i64_sub (by rw [er]; omega) (by rw [er]; omega), er, ep]; omega
  · apply Int64.toInt_inj.mp
    have e4 : (r - (to - fr)).toInt = mm + lo.toInt - (to.toInt - fr.toInt) := by rw [Jvm.Kit.i64_sub (by rw [er, e1]; omega) (by rw [er, e1]; omega), er, e1]
    rw [Jvm.Kit.i64_rem, e4, ep, Int64.toInt_zero]
    have e5 : mm + lo.toInt - (to.toInt - fr.toInt) = per.toInt * (-qq) := by rw [Int.mul_neg]; omega
    rw [e5]
    exact Int.mul_tmod_right _ _
theorem own_d1_0 : decode jdk_29_method_65_code 0 = .ok (.iload_n 0, 1) := by decide +kernel
theorem own_d1_1 : decode jdk_29_method_65_code 1 = .ok (.iload_n 1, 1) := by decide +kernel
theorem own_d1_2 : decode jdk_29_method_65_code 2 = .ok (.if_icmp .lt 7, 3) := by decide +kernel
theorem own_d1_5 : decode jdk_29_method_65_code 5 = .ok (.iload_n 0, 1) := by decide +kernel
theorem own_d1_6 : decode jdk_29_method_65_code 6 = .ok (.goto 4, 3) := by decide +kernel
theorem own_d1_9 : decode jdk_29_method_65_code 9 = .ok (.iload_n 1, 1) := by decide +kernel
theorem own_d1_10 : decode jdk_29_method_65_code 10 = .ok (.ireturn, 1) := by decide +kernel
theorem own_ef_rm1 (m : MethodId) (p0 : Int32) (p1 : Int32) : entryFrame m #[(.int p0), (.int p1)] 2 = mkF m 0 #[.val (.int p0), .val (.int p1)] [] := by first | (simp [entryFrame, mkF, argsToLocals, Value.category]; done) | rfl
def Q1 (Z : State) (p0 : Int32) (p1 : Int32) (h0 : Heap) (n0 : Nat) (v : Option Value) (h : Heap) (L : List Loc) : Prop := v = some (.int (own_max p0 p1)) ∧ Fr n0 L ∧ h = h0
set_option maxRecDepth 65536 in
set_option maxHeartbeats 40000000 in
theorem rm1 (l : Launch) (Z : State) (a0 : Array Value) (hw : ∀ d ∈ tables_1, d.before a0 Z = true) (ws : List Jvm.Cond) (p0 : Int32) (p1 : Int32) (h0 : Heap) (n0 : Nat) (Z0 : n0 ≤ h0.size) :
    MetFree l (⟨"java/lang/Math", "max", "(II)I"⟩ : MethodName) (head1 (Jvm.Cond.code (⟨"java/lang/Math", "max", "(II)I"⟩ : MethodName) jdk_29_method_65_code 2 (some .int) :: ws) ({ frames := 0, cells := 0, slots := 0, locals := 0 } : Room)) (fun a U => a = #[(.int p0), (.int p1)] ∧ Z.Warmed39 U.vm ∧ U.heap = h0) (fun _ _ _ _ _ => True) (fun _ U o U' => ∃ v L, o = .returned v ∧ Q1 Z p0 p1 h0 n0 v U'.heap L ∧ FrameEnd U o U' L ({ frames := 0, cells := 0, slots := 0, locals := 0 } : Room).cells ({ frames := 0, cells := 0, slots := 0, locals := 0 } : Room).slots) := by
  refine MetFree.of_bodySF (Jvm.Free.JP.mathPlain rfl (by decide +kernel)) hisR ?_
  intro p e s m args below meth c s₁ Bd hml0 hP hK
  obtain ⟨rfl, hZ, hh⟩ := hP
  have hx := Bd.exec
  have hby := Bd.bytes
  have hml : c.maxLocals = 2 := hml0
  have hown : s.vm.findClass "java/lang/Math" = some m.cls := findClass_of_methodNamed Bd.named
  have hnm := (name_of_methodNamed Bd.named Bd.method).1
  have hlk : meth.locks = false := BodyLoose.notSynchronized Bd
  have X0 : Stand p l e ({ frames := 0, cells := 0, slots := 0, locals := 0 } : Room) s m #[(.int p0), (.int p1)] below meth c s₁ [] 0 0 := Stand.of_body Bd
  have e0 : s₁.heap = h0 := by rw [← hh, Bd.state]; rfl
  have N0 := Fr.nil n0
  show own_Gl FrameEnd p e below s (Q1 Z p0 p1 h0 n0) ({ frames := 0, cells := 0, slots := 0, locals := 0 } : Room).cells ({ frames := 0, cells := 0, slots := 0, locals := 0 } : Room).slots (s₁.setTop (entryFrame m #[(.int p0), (.int p1)] 2))
  rw [own_ef_rm1 m p0 p1]
  refine own_st (A' := s₁.setTop (mkF m 2 #[.val (.int p0), .val (.int p1)] [(.int p1), (.int p0)])) (fun tg kt => ?_) ?_
  · show Steps p.tables e below (s₁.setTop (mkF m 0 #[.val (.int p0), .val (.int p1)] [])) _
    refine XS.iloadN X0.here hx rfl (hb hby own_d1_0) rfl ?_
    show Steps p.tables e below (s₁.setTop (mkF m 1 #[.val (.int p0), .val (.int p1)] [(.int p0)])) _
    refine XS.iloadN X0.here hx rfl (hb hby own_d1_1) rfl ?_
    exact kt
  by_cases hc2_1 : p0 < p1
  · refine own_st (A' := s₁.setTop (mkF m 10 #[.val (.int p0), .val (.int p1)] [(.int p1)])) (fun tg kt => ?_) ?_
    · show Steps p.tables e below (s₁.setTop (mkF m 2 #[.val (.int p0), .val (.int p1)] [(.int p1), (.int p0)])) _
      refine XS.icmpYes X0.here hx rfl (pc0 := 2) (pc' := 9) rfl (hb hby own_d1_2) rfl (tlt hc2_1).1 (by decide) (by decide) ?_
      show Steps p.tables e below (s₁.setTop (mkF m 9 #[.val (.int p0), .val (.int p1)] [])) _
      refine XS.iloadN X0.here hx rfl (hb hby own_d1_9) rfl ?_
      exact kt
    refine own_ret X0 (v := some (.int p1)) (fun h => by rw [Bd.returns] at h; cases h) hlk (by decide) (by decide) ?_ (fun fs hr => ?_)
    · show Q1 Z p0 p1 h0 n0 (some (.int p1)) s₁.heap _
      rw [e0]
      exact ⟨congrArg (fun z => some (Value.int z)) (by unfold own_max; rw [if_pos hc2_1]), N0, rfl⟩
    · show Steps p.tables e below (s₁.setTop (mkF m 10 #[.val (.int p0), .val (.int p1)] [(.int p1)])) _
      exact retI X0 hx Bd.returns (hb hby own_d1_10) hr
  · refine own_st (A' := s₁.setTop (mkF m 10 #[.val (.int p0), .val (.int p1)] [(.int p0)])) (fun tg kt => ?_) ?_
    · show Steps p.tables e below (s₁.setTop (mkF m 2 #[.val (.int p0), .val (.int p1)] [(.int p1), (.int p0)])) _
      refine XS.icmpNo X0.here hx rfl (hb hby own_d1_2) rfl (flt hc2_1).1 ?_
      show Steps p.tables e below (s₁.setTop (mkF m 5 #[.val (.int p0), .val (.int p1)] [])) _
      refine XS.iloadN X0.here hx rfl (hb hby own_d1_5) rfl ?_
      show Steps p.tables e below (s₁.setTop (mkF m 6 #[.val (.int p0), .val (.int p1)] [(.int p0)])) _
      refine XS.goto X0.here hx rfl (pc0 := 6) (pc' := 10) rfl (hb hby own_d1_6) (by decide) (by decide) ?_
      exact kt
    refine own_ret X0 (v := some (.int p0)) (fun h => by rw [Bd.returns] at h; cases h) hlk (by decide) (by decide) ?_ (fun fs hr => ?_)
    · show Q1 Z p0 p1 h0 n0 (some (.int p0)) s₁.heap _
      rw [e0]
      exact ⟨congrArg (fun z => some (Value.int z)) (by unfold own_max; rw [if_neg hc2_1]), N0, rfl⟩
    · show Steps p.tables e below (s₁.setTop (mkF m 10 #[.val (.int p0), .val (.int p1)] [(.int p0)])) _
      exact retI X0 hx Bd.returns (hb hby own_d1_10) hr
theorem own_d3_0 : decode jdk_29_method_52_code 0 = .ok (.lload_n 0, 1) := by decide +kernel
theorem own_d3_1 : decode jdk_29_method_52_code 1 = .ok (.lload_n 2, 1) := by decide +kernel
theorem own_d3_2 : decode jdk_29_method_52_code 2 = .ok (.lrem, 1) := by decide +kernel
theorem own_d3_3 : decode jdk_29_method_52_code 3 = .ok (.lstore 4, 2) := by decide +kernel
theorem own_d3_5 : decode jdk_29_method_52_code 5 = .ok (.lload_n 0, 1) := by decide +kernel
theorem own_d3_6 : decode jdk_29_method_52_code 6 = .ok (.lload_n 2, 1) := by decide +kernel
theorem own_d3_7 : decode jdk_29_method_52_code 7 = .ok (.lxor, 1) := by decide +kernel
theorem own_d3_8 : decode jdk_29_method_52_code 8 = .ok (.lconst 0, 1) := by decide +kernel
theorem own_d3_9 : decode jdk_29_method_52_code 9 = .ok (.lcmp, 1) := by decide +kernel
theorem own_d3_10 : decode jdk_29_method_52_code 10 = .ok (.ifCond .ge 15, 3) := by decide +kernel
theorem own_d3_13 : decode jdk_29_method_52_code 13 = .ok (.lload 4, 2) := by decide +kernel
theorem own_d3_15 : decode jdk_29_method_52_code 15 = .ok (.lconst 0, 1) := by decide +kernel
theorem own_d3_16 : decode jdk_29_method_52_code 16 = .ok (.lcmp, 1) := by decide +kernel
theorem own_d3_17 : decode jdk_29_method_52_code 17 = .ok (.ifCond .eq 8, 3) := by decide +kernel
theorem own_d3_20 : decode jdk_29_method_52_code 20 = .ok (.lload 4, 2) := by decide +kernel
theorem own_d3_22 : decode jdk_29_method_52_code 22 = .ok (.lload_n 2, 1) := by decide +kernel
theorem own_d3_23 : decode jdk_29_method_52_code 23 = .ok (.ladd, 1) := by decide +kernel
theorem own_d3_24 : decode jdk_29_method_52_code 24 = .ok (.lreturn, 1) := by decide +kernel
theorem own_d3_25 : decode jdk_29_method_52_code 25 = .ok (.lload 4, 2) := by decide +kernel
theorem own_d3_27 : decode jdk_29_method_52_code 27 = .ok (.lreturn, 1) := by decide +kernel
theorem own_ef_rm3 (m : MethodId) (q0 : Int64) (q1 : Int64) : entryFrame m #[(.long q0), (.long q1)] 6 = mkF m 0 #[.val (.long q0), .second, .val (.long q1), .second, .unset, .unset] [] := by first | (simp [entryFrame, mkF, argsToLocals, Value.category]; done) | rfl
def Q3 (Z : State) (q0 : Int64) (q1 : Int64) (h0 : Heap) (n0 : Nat) (v : Option Value) (h : Heap) (L : List Loc) : Prop := v = some (.long (own_fm q0 q1)) ∧ Fr n0 L ∧ h = h0
set_option maxRecDepth 65536 in
set_option maxHeartbeats 40000000 in
theorem rm3 (l : Launch) (Z : State) (a0 : Array Value) (hw : ∀ d ∈ tables_1, d.before a0 Z = true) (ws : List Jvm.Cond) (q0 : Int64) (q1 : Int64) (h0 : Heap) (n0 : Nat) (Z0 : n0 ≤ h0.size) (hy0 : 0 < q1.toInt) (hy1 : q1.toInt < 2 ^ 31) :
    MetFree l (⟨"java/lang/Math", "floorMod", "(JJ)J"⟩ : MethodName) (head1 (Jvm.Cond.code (⟨"java/lang/Math", "floorMod", "(JJ)J"⟩ : MethodName) jdk_29_method_52_code 6 (some .long) :: ws) ({ frames := 0, cells := 0, slots := 0, locals := 0 } : Room)) (fun a U => a = #[(.long q0), (.long q1)] ∧ Z.Warmed39 U.vm ∧ U.heap = h0) (fun _ _ _ _ _ => True) (fun _ U o U' => ∃ v L, o = .returned v ∧ Q3 Z q0 q1 h0 n0 v U'.heap L ∧ FrameEnd U o U' L ({ frames := 0, cells := 0, slots := 0, locals := 0 } : Room).cells ({ frames := 0, cells := 0, slots := 0, locals := 0 } : Room).slots) := by
  refine MetFree.of_bodySF (Jvm.Free.JP.mathPlain rfl (by decide +kernel)) hisR ?_
  intro p e s m args below meth c s₁ Bd hml0 hP hK
  obtain ⟨rfl, hZ, hh⟩ := hP
  have hx := Bd.exec
  have hby := Bd.bytes
  have hml : c.maxLocals = 6 := hml0
  have hown : s.vm.findClass "java/lang/Math" = some m.cls := findClass_of_methodNamed Bd.named
  have hnm := (name_of_methodNamed Bd.named Bd.method).1
  have hlk : meth.locks = false := BodyLoose.notSynchronized Bd
  have X0 : Stand p l e ({ frames := 0, cells := 0, slots := 0, locals := 0 } : Room) s m #[(.long q0), (.long q1)] below meth c s₁ [] 0 0 := Stand.of_body Bd
  have e0 : s₁.heap = h0 := by rw [← hh, Bd.state]; rfl
  have N0 := Fr.nil n0
  show own_Gl FrameEnd p e below s (Q3 Z q0 q1 h0 n0) ({ frames := 0, cells := 0, slots := 0, locals := 0 } : Room).cells ({ frames := 0, cells := 0, slots := 0, locals := 0 } : Room).slots (s₁.setTop (entryFrame m #[(.long q0), (.long q1)] 6))
  rw [own_ef_rm3 m q0 q1]
  refine own_st (A' := s₁.setTop (mkF m 10 #[.val (.long q0), .second, .val (.long q1), .second, .val (.long (q0 - (q0 / q1) * q1)), .second] [(.int (lcmpW (q0 ^^^ q1) (0 : Int64)))])) (fun tg kt => ?_) ?_
  · show Steps p.tables e below (s₁.setTop (mkF m 0 #[.val (.long q0), .second, .val (.long q1), .second, .unset, .unset] [])) _
    refine XS.lloadN X0.here hx rfl (hb hby own_d3_0) rfl ?_
    show Steps p.tables e below (s₁.setTop (mkF m 1 #[.val (.long q0), .second, .val (.long q1), .second, .unset, .unset] [(.long q0)])) _
    refine XS.lloadN X0.here hx rfl (hb hby own_d3_1) rfl ?_
    show Steps p.tables e below (s₁.setTop (mkF m 2 #[.val (.long q0), .second, .val (.long q1), .second, .unset, .unset] [(.long q1), (.long q0)])) _
    refine XS.lrem X0.here hx rfl (hb hby own_d3_2) rfl (fun q => by rw [q, Int64.toInt_zero] at hy0; omega) ?_
    show Steps p.tables e below (s₁.setTop (mkF m 3 #[.val (.long q0), .second, .val (.long q1), .second, .unset, .unset] [(.long (q0 - (q0 / q1) * q1))])) _
    refine XS.lstore X0.here hx rfl (hb hby own_d3_3) rfl (l' := #[.val (.long q0), .second, .val (.long q1), .second, .val (.long (q0 - (q0 / q1) * q1)), .second]) rfl ?_
    show Steps p.tables e below (s₁.setTop (mkF m 5 #[.val (.long q0), .second, .val (.long q1), .second, .val (.long (q0 - (q0 / q1) * q1)), .second] [])) _
    refine XS.lloadN X0.here hx rfl (hb hby own_d3_5) rfl ?_
    show Steps p.tables e below (s₁.setTop (mkF m 6 #[.val (.long q0), .second, .val (.long q1), .second, .val (.long (q0 - (q0 / q1) * q1)), .second] [(.long q0)])) _
    refine XS.lloadN X0.here hx rfl (hb hby own_d3_6) rfl ?_
    show Steps p.tables e below (s₁.setTop (mkF m 7 #[.val (.long q0), .second, .val (.long q1), .second, .val (.long (q0 - (q0 / q1) * q1)), .second] [(.long q1), (.long q0)])) _
    refine XS.lxor X0.here hx rfl (hb hby own_d3_7) rfl ?_
    show Steps p.tables e below (s₁.setTop (mkF m 8 #[.val (.long q0), .second, .val (.long q1), .second, .val (.long (q0 - (q0 / q1) * q1)), .second] [(.long (q0 ^^^ q1))])) _
    refine XS.lconst X0.here hx rfl (hb hby own_d3_8) ?_
    show Steps p.tables e below (s₁.setTop (mkF m 9 #[.val (.long q0), .second, .val (.long q1), .second, .val (.long (q0 - (q0 / q1) * q1)), .second] [(.long (0 : Int64)), (.long (q0 ^^^ q1))])) _
    refine XS.lcmp X0.here hx rfl (hb hby own_d3_9) rfl ?_
    exact kt
  by_cases hc10_1 : (q0 ^^^ q1) < (0 : Int64)
  · refine own_st (A' := s₁.setTop (mkF m 17 #[.val (.long q0), .second, .val (.long q1), .second, .val (.long (q0 - (q0 / q1) * q1)), .second] [(.int (lcmpW (q0 - (q0 / q1) * q1) (0 : Int64)))])) (fun tg kt => ?_) ?_
    · show Steps p.tables e below (s₁.setTop (mkF m 10 #[.val (.long q0), .second, .val (.long q1), .second, .val (.long (q0 - (q0 / q1) * q1)), .second] [(.int (lcmpW (q0 ^^^ q1) (0 : Int64)))])) _
      refine XS.ifNo X0.here hx rfl (hb hby own_d3_10) rfl ((if0 _ _).trans (tlt (own_llt hc10_1)).2.1) ?_
      show Steps p.tables e below (s₁.setTop (mkF m 13 #[.val (.long q0), .second, .val (.long q1), .second, .val (.long (q0 - (q0 / q1) * q1)), .second] [])) _
      refine XS.lload X0.here hx rfl (hb hby own_d3_13) rfl ?_
      show Steps p.tables e below (s₁.setTop (mkF m 15 #[.val (.long q0), .second, .val (.long q1), .second, .val (.long (q0 - (q0 / q1) * q1)), .second] [(.long (q0 - (q0 / q1) * q1))])) _
      refine XS.lconst X0.here hx rfl (hb hby own_d3_15) ?_
      show Steps p.tables e below (s₁.setTop (mkF m 16 #[.val (.long q0), .second, .val (.long q1), .second, .val (.long (q0 - (q0 / q1) * q1)), .second] [(.long (0 : Int64)), (.long (q0 - (q0 / q1) * q1))])) _
      refine XS.lcmp X0.here hx rfl (hb hby own_d3_16) rfl ?_
      exact kt
    by_cases hc17_2 : (q0 - (q0 / q1) * q1) = (0 : Int64)
    · refine own_st (A' := s₁.setTop (mkF m 27 #[.val (.long q0), .second, .val (.long q1), .second, .val (.long (q0 - (q0 / q1) * q1)), .second] [(.long (q0 - (q0 / q1) * q1))])) (fun tg kt => ?_) ?_
      · show Steps p.tables e below (s₁.setTop (mkF m 17 #[.val (.long q0), .second, .val (.long q1), .second, .val (.long (q0 - (q0 / q1) * q1)), .second] [(.int (lcmpW (q0 - (q0 / q1) * q1) (0 : Int64)))])) _
        refine XS.ifYes X0.here hx rfl (pc0 := 17) (pc' := 25) rfl (hb hby own_d3_17) rfl ((if0 _ _).trans (teq (own_leq hc17_2)).1) (by decide) (by decide) ?_
        show Steps p.tables e below (s₁.setTop (mkF m 25 #[.val (.long q0), .second, .val (.long q1), .second, .val (.long (q0 - (q0 / q1) * q1)), .second] [])) _
        refine XS.lload X0.here hx rfl (hb hby own_d3_25) rfl ?_
        exact kt
      refine own_ret X0 (v := some (.long (q0 - (q0 / q1) * q1))) (fun h => by rw [Bd.returns] at h; cases h) hlk (by decide) (by decide) ?_ (fun fs hr => ?_)
      · show Q3 Z q0 q1 h0 n0 (some (.long (q0 - (q0 / q1) * q1))) s₁.heap _
        rw [e0]
        exact ⟨congrArg (fun z => some (Value.long z)) (own_fm_b hy0 hy1 hc10_1 hc17_2), N0, rfl⟩
      · show Steps p.tables e below (s₁.setTop (mkF m 27 #[.val (.long q0), .second, .val (.long q1), .second, .val (.long (q0 - (q0 / q1) * q1)), .second] [(.long (q0 - (q0 / q1) * q1))])) _
        jvm_step X0.here [X0.here.top, hx, (hb hby own_d3_27), X0.method', Bd.returns, narrow]
        first | (intro acts; rw [hr _ acts rfl rfl rfl]) | rw [hr _ _ rfl rfl rfl]
        exact Steps.refl _
    · refine own_st (A' := s₁.setTop (mkF m 24 #[.val (.long q0), .second, .val (.long q1), .second, .val (.long (q0 - (q0 / q1) * q1)), .second] [(.long ((q0 - (q0 / q1) * q1) + q1))])) (fun tg kt => ?_) ?_
      · show Steps p.tables e below (s₁.setTop (mkF m 17 #[.val (.long q0), .second, .val (.long q1), .second, .val (.long (q0 - (q0 / q1) * q1)), .second] [(.int (lcmpW (q0 - (q0 / q1) * q1) (0 : Int64)))])) _
        refine XS.ifNo X0.here hx rfl (hb hby own_d3_17) rfl ((if0 _ _).trans (feq (own_neq hc17_2)).1) ?_
        show Steps p.tables e below (s₁.setTop (mkF m 20 #[.val (.long q0), .second, .val (.long q1), .second, .val (.long (q0 - (q0 / q1) * q1)), .second] [])) _
        refine XS.lload X0.here hx rfl (hb hby own_d3_20) rfl ?_
        show Steps p.tables e below (s₁.setTop (mkF m 22 #[.val (.long q0), .second, .val (.long q1), .second, .val (.long (q0 - (q0 / q1) * q1)), .second] [(.long (q0 - (q0 / q1) * q1))])) _
        refine XS.lloadN X0.here hx rfl (hb hby own_d3_22) rfl ?_
        show Steps p.tables e below (s₁.setTop (mkF m 23 #[.val (.long q0), .second, .val (.long q1), .second, .val (.long (q0 - (q0 / q1) * q1)), .second] [(.long q1), (.long (q0 - (q0 / q1) * q1))])) _
        refine XS.ladd X0.here hx rfl (hb hby own_d3_23) rfl ?_
        exact kt
      refine own_ret X0 (v := some (.long ((q0 - (q0 / q1) * q1) + q1))) (fun h => by rw [Bd.returns] at h; cases h) hlk (by decide) (by decide) ?_ (fun fs hr => ?_)
      · show Q3 Z q0 q1 h0 n0 (some (.long ((q0 - (q0 / q1) * q1) + q1))) s₁.heap _
        rw [e0]
        exact ⟨congrArg (fun z => some (Value.long z)) (own_fm_c hy0 hy1 hc10_1 hc17_2), N0, rfl⟩
      · show Steps p.tables e below (s₁.setTop (mkF m 24 #[.val (.long q0), .second, .val (.long q1), .second, .val (.long (q0 - (q0 / q1) * q1)), .second] [(.long ((q0 - (q0 / q1) * q1) + q1))])) _
        jvm_step X0.here [X0.here.top, hx, (hb hby own_d3_24), X0.method', Bd.returns, narrow]
        first | (intro acts; rw [hr _ acts rfl rfl rfl]) | rw [hr _ _ rfl rfl rfl]
        exact Steps.refl _
  · refine own_st (A' := s₁.setTop (mkF m 27 #[.val (.long q0), .second, .val (.long q1), .second, .val (.long (q0 - (q0 / q1) * q1)), .second] [(.long (q0 - (q0 / q1) * q1))])) (fun tg kt => ?_) ?_
    · show Steps p.tables e below (s₁.setTop (mkF m 10 #[.val (.long q0), .second, .val (.long q1), .second, .val (.long (q0 - (q0 / q1) * q1)), .second] [(.int (lcmpW (q0 ^^^ q1) (0 : Int64)))])) _
      refine XS.ifYes X0.here hx rfl (pc0 := 10) (pc' := 25) rfl (hb hby own_d3_10) rfl ((if0 _ _).trans (flt (own_nlt hc10_1)).2.1) (by decide) (by decide) ?_
      show Steps p.tables e below (s₁.setTop (mkF m 25 #[.val (.long q0), .second, .val (.long q1), .second, .val (.long (q0 - (q0 / q1) * q1)), .second] [])) _
      refine XS.lload X0.here hx rfl (hb hby own_d3_25) rfl ?_
      exact kt
    refine own_ret X0 (v := some (.long (q0 - (q0 / q1) * q1))) (fun h => by rw [Bd.returns] at h; cases h) hlk (by decide) (by decide) ?_ (fun fs hr => ?_)
    · show Q3 Z q0 q1 h0 n0 (some (.long (q0 - (q0 / q1) * q1))) s₁.heap _
      rw [e0]
      exact ⟨congrArg (fun z => some (Value.long z)) (own_fm_a hy0 hy1 hc10_1), N0, rfl⟩
    · show Steps p.tables e below (s₁.setTop (mkF m 27 #[.val (.long q0), .second, .val (.long q1), .second, .val (.long (q0 - (q0 / q1) * q1)), .second] [(.long (q0 - (q0 / q1) * q1))])) _
      jvm_step X0.here [X0.here.top, hx, (hb hby own_d3_27), X0.method', Bd.returns, narrow]
      first | (intro acts; rw [hr _ acts rfl rfl rfl]) | rw [hr _ _ rfl rfl rfl]
      exact Steps.refl _
theorem own_pd0 : parseMethodDescriptor "(JJ)J" = some ⟨[.long, .long], some .long⟩ := by decide +kernel
theorem own_d2_0 : decode prog_8_method_3_code 0 = .ok (.lload_n 2, 1) := by decide +kernel
theorem own_d2_1 : decode prog_8_method_3_code 1 = .ok (.lload_n 0, 1) := by decide +kernel
theorem own_d2_2 : decode prog_8_method_3_code 2 = .ok (.lsub, 1) := by decide +kernel
theorem own_d2_3 : decode prog_8_method_3_code 3 = .ok (.lload 4, 2) := by decide +kernel
theorem own_d2_5 : decode prog_8_method_3_code 5 = .ok (.lsub, 1) := by decide +kernel
theorem own_d2_6 : decode prog_8_method_3_code 6 = .ok (.iload 6, 2) := by decide +kernel
theorem own_d2_8 : decode prog_8_method_3_code 8 = .ok (.i2l, 1) := by decide +kernel
theorem own_d2_9 : decode prog_8_method_3_code 9 = .ok (.invokestatic 203, 3) := by decide +kernel
theorem own_d2_12 : decode prog_8_method_3_code 12 = .ok (.lload 4, 2) := by decide +kernel
theorem own_d2_14 : decode prog_8_method_3_code 14 = .ok (.ladd, 1) := by decide +kernel
theorem own_d2_15 : decode prog_8_method_3_code 15 = .ok (.lreturn, 1) := by decide +kernel
theorem own_ef_rm2 (m : MethodId) (q0 : Int64) (q1 : Int64) (q2 : Int64) (p3 : Int32) : entryFrame m #[(.long q0), (.long q1), (.long q2), (.int p3)] 7 = mkF m 0 #[.val (.long q0), .second, .val (.long q1), .second, .val (.long q2), .second, .val (.int p3)] [] := by first | (simp [entryFrame, mkF, argsToLocals, Value.category]; done) | rfl
theorem own_pn1 : plainName "com/example/turnwise/turnwise/evaluation/EventNetwork" = true := by first | (simp [plainName, overriddenIn]; done) | decide +kernel
def Q2 (Z : State) (q0 : Int64) (q1 : Int64) (q2 : Int64) (p3 : Int32) (h0 : Heap) (n0 : Nat) (v : Option Value) (h : Heap) (L : List Loc) : Prop := v = some (.long (own_fm ((q1 - q0) - q2) p3.toInt64 + q2)) ∧ Fr n0 L ∧ h = h0
set_option maxRecDepth 65536 in
set_option maxHeartbeats 40000000 in
theorem rm2 (l : Launch) (Z : State) (a0 : Array Value) (hw : ∀ d ∈ tables_1, d.before a0 Z = true) (ws : List Jvm.Cond) (q0 : Int64) (q1 : Int64) (q2 : Int64) (p3 : Int32) (h0 : Heap) (n0 : Nat) (Z0 : n0 ≤ h0.size) (hp : 0 < p3.toInt) :
    MetFree l (⟨"com/example/turnwise/turnwise/evaluation/EventNetwork", "duration", "(JJJI)J"⟩ : MethodName) (head1 (Jvm.Cond.code (⟨"com/example/turnwise/turnwise/evaluation/EventNetwork", "duration", "(JJJI)J"⟩ : MethodName) prog_8_method_3_code 7 (some .long) :: ws) ({ frames := 1, cells := 0, slots := 0, locals := 17 } : Room)) (fun a U => a = #[(.long q0), (.long q1), (.long q2), (.int p3)] ∧ Z.Warmed39 U.vm ∧ U.heap = h0) (fun _ _ _ _ _ => True) (fun _ U o U' => ∃ v L, o = .returned v ∧ Q2 Z q0 q1 q2 p3 h0 n0 v U'.heap L ∧ FrameEnd U o U' L ({ frames := 1, cells := 0, slots := 0, locals := 17 } : Room).cells ({ frames := 1, cells := 0, slots := 0, locals := 17 } : Room).slots) := by
  refine MetFree.of_bodySF (plainFor_of_name own_pn1) hisR ?_
  intro p e s m args below meth c s₁ Bd hml0 hP hK
  obtain ⟨rfl, hZ, hh⟩ := hP
  have hx := Bd.exec
  have hby := Bd.bytes
  have hml : c.maxLocals = 7 := hml0
  have hown : s.vm.findClass "com/example/turnwise/turnwise/evaluation/EventNetwork" = some m.cls := findClass_of_methodNamed Bd.named
  have hnm := (name_of_methodNamed Bd.named Bd.method).1
  have hlk : meth.locks = false := BodyLoose.notSynchronized Bd
  have X0 : Stand p l e ({ frames := 1, cells := 0, slots := 0, locals := 17 } : Room) s m #[(.long q0), (.long q1), (.long q2), (.int p3)] below meth c s₁ [] 0 0 := Stand.of_body Bd
  have e0 : s₁.heap = h0 := by rw [← hh, Bd.state]; rfl
  have N0 := Fr.nil n0
  show own_Gl FrameEnd p e below s (Q2 Z q0 q1 q2 p3 h0 n0) ({ frames := 1, cells := 0, slots := 0, locals := 17 } : Room).cells ({ frames := 1, cells := 0, slots := 0, locals := 17 } : Room).slots (s₁.setTop (entryFrame m #[(.long q0), (.long q1), (.long q2), (.int p3)] 7))
  rw [own_ef_rm2 m q0 q1 q2 p3]
  refine own_st (A' := s₁.setTop (mkF m 9 #[.val (.long q0), .second, .val (.long q1), .second, .val (.long q2), .second, .val (.int p3)] [(.long (p3.toInt64)), (.long ((q1 - q0) - q2))])) (fun tg kt => ?_) ?_
  · show Steps p.tables e below (s₁.setTop (mkF m 0 #[.val (.long q0), .second, .val (.long q1), .second, .val (.long q2), .second, .val (.int p3)] [])) _
    refine XS.lloadN X0.here hx rfl (hb hby own_d2_0) rfl ?_
    show Steps p.tables e below (s₁.setTop (mkF m 1 #[.val (.long q0), .second, .val (.long q1), .second, .val (.long q2), .second, .val (.int p3)] [(.long q1)])) _
    refine XS.lloadN X0.here hx rfl (hb hby own_d2_1) rfl ?_
    show Steps p.tables e below (s₁.setTop (mkF m 2 #[.val (.long q0), .second, .val (.long q1), .second, .val (.long q2), .second, .val (.int p3)] [(.long q0), (.long q1)])) _
    refine XS.lsub X0.here hx rfl (hb hby own_d2_2) rfl ?_
    show Steps p.tables e below (s₁.setTop (mkF m 3 #[.val (.long q0), .second, .val (.long q1), .second, .val (.long q2), .second, .val (.int p3)] [(.long (q1 - q0))])) _
    refine XS.lload X0.here hx rfl (hb hby own_d2_3) rfl ?_
    show Steps p.tables e below (s₁.setTop (mkF m 5 #[.val (.long q0), .second, .val (.long q1), .second, .val (.long q2), .second, .val (.int p3)] [(.long q2), (.long (q1 - q0))])) _
    refine XS.lsub X0.here hx rfl (hb hby own_d2_5) rfl ?_
    show Steps p.tables e below (s₁.setTop (mkF m 6 #[.val (.long q0), .second, .val (.long q1), .second, .val (.long q2), .second, .val (.int p3)] [(.long ((q1 - q0) - q2))])) _
    refine XS.iload X0.here hx rfl (hb hby own_d2_6) rfl ?_
    show Steps p.tables e below (s₁.setTop (mkF m 8 #[.val (.long q0), .second, .val (.long q1), .second, .val (.long q2), .second, .val (.int p3)] [(.int p3), (.long ((q1 - q0) - q2))])) _
    refine XS.i2l X0.here hx rfl (hb hby own_d2_8) rfl ?_
    exact kt
  obtain ⟨_, _, ⟨T1, L1, k1, n1⟩, -, X1, ⟨Lc1, hQ1, l1, y1, z1⟩, st1⟩ := Jvm.LawKit.callS X0 hx (y := (⟨"java/lang/Math", "floorMod", "(JJ)J"⟩ : MethodName)) hown (mvT hZ (hw _ (List.mem_of_getElem? (i := 9) rfl))) (mvT hZ (hw _ (List.mem_of_getElem? (i := 10) rfl))) (mvT hZ (hw _ (List.mem_of_getElem? (i := 3) rfl))) (mvT hZ (hw _ (List.mem_of_getElem? (i := 11) rfl))) (by decide) (backOf (W := 0) (rm3 l Z a0 hw [] ((q1 - q0) - q2) (p3.toInt64) h0 n0 Z0 (by rw [Jvm.Kit.i64_of_i32]; exact hp) (by rw [Jvm.Kit.i64_of_i32]; exact p3.toInt_lt)) hZ (hw _ (List.mem_of_getElem? (i := 11) rfl)) (hw _ (List.mem_of_getElem? (i := 3) rfl)) (by decide) (by decide)) (g := (mkF m 9 #[.val (.long q0), .second, .val (.long q1), .second, .val (.long q2), .second, .val (.int p3)] [(.long (p3.toInt64)), (.long ((q1 - q0) - q2))])) rfl (by rw [hml]; rfl) (argsL := [(.long ((q1 - q0) - q2)), (.long (p3.toInt64))]) (rest := []) (lenOf own_pd0 rfl) rfl (by show 2 * 0 + _ ≤ _; exact Nat.le_of_eq rfl) (hb hby own_d2_9) (fun _ _ => ⟨rfl, e0, (by decide : 0 + 0 ≤ _), (by decide : 0 + 0 ≤ _)⟩)
  dsimp only [Pt.U, Pt.locs, Pt.cells, Pt.slots] at X1 l1 y1 z1 st1 hQ1
  subst l1 y1 z1
  obtain ⟨rfl, Nq1, eq1⟩ := hQ1
  have N1 := Fr.app N0 Nq1
  refine own_st st1 ?_
  show own_Gl _ _ _ _ _ _ _ _ (T1.setTop (mkF m 12 #[.val (.long q0), .second, .val (.long q1), .second, .val (.long q2), .second, .val (.int p3)] [(.long (own_fm ((q1 - q0) - q2) (p3.toInt64)))]))
  refine own_st (A' := T1.setTop (mkF m 15 #[.val (.long q0), .second, .val (.long q1), .second, .val (.long q2), .second, .val (.int p3)] [(.long ((own_fm ((q1 - q0) - q2) (p3.toInt64)) + q2))])) (fun tg kt => ?_) ?_
  · show Steps p.tables e below (T1.setTop (mkF m 12 #[.val (.long q0), .second, .val (.long q1), .second, .val (.long q2), .second, .val (.int p3)] [(.long (own_fm ((q1 - q0) - q2) (p3.toInt64)))])) _
    refine XS.lload X1.here hx rfl (hb hby own_d2_12) rfl ?_
    show Steps p.tables e below (T1.setTop (mkF m 14 #[.val (.long q0), .second, .val (.long q1), .second, .val (.long q2), .second, .val (.int p3)] [(.long q2), (.long (own_fm ((q1 - q0) - q2) (p3.toInt64)))])) _
    refine XS.ladd X1.here hx rfl (hb hby own_d2_14) rfl ?_
    exact kt
  refine own_ret X1 (v := some (.long ((own_fm ((q1 - q0) - q2) (p3.toInt64)) + q2))) (fun h => by rw [Bd.returns] at h; cases h) hlk (by decide) (by decide) ?_ (fun fs hr => ?_)
  · show Q2 Z q0 q1 q2 p3 h0 n0 (some (.long ((own_fm ((q1 - q0) - q2) (p3.toInt64)) + q2))) T1.heap _
    rw [eq1]
    exact ⟨rfl, N1, rfl⟩
  · show Steps p.tables e below (T1.setTop (mkF m 15 #[.val (.long q0), .second, .val (.long q1), .second, .val (.long q2), .second, .val (.int p3)] [(.long ((own_fm ((q1 - q0) - q2) (p3.toInt64)) + q2))])) _
    jvm_step X1.here [X1.here.top, hx, (hb hby own_d2_15), X1.method', Bd.returns, narrow]
    first | (intro acts; rw [hr _ acts rfl rfl rfl]) | rw [hr _ _ rfl rfl rfl]
    exact Steps.refl _
theorem own_pd2 : parseMethodDescriptor "(II)I" = some ⟨[.int, .int], some .int⟩ := by decide +kernel
theorem own_pd3 : parseMethodDescriptor "(JJJI)J" = some ⟨[.long, .long, .long, .int], some .long⟩ := by decide +kernel
theorem own_ef_rm0 (m : MethodId) (q0 : Int64) (q1 : Int64) (q2 : Int64) (p3 : Int32) : entryFrame m #[(.long q0), (.long q1), (.long q2), (.int p3)] maxLocals = mkF m 0 #[.val (.long q0), .second, .val (.long q1), .second, .val (.long q2), .second, .val (.int p3), .unset, .unset, .unset, .unset, .unset, .unset, .unset, .unset, .unset, .unset, .unset, .unset] [] := by first | (simp [entryFrame, mkF, argsToLocals, Value.category, maxLocals]; done) | rfl
theorem own_pn4 : plainName "com/example/turnwise/turnwise/evaluation/EventNetworkDurationPinLaw" = true := by first | (simp [plainName, overriddenIn]; done) | decide +kernel
def Q0 (Z : State) (q0 : Int64) (q1 : Int64) (q2 : Int64) (p3 : Int32) (h0 : Heap) (n0 : Nat) (v : Option Value) (h : Heap) (L : List Loc) : Prop := v = some (.int 1) ∧ Fr n0 L
set_option maxRecDepth 65536 in
set_option maxHeartbeats 40000000 in
theorem rm0 (l : Launch) (Z : State) (a0 : Array Value) (hw : ∀ d ∈ tables_1, d.before a0 Z = true) (ws : List Jvm.Cond) (q0 : Int64) (q1 : Int64) (q2 : Int64) (p3 : Int32) (h0 : Heap) (n0 : Nat) (Z0 : n0 ≤ h0.size) :
    MetFree l x (head1 (Jvm.Cond.code x code maxLocals ret :: ws) room_1) (fun a U => a = #[(.long q0), (.long q1), (.long q2), (.int p3)] ∧ Z.Warmed39 U.vm ∧ U.heap = h0) (fun _ _ _ _ _ => True) (fun _ U o U' => ∃ v L, o = .returned v ∧ Q0 Z q0 q1 q2 p3 h0 n0 v U'.heap L ∧ FrameEnd U o U' L room_1.cells room_1.slots) := by
  refine MetFree.of_bodySF (plainFor_of_name own_pn4) hisR ?_
  intro p e s m args below meth c s₁ Bd hml0 hP hK
  obtain ⟨rfl, hZ, hh⟩ := hP
  have hx := Bd.exec
  have hby := Bd.bytes
  have hml : c.maxLocals = 19 := hml0
  have hown : s.vm.findClass "com/example/turnwise/turnwise/evaluation/EventNetworkDurationPinLaw" = some m.cls := findClass_of_methodNamed Bd.named
  have hnm := (name_of_methodNamed Bd.named Bd.method).1
  have hlk : meth.locks = false := BodyLoose.notSynchronized Bd
  have X0 : Stand p l e room_1 s m #[(.long q0), (.long q1), (.long q2), (.int p3)] below meth c s₁ [] 0 0 := Stand.of_body Bd
  have e0 : s₁.heap = h0 := by rw [← hh, Bd.state]; rfl
  have N0 := Fr.nil n0
  show own_Gl FrameEnd p e below s (Q0 Z q0 q1 q2 p3 h0 n0) room_1.cells room_1.slots (s₁.setTop (entryFrame m #[(.long q0), (.long q1), (.long q2), (.int p3)] maxLocals))
  rw [own_ef_rm0 m q0 q1 q2 p3]
  refine own_st (A' := s₁.setTop (mkF m 16 #[.val (.long q0), .second, .val (.long q1), .second, .val (.long q2), .second, .val (.int p3), .val (.long (q0 >>> ((2 : Int32) &&& 0x3f).toInt64)), .second, .val (.long (q1 >>> ((2 : Int32) &&& 0x3f).toInt64)), .second, .val (.long (q2 >>> ((2 : Int32) &&& 0x3f).toInt64)), .second, .unset, .unset, .unset, .unset, .unset, .unset] [])) (fun tg kt => ?_) ?_
  · show Steps p.tables e below (s₁.setTop (mkF m 0 #[.val (.long q0), .second, .val (.long q1), .second, .val (.long q2), .second, .val (.int p3), .unset, .unset, .unset, .unset, .unset, .unset, .unset, .unset, .unset, .unset, .unset, .unset] [])) _
    refine XS.lloadN X0.here hx rfl (hb hby at_0) rfl ?_
    show Steps p.tables e below (s₁.setTop (mkF m 1 #[.val (.long q0), .second, .val (.long q1), .second, .val (.long q2), .second, .val (.int p3), .unset, .unset, .unset, .unset, .unset, .unset, .unset, .unset, .unset, .unset, .unset, .unset] [(.long q0)])) _
    refine XS.iconst X0.here hx rfl (hb hby at_1) ?_
    show Steps p.tables e below (s₁.setTop (mkF m 2 #[.val (.long q0), .second, .val (.long q1), .second, .val (.long q2), .second, .val (.int p3), .unset, .unset, .unset, .unset, .unset, .unset, .unset, .unset, .unset, .unset, .unset, .unset] [(.int (2 : Int32)), (.long q0)])) _
    refine XS.lshr X0.here hx rfl (hb hby at_2) rfl ?_
    show Steps p.tables e below (s₁.setTop (mkF m 3 #[.val (.long q0), .second, .val (.long q1), .second, .val (.long q2), .second, .val (.int p3), .unset, .unset, .unset, .unset, .unset, .unset, .unset, .unset, .unset, .unset, .unset, .unset] [(.long (q0 >>> ((2 : Int32) &&& 0x3f).toInt64))])) _
    refine XS.lstore X0.here hx rfl (hb hby at_3) rfl (l' := #[.val (.long q0), .second, .val (.long q1), .second, .val (.long q2), .second, .val (.int p3), .val (.long (q0 >>> ((2 : Int32) &&& 0x3f).toInt64)), .second, .unset, .unset, .unset, .unset, .unset, .unset, .unset, .unset, .unset, .unset]) rfl ?_
    show Steps p.tables e below (s₁.setTop (mkF m 5 #[.val (.long q0), .second, .val (.long q1), .second, .val (.long q2), .second, .val (.int p3), .val (.long (q0 >>> ((2 : Int32) &&& 0x3f).toInt64)), .second, .unset, .unset, .unset, .unset, .unset, .unset, .unset, .unset, .unset, .unset] [])) _
    refine XS.lloadN X0.here hx rfl (hb hby at_5) rfl ?_
    show Steps p.tables e below (s₁.setTop (mkF m 6 #[.val (.long q0), .second, .val (.long q1), .second, .val (.long q2), .second, .val (.int p3), .val (.long (q0 >>> ((2 : Int32) &&& 0x3f).toInt64)), .second, .unset, .unset, .unset, .unset, .unset, .unset, .unset, .unset, .unset, .unset] [(.long q1)])) _
    refine XS.iconst X0.here hx rfl (hb hby at_6) ?_
    show Steps p.tables e below (s₁.setTop (mkF m 7 #[.val (.long q0), .second, .val (.long q1), .second, .val (.long q2), .second, .val (.int p3), .val (.long (q0 >>> ((2 : Int32) &&& 0x3f).toInt64)), .second, .unset, .unset, .unset, .unset, .unset, .unset, .unset, .unset, .unset, .unset] [(.int (2 : Int32)), (.long q1)])) _
    refine XS.lshr X0.here hx rfl (hb hby at_7) rfl ?_
    show Steps p.tables e below (s₁.setTop (mkF m 8 #[.val (.long q0), .second, .val (.long q1), .second, .val (.long q2), .second, .val (.int p3), .val (.long (q0 >>> ((2 : Int32) &&& 0x3f).toInt64)), .second, .unset, .unset, .unset, .unset, .unset, .unset, .unset, .unset, .unset, .unset] [(.long (q1 >>> ((2 : Int32) &&& 0x3f).toInt64))])) _
    refine XS.lstore X0.here hx rfl (hb hby at_8) rfl (l' := #[.val (.long q0), .second, .val (.long q1), .second, .val (.long q2), .second, .val (.int p3), .val (.long (q0 >>> ((2 : Int32) &&& 0x3f).toInt64)), .second, .val (.long (q1 >>> ((2 : Int32) &&& 0x3f).toInt64)), .second, .unset, .unset, .unset, .unset, .unset, .unset, .unset, .unset]) rfl ?_
    show Steps p.tables e below (s₁.setTop (mkF m 10 #[.val (.long q0), .second, .val (.long q1), .second, .val (.long q2), .second, .val (.int p3), .val (.long (q0 >>> ((2 : Int32) &&& 0x3f).toInt64)), .second, .val (.long (q1 >>> ((2 : Int32) &&& 0x3f).toInt64)), .second, .unset, .unset, .unset, .unset, .unset, .unset, .unset, .unset] [])) _
    refine XS.lload X0.here hx rfl (hb hby at_10) rfl ?_
    show Steps p.tables e below (s₁.setTop (mkF m 12 #[.val (.long q0), .second, .val (.long q1), .second, .val (.long q2), .second, .val (.int p3), .val (.long (q0 >>> ((2 : Int32) &&& 0x3f).toInt64)), .second, .val (.long (q1 >>> ((2 : Int32) &&& 0x3f).toInt64)), .second, .unset, .unset, .unset, .unset, .unset, .unset, .unset, .unset] [(.long q2)])) _
    refine XS.iconst X0.here hx rfl (hb hby at_12) ?_
    show Steps p.tables e below (s₁.setTop (mkF m 13 #[.val (.long q0), .second, .val (.long q1), .second, .val (.long q2), .second, .val (.int p3), .val (.long (q0 >>> ((2 : Int32) &&& 0x3f).toInt64)), .second, .val (.long (q1 >>> ((2 : Int32) &&& 0x3f).toInt64)), .second, .unset, .unset, .unset, .unset, .unset, .unset, .unset, .unset] [(.int (2 : Int32)), (.long q2)])) _
    refine XS.lshr X0.here hx rfl (hb hby at_13) rfl ?_
    show Steps p.tables e below (s₁.setTop (mkF m 14 #[.val (.long q0), .second, .val (.long q1), .second, .val (.long q2), .second, .val (.int p3), .val (.long (q0 >>> ((2 : Int32) &&& 0x3f).toInt64)), .second, .val (.long (q1 >>> ((2 : Int32) &&& 0x3f).toInt64)), .second, .unset, .unset, .unset, .unset, .unset, .unset, .unset, .unset] [(.long (q2 >>> ((2 : Int32) &&& 0x3f).toInt64))])) _
    refine XS.lstore X0.here hx rfl (hb hby at_14) rfl (l' := #[.val (.long q0), .second, .val (.long q1), .second, .val (.long q2), .second, .val (.int p3), .val (.long (q0 >>> ((2 : Int32) &&& 0x3f).toInt64)), .second, .val (.long (q1 >>> ((2 : Int32) &&& 0x3f).toInt64)), .second, .val (.long (q2 >>> ((2 : Int32) &&& 0x3f).toInt64)), .second, .unset, .unset, .unset, .unset, .unset, .unset]) rfl ?_
    exact kt
  obtain ⟨fr, hfr⟩ : ∃ z, z = (q0 >>> ((2 : Int32) &&& 0x3f).toInt64) := ⟨_, rfl⟩
  rw [← hfr]
  show own_Gl _ _ _ _ _ _ _ _ (s₁.setTop (mkF m 16 #[.val (.long q0), .second, .val (.long q1), .second, .val (.long q2), .second, .val (.int p3), .val (.long fr), .second, .val (.long (q1 >>> ((2 : Int32) &&& 0x3f).toInt64)), .second, .val (.long (q2 >>> ((2 : Int32) &&& 0x3f).toInt64)), .second, .unset, .unset, .unset, .unset, .unset, .unset] []))
  have bfr : -2 ^ 61 ≤ fr.toInt ∧ fr.toInt < 2 ^ 61 := by rw [hfr, own_shr2]; have := q0.toInt_lt; have := q0.le_toInt; omega
  obtain ⟨to, hto⟩ : ∃ z, z = (q1 >>> ((2 : Int32) &&& 0x3f).toInt64) := ⟨_, rfl⟩
  rw [← hto]
  show own_Gl _ _ _ _ _ _ _ _ (s₁.setTop (mkF m 16 #[.val (.long q0), .second, .val (.long q1), .second, .val (.long q2), .second, .val (.int p3), .val (.long fr), .second, .val (.long to), .second, .val (.long (q2 >>> ((2 : Int32) &&& 0x3f).toInt64)), .second, .unset, .unset, .unset, .unset, .unset, .unset] []))
  have bto : -2 ^ 61 ≤ to.toInt ∧ to.toInt < 2 ^ 61 := by rw [hto, own_shr2]; have := q1.toInt_lt; have := q1.le_toInt; omega
  obtain ⟨lo, hlo⟩ : ∃ z, z = (q2 >>> ((2 : Int32) &&& 0x3f).toInt64) := ⟨_, rfl⟩
  rw [← hlo]
  show own_Gl _ _ _ _ _ _ _ _ (s₁.setTop (mkF m 16 #[.val (.long q0), .second, .val (.long q1), .second, .val (.long q2), .second, .val (.int p3), .val (.long fr), .second, .val (.long to), .second, .val (.long lo), .second, .unset, .unset, .unset, .unset, .unset, .unset] []))
  have blo : -2 ^ 61 ≤ lo.toInt ∧ lo.toInt < 2 ^ 61 := by rw [hlo, own_shr2]; have := q2.toInt_lt; have := q2.le_toInt; omega
  refine own_st (A' := s₁.setTop (mkF m 22 #[.val (.long q0), .second, .val (.long q1), .second, .val (.long q2), .second, .val (.int p3), .val (.long fr), .second, .val (.long to), .second, .val (.long lo), .second, .unset, .unset, .unset, .unset, .unset, .unset] [(.int (p3 &&& (2147483647 : Int32))), (.int (1 : Int32))])) (fun tg kt => ?_) ?_
  · show Steps p.tables e below (s₁.setTop (mkF m 16 #[.val (.long q0), .second, .val (.long q1), .second, .val (.long q2), .second, .val (.int p3), .val (.long fr), .second, .val (.long to), .second, .val (.long lo), .second, .unset, .unset, .unset, .unset, .unset, .unset] [])) _
    refine XS.iconst X0.here hx rfl (hb hby at_16) ?_
    show Steps p.tables e below (s₁.setTop (mkF m 17 #[.val (.long q0), .second, .val (.long q1), .second, .val (.long q2), .second, .val (.int p3), .val (.long fr), .second, .val (.long to), .second, .val (.long lo), .second, .unset, .unset, .unset, .unset, .unset, .unset] [(.int (1 : Int32))])) _
    refine XS.iload X0.here hx rfl (hb hby at_17) rfl ?_
    show Steps p.tables e below (s₁.setTop (mkF m 19 #[.val (.long q0), .second, .val (.long q1), .second, .val (.long q2), .second, .val (.int p3), .val (.long fr), .second, .val (.long to), .second, .val (.long lo), .second, .unset, .unset, .unset, .unset, .unset, .unset] [(.int p3), (.int (1 : Int32))])) _
    refine X0.ldcInt hx hown (mvT hZ (hw _ (List.mem_of_getElem? (i := 0) rfl))) (g := (mkF m 19 #[.val (.long q0), .second, .val (.long q1), .second, .val (.long q2), .second, .val (.int p3), .val (.long fr), .second, .val (.long to), .second, .val (.long lo), .second, .unset, .unset, .unset, .unset, .unset, .unset] [(.int p3), (.int (1 : Int32))])) rfl (hb hby at_19) _ ?_
    show Steps p.tables e below (s₁.setTop (mkF m 21 #[.val (.long q0), .second, .val (.long q1), .second, .val (.long q2), .second, .val (.int p3), .val (.long fr), .second, .val (.long to), .second, .val (.long lo), .second, .unset, .unset, .unset, .unset, .unset, .unset] [(.int (2147483647 : Int32)), (.int p3), (.int (1 : Int32))])) _
    refine XS.iand X0.here hx rfl (hb hby at_21) rfl ?_
    exact kt
  obtain ⟨_, _, ⟨T1, L1, k1, n1⟩, -, X1, ⟨Lc1, hQ1, l1, y1, z1⟩, st1⟩ := Jvm.LawKit.callS X0 hx (y := (⟨"java/lang/Math", "max", "(II)I"⟩ : MethodName)) hown (mvT hZ (hw _ (List.mem_of_getElem? (i := 1) rfl))) (mvT hZ (hw _ (List.mem_of_getElem? (i := 2) rfl))) (mvT hZ (hw _ (List.mem_of_getElem? (i := 3) rfl))) (mvT hZ (hw _ (List.mem_of_getElem? (i := 4) rfl))) (by decide) (backOf (W := 0) (rm1 l Z a0 hw [] (1 : Int32) (p3 &&& (2147483647 : Int32)) h0 n0 Z0) hZ (hw _ (List.mem_of_getElem? (i := 4) rfl)) (hw _ (List.mem_of_getElem? (i := 3) rfl)) (by decide) (by decide)) (g := (mkF m 22 #[.val (.long q0), .second, .val (.long q1), .second, .val (.long q2), .second, .val (.int p3), .val (.long fr), .second, .val (.long to), .second, .val (.long lo), .second, .unset, .unset, .unset, .unset, .unset, .unset] [(.int (p3 &&& (2147483647 : Int32))), (.int (1 : Int32))])) rfl (by rw [hml]; rfl) (argsL := [(.int (1 : Int32)), (.int (p3 &&& (2147483647 : Int32)))]) (rest := []) (lenOf own_pd2 rfl) rfl (by show 2 * 0 + _ ≤ _; exact Nat.le_of_eq rfl) (hb hby at_22) (fun _ _ => ⟨rfl, e0, (by decide : 0 + 0 ≤ _), (by decide : 0 + 0 ≤ _)⟩)
  dsimp only [Pt.U, Pt.locs, Pt.cells, Pt.slots] at X1 l1 y1 z1 st1 hQ1
  subst l1 y1 z1
  obtain ⟨rfl, Nq1, eq1⟩ := hQ1
  have N1 := Fr.app N0 Nq1
  refine own_st st1 ?_
  show own_Gl _ _ _ _ _ _ _ _ (T1.setTop (mkF m 25 #[.val (.long q0), .second, .val (.long q1), .second, .val (.long q2), .second, .val (.int p3), .val (.long fr), .second, .val (.long to), .second, .val (.long lo), .second, .unset, .unset, .unset, .unset, .unset, .unset] [(.int (own_max (1 : Int32) (p3 &&& (2147483647 : Int32))))]))
  obtain ⟨per, hper⟩ : ∃ z, z = (own_max (1 : Int32) (p3 &&& (2147483647 : Int32))) := ⟨_, rfl⟩
  rw [← hper]
  show own_Gl _ _ _ _ _ _ _ _ (T1.setTop (mkF m 25 #[.val (.long q0), .second, .val (.long q1), .second, .val (.long q2), .second, .val (.int p3), .val (.long fr), .second, .val (.long to), .second, .val (.long lo), .second, .unset, .unset, .unset, .unset, .unset, .unset] [(.int per)]))
  have hp : 0 < per.toInt := by
    rw [hper]; unfold own_max; split
    · rename_i h; rw [Int32.lt_iff_toInt_lt] at h; have : (1 : Int32).toInt = 1 := by decide
      omega
    · decide
  refine own_st (A' := T1.setTop (mkF m 35 #[.val (.long q0), .second, .val (.long q1), .second, .val (.long q2), .second, .val (.int p3), .val (.long fr), .second, .val (.long to), .second, .val (.long lo), .second, .val (.int per), .unset, .unset, .unset, .unset, .unset] [(.int per), (.long lo), (.long to), (.long fr)])) (fun tg kt => ?_) ?_
  · show Steps p.tables e below (T1.setTop (mkF m 25 #[.val (.long q0), .second, .val (.long q1), .second, .val (.long q2), .second, .val (.int p3), .val (.long fr), .second, .val (.long to), .second, .val (.long lo), .second, .unset, .unset, .unset, .unset, .unset, .unset] [(.int per)])) _
    refine XS.istore X1.here hx rfl (hb hby at_25) rfl (l' := #[.val (.long q0), .second, .val (.long q1), .second, .val (.long q2), .second, .val (.int p3), .val (.long fr), .second, .val (.long to), .second, .val (.long lo), .second, .val (.int per), .unset, .unset, .unset, .unset, .unset]) rfl ?_
    show Steps p.tables e below (T1.setTop (mkF m 27 #[.val (.long q0), .second, .val (.long q1), .second, .val (.long q2), .second, .val (.int p3), .val (.long fr), .second, .val (.long to), .second, .val (.long lo), .second, .val (.int per), .unset, .unset, .unset, .unset, .unset] [])) _
    refine XS.lload X1.here hx rfl (hb hby at_27) rfl ?_
    show Steps p.tables e below (T1.setTop (mkF m 29 #[.val (.long q0), .second, .val (.long q1), .second, .val (.long q2), .second, .val (.int p3), .val (.long fr), .second, .val (.long to), .second, .val (.long lo), .second, .val (.int per), .unset, .unset, .unset, .unset, .unset] [(.long fr)])) _
    refine XS.lload X1.here hx rfl (hb hby at_29) rfl ?_
    show Steps p.tables e below (T1.setTop (mkF m 31 #[.val (.long q0), .second, .val (.long q1), .second, .val (.long q2), .second, .val (.int p3), .val (.long fr), .second, .val (.long to), .second, .val (.long lo), .second, .val (.int per), .unset, .unset, .unset, .unset, .unset] [(.long to), (.long fr)])) _
    refine XS.lload X1.here hx rfl (hb hby at_31) rfl ?_
    show Steps p.tables e below (T1.setTop (mkF m 33 #[.val (.long q0), .second, .val (.long q1), .second, .val (.long q2), .second, .val (.int p3), .val (.long fr), .second, .val (.long to), .second, .val (.long lo), .second, .val (.int per), .unset, .unset, .unset, .unset, .unset] [(.long lo), (.long to), (.long fr)])) _
    refine XS.iload X1.here hx rfl (hb hby at_33) rfl ?_
    exact kt
  obtain ⟨_, _, ⟨T2, L2, k2, n2⟩, -, X2, ⟨Lc2, hQ2, l2, y2, z2⟩, st2⟩ := Jvm.LawKit.callS X1 hx (y := (⟨"com/example/turnwise/turnwise/evaluation/EventNetwork", "duration", "(JJJI)J"⟩ : MethodName)) hown (mvT hZ (hw _ (List.mem_of_getElem? (i := 5) rfl))) (mvT hZ (hw _ (List.mem_of_getElem? (i := 6) rfl))) (mvT hZ (hw _ (List.mem_of_getElem? (i := 7) rfl))) (mvT hZ (hw _ (List.mem_of_getElem? (i := 8) rfl))) (by decide) (backOf (W := 0) (rm2 l Z a0 hw [] fr to lo per  h0 n0 Z0 hp) hZ (hw _ (List.mem_of_getElem? (i := 8) rfl)) (hw _ (List.mem_of_getElem? (i := 7) rfl)) (by decide) (by decide)) (g := (mkF m 35 #[.val (.long q0), .second, .val (.long q1), .second, .val (.long q2), .second, .val (.int p3), .val (.long fr), .second, .val (.long to), .second, .val (.long lo), .second, .val (.int per), .unset, .unset, .unset, .unset, .unset] [(.int per), (.long lo), (.long to), (.long fr)])) rfl (by rw [hml]; rfl) (argsL := [(.long fr), (.long to), (.long lo), (.int per)]) (rest := []) (lenOf own_pd3 rfl) rfl (by show 2 * 0 + _ ≤ _; exact Nat.le_of_eq rfl) (hb hby at_35) (fun _ _ => ⟨rfl, eq1, (by decide : 0 + 0 ≤ _), (by decide : 0 + 0 ≤ _)⟩)
  dsimp only [Pt.U, Pt.locs, Pt.cells, Pt.slots] at X2 l2 y2 z2 st2 hQ2
  subst l2 y2 z2
  obtain ⟨rfl, Nq2, eq2⟩ := hQ2
  have N2 := Fr.app N1 Nq2
  refine own_st st2 ?_
  show own_Gl _ _ _ _ _ _ _ _ (T2.setTop (mkF m 38 #[.val (.long q0), .second, .val (.long q1), .second, .val (.long q2), .second, .val (.int p3), .val (.long fr), .second, .val (.long to), .second, .val (.long lo), .second, .val (.int per), .unset, .unset, .unset, .unset, .unset] [(.long (own_fm ((to - fr) - lo) per.toInt64 + lo))]))
  obtain ⟨r, hr⟩ : ∃ z, z = (own_fm ((to - fr) - lo) per.toInt64 + lo) := ⟨_, rfl⟩
  rw [← hr]
  show own_Gl _ _ _ _ _ _ _ _ (T2.setTop (mkF m 38 #[.val (.long q0), .second, .val (.long q1), .second, .val (.long q2), .second, .val (.int p3), .val (.long fr), .second, .val (.long to), .second, .val (.long lo), .second, .val (.int per), .unset, .unset, .unset, .unset, .unset] [(.long r)]))
  obtain ⟨law1, law2, law3⟩ := own_law bfr bto blo hp hr
  have hnz : per.toInt64 ≠ 0 := fun q => by have k := Jvm.Kit.i64_of_i32 per; rw [q, Int64.toInt_zero] at k; omega
  refine own_st (A' := T2.setTop (mkF m 118 #[.val (.long q0), .second, .val (.long q1), .second, .val (.long q2), .second, .val (.int p3), .val (.long fr), .second, .val (.long to), .second, .val (.long lo), .second, .val (.int per), .val (.long r), .second, .val (.int (1 : Int32)), .val (.int (1 : Int32)), .val (.int (1 : Int32))] [(.int (1 : Int32))])) (fun tg kt => ?_) ?_
  · show Steps p.tables e below (T2.setTop (mkF m 38 #[.val (.long q0), .second, .val (.long q1), .second, .val (.long q2), .second, .val (.int p3), .val (.long fr), .second, .val (.long to), .second, .val (.long lo), .second, .val (.int per), .unset, .unset, .unset, .unset, .unset] [(.long r)])) _
    refine XS.lstore X2.here hx rfl (hb hby at_38) rfl (l' := #[.val (.long q0), .second, .val (.long q1), .second, .val (.long q2), .second, .val (.int p3), .val (.long fr), .second, .val (.long to), .second, .val (.long lo), .second, .val (.int per), .val (.long r), .second, .unset, .unset, .unset]) rfl ?_
    show Steps p.tables e below (T2.setTop (mkF m 40 #[.val (.long q0), .second, .val (.long q1), .second, .val (.long q2), .second, .val (.int p3), .val (.long fr), .second, .val (.long to), .second, .val (.long lo), .second, .val (.int per), .val (.long r), .second, .unset, .unset, .unset] [])) _
    refine XS.lload X2.here hx rfl (hb hby at_40) rfl ?_
    show Steps p.tables e below (T2.setTop (mkF m 42 #[.val (.long q0), .second, .val (.long q1), .second, .val (.long q2), .second, .val (.int p3), .val (.long fr), .second, .val (.long to), .second, .val (.long lo), .second, .val (.int per), .val (.long r), .second, .unset, .unset, .unset] [(.long lo)])) _
    refine XS.lload X2.here hx rfl (hb hby at_42) rfl ?_
    show Steps p.tables e below (T2.setTop (mkF m 44 #[.val (.long q0), .second, .val (.long q1), .second, .val (.long q2), .second, .val (.int p3), .val (.long fr), .second, .val (.long to), .second, .val (.long lo), .second, .val (.int per), .val (.long r), .second, .unset, .unset, .unset] [(.long r), (.long lo)])) _
    refine XS.lcmp X2.here hx rfl (hb hby at_44) rfl ?_
    show Steps p.tables e below (T2.setTop (mkF m 45 #[.val (.long q0), .second, .val (.long q1), .second, .val (.long q2), .second, .val (.int p3), .val (.long fr), .second, .val (.long to), .second, .val (.long lo), .second, .val (.int per), .val (.long r), .second, .unset, .unset, .unset] [(.int (lcmpW lo r))])) _
    refine XS.ifNo X2.here hx rfl (hb hby at_45) rfl ((if0 _ _).trans (flt (own_ngt (law1 : ¬ (r < lo)))).2.2.1) ?_
    show Steps p.tables e below (T2.setTop (mkF m 48 #[.val (.long q0), .second, .val (.long q1), .second, .val (.long q2), .second, .val (.int p3), .val (.long fr), .second, .val (.long to), .second, .val (.long lo), .second, .val (.int per), .val (.long r), .second, .unset, .unset, .unset] [])) _
    refine XS.iconst X2.here hx rfl (hb hby at_48) ?_
    show Steps p.tables e below (T2.setTop (mkF m 49 #[.val (.long q0), .second, .val (.long q1), .second, .val (.long q2), .second, .val (.int p3), .val (.long fr), .second, .val (.long to), .second, .val (.long lo), .second, .val (.int per), .val (.long r), .second, .unset, .unset, .unset] [(.int (1 : Int32))])) _
    refine XS.goto X2.here hx rfl (pc0 := 49) (pc' := 53) rfl (hb hby at_49) (by decide) (by decide) ?_
    show Steps p.tables e below (T2.setTop (mkF m 53 #[.val (.long q0), .second, .val (.long q1), .second, .val (.long q2), .second, .val (.int p3), .val (.long fr), .second, .val (.long to), .second, .val (.long lo), .second, .val (.int per), .val (.long r), .second, .unset, .unset, .unset] [(.int (1 : Int32))])) _
    refine XS.istore X2.here hx rfl (hb hby at_53) rfl (l' := #[.val (.long q0), .second, .val (.long q1), .second, .val (.long q2), .second, .val (.int p3), .val (.long fr), .second, .val (.long to), .second, .val (.long lo), .second, .val (.int per), .val (.long r), .second, .val (.int (1 : Int32)), .unset, .unset]) rfl ?_
    show Steps p.tables e below (T2.setTop (mkF m 55 #[.val (.long q0), .second, .val (.long q1), .second, .val (.long q2), .second, .val (.int p3), .val (.long fr), .second, .val (.long to), .second, .val (.long lo), .second, .val (.int per), .val (.long r), .second, .val (.int (1 : Int32)), .unset, .unset] [])) _
    refine XS.lload X2.here hx rfl (hb hby at_55) rfl ?_
    show Steps p.tables e below (T2.setTop (mkF m 57 #[.val (.long q0), .second, .val (.long q1), .second, .val (.long q2), .second, .val (.int p3), .val (.long fr), .second, .val (.long to), .second, .val (.long lo), .second, .val (.int per), .val (.long r), .second, .val (.int (1 : Int32)), .unset, .unset] [(.long r)])) _
    refine XS.lload X2.here hx rfl (hb hby at_57) rfl ?_
    show Steps p.tables e below (T2.setTop (mkF m 59 #[.val (.long q0), .second, .val (.long q1), .second, .val (.long q2), .second, .val (.int p3), .val (.long fr), .second, .val (.long to), .second, .val (.long lo), .second, .val (.int per), .val (.long r), .second, .val (.int (1 : Int32)), .unset, .unset] [(.long lo), (.long r)])) _
    refine XS.lsub X2.here hx rfl (hb hby at_59) rfl ?_
    show Steps p.tables e below (T2.setTop (mkF m 60 #[.val (.long q0), .second, .val (.long q1), .second, .val (.long q2), .second, .val (.int p3), .val (.long fr), .second, .val (.long to), .second, .val (.long lo), .second, .val (.int per), .val (.long r), .second, .val (.int (1 : Int32)), .unset, .unset] [(.long (r - lo))])) _
    refine XS.iload X2.here hx rfl (hb hby at_60) rfl ?_
    show Steps p.tables e below (T2.setTop (mkF m 62 #[.val (.long q0), .second, .val (.long q1), .second, .val (.long q2), .second, .val (.int p3), .val (.long fr), .second, .val (.long to), .second, .val (.long lo), .second, .val (.int per), .val (.long r), .second, .val (.int (1 : Int32)), .unset, .unset] [(.int per), (.long (r - lo))])) _
    refine XS.i2l X2.here hx rfl (hb hby at_62) rfl ?_
    show Steps p.tables e below (T2.setTop (mkF m 63 #[.val (.long q0), .second, .val (.long q1), .second, .val (.long q2), .second, .val (.int p3), .val (.long fr), .second, .val (.long to), .second, .val (.long lo), .second, .val (.int per), .val (.long r), .second, .val (.int (1 : Int32)), .unset, .unset] [(.long (per.toInt64)), (.long (r - lo))])) _
    refine XS.lcmp X2.here hx rfl (hb hby at_63) rfl ?_
    show Steps p.tables e below (T2.setTop (mkF m 64 #[.val (.long q0), .second, .val (.long q1), .second, .val (.long q2), .second, .val (.int p3), .val (.long fr), .second, .val (.long to), .second, .val (.long lo), .second, .val (.int per), .val (.long r), .second, .val (.int (1 : Int32)), .unset, .unset] [(.int (lcmpW (r - lo) (per.toInt64)))])) _
    refine XS.ifNo X2.here hx rfl (hb hby at_64) rfl ((if0 _ _).trans (tlt (own_llt (law2 : (r - lo) < (per.toInt64)))).2.1) ?_
    show Steps p.tables e below (T2.setTop (mkF m 67 #[.val (.long q0), .second, .val (.long q1), .second, .val (.long q2), .second, .val (.int p3), .val (.long fr), .second, .val (.long to), .second, .val (.long lo), .second, .val (.int per), .val (.long r), .second, .val (.int (1 : Int32)), .unset, .unset] [])) _
    refine XS.iconst X2.here hx rfl (hb hby at_67) ?_
    show Steps p.tables e below (T2.setTop (mkF m 68 #[.val (.long q0), .second, .val (.long q1), .second, .val (.long q2), .second, .val (.int p3), .val (.long fr), .second, .val (.long to), .second, .val (.long lo), .second, .val (.int per), .val (.long r), .second, .val (.int (1 : Int32)), .unset, .unset] [(.int (1 : Int32))])) _
    refine XS.goto X2.here hx rfl (pc0 := 68) (pc' := 72) rfl (hb hby at_68) (by decide) (by decide) ?_
    show Steps p.tables e below (T2.setTop (mkF m 72 #[.val (.long q0), .second, .val (.long q1), .second, .val (.long q2), .second, .val (.int p3), .val (.long fr), .second, .val (.long to), .second, .val (.long lo), .second, .val (.int per), .val (.long r), .second, .val (.int (1 : Int32)), .unset, .unset] [(.int (1 : Int32))])) _
    refine XS.istore X2.here hx rfl (hb hby at_72) rfl (l' := #[.val (.long q0), .second, .val (.long q1), .second, .val (.long q2), .second, .val (.int p3), .val (.long fr), .second, .val (.long to), .second, .val (.long lo), .second, .val (.int per), .val (.long r), .second, .val (.int (1 : Int32)), .val (.int (1 : Int32)), .unset]) rfl ?_
    show Steps p.tables e below (T2.setTop (mkF m 74 #[.val (.long q0), .second, .val (.long q1), .second, .val (.long q2), .second, .val (.int p3), .val (.long fr), .second, .val (.long to), .second, .val (.long lo), .second, .val (.int per), .val (.long r), .second, .val (.int (1 : Int32)), .val (.int (1 : Int32)), .unset] [])) _
    refine XS.lload X2.here hx rfl (hb hby at_74) rfl ?_
    show Steps p.tables e below (T2.setTop (mkF m 76 #[.val (.long q0), .second, .val (.long q1), .second, .val (.long q2), .second, .val (.int p3), .val (.long fr), .second, .val (.long to), .second, .val (.long lo), .second, .val (.int per), .val (.long r), .second, .val (.int (1 : Int32)), .val (.int (1 : Int32)), .unset] [(.long r)])) _
    refine XS.lload X2.here hx rfl (hb hby at_76) rfl ?_
    show Steps p.tables e below (T2.setTop (mkF m 78 #[.val (.long q0), .second, .val (.long q1), .second, .val (.long q2), .second, .val (.int p3), .val (.long fr), .second, .val (.long to), .second, .val (.long lo), .second, .val (.int per), .val (.long r), .second, .val (.int (1 : Int32)), .val (.int (1 : Int32)), .unset] [(.long to), (.long r)])) _
    refine XS.lload X2.here hx rfl (hb hby at_78) rfl ?_
    show Steps p.tables e below (T2.setTop (mkF m 80 #[.val (.long q0), .second, .val (.long q1), .second, .val (.long q2), .second, .val (.int p3), .val (.long fr), .second, .val (.long to), .second, .val (.long lo), .second, .val (.int per), .val (.long r), .second, .val (.int (1 : Int32)), .val (.int (1 : Int32)), .unset] [(.long fr), (.long to), (.long r)])) _
    refine XS.lsub X2.here hx rfl (hb hby at_80) rfl ?_
    show Steps p.tables e below (T2.setTop (mkF m 81 #[.val (.long q0), .second, .val (.long q1), .second, .val (.long q2), .second, .val (.int p3), .val (.long fr), .second, .val (.long to), .second, .val (.long lo), .second, .val (.int per), .val (.long r), .second, .val (.int (1 : Int32)), .val (.int (1 : Int32)), .unset] [(.long (to - fr)), (.long r)])) _
    refine XS.lsub X2.here hx rfl (hb hby at_81) rfl ?_
    show Steps p.tables e below (T2.setTop (mkF m 82 #[.val (.long q0), .second, .val (.long q1), .second, .val (.long q2), .second, .val (.int p3), .val (.long fr), .second, .val (.long to), .second, .val (.long lo), .second, .val (.int per), .val (.long r), .second, .val (.int (1 : Int32)), .val (.int (1 : Int32)), .unset] [(.long (r - (to - fr)))])) _
    refine XS.iload X2.here hx rfl (hb hby at_82) rfl ?_
    show Steps p.tables e below (T2.setTop (mkF m 84 #[.val (.long q0), .second, .val (.long q1), .second, .val (.long q2), .second, .val (.int p3), .val (.long fr), .second, .val (.long to), .second, .val (.long lo), .second, .val (.int per), .val (.long r), .second, .val (.int (1 : Int32)), .val (.int (1 : Int32)), .unset] [(.int per), (.long (r - (to - fr)))])) _
    refine XS.i2l X2.here hx rfl (hb hby at_84) rfl ?_
    show Steps p.tables e below (T2.setTop (mkF m 85 #[.val (.long q0), .second, .val (.long q1), .second, .val (.long q2), .second, .val (.int p3), .val (.long fr), .second, .val (.long to), .second, .val (.long lo), .second, .val (.int per), .val (.long r), .second, .val (.int (1 : Int32)), .val (.int (1 : Int32)), .unset] [(.long (per.toInt64)), (.long (r - (to - fr)))])) _
    refine XS.lrem X2.here hx rfl (hb hby at_85) rfl hnz ?_
    show Steps p.tables e below (T2.setTop (mkF m 86 #[.val (.long q0), .second, .val (.long q1), .second, .val (.long q2), .second, .val (.int p3), .val (.long fr), .second, .val (.long to), .second, .val (.long lo), .second, .val (.int per), .val (.long r), .second, .val (.int (1 : Int32)), .val (.int (1 : Int32)), .unset] [(.long ((r - (to - fr)) - ((r - (to - fr)) / (per.toInt64)) * (per.toInt64)))])) _
    refine XS.lconst X2.here hx rfl (hb hby at_86) ?_
    show Steps p.tables e below (T2.setTop (mkF m 87 #[.val (.long q0), .second, .val (.long q1), .second, .val (.long q2), .second, .val (.int p3), .val (.long fr), .second, .val (.long to), .second, .val (.long lo), .second, .val (.int per), .val (.long r), .second, .val (.int (1 : Int32)), .val (.int (1 : Int32)), .unset] [(.long (0 : Int64)), (.long ((r - (to - fr)) - ((r - (to - fr)) / (per.toInt64)) * (per.toInt64)))])) _
    refine XS.lcmp X2.here hx rfl (hb hby at_87) rfl ?_
    show Steps p.tables e below (T2.setTop (mkF m 88 #[.val (.long q0), .second, .val (.long q1), .second, .val (.long q2), .second, .val (.int p3), .val (.long fr), .second, .val (.long to), .second, .val (.long lo), .second, .val (.int per), .val (.long r), .second, .val (.int (1 : Int32)), .val (.int (1 : Int32)), .unset] [(.int (lcmpW ((r - (to - fr)) - ((r - (to - fr)) / (per.toInt64)) * (per.toInt64)) (0 : Int64)))])) _
    refine XS.ifNo X2.here hx rfl (hb hby at_88) rfl ((if0 _ _).trans (teq (own_leq (law3 : ((r - (to - fr)) - ((r - (to - fr)) / (per.toInt64)) * (per.toInt64)) = (0 : Int64)))).2) ?_
    show Steps p.tables e below (T2.setTop (mkF m 91 #[.val (.long q0), .second, .val (.long q1), .second, .val (.long q2), .second, .val (.int p3), .val (.long fr), .second, .val (.long to), .second, .val (.long lo), .second, .val (.int per), .val (.long r), .second, .val (.int (1 : Int32)), .val (.int (1 : Int32)), .unset] [])) _
    refine XS.iconst X2.here hx rfl (hb hby at_91) ?_
    show Steps p.tables e below (T2.setTop (mkF m 92 #[.val (.long q0), .second, .val (.long q1), .second, .val (.long q2), .second, .val (.int p3), .val (.long fr), .second, .val (.long to), .second, .val (.long lo), .second, .val (.int per), .val (.long r), .second, .val (.int (1 : Int32)), .val (.int (1 : Int32)), .unset] [(.int (1 : Int32))])) _
    refine XS.goto X2.here hx rfl (pc0 := 92) (pc' := 96) rfl (hb hby at_92) (by decide) (by decide) ?_
    show Steps p.tables e below (T2.setTop (mkF m 96 #[.val (.long q0), .second, .val (.long q1), .second, .val (.long q2), .second, .val (.int p3), .val (.long fr), .second, .val (.long to), .second, .val (.long lo), .second, .val (.int per), .val (.long r), .second, .val (.int (1 : Int32)), .val (.int (1 : Int32)), .unset] [(.int (1 : Int32))])) _
    refine XS.istore X2.here hx rfl (hb hby at_96) rfl (l' := #[.val (.long q0), .second, .val (.long q1), .second, .val (.long q2), .second, .val (.int p3), .val (.long fr), .second, .val (.long to), .second, .val (.long lo), .second, .val (.int per), .val (.long r), .second, .val (.int (1 : Int32)), .val (.int (1 : Int32)), .val (.int (1 : Int32))]) rfl ?_
    show Steps p.tables e below (T2.setTop (mkF m 98 #[.val (.long q0), .second, .val (.long q1), .second, .val (.long q2), .second, .val (.int p3), .val (.long fr), .second, .val (.long to), .second, .val (.long lo), .second, .val (.int per), .val (.long r), .second, .val (.int (1 : Int32)), .val (.int (1 : Int32)), .val (.int (1 : Int32))] [])) _
    refine XS.iload X2.here hx rfl (hb hby at_98) rfl ?_
    show Steps p.tables e below (T2.setTop (mkF m 100 #[.val (.long q0), .second, .val (.long q1), .second, .val (.long q2), .second, .val (.int p3), .val (.long fr), .second, .val (.long to), .second, .val (.long lo), .second, .val (.int per), .val (.long r), .second, .val (.int (1 : Int32)), .val (.int (1 : Int32)), .val (.int (1 : Int32))] [(.int (1 : Int32))])) _
    refine XS.ifNo X2.here hx rfl (hb hby at_100) rfl ((if0 _ _).trans (feq ((by decide) : ¬ ((1 : Int32) = (0 : Int32)))).1) ?_
    show Steps p.tables e below (T2.setTop (mkF m 103 #[.val (.long q0), .second, .val (.long q1), .second, .val (.long q2), .second, .val (.int p3), .val (.long fr), .second, .val (.long to), .second, .val (.long lo), .second, .val (.int per), .val (.long r), .second, .val (.int (1 : Int32)), .val (.int (1 : Int32)), .val (.int (1 : Int32))] [])) _
    refine XS.iload X2.here hx rfl (hb hby at_103) rfl ?_
    show Steps p.tables e below (T2.setTop (mkF m 105 #[.val (.long q0), .second, .val (.long q1), .second, .val (.long q2), .second, .val (.int p3), .val (.long fr), .second, .val (.long to), .second, .val (.long lo), .second, .val (.int per), .val (.long r), .second, .val (.int (1 : Int32)), .val (.int (1 : Int32)), .val (.int (1 : Int32))] [(.int (1 : Int32))])) _
    refine XS.ifNo X2.here hx rfl (hb hby at_105) rfl ((if0 _ _).trans (feq ((by decide) : ¬ ((1 : Int32) = (0 : Int32)))).1) ?_
    show Steps p.tables e below (T2.setTop (mkF m 108 #[.val (.long q0), .second, .val (.long q1), .second, .val (.long q2), .second, .val (.int p3), .val (.long fr), .second, .val (.long to), .second, .val (.long lo), .second, .val (.int per), .val (.long r), .second, .val (.int (1 : Int32)), .val (.int (1 : Int32)), .val (.int (1 : Int32))] [])) _
    refine XS.iload X2.here hx rfl (hb hby at_108) rfl ?_
    show Steps p.tables e below (T2.setTop (mkF m 110 #[.val (.long q0), .second, .val (.long q1), .second, .val (.long q2), .second, .val (.int p3), .val (.long fr), .second, .val (.long to), .second, .val (.long lo), .second, .val (.int per), .val (.long r), .second, .val (.int (1 : Int32)), .val (.int (1 : Int32)), .val (.int (1 : Int32))] [(.int (1 : Int32))])) _
    refine XS.ifNo X2.here hx rfl (hb hby at_110) rfl ((if0 _ _).trans (feq ((by decide) : ¬ ((1 : Int32) = (0 : Int32)))).1) ?_
    show Steps p.tables e below (T2.setTop (mkF m 113 #[.val (.long q0), .second, .val (.long q1), .second, .val (.long q2), .second, .val (.int p3), .val (.long fr), .second, .val (.long to), .second, .val (.long lo), .second, .val (.int per), .val (.long r), .second, .val (.int (1 : Int32)), .val (.int (1 : Int32)), .val (.int (1 : Int32))] [])) _
    refine XS.iconst X2.here hx rfl (hb hby at_113) ?_
    show Steps p.tables e below (T2.setTop (mkF m 114 #[.val (.long q0), .second, .val (.long q1), .second, .val (.long q2), .second, .val (.int p3), .val (.long fr), .second, .val (.long to), .second, .val (.long lo), .second, .val (.int per), .val (.long r), .second, .val (.int (1 : Int32)), .val (.int (1 : Int32)), .val (.int (1 : Int32))] [(.int (1 : Int32))])) _
    refine XS.goto X2.here hx rfl (pc0 := 114) (pc' := 118) rfl (hb hby at_114) (by decide) (by decide) ?_
    exact kt
  refine own_ret X2 (v := some (.int (1 : Int32))) (fun h => by rw [Bd.returns] at h; cases h) hlk (by decide) (by decide) ?_ (fun fs hr => ?_)
  · show Q0 Z q0 q1 q2 p3 h0 n0 (some (.int (1 : Int32))) T2.heap _
    rw [eq2]
    exact ⟨rfl, N2⟩
  · show Steps p.tables e below (T2.setTop (mkF m 118 #[.val (.long q0), .second, .val (.long q1), .second, .val (.long q2), .second, .val (.int p3), .val (.long fr), .second, .val (.long to), .second, .val (.long lo), .second, .val (.int per), .val (.long r), .second, .val (.int (1 : Int32)), .val (.int (1 : Int32)), .val (.int (1 : Int32))] [(.int (1 : Int32))])) _
    exact retN X2 hx (t := .boolean) Bd.returns (by simp) (hb hby at_118) hr
set_option maxRecDepth 65536 in
set_option maxHeartbeats 40000000 in
theorem comes_1 {Post : Tables → Env → Array Value → State → Outcome → State → Prop} (hpost : ∀ tb e args s v u, (limb_1_1.after args s (.returned v) u = true ∧ limb_1_2.after args s (.returned v) u = true ∧ True) → FrameEnd s (.returned v) u (Jvm.fieldLocs frame_1_writes args s ++ Jvm.arrayLocs frame_1_arrays args s ++ Jvm.staticLocs frame_1_statics s) 0 0 → Post tb e args s (.returned v) u) :
    ArmFor flags0 classFile x code maxLocals ret World_1 tables_1 room_1 Calls_1 rest_1 Pre_1 Post := by
  intro l hfl _ _ p e ha hc hk s m args below hf hA hF happ hP
  obtain ⟨hcalls, hrest, hpre⟩ := hP
  obtain ⟨-, -, -, hnamed, -, -, -, hat⟩ := (Spec.applies_iff hf).mp happ
  obtain ⟨hg, hn⟩ := and_e (Cond.before_iff.mp (show (Jvm.Cond.and given_1 narrow_1).before args s = true from hpre))
  obtain ⟨gg1, gg2⟩ := and_e hg
  obtain ⟨gg3, gg4⟩ := and_e gg2
  obtain ⟨gg5, gg6⟩ := and_e gg4
  obtain ⟨gg7, gg8⟩ := and_e gg6
  obtain ⟨w0, w1, w2, w3, rfl⟩ : ∃ w0 w1 w2 w3 : Value, args = #[w0, w1, w2, w3] := by
    have hs : args.size = 4 := by simpa [Cond.value, given_1] using gg1
    obtain ⟨L⟩ := args
    match L, hs with
    | [w0, w1, w2, w3], _ => exact ⟨w0, w1, w2, w3, rfl⟩
  have hw := fun d (hd : d ∈ tables_1) => atoms_spec (ws := Jvm.Cond.code x code maxLocals ret :: tables_1) hat d (List.mem_cons_of_mem _ hd)
  have hfit : Fit s := fun {y c} hc i hi => by
    obtain ⟨ha, rfl⟩ := Array.getElem?_eq_some_iff.mp hc
    have q := List.all_eq_true.mp ((Array.all_eq_true_iff_forall_mem.mp hF) _ (Array.getElem_mem ha)) i (List.mem_range.mpr hi)
    simpa [Array.getElem?_eq_getElem hi] using q
  obtain ⟨i0, ei0⟩ := isL_v gg3
  obtain rfl : w0 = (.long i0) := Option.some.inj ei0
  obtain ⟨i1, ei1⟩ := isL_v gg5
  obtain rfl : w1 = (.long i1) := Option.some.inj ei1
  obtain ⟨i2, ei2⟩ := isL_v gg7
  obtain rfl : w2 = (.long i2) := Option.some.inj ei2
  obtain ⟨i3, ei3⟩ := is_v gg8
  obtain rfl : w3 = (.int i3) := Option.some.inj ei3
  obtain ⟨n, o, h1, h2, h3, _, L, rfl, ⟨rfl, N⟩, hq⟩ := rm0 l s _ hw tables_1 i0 i1 i2 i3 s.heap s.heap.size (Nat.le_refl _)  p e ha hc hk s m _ below hf ((Spec.applies_iff_loose hf).mp happ).1 ⟨rfl, State.Warmed39.refl s, rfl⟩ trivial
  refine ⟨n, _, h1, h2, h3, hpost _ _ _ _ _ _ ⟨Cond.after_iff.mpr rfl, Cond.after_iff.mpr (eq_i res_at (Term.int_eval (1)) rfl), trivial⟩ ⟨hq.1, hq.2.1, (hq.2.2.sift fun y hy => Or.inr (N y hy)).mono (by decide) (by decide)⟩⟩
theorem main_1_1 : Claimed_1_1 := comes_1 fun _ _ _ _ _ _ h hF => ⟨h.1, hF⟩
theorem main_1_2 : Claimed_1_2 := comes_1 fun _ _ _ _ _ _ h hF => ⟨h.2.1, hF⟩
end Jvm.Pilot.@@N@@
namespace Jvm.Pilot.@@N@@
open Jvm Jvm.ClassFile Sem Op Lib Jvm.Free Jvm.Stand Jvm.Pilot.@@N@@.Jvm.D
/-! MADE BY PROGRAM (witnessworld.py) out of the Statement's table words and the real class files: 10 classes; the members and pool entries that the words name. The judged class is class 1, her method 1. -/
namespace start1
open Jvm.ClassFile
def u (s : String) : CpInfo := .utf8 (stringToUtf16 s)
/-- a pool by its gaps: so many unusable entries, then the entry; so many at the end -/
def gap : Nat → List CpInfo → List CpInfo
  | 0, r => r
  | n + 1, r => .unusable :: gap n r
def poolList (es : List (Nat × CpInfo)) (last : Nat) : List CpInfo := es.foldr (fun e r => gap e.1 (e.2 :: r)) (gap last [])
def pool (es : List (Nat × CpInfo)) (last : Nat) : Array CpInfo := ⟨poolList es last⟩
def fileOf (pool : Array CpInfo) (this : Nat) (attrs : Array Attribute := #[]) (ms : Array MethodInfo := #[]) (fl : Nat := 33) (sup : Nat := 0) (ifs : Array Nat := #[]) (fds : Array FieldInfo := #[]) : ClassFile where
  minorVersion := 0
  majorVersion := 65
  constantPool := pool
  accessFlags := fl
  thisClass := this
  superClass := sup
  interfaces := ifs
  fields := fds
  methods := ms
  attributes := attrs
def plain (name : String) (sup : Option ClassId) : Class where
  name := name
  kind := .ordinary
  loader := none
  accessFlags := 33
  super := sup
  interfaces := #[]
  cf := none
  fields := #[]
  methods := #[]
  instanceTypes := #[]
  staticTypes := #[]
  resolved := #[]
  callSites := []
  init := .initialized
  statics := none
  mirror := none

def pool0 : Array CpInfo := pool [(5, u "<init>"), (0, u "()V"), (1, .class_ 10), (1, u "java/lang/Object")] 113

def k0m0 : Method := { name := "<init>", desc := "()V", sig := { parameters := [], returnType := none }, accessFlags := 1, code := none }
/-- java/lang/Object -/
def k0 : Class := { plain "java/lang/Object" none with
  accessFlags := 33
  interfaces := #[]
  cf := some (fileOf pool0 8 #[] #[{ accessFlags := 1, nameIndex := 5, descriptorIndex := 6, attributes := #[] }] 33 0 #[] #[])
  fields := #[]
  methods := #[k0m0]
  instanceTypes := #[]
  staticTypes := #[]
  resolved := Array.replicate 124 none
  statics := none }

def pool1 : Array CpInfo := pool [(2, .class_ 4), (1, u "java/lang/Object"), (0, u "<init>"), (0, u "()V"), (0, .integer 2147483647), (0, .methodref 9 10), (0, .class_ 11), (0, .nameAndType 12 13), (0, u "java/lang/Math"), (0, u "max"), (0, u "(II)I"), (0, .methodref 15 16), (0, .class_ 17), (0, .nameAndType 18 19), (0, u "com/example/turnwise/turnwise/evaluation/EventNetwork"), (0, u "duration"), (0, u "(JJJI)J"), (0, .class_ 21), (0, u "com/example/turnwise/turnwise/evaluation/EventNetworkDurationPinLaw"), (2, u "law"), (0, u "(JJJI)Z")] 3

def k1m0 : Method := { name := "<init>", desc := "()V", sig := { parameters := [], returnType := none }, accessFlags := 1, code := none }
def k1c1 : Code := { maxStack := 7, maxLocals := 19, code := code, exceptionTable := #[], attributes := #[] }
def k1m1 : Method := { name := "law", desc := "(JJJI)Z", sig := { parameters := [.long, .long, .long, .int], returnType := some .boolean }, accessFlags := 9, code := some k1c1 }
/-- com/example/turnwise/turnwise/evaluation/EventNetworkDurationPinLaw -/
def k1 : Class := { plain "com/example/turnwise/turnwise/evaluation/EventNetworkDurationPinLaw" (some 0) with
  accessFlags := 49
  interfaces := #[]
  cf := some (fileOf pool1 20 #[] #[{ accessFlags := 1, nameIndex := 5, descriptorIndex := 6, attributes := #[] }, { accessFlags := 9, nameIndex := 24, descriptorIndex := 25, attributes := #[] }] 49 2 #[] #[])
  fields := #[]
  methods := #[k1m0, k1m1]
  instanceTypes := #[]
  staticTypes := #[]
  resolved := Array.replicate 29 none
  statics := none }

def pool2 : Array CpInfo := pool [(1, .class_ 2), (0, u "java/lang/Math"), (1, .class_ 6), (1, u "java/lang/Object"), (0, u "<init>"), (0, u "()V"), (89, .class_ 100), (1, u "java/lang/Math$RandomNumberGeneratorHolder"), (20, u "(JJ)J"), (26, u "floorMod"), (23, u "negativeZeroFloatBits"), (0, u "J"), (2, u "negativeZeroDoubleBits"), (21, u "max"), (46, u "$assertionsDisabled"), (0, u "Z"), (88, u "(II)I"), (2, u "twoToTheDoubleScaleDown"), (0, u "D"), (4, u "twoToTheDoubleScaleUp"), (9, u "E"), (3, u "PI"), (2, u "TAU"), (2, u "DEGREES_TO_RADIANS"), (0, u "RADIANS_TO_DEGREES")] 94

def k2m0 : Method := { name := "<init>", desc := "()V", sig := { parameters := [], returnType := none }, accessFlags := 2, code := none }
def k2c1 : Code := { maxStack := 4, maxLocals := 6, code := jdk_29_method_52_code, exceptionTable := #[], attributes := #[] }
def k2m1 : Method := { name := "floorMod", desc := "(JJ)J", sig := { parameters := [.long, .long], returnType := some .long }, accessFlags := 9, code := some k2c1 }
def k2c2 : Code := { maxStack := 2, maxLocals := 2, code := jdk_29_method_65_code, exceptionTable := #[], attributes := #[] }
def k2m2 : Method := { name := "max", desc := "(II)I", sig := { parameters := [.int, .int], returnType := some .int }, accessFlags := 9, code := some k2c2 }
/-- java/lang/Math -/
def k2 : Class := { plain "java/lang/Math" (some 0) with
  accessFlags := 49
  interfaces := #[]
  cf := some (fileOf pool2 1 #[.nestMembers #[98]] #[{ accessFlags := 2, nameIndex := 7, descriptorIndex := 8, attributes := #[] }, { accessFlags := 9, nameIndex := 148, descriptorIndex := 121, attributes := #[] }, { accessFlags := 9, nameIndex := 198, descriptorIndex := 335, attributes := #[] }] 49 4 #[] #[{ accessFlags := 25, nameIndex := 354, descriptorIndex := 339, attributes := #[] }, { accessFlags := 25, nameIndex := 358, descriptorIndex := 339, attributes := #[] }, { accessFlags := 25, nameIndex := 361, descriptorIndex := 339, attributes := #[] }, { accessFlags := 26, nameIndex := 364, descriptorIndex := 339, attributes := #[] }, { accessFlags := 26, nameIndex := 365, descriptorIndex := 339, attributes := #[] }, { accessFlags := 26, nameIndex := 172, descriptorIndex := 173, attributes := #[] }, { accessFlags := 26, nameIndex := 176, descriptorIndex := 173, attributes := #[] }, { accessFlags := 8, nameIndex := 344, descriptorIndex := 339, attributes := #[] }, { accessFlags := 8, nameIndex := 338, descriptorIndex := 339, attributes := #[] }, { accessFlags := 4120, nameIndex := 245, descriptorIndex := 246, attributes := #[] }])
  fields := #[{ name := "E", type := .double, accessFlags := 25, slot := 0, constantValue := 0 }, { name := "PI", type := .double, accessFlags := 25, slot := 1, constantValue := 0 }, { name := "TAU", type := .double, accessFlags := 25, slot := 2, constantValue := 0 }, { name := "DEGREES_TO_RADIANS", type := .double, accessFlags := 26, slot := 3, constantValue := 0 }, { name := "RADIANS_TO_DEGREES", type := .double, accessFlags := 26, slot := 4, constantValue := 0 }, { name := "negativeZeroFloatBits", type := .long, accessFlags := 26, slot := 5, constantValue := 0 }, { name := "negativeZeroDoubleBits", type := .long, accessFlags := 26, slot := 6, constantValue := 0 }, { name := "twoToTheDoubleScaleUp", type := .double, accessFlags := 8, slot := 7, constantValue := 0 }, { name := "twoToTheDoubleScaleDown", type := .double, accessFlags := 8, slot := 8, constantValue := 0 }, { name := "$assertionsDisabled", type := .boolean, accessFlags := 4120, slot := 9, constantValue := 0 }]
  methods := #[k2m0, k2m1, k2m2]
  instanceTypes := #[]
  staticTypes := #[.double, .double, .double, .double, .double, .long, .long, .double, .double, .boolean]
  resolved := Array.replicate 460 none
  statics := none }

def pool3 : Array CpInfo := pool [(2, .class_ 4), (1, u "java/lang/Object"), (6, .class_ 13), (1, u "com/example/turnwise/turnwise/evaluation/EventNetwork"), (0, u "events"), (0, u "Ljava/util/List;"), (2, u "activities"), (2, u "offsets"), (5, u "firstEvents"), (0, u "Ljava/util/Map;"), (2, u "lastEvents"), (2, u "arrivalsAt"), (2, u "departuresAt"), (10, u "period"), (3, u "I"), (76, .class_ 130), (0, u "com/example/turnwise/turnwise/evaluation/EventNetwork$Event"), (18, .class_ 151), (1, u "com/example/turnwise/turnwise/evaluation/EventNetwork$Kind"), (44, u "duration"), (0, u "(JJJI)J"), (0, .class_ 199), (0, u "com/example/turnwise/turnwise/evaluation/EventNetwork$Activity"), (3, .methodref 204 205), (0, .class_ 206), (0, .nameAndType 207 208), (0, u "java/lang/Math"), (0, u "floorMod"), (0, u "(JJ)J")] 96

def k3c0 : Code := { maxStack := 4, maxLocals := 7, code := prog_8_method_3_code, exceptionTable := #[], attributes := #[] }
def k3m0 : Method := { name := "duration", desc := "(JJJI)J", sig := { parameters := [.long, .long, .long, .int], returnType := some .long }, accessFlags := 9, code := some k3c0 }
/-- com/example/turnwise/turnwise/evaluation/EventNetwork -/
def k3 : Class := { plain "com/example/turnwise/turnwise/evaluation/EventNetwork" (some 0) with
  accessFlags := 49
  interfaces := #[]
  cf := some (fileOf pool3 11 #[.nestMembers #[198, 129, 149]] #[{ accessFlags := 9, nameIndex := 196, descriptorIndex := 197, attributes := #[] }] 49 2 #[] #[{ accessFlags := 18, nameIndex := 48, descriptorIndex := 52, attributes := #[] }, { accessFlags := 18, nameIndex := 14, descriptorIndex := 15, attributes := #[] }, { accessFlags := 18, nameIndex := 18, descriptorIndex := 15, attributes := #[] }, { accessFlags := 18, nameIndex := 21, descriptorIndex := 15, attributes := #[] }, { accessFlags := 18, nameIndex := 27, descriptorIndex := 28, attributes := #[] }, { accessFlags := 18, nameIndex := 31, descriptorIndex := 28, attributes := #[] }, { accessFlags := 18, nameIndex := 34, descriptorIndex := 28, attributes := #[] }, { accessFlags := 18, nameIndex := 37, descriptorIndex := 28, attributes := #[] }])
  fields := #[{ name := "period", type := .int, accessFlags := 18, slot := 0, constantValue := 0 }, { name := "events", type := (.object "java/util/List"), accessFlags := 18, slot := 1, constantValue := 0 }, { name := "activities", type := (.object "java/util/List"), accessFlags := 18, slot := 2, constantValue := 0 }, { name := "offsets", type := (.object "java/util/List"), accessFlags := 18, slot := 3, constantValue := 0 }, { name := "firstEvents", type := (.object "java/util/Map"), accessFlags := 18, slot := 4, constantValue := 0 }, { name := "lastEvents", type := (.object "java/util/Map"), accessFlags := 18, slot := 5, constantValue := 0 }, { name := "arrivalsAt", type := (.object "java/util/Map"), accessFlags := 18, slot := 6, constantValue := 0 }, { name := "departuresAt", type := (.object "java/util/Map"), accessFlags := 18, slot := 7, constantValue := 0 }]
  methods := #[k3m0]
  instanceTypes := #[.int, (.object "java/util/List"), (.object "java/util/List"), (.object "java/util/List"), (.object "java/util/Map"), (.object "java/util/Map"), (.object "java/util/Map"), (.object "java/util/Map")]
  staticTypes := #[]
  resolved := Array.replicate 305 none
  statics := none }

def pool4 : Array CpInfo := pool [(1, u "java/lang/Cloneable"), (0, .class_ 1), (0, u "java/lang/Object"), (0, .class_ 3)] 3

/-- java/lang/Cloneable -/
def k4 : Class := { plain "java/lang/Cloneable" (some 0) with
  accessFlags := 1537
  interfaces := #[]
  cf := some (fileOf pool4 2 #[] #[] 1537 4 #[] #[])
  fields := #[]
  methods := #[]
  instanceTypes := #[]
  staticTypes := #[]
  resolved := Array.replicate 8 none
  statics := none }

def pool5 : Array CpInfo := pool [(1, u "java/io/Serializable"), (0, .class_ 1), (0, u "java/lang/Object"), (0, .class_ 3)] 3

/-- java/io/Serializable -/
def k5 : Class := { plain "java/io/Serializable" (some 0) with
  accessFlags := 1537
  interfaces := #[]
  cf := some (fileOf pool5 2 #[] #[] 1537 4 #[] #[])
  fields := #[]
  methods := #[]
  instanceTypes := #[]
  staticTypes := #[]
  resolved := Array.replicate 8 none
  statics := none }

/-- the primitive byte -/
def k6 : Class := { plain "byte" none with kind := .primitive 'B', accessFlags := 0x411 }
/-- [B -/
def k7 : Class := { plain "[B" (some 0) with kind := .array 6 .byte, interfaces := #[4, 5], accessFlags := 1041 }

/-- the primitive int -/
def k8 : Class := { plain "int" none with kind := .primitive 'I', accessFlags := 0x411 }
/-- [I -/
def k9 : Class := { plain "[I" (some 0) with kind := .array 8 .int, interfaces := #[4, 5], accessFlags := 1041 }

def heap : Heap := #[]
def classes : Array Class := #[k0, k1, k2, k3, k4, k5, k6, k7, k8, k9]
def interned : List (Array UInt16 × Addr) := []
def slotsUsed : Nat := 0
def theMethod : MethodId := ⟨1, 1⟩
def args0 : Array Value := #[.long 100, .long 50, .long 8, .int 7]
def aboutOver (below : List Frame) : State where
  vm := { classes := classes, interned := interned.toArray }
  heap := heap
  slotsUsed := slotsUsed
  threads := #[{ frames := .invoking theMethod args0 :: below }]
def below0 : List Frame := [.native { method := ⟨0, 0⟩, args := #[] }]
def about1 : State := aboutOver below0
def p0 : Program := .bare "" "" ""
def e0 : Env := launch0.env 0 0 0
theorem w_frames : about1.frames = Frame.invoking theMethod args0 :: below0 := rfl
set_option maxRecDepth 65536 in
theorem w_args : argsFit about1.vm theMethod args0 = true := by decide +kernel
set_option maxRecDepth 65536 in
theorem w_heap : heapFits about1 = true := by decide +kernel
set_option maxRecDepth 65536 in
theorem w_runnable : about1.curStatus? = some .runnable := by decide +kernel
set_option maxRecDepth 65536 in
theorem w_alone : about1.alone = true := by decide +kernel
set_option maxRecDepth 65536 in
theorem w_named : about1.methodNamed? x = some theMethod := by decide +kernel
set_option maxRecDepth 65536 in
theorem w_hears : about1.hears theMethod below0 = true := by decide +kernel
set_option maxRecDepth 65536 in
theorem w_ripe : about1.ripe theMethod args0 below0 = true := by decide +kernel
theorem w_running : about1.status = .running := rfl
set_option maxRecDepth 65536 in
theorem w_room : about1.hasRoom e0.platform room_1 = true :=
  launch0.hasRoom_least _ room_1 (by decide +kernel) (by decide +kernel) (by decide +kernel) (by decide +kernel) (by decide +kernel) (by decide +kernel)
theorem allAtoms_all (ts : List Jvm.Cond) (a : Array Jvm.Value) (st : Jvm.State) : (allAtoms ts).before a st = ts.all (fun c => c.before a st) := by
  induction ts with
  | nil => rfl
  | cons c t ih =>
    show (Jvm.Cond.and c (allAtoms t)).before a st = _
    rw [Jvm.Cond.before_and, ih, List.all_cons]
def words1 : List Jvm.Cond := Jvm.Cond.code x code maxLocals ret :: tables_1
/-- a 'code' word, met by the world's own term for the bytes: nothing is compared byte by byte -/
theorem code_word {y : MethodName} {bytes : ByteArray} {mx : Nat} {rt : Option FieldType} {a : Array Value} {s : State} {m : MethodId} {meth : Method} {c : Code} (h1 : s.methodNamed? y = some m) (h2 : s.vm.method? m = some meth) (h3 : meth.code = some c) (h4 : c.code = bytes)
    (h5 : (c.maxLocals == mx && c.exceptionTable.isEmpty && decide (c.maxStack ≤ mostOperands) && decide (meth.sig.returnType = rt) && !meth.locks && decide (parseMethodDescriptor y.desc = some meth.sig)) = true) : (Jvm.Cond.code y bytes mx rt).before a s = true := by
  simp only [Bool.and_eq_true, beq_iff_eq, Bool.not_eq_true', decide_eq_true_eq] at h5
  obtain ⟨⟨⟨⟨⟨g1, g2⟩, g3⟩, g4⟩, g5⟩, g6⟩ := h5
  simp [Cond.before, Cond.holds, Cond.value, h1, h2, h3, h4, g1, g2, g3, g4, g5, g6]
def isCode : Jvm.Cond → Bool
  | .code _ _ _ _ => true
  | _ => false
theorem all_split {L : List Jvm.Cond} {P : Jvm.Cond → Bool} (h1 : L.all (fun c => isCode c || P c) = true) (h2 : ∀ c ∈ L.filter isCode, P c = true) : L.all P = true := by
  refine List.all_eq_true.mpr fun c hc => ?_
  have h := List.all_eq_true.mp h1 c hc
  rcases Bool.eq_false_or_eq_true (isCode c) with hi | hi
  · exact h2 c (List.mem_filter.mpr ⟨hc, hi⟩)
  · simpa [hi] using h
set_option maxRecDepth 65536 in
theorem w_c0 : (Jvm.Cond.code x code maxLocals ret).before args0 about1 = true := code_word (m := ⟨1, 1⟩) (meth := k1m1) (c := k1c1) (by decide +kernel) rfl rfl rfl (by decide +kernel)
set_option maxRecDepth 65536 in
theorem w_c1 : (Jvm.Cond.code ({ cls := "java/lang/Math", name := "max", desc := "(II)I" } : Jvm.MethodName) jdk_29_method_65_code (2 : Nat) (Option.some Jvm.ClassFile.FieldType.int)).before args0 about1 = true := code_word (m := ⟨2, 2⟩) (meth := k2m2) (c := k2c2) (by decide +kernel) rfl rfl rfl (by decide +kernel)
set_option maxRecDepth 65536 in
theorem w_c2 : (Jvm.Cond.code ({ cls := "com/example/turnwise/turnwise/evaluation/EventNetwork", name := "duration", desc := "(JJJI)J" } : Jvm.MethodName) prog_8_method_3_code (7 : Nat) (Option.some Jvm.ClassFile.FieldType.long)).before args0 about1 = true := code_word (m := ⟨3, 0⟩) (meth := k3m0) (c := k3c0) (by decide +kernel) rfl rfl rfl (by decide +kernel)
set_option maxRecDepth 65536 in
theorem w_c3 : (Jvm.Cond.code ({ cls := "java/lang/Math", name := "floorMod", desc := "(JJ)J" } : Jvm.MethodName) jdk_29_method_52_code (6 : Nat) (Option.some Jvm.ClassFile.FieldType.long)).before args0 about1 = true := code_word (m := ⟨2, 1⟩) (meth := k2m1) (c := k2c1) (by decide +kernel) rfl rfl rfl (by decide +kernel)
def codes1 : List Jvm.Cond := [Jvm.Cond.code x code maxLocals ret, Jvm.Cond.code ({ cls := "java/lang/Math", name := "max", desc := "(II)I" } : Jvm.MethodName) jdk_29_method_65_code (2 : Nat) (Option.some Jvm.ClassFile.FieldType.int), Jvm.Cond.code ({ cls := "com/example/turnwise/turnwise/evaluation/EventNetwork", name := "duration", desc := "(JJJI)J" } : Jvm.MethodName) prog_8_method_3_code (7 : Nat) (Option.some Jvm.ClassFile.FieldType.long), Jvm.Cond.code ({ cls := "java/lang/Math", name := "floorMod", desc := "(JJ)J" } : Jvm.MethodName) jdk_29_method_52_code (6 : Nat) (Option.some Jvm.ClassFile.FieldType.long)]
set_option maxRecDepth 65536 in
theorem codes_eq : words1.filter isCode = codes1 := rfl
theorem w_codes : ∀ c ∈ words1.filter isCode, c.before args0 about1 = true := by
  rw [codes_eq]
  intro c hc
  simp only [codes1, List.mem_cons, List.not_mem_nil, or_false] at hc
  rcases hc with rfl | rfl | rfl | rfl
  · exact w_c0
  · exact w_c1
  · exact w_c2
  · exact w_c3
set_option maxRecDepth 65536 in
theorem w_t1 : words1.all (fun c => isCode c || c.before args0 about1) = true := by decide +kernel
theorem w_tables : (allAtoms (Jvm.Cond.code x code maxLocals ret :: tables_1)).before args0 about1 = true := by
  rw [allAtoms_all]
  show words1.all (fun c => c.before args0 about1) = true
  refine all_split ?_ w_codes
  rw [w_t1]
set_option maxRecDepth 65536 in
theorem w_case : (Jvm.Cond.and given_1 narrow_1).before args0 about1 = true := by decide +kernel
theorem w_applies : (headSpec (Jvm.Cond.code x code maxLocals ret :: tables_1) room_1).applies x e0.platform about1 = true :=
  (Spec.applies_iff w_frames).mpr ⟨w_running, w_runnable, w_alone, w_named, w_hears, w_ripe, w_room, w_tables⟩
theorem atStart : AtStart classFile x code maxLocals ret World_1 tables_1 room_1 Calls_1 rest_1 Pre_1 launch0 p0 e0 about1 theMethod args0 below0 :=
  ⟨lists_1, trivial, launch0.admits_env _ _ _, launch0.least_env, fairChoices_fair.cas, fairChoices_fair.clock, w_frames, w_args, w_heap, w_applies, trivial, trivial, w_case⟩
end start1
theorem witness_1 : WitnessClaimed_1 := ⟨start1.p0, start1.e0, start1.about1, start1.theMethod, start1.args0, start1.below0, start1.atStart⟩
end Jvm.Pilot.@@N@@
