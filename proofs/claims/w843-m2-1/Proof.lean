import JvmDerived
import JvmDerived.Pilot.@@N@@Statement
import JvmDerived.Pilot.@@N@@Code
set_option linter.unusedVariables false
set_option linter.unusedSimpArgs false
@@BLOCK:NumsL.lean.txt@@
namespace Jvm.RoadKit
open Sem ClassFile Op Lib Jvm.Stand Jvm.Free Jvm.LawKit
section New
variable {p : Program} {l : Launch} {e : Env} {R : Room} {s : State} {m : MethodId} {args : Array Value} {below : List Frame} {meth : Method} {c : Code} {T : State} {locs : List Loc} {cells slots : Nat}
theorem retI (X : Stand p l e R s m args below meth c T locs cells slots) (hx : p.tables.exec = Jvm.exec) {pc : Nat} {Ls : Array Slot} {z : Int32} {rest : List Value} (hret : meth.sig.returnType = some .int) (hd : decode c.code pc = .ok (.ireturn, 1)) {fs : List Frame}
    (hl : ∀ (f : JFrame) (acts : List Action), f.method = m → f.locked = none → f.entered = [] → (doReturn e (T.setTop f) acts (some (.int z))).1 = T.setFrames fs) : Steps p.tables e below (T.setTop (mkF m pc Ls (.int z :: rest))) (T.setFrames fs) := by
  have hm' : T.vm.method? m = some meth := X.method'
  have hn : narrow .int (.int z) = .int z := rfl
  show Steps p.tables e below (T.setTop { method := m, pc := pc, locals := Ls, stack := _ :: rest, locked := none }) _
  jvm_step X.here [X.here.top, hx, hd, hm', hret, hn]
  first | (intro acts; rw [hl _ acts rfl rfl rfl]) | rw [hl _ _ rfl rfl rfl]
  exact Steps.refl _
end New
end Jvm.RoadKit
namespace Jvm.Pilot.@@N@@
open Jvm Jvm.ClassFile Sem Op Lib Jvm.Free Jvm.Stand Jvm.LawKit Jvm.RoadKit Bundle Jvm.Pilot.@@N@@.Jvm.D
/-- what is still to be run from the state A on: it ends, returned, and Q says what it leaves -/
def own_Gl (FE : State → Outcome → State → List Loc → Nat → Nat → Prop) (p : Program) (e : Env) (below : List Frame) (s : State) (Q : Option Value → Heap → List Loc → Prop) (C N : Nat) (A : State) : Prop :=
  ∃ s₂ o, Steps p.tables e below A s₂ ∧ s₂.status = .running ∧ Ended s₂ below o ∧ ∃ v L, o = .returned v ∧ Q v s₂.heap L ∧ FE s o s₂ L C N
theorem own_st {FE : State → Outcome → State → List Loc → Nat → Nat → Prop} {p : Program} {e : Env} {below : List Frame} {s : State} {Q : Option Value → Heap → List Loc → Prop} {C N : Nat} {A A' : State} (h : ∀ t, Steps p.tables e below A' t → Steps p.tables e below A t) (k : own_Gl FE p e below s Q C N A') : own_Gl FE p e below s Q C N A := by
  obtain ⟨s2, o, h1, r⟩ := k
  exact ⟨s2, o, h _ h1, r⟩
theorem own_tr {FE : State → Outcome → State → List Loc → Nat → Nat → Prop} {p : Program} {e : Env} {below : List Frame} {s : State} {Q : Option Value → Heap → List Loc → Prop} {C N : Nat} {A A' : State} (h : Steps p.tables e below A A') (k : own_Gl FE p e below s Q C N A') : own_Gl FE p e below s Q C N A := by
  obtain ⟨s2, o, h1, r⟩ := k
  exact ⟨s2, o, h.trans h1, r⟩
theorem own_ret {p : Program} {l : Launch} {e : Env} {R : Room} {s : State} {m : MethodId} {args : Array Value} {below : List Frame} {meth : Method} {c : Code} {T : State} {locs : List Loc} {cells slots : Nat} {Q : Option Value → Heap → List Loc → Prop} {C N : Nat} {A : State}
    (X : Stand p l e R s m args below meth c T locs cells slots) {v : Option Value} (hv : meth.sig.returnType = none → v = none) (hlocks : meth.locks = false) (hC : cells ≤ C) (hN : slots ≤ N) (q : Q v T.heap locs)
    (h : ∀ fs, (∀ (f : JFrame) (acts : List Action), f.method = m → f.locked = none → f.entered = [] → (doReturn e (T.setTop f) acts v).1 = T.setFrames fs) → Steps p.tables e below A (T.setFrames fs)) : own_Gl FrameEnd p e below s Q C N A := by
  obtain ⟨fs, hr, hrun, hended, hW, hsame⟩ := X.leave (v := v) hv hlocks
  exact ⟨_, _, h fs hr, hrun, hended, v, locs, rfl, q, ⟨v, rfl⟩, hW, hsame.mono hC hN⟩
theorem own_retW {p : Program} {l : Launch} {e : Env} {R : Room} {s : State} {vm0 : Vm} {m : MethodId} {args : Array Value} {below : List Frame} {meth : Method} {c : Code} {T : State} {locs : List Loc} {cells slots : Nat} {Q : Option Value → Heap → List Loc → Prop} {C N : Nat} {A : State}
    (X : Stand p l e R (s.setVm vm0) m args below meth c T locs cells slots) {k0 : Nat} (hS : s.Since vm0 k0) (hk : k0 ≤ T.heap.size) {v : Option Value} (hv : meth.sig.returnType = none → v = none) (hlocks : meth.locks = false) (hC : cells ≤ C) (hN : slots ≤ N) (q : Q v T.heap locs)
    (h : ∀ fs, (∀ (f : JFrame) (acts : List Action), f.method = m → f.locked = none → f.entered = [] → (doReturn e (T.setTop f) acts v).1 = T.setFrames fs) → Steps p.tables e below A (T.setFrames fs)) : own_Gl ReturnedEndW p e below s Q C N A := by
  obtain ⟨fs, hr, hrun, hended, h1, h2, h3, h4⟩ := X.leaveW hS hk (v := v) hv hlocks
  exact ⟨_, _, h fs hr, hrun, hended, v, locs, rfl, q, h1, h2, h3, h4.mono hC hN⟩
theorem own_kext {h0 h : Heap} (K : Keep h0 h ([] : List Addr)) : Ext h0 h := ⟨K.1, fun a c q => K.2.1 a c q nin0⟩
def own_FEH (Z : State) (EL : List (String × Nat)) (s : State) (o : Outcome) (t : State) (L : List Loc) (k n : Nat) : Prop := CHr Z EL s.vm s.heap t.vm t.heap ∧ ReturnedEndW s o t L k n
theorem own_retH {Z : State} {EL : List (String × Nat)} {a0 : Array Value} {p : Program} {l : Launch} {e : Env} {R : Room} {s : State} {vm0 : Vm} {m : MethodId} {args : Array Value} {below : List Frame} {meth : Method} {c : Code} {T : State} {locs : List Loc} {cells slots : Nat} {Q : Option Value → Heap → List Loc → Prop} {C N : Nat} {A : State} {h : Heap}
    (X : Stand p l e R (s.setVm vm0) m args below meth c T locs cells slots) {k0 : Nat} (hS : s.Since vm0 k0) (hk : k0 ≤ T.heap.size) (hZ : Z.Warmed39 vm0) (hEL : EW Z a0 EL) (eT : T.heap = h) (hR : CHr Z EL s.vm s.heap vm0 h) {v : Option Value} (hv : meth.sig.returnType = none → v = none) (hlocks : meth.locks = false) (hC : cells ≤ C) (hN : slots ≤ N) (q : Q v T.heap locs)
    (h' : ∀ fs, (∀ (f : JFrame) (acts : List Action), f.method = m → f.locked = none → f.entered = [] → (doReturn e (T.setTop f) acts v).1 = T.setFrames fs) → Steps p.tables e below A (T.setFrames fs)) : own_Gl (own_FEH Z EL) p e below s Q C N A := by
  obtain ⟨fs, hr, hrun, hended, h1, h2, h3, h4⟩ := X.leaveW hS hk (v := v) hv hlocks
  subst eT
  exact ⟨_, _, h' fs hr, hrun, hended, v, locs, rfl, q, (show CHr Z EL s.vm s.heap T.vm T.heap from hR.trans (CHv.at X hZ hEL hR.1)), h1, h2, h3, h4.mono hC hN⟩
theorem own_lgt {x y : Int64} (h : y < x) : (0 : Int32) < lcmpW x y := by rw [lcW]; exact (lc_gt _ _).mpr h
theorem own_ngt {x y : Int64} (h : ¬ y < x) : ¬ (0 : Int32) < lcmpW x y := by rw [lcW]; exact fun q => h ((lc_gt _ _).mp q)
theorem own_llt {x y : Int64} (h : x < y) : lcmpW x y < (0 : Int32) := by rw [lcW]; exact (lc_lt _ _).mpr h
theorem own_nlt {x y : Int64} (h : ¬ x < y) : ¬ lcmpW x y < (0 : Int32) := by rw [lcW]; exact fun q => h ((lc_lt _ _).mp q)
theorem own_leq {x y : Int64} (h : x = y) : lcmpW x y = (0 : Int32) := by rw [lcW]; exact (lc_eq _ _).mpr h
theorem own_neq {x y : Int64} (h : ¬ x = y) : ¬ lcmpW x y = (0 : Int32) := by rw [lcW]; exact fun q => h ((lc_eq _ _).mp q)
theorem own_lrem {p : Program} {l : Launch} {e : Env} {R : Room} {s : State} {m : MethodId} {args : Array Value} {below : List Frame} {meth : Method} {c : Code} {T : State} {locs : List Loc} {cells slots : Nat} {g : JFrame} {target : State} (X : Stand p l e R s m args below meth c T locs cells slots) (hx : p.tables.exec = Jvm.exec) (hg : g.method = m) {x y : Int64} {rest : List Value} (hd : decode c.code g.pc = .ok (.lrem, 1)) (hs : g.stack = .long y :: .long x :: rest) (hy : y ≠ 0)
    (hr : Steps p.tables e below (T.setTop { g with pc := g.pc + 1, stack := .long (x - (x / y) * y) :: rest }) target) : Steps p.tables e below (T.setTop g) target := XS.lrem X.here hx hg hd hs hy hr
def own_f (n w : Int32) : Int32 := if (3 : Int) + n.toInt + 2 * w.toInt ≤ 65535 then 1 else 0
theorem own_fits_no {n w : Int32} (h : (65535 : Int64) < ((3 : Int64) + n.toInt64) + ((2 : Int64) * w.toInt64)) : (0 : Int32) = own_f n w := by
  have b1 := n.toInt_lt; have b2 := n.le_toInt; have b3 := w.toInt_lt; have b4 := w.le_toInt
  have e1 : n.toInt64.toInt = n.toInt := Jvm.Kit.i64_of_i32 n
  have e2 : w.toInt64.toInt = w.toInt := Jvm.Kit.i64_of_i32 w
  have c3 : (3 : Int64).toInt = 3 := by decide
  have c2 : (2 : Int64).toInt = 2 := by decide
  have c6 : (65535 : Int64).toInt = 65535 := by decide
  have m : ((2 : Int64) * w.toInt64).toInt = 2 * w.toInt := by rw [Jvm.Kit.i64_mul (by rw [c2, e2]; omega) (by rw [c2, e2]; omega), c2, e2]
  have a1 : ((3 : Int64) + n.toInt64).toInt = 3 + n.toInt := by rw [Jvm.Kit.i64_add (by rw [c3, e1]; omega) (by rw [c3, e1]; omega), c3, e1]
  rw [Int64.lt_iff_toInt_lt, Jvm.Kit.i64_add (by rw [a1, m]; omega) (by rw [a1, m]; omega), a1, m, c6] at h
  unfold own_f; rw [if_neg (by omega)]
theorem own_fits_yes {n w : Int32} (h : ¬ (65535 : Int64) < ((3 : Int64) + n.toInt64) + ((2 : Int64) * w.toInt64)) : (1 : Int32) = own_f n w := by
  have b1 := n.toInt_lt; have b2 := n.le_toInt; have b3 := w.toInt_lt; have b4 := w.le_toInt
  have e1 : n.toInt64.toInt = n.toInt := Jvm.Kit.i64_of_i32 n
  have e2 : w.toInt64.toInt = w.toInt := Jvm.Kit.i64_of_i32 w
  have c3 : (3 : Int64).toInt = 3 := by decide
  have c2 : (2 : Int64).toInt = 2 := by decide
  have c6 : (65535 : Int64).toInt = 65535 := by decide
  have m : ((2 : Int64) * w.toInt64).toInt = 2 * w.toInt := by rw [Jvm.Kit.i64_mul (by rw [c2, e2]; omega) (by rw [c2, e2]; omega), c2, e2]
  have a1 : ((3 : Int64) + n.toInt64).toInt = 3 + n.toInt := by rw [Jvm.Kit.i64_add (by rw [c3, e1]; omega) (by rw [c3, e1]; omega), c3, e1]
  rw [Int64.lt_iff_toInt_lt, Jvm.Kit.i64_add (by rw [a1, m]; omega) (by rw [a1, m]; omega), a1, m, c6] at h
  unfold own_f; rw [if_pos (by omega)]
theorem own_budget {n w : Int32} (h0 : 0 ≤ n.toInt) (h1 : n.toInt ≤ 131071) : (((65532 : Int32) - n) >>> ((1 : Int32) &&& 31)).toInt = (65532 - n.toInt) / 2 := by
  have c6 : (65532 : Int32).toInt = 65532 := by decide
  rw [Jvm.Kit.i32_shr _ _ (k := 1) (by decide), Jvm.Kit.i32_sub (by rw [c6]; omega) (by rw [c6]; omega), c6]
  rfl
theorem own_exp_no {n w : Int32} (h0 : 0 ≤ n.toInt) (h1 : n.toInt ≤ 131071) (h : (((65532 : Int32) - n) >>> ((1 : Int32) &&& 31)) < w) : (0 : Int32) = own_f n w := by
  rw [Int32.lt_iff_toInt_lt, own_budget (w := w) h0 h1] at h
  unfold own_f; rw [if_neg (by omega)]
theorem own_exp_yes {n w : Int32} (h0 : 0 ≤ n.toInt) (h1 : n.toInt ≤ 131071) (h : ¬ (((65532 : Int32) - n) >>> ((1 : Int32) &&& 31)) < w) : (1 : Int32) = own_f n w := by
  rw [Int32.lt_iff_toInt_lt, own_budget (w := w) h0 h1] at h
  unfold own_f; rw [if_pos (by omega)]
theorem own_d1_0 : decode prog_13_method_4_code 0 = .ok (.ldc2_w 96, 3) := by decide +kernel
theorem own_d1_3 : decode prog_13_method_4_code 3 = .ok (.aload_n 0, 1) := by decide +kernel
theorem own_d1_4 : decode prog_13_method_4_code 4 = .ok (.arraylength, 1) := by decide +kernel
theorem own_d1_5 : decode prog_13_method_4_code 5 = .ok (.i2l, 1) := by decide +kernel
theorem own_d1_6 : decode prog_13_method_4_code 6 = .ok (.ladd, 1) := by decide +kernel
theorem own_d1_7 : decode prog_13_method_4_code 7 = .ok (.ldc2_w 98, 3) := by decide +kernel
theorem own_d1_10 : decode prog_13_method_4_code 10 = .ok (.iload_n 1, 1) := by decide +kernel
theorem own_d1_11 : decode prog_13_method_4_code 11 = .ok (.i2l, 1) := by decide +kernel
theorem own_d1_12 : decode prog_13_method_4_code 12 = .ok (.lmul, 1) := by decide +kernel
theorem own_d1_13 : decode prog_13_method_4_code 13 = .ok (.ladd, 1) := by decide +kernel
theorem own_d1_14 : decode prog_13_method_4_code 14 = .ok (.ldc2_w 100, 3) := by decide +kernel
theorem own_d1_17 : decode prog_13_method_4_code 17 = .ok (.lcmp, 1) := by decide +kernel
theorem own_d1_18 : decode prog_13_method_4_code 18 = .ok (.ifCond .gt 7, 3) := by decide +kernel
theorem own_d1_21 : decode prog_13_method_4_code 21 = .ok (.iconst 1, 1) := by decide +kernel
theorem own_d1_22 : decode prog_13_method_4_code 22 = .ok (.goto 4, 3) := by decide +kernel
theorem own_d1_25 : decode prog_13_method_4_code 25 = .ok (.iconst 0, 1) := by decide +kernel
theorem own_d1_26 : decode prog_13_method_4_code 26 = .ok (.ireturn, 1) := by decide +kernel
theorem own_ef_rm1 (m : MethodId) (ar : Addr) (w0 : Int32) : entryFrame m #[(.ref ar), (.int w0)] 2 = mkF m 0 #[.val (.ref ar), .val (.int w0)] [] := by first | (simp [entryFrame, mkF, argsToLocals, Value.category]; done) | rfl
theorem own_pn0 : plainName "com/example/tagwire/tagwire/bb/MemoryRead" = true := by first | (simp [plainName, overriddenIn]; done) | decide +kernel
def Q1 (Z : State) (ar : Addr) (w0 : Int32) (k : ClassId) (z : Int32) (dv : Value) (h0 : Heap) (n0 : Nat) (v : Option Value) (h : Heap) (L : List Loc) : Prop := v = some (.int (own_f z w0)) ∧ Fr n0 L ∧ h = h0
set_option maxRecDepth 65536 in
set_option maxHeartbeats 40000000 in
theorem rm1 (l : Launch) (Z : State) (a0 : Array Value) (hw : ∀ d ∈ tables_1, d.before a0 Z = true) (ws : List Jvm.Cond) (ar : Addr) (w0 : Int32) (k : ClassId) (z : Int32) (dv : Value) (h0 : Heap) (n0 : Nat) (Z0 : n0 ≤ h0.size) (Va : Arv Z h0 ar k .byte z [] dv) :
    MetFree l (⟨"com/example/tagwire/tagwire/bb/MemoryRead", "fits", "([BI)Z"⟩ : MethodName) (head1 (Jvm.Cond.code (⟨"com/example/tagwire/tagwire/bb/MemoryRead", "fits", "([BI)Z"⟩ : MethodName) prog_13_method_4_code 2 (some .boolean) :: ws) ({ frames := 0, cells := 0, slots := 0, locals := 0 } : Room)) (fun a U => a = #[(.ref ar), (.int w0)] ∧ Z.Warmed39 U.vm ∧ U.heap = h0) (fun _ _ _ _ _ => True) (fun _ U o U' => ∃ v L, o = .returned v ∧ Q1 Z ar w0 k z dv h0 n0 v U'.heap L ∧ FrameEnd U o U' L ({ frames := 0, cells := 0, slots := 0, locals := 0 } : Room).cells ({ frames := 0, cells := 0, slots := 0, locals := 0 } : Room).slots) := by
  refine MetFree.of_bodySF (plainFor_of_name own_pn0) hisR ?_
  intro p e s m args below meth c s₁ Bd hml0 hP hK
  obtain ⟨rfl, hZ, hh⟩ := hP
  have hx := Bd.exec
  have hby := Bd.bytes
  have hml : c.maxLocals = 2 := hml0
  have hown : s.vm.findClass "com/example/tagwire/tagwire/bb/MemoryRead" = some m.cls := findClass_of_methodNamed Bd.named
  have hnm := (name_of_methodNamed Bd.named Bd.method).1
  have hlk : meth.locks = false := BodyLoose.notSynchronized Bd
  have X0 : Stand p l e ({ frames := 0, cells := 0, slots := 0, locals := 0 } : Room) s m #[(.ref ar), (.int w0)] below meth c s₁ [] 0 0 := Stand.of_body Bd
  have e0 : s₁.heap = h0 := by rw [← hh, Bd.state]; rfl
  have N0 := Fr.nil n0
  show own_Gl FrameEnd p e below s (Q1 Z ar w0 k z dv h0 n0) ({ frames := 0, cells := 0, slots := 0, locals := 0 } : Room).cells ({ frames := 0, cells := 0, slots := 0, locals := 0 } : Room).slots (s₁.setTop (entryFrame m #[(.ref ar), (.int w0)] 2))
  rw [own_ef_rm1 m ar w0]
  refine own_st (A' := s₁.setTop (mkF m 4 #[.val (.ref ar), .val (.int w0)] [(.ref ar), (.long (3 : Int64))])) (fun tg kt => ?_) ?_
  · show Steps p.tables e below (s₁.setTop (mkF m 0 #[.val (.ref ar), .val (.int w0)] [])) _
    refine X0.ldc2Long hx hown (mvT hZ (hw _ (List.mem_of_getElem? (i := 7) rfl))) (g := (mkF m 0 #[.val (.ref ar), .val (.int w0)] [])) rfl (hb hby own_d1_0) _ ?_
    show Steps p.tables e below (s₁.setTop (mkF m 3 #[.val (.ref ar), .val (.int w0)] [(.long (3 : Int64))])) _
    refine XS.aloadN X0.here hx rfl (hb hby own_d1_3) rfl rfl ?_
    exact kt
  obtain ⟨cl1, Ar1, -, Sz1, Nn1, -, -⟩ := Va
  refine own_st (A' := s₁.setTop (mkF m 18 #[.val (.ref ar), .val (.int w0)] [(.int (lcmpW (((3 : Int64) + (z.toInt64)) + ((2 : Int64) * (w0.toInt64))) (65535 : Int64)))])) (fun tg kt => ?_) ?_
  · show Steps p.tables e below (s₁.setTop (mkF m 4 #[.val (.ref ar), .val (.int w0)] [(.ref ar), (.long (3 : Int64))])) _
    refine X0.arraylength hx (by rw [e0]; exact Ar1.1) (State.isArrayOf_alike hZ.alike Ar1.2.1) (g := (mkF m 4 #[.val (.ref ar), .val (.int w0)] [(.ref ar), (.long (3 : Int64))])) rfl rfl (hb hby own_d1_4) _ ?_
    rw [len_of Sz1 Nn1]
    show Steps p.tables e below (s₁.setTop (mkF m 5 #[.val (.ref ar), .val (.int w0)] [(.int z), (.long (3 : Int64))])) _
    refine XS.i2l X0.here hx rfl (hb hby own_d1_5) rfl ?_
    show Steps p.tables e below (s₁.setTop (mkF m 6 #[.val (.ref ar), .val (.int w0)] [(.long (z.toInt64)), (.long (3 : Int64))])) _
    refine XS.ladd X0.here hx rfl (hb hby own_d1_6) rfl ?_
    show Steps p.tables e below (s₁.setTop (mkF m 7 #[.val (.ref ar), .val (.int w0)] [(.long ((3 : Int64) + (z.toInt64)))])) _
    refine X0.ldc2Long hx hown (mvT hZ (hw _ (List.mem_of_getElem? (i := 8) rfl))) (g := (mkF m 7 #[.val (.ref ar), .val (.int w0)] [(.long ((3 : Int64) + (z.toInt64)))])) rfl (hb hby own_d1_7) _ ?_
    show Steps p.tables e below (s₁.setTop (mkF m 10 #[.val (.ref ar), .val (.int w0)] [(.long (2 : Int64)), (.long ((3 : Int64) + (z.toInt64)))])) _
    refine XS.iloadN X0.here hx rfl (hb hby own_d1_10) rfl ?_
    show Steps p.tables e below (s₁.setTop (mkF m 11 #[.val (.ref ar), .val (.int w0)] [(.int w0), (.long (2 : Int64)), (.long ((3 : Int64) + (z.toInt64)))])) _
    refine XS.i2l X0.here hx rfl (hb hby own_d1_11) rfl ?_
    show Steps p.tables e below (s₁.setTop (mkF m 12 #[.val (.ref ar), .val (.int w0)] [(.long (w0.toInt64)), (.long (2 : Int64)), (.long ((3 : Int64) + (z.toInt64)))])) _
    refine XS.lmul X0.here hx rfl (hb hby own_d1_12) rfl ?_
    show Steps p.tables e below (s₁.setTop (mkF m 13 #[.val (.ref ar), .val (.int w0)] [(.long ((2 : Int64) * (w0.toInt64))), (.long ((3 : Int64) + (z.toInt64)))])) _
    refine XS.ladd X0.here hx rfl (hb hby own_d1_13) rfl ?_
    show Steps p.tables e below (s₁.setTop (mkF m 14 #[.val (.ref ar), .val (.int w0)] [(.long (((3 : Int64) + (z.toInt64)) + ((2 : Int64) * (w0.toInt64))))])) _
    refine X0.ldc2Long hx hown (mvT hZ (hw _ (List.mem_of_getElem? (i := 9) rfl))) (g := (mkF m 14 #[.val (.ref ar), .val (.int w0)] [(.long (((3 : Int64) + (z.toInt64)) + ((2 : Int64) * (w0.toInt64))))])) rfl (hb hby own_d1_14) _ ?_
    show Steps p.tables e below (s₁.setTop (mkF m 17 #[.val (.ref ar), .val (.int w0)] [(.long (65535 : Int64)), (.long (((3 : Int64) + (z.toInt64)) + ((2 : Int64) * (w0.toInt64))))])) _
    refine XS.lcmp X0.here hx rfl (hb hby own_d1_17) rfl ?_
    exact kt
  by_cases hc18_2 : (65535 : Int64) < (((3 : Int64) + (z.toInt64)) + ((2 : Int64) * (w0.toInt64)))
  · refine own_st (A' := s₁.setTop (mkF m 26 #[.val (.ref ar), .val (.int w0)] [(.int (0 : Int32))])) (fun tg kt => ?_) ?_
    · show Steps p.tables e below (s₁.setTop (mkF m 18 #[.val (.ref ar), .val (.int w0)] [(.int (lcmpW (((3 : Int64) + (z.toInt64)) + ((2 : Int64) * (w0.toInt64))) (65535 : Int64)))])) _
      refine XS.ifYes X0.here hx rfl (pc0 := 18) (pc' := 25) rfl (hb hby own_d1_18) rfl ((if0 _ _).trans (tlt (own_lgt hc18_2)).2.2.1) (by decide) (by decide) ?_
      show Steps p.tables e below (s₁.setTop (mkF m 25 #[.val (.ref ar), .val (.int w0)] [])) _
      refine XS.iconst X0.here hx rfl (hb hby own_d1_25) ?_
      exact kt
    refine own_ret X0 (v := some (.int (0 : Int32))) (fun h => by rw [Bd.returns] at h; cases h) hlk (by decide) (by decide) ?_ (fun fs hr => ?_)
    · show Q1 Z ar w0 k z dv h0 n0 (some (.int (0 : Int32))) s₁.heap _
      rw [e0]
      exact ⟨congrArg (fun z => some (Value.int z)) (own_fits_no hc18_2), N0, rfl⟩
    · show Steps p.tables e below (s₁.setTop (mkF m 26 #[.val (.ref ar), .val (.int w0)] [(.int (0 : Int32))])) _
      exact retN X0 hx (t := .boolean) Bd.returns (by simp) (hb hby own_d1_26) hr
  · refine own_st (A' := s₁.setTop (mkF m 26 #[.val (.ref ar), .val (.int w0)] [(.int (1 : Int32))])) (fun tg kt => ?_) ?_
    · show Steps p.tables e below (s₁.setTop (mkF m 18 #[.val (.ref ar), .val (.int w0)] [(.int (lcmpW (((3 : Int64) + (z.toInt64)) + ((2 : Int64) * (w0.toInt64))) (65535 : Int64)))])) _
      refine XS.ifNo X0.here hx rfl (hb hby own_d1_18) rfl ((if0 _ _).trans (flt (own_ngt hc18_2)).2.2.1) ?_
      show Steps p.tables e below (s₁.setTop (mkF m 21 #[.val (.ref ar), .val (.int w0)] [])) _
      refine XS.iconst X0.here hx rfl (hb hby own_d1_21) ?_
      show Steps p.tables e below (s₁.setTop (mkF m 22 #[.val (.ref ar), .val (.int w0)] [(.int (1 : Int32))])) _
      refine XS.goto X0.here hx rfl (pc0 := 22) (pc' := 26) rfl (hb hby own_d1_22) (by decide) (by decide) ?_
      exact kt
    refine own_ret X0 (v := some (.int (1 : Int32))) (fun h => by rw [Bd.returns] at h; cases h) hlk (by decide) (by decide) ?_ (fun fs hr => ?_)
    · show Q1 Z ar w0 k z dv h0 n0 (some (.int (1 : Int32))) s₁.heap _
      rw [e0]
      exact ⟨congrArg (fun z => some (Value.int z)) (own_fits_yes hc18_2), N0, rfl⟩
    · show Steps p.tables e below (s₁.setTop (mkF m 26 #[.val (.ref ar), .val (.int w0)] [(.int (1 : Int32))])) _
      exact retN X0 hx (t := .boolean) Bd.returns (by simp) (hb hby own_d1_26) hr
theorem own_d2_0 : decode method_2_code 0 = .ok (.ldc 7, 2) := by decide +kernel
theorem own_d2_2 : decode method_2_code 2 = .ok (.iload_n 0, 1) := by decide +kernel
theorem own_d2_3 : decode method_2_code 3 = .ok (.isub, 1) := by decide +kernel
theorem own_d2_4 : decode method_2_code 4 = .ok (.istore_n 2, 1) := by decide +kernel
theorem own_d2_5 : decode method_2_code 5 = .ok (.iload_n 1, 1) := by decide +kernel
theorem own_d2_6 : decode method_2_code 6 = .ok (.iload_n 2, 1) := by decide +kernel
theorem own_d2_7 : decode method_2_code 7 = .ok (.iconst 1, 1) := by decide +kernel
theorem own_d2_8 : decode method_2_code 8 = .ok (.ishr, 1) := by decide +kernel
theorem own_d2_9 : decode method_2_code 9 = .ok (.if_icmp .gt 7, 3) := by decide +kernel
theorem own_d2_12 : decode method_2_code 12 = .ok (.iconst 1, 1) := by decide +kernel
theorem own_d2_13 : decode method_2_code 13 = .ok (.goto 4, 3) := by decide +kernel
theorem own_d2_16 : decode method_2_code 16 = .ok (.iconst 0, 1) := by decide +kernel
theorem own_d2_17 : decode method_2_code 17 = .ok (.ireturn, 1) := by decide +kernel
theorem own_ef_rm2 (m : MethodId) (n : Int32) (w0 : Int32) : entryFrame m #[(.int n), (.int w0)] 3 = mkF m 0 #[.val (.int n), .val (.int w0), .unset] [] := by first | (simp [entryFrame, mkF, argsToLocals, Value.category]; done) | rfl
theorem own_pn1 : plainName "com/example/tagwire/tagwire/bb/MemoryReadFitsPinLaw" = true := by first | (simp [plainName, overriddenIn]; done) | decide +kernel
def Q2 (Z : State) (n : Int32) (w0 : Int32) (h0 : Heap) (n0 : Nat) (v : Option Value) (h : Heap) (L : List Loc) : Prop := v = some (.int (own_f n w0)) ∧ Fr n0 L ∧ h = h0
set_option maxRecDepth 65536 in
set_option maxHeartbeats 40000000 in
theorem rm2 (l : Launch) (Z : State) (a0 : Array Value) (hw : ∀ d ∈ tables_1, d.before a0 Z = true) (ws : List Jvm.Cond) (n : Int32) (w0 : Int32) (h0 : Heap) (n0 : Nat) (Z0 : n0 ≤ h0.size) (b0 : 0 ≤ n.toInt) (b1 : n.toInt ≤ 131071) :
    MetFree l (⟨"com/example/tagwire/tagwire/bb/MemoryReadFitsPinLaw", "expected", "(II)Z"⟩ : MethodName) (head1 (Jvm.Cond.code (⟨"com/example/tagwire/tagwire/bb/MemoryReadFitsPinLaw", "expected", "(II)Z"⟩ : MethodName) method_2_code 3 (some .boolean) :: ws) ({ frames := 0, cells := 0, slots := 0, locals := 0 } : Room)) (fun a U => a = #[(.int n), (.int w0)] ∧ Z.Warmed39 U.vm ∧ U.heap = h0) (fun _ _ _ _ _ => True) (fun _ U o U' => ∃ v L, o = .returned v ∧ Q2 Z n w0 h0 n0 v U'.heap L ∧ FrameEnd U o U' L ({ frames := 0, cells := 0, slots := 0, locals := 0 } : Room).cells ({ frames := 0, cells := 0, slots := 0, locals := 0 } : Room).slots) := by
  refine MetFree.of_bodySF (plainFor_of_name own_pn1) hisR ?_
  intro p e s m args below meth c s₁ Bd hml0 hP hK
  obtain ⟨rfl, hZ, hh⟩ := hP
  have hx := Bd.exec
  have hby := Bd.bytes
  have hml : c.maxLocals = 3 := hml0
  have hown : s.vm.findClass "com/example/tagwire/tagwire/bb/MemoryReadFitsPinLaw" = some m.cls := findClass_of_methodNamed Bd.named
  have hnm := (name_of_methodNamed Bd.named Bd.method).1
  have hlk : meth.locks = false := BodyLoose.notSynchronized Bd
  have X0 : Stand p l e ({ frames := 0, cells := 0, slots := 0, locals := 0 } : Room) s m #[(.int n), (.int w0)] below meth c s₁ [] 0 0 := Stand.of_body Bd
  have e0 : s₁.heap = h0 := by rw [← hh, Bd.state]; rfl
  have N0 := Fr.nil n0
  show own_Gl FrameEnd p e below s (Q2 Z n w0 h0 n0) ({ frames := 0, cells := 0, slots := 0, locals := 0 } : Room).cells ({ frames := 0, cells := 0, slots := 0, locals := 0 } : Room).slots (s₁.setTop (entryFrame m #[(.int n), (.int w0)] 3))
  rw [own_ef_rm2 m n w0]
  refine own_st (A' := s₁.setTop (mkF m 9 #[.val (.int n), .val (.int w0), .val (.int ((65532 : Int32) - n))] [(.int (((65532 : Int32) - n) >>> ((1 : Int32) &&& 31))), (.int w0)])) (fun tg kt => ?_) ?_
  · show Steps p.tables e below (s₁.setTop (mkF m 0 #[.val (.int n), .val (.int w0), .unset] [])) _
    refine X0.ldcInt hx hown (mvT hZ (hw _ (List.mem_of_getElem? (i := 2) rfl))) (g := (mkF m 0 #[.val (.int n), .val (.int w0), .unset] [])) rfl (hb hby own_d2_0) _ ?_
    show Steps p.tables e below (s₁.setTop (mkF m 2 #[.val (.int n), .val (.int w0), .unset] [(.int (65532 : Int32))])) _
    refine XS.iloadN X0.here hx rfl (hb hby own_d2_2) rfl ?_
    show Steps p.tables e below (s₁.setTop (mkF m 3 #[.val (.int n), .val (.int w0), .unset] [(.int n), (.int (65532 : Int32))])) _
    refine XS.isub X0.here hx rfl (hb hby own_d2_3) rfl ?_
    show Steps p.tables e below (s₁.setTop (mkF m 4 #[.val (.int n), .val (.int w0), .unset] [(.int ((65532 : Int32) - n))])) _
    refine XS.istoreN X0.here hx rfl (hb hby own_d2_4) rfl (l' := #[.val (.int n), .val (.int w0), .val (.int ((65532 : Int32) - n))]) rfl ?_
    show Steps p.tables e below (s₁.setTop (mkF m 5 #[.val (.int n), .val (.int w0), .val (.int ((65532 : Int32) - n))] [])) _
    refine XS.iloadN X0.here hx rfl (hb hby own_d2_5) rfl ?_
    show Steps p.tables e below (s₁.setTop (mkF m 6 #[.val (.int n), .val (.int w0), .val (.int ((65532 : Int32) - n))] [(.int w0)])) _
    refine XS.iloadN X0.here hx rfl (hb hby own_d2_6) rfl ?_
    show Steps p.tables e below (s₁.setTop (mkF m 7 #[.val (.int n), .val (.int w0), .val (.int ((65532 : Int32) - n))] [(.int ((65532 : Int32) - n)), (.int w0)])) _
    refine XS.iconst X0.here hx rfl (hb hby own_d2_7) ?_
    show Steps p.tables e below (s₁.setTop (mkF m 8 #[.val (.int n), .val (.int w0), .val (.int ((65532 : Int32) - n))] [(.int (1 : Int32)), (.int ((65532 : Int32) - n)), (.int w0)])) _
    refine XS.ishr X0.here hx rfl (hb hby own_d2_8) rfl ?_
    exact kt
  by_cases hc9_1 : (((65532 : Int32) - n) >>> ((1 : Int32) &&& 31)) < w0
  · refine own_st (A' := s₁.setTop (mkF m 17 #[.val (.int n), .val (.int w0), .val (.int ((65532 : Int32) - n))] [(.int (0 : Int32))])) (fun tg kt => ?_) ?_
    · show Steps p.tables e below (s₁.setTop (mkF m 9 #[.val (.int n), .val (.int w0), .val (.int ((65532 : Int32) - n))] [(.int (((65532 : Int32) - n) >>> ((1 : Int32) &&& 31))), (.int w0)])) _
      refine XS.icmpYes X0.here hx rfl (pc0 := 9) (pc' := 16) rfl (hb hby own_d2_9) rfl (tlt hc9_1).2.2.1 (by decide) (by decide) ?_
      show Steps p.tables e below (s₁.setTop (mkF m 16 #[.val (.int n), .val (.int w0), .val (.int ((65532 : Int32) - n))] [])) _
      refine XS.iconst X0.here hx rfl (hb hby own_d2_16) ?_
      exact kt
    refine own_ret X0 (v := some (.int (0 : Int32))) (fun h => by rw [Bd.returns] at h; cases h) hlk (by decide) (by decide) ?_ (fun fs hr => ?_)
    · show Q2 Z n w0 h0 n0 (some (.int (0 : Int32))) s₁.heap _
      rw [e0]
      exact ⟨congrArg (fun z => some (Value.int z)) (own_exp_no b0 b1 hc9_1), N0, rfl⟩
    · show Steps p.tables e below (s₁.setTop (mkF m 17 #[.val (.int n), .val (.int w0), .val (.int ((65532 : Int32) - n))] [(.int (0 : Int32))])) _
      exact retN X0 hx (t := .boolean) Bd.returns (by simp) (hb hby own_d2_17) hr
  · refine own_st (A' := s₁.setTop (mkF m 17 #[.val (.int n), .val (.int w0), .val (.int ((65532 : Int32) - n))] [(.int (1 : Int32))])) (fun tg kt => ?_) ?_
    · show Steps p.tables e below (s₁.setTop (mkF m 9 #[.val (.int n), .val (.int w0), .val (.int ((65532 : Int32) - n))] [(.int (((65532 : Int32) - n) >>> ((1 : Int32) &&& 31))), (.int w0)])) _
      refine XS.icmpNo X0.here hx rfl (hb hby own_d2_9) rfl (flt hc9_1).2.2.1 ?_
      show Steps p.tables e below (s₁.setTop (mkF m 12 #[.val (.int n), .val (.int w0), .val (.int ((65532 : Int32) - n))] [])) _
      refine XS.iconst X0.here hx rfl (hb hby own_d2_12) ?_
      show Steps p.tables e below (s₁.setTop (mkF m 13 #[.val (.int n), .val (.int w0), .val (.int ((65532 : Int32) - n))] [(.int (1 : Int32))])) _
      refine XS.goto X0.here hx rfl (pc0 := 13) (pc' := 17) rfl (hb hby own_d2_13) (by decide) (by decide) ?_
      exact kt
    refine own_ret X0 (v := some (.int (1 : Int32))) (fun h => by rw [Bd.returns] at h; cases h) hlk (by decide) (by decide) ?_ (fun fs hr => ?_)
    · show Q2 Z n w0 h0 n0 (some (.int (1 : Int32))) s₁.heap _
      rw [e0]
      exact ⟨congrArg (fun z => some (Value.int z)) (own_exp_yes b0 b1 hc9_1), N0, rfl⟩
    · show Steps p.tables e below (s₁.setTop (mkF m 17 #[.val (.int n), .val (.int w0), .val (.int ((65532 : Int32) - n))] [(.int (1 : Int32))])) _
      exact retN X0 hx (t := .boolean) Bd.returns (by simp) (hb hby own_d2_17) hr
theorem own_pd2 : parseMethodDescriptor "([BI)Z" = some ⟨[(.array .byte), .int], some .boolean⟩ := by decide +kernel
theorem own_pd3 : parseMethodDescriptor "(II)Z" = some ⟨[.int, .int], some .boolean⟩ := by decide +kernel
theorem own_ef_rm0 (m : MethodId) (p0 : Int32) (p1 : Int32) (p2 : Int32) : entryFrame m #[(.int p0), (.int p1), (.int p2)] maxLocals = mkF m 0 #[.val (.int p0), .val (.int p1), .val (.int p2), .unset, .unset, .unset, .unset, .unset] [] := by first | (simp [entryFrame, mkF, argsToLocals, Value.category, maxLocals]; done) | rfl
def Q0 (Z : State) (p0 : Int32) (p1 : Int32) (p2 : Int32) (h0 : Heap) (n0 : Nat) (v : Option Value) (h : Heap) (L : List Loc) : Prop := v = some (.int 1) ∧ Fr n0 L
set_option maxRecDepth 65536 in
set_option maxHeartbeats 40000000 in
theorem rm0 (l : Launch) (Z : State) (a0 : Array Value) (hw : ∀ d ∈ tables_1, d.before a0 Z = true) (ws : List Jvm.Cond) (p0 : Int32) (p1 : Int32) (p2 : Int32) (h0 : Heap) (n0 : Nat) (Z0 : n0 ≤ h0.size) :
    MetFree l x (head1 (Jvm.Cond.code x code maxLocals ret :: ws) room_1) (fun a U => a = #[(.int p0), (.int p1), (.int p2)] ∧ Z.Warmed39 U.vm ∧ U.heap = h0) (fun _ _ _ _ _ => True) (fun _ U o U' => ∃ v L, o = .returned v ∧ Q0 Z p0 p1 p2 h0 n0 v U'.heap L ∧ FrameEnd U o U' L room_1.cells room_1.slots) := by
  refine MetFree.of_bodySF (plainFor_of_name own_pn1) hisR ?_
  intro p e s m args below meth c s₁ Bd hml0 hP hK
  obtain ⟨rfl, hZ, hh⟩ := hP
  have hx := Bd.exec
  have hby := Bd.bytes
  have hml : c.maxLocals = 8 := hml0
  have hown : s.vm.findClass "com/example/tagwire/tagwire/bb/MemoryReadFitsPinLaw" = some m.cls := findClass_of_methodNamed Bd.named
  have hnm := (name_of_methodNamed Bd.named Bd.method).1
  have hlk : meth.locks = false := BodyLoose.notSynchronized Bd
  have X0 : Stand p l e room_1 s m #[(.int p0), (.int p1), (.int p2)] below meth c s₁ [] 0 0 := Stand.of_body Bd
  have e0 : s₁.heap = h0 := by rw [← hh, Bd.state]; rfl
  have N0 := Fr.nil n0
  show own_Gl FrameEnd p e below s (Q0 Z p0 p1 p2 h0 n0) room_1.cells room_1.slots (s₁.setTop (entryFrame m #[(.int p0), (.int p1), (.int p2)] maxLocals))
  rw [own_ef_rm0 m p0 p1 p2]
  refine own_st (A' := s₁.setTop (mkF m 4 #[.val (.int p0), .val (.int p1), .val (.int p2), .unset, .unset, .unset, .unset, .unset] [(.int (p0 &&& (131071 : Int32)))])) (fun tg kt => ?_) ?_
  · show Steps p.tables e below (s₁.setTop (mkF m 0 #[.val (.int p0), .val (.int p1), .val (.int p2), .unset, .unset, .unset, .unset, .unset] [])) _
    refine XS.iloadN X0.here hx rfl (hb hby at_0) rfl ?_
    show Steps p.tables e below (s₁.setTop (mkF m 1 #[.val (.int p0), .val (.int p1), .val (.int p2), .unset, .unset, .unset, .unset, .unset] [(.int p0)])) _
    refine X0.ldcInt hx hown (mvT hZ (hw _ (List.mem_of_getElem? (i := 0) rfl))) (g := (mkF m 1 #[.val (.int p0), .val (.int p1), .val (.int p2), .unset, .unset, .unset, .unset, .unset] [(.int p0)])) rfl (hb hby at_1) _ ?_
    show Steps p.tables e below (s₁.setTop (mkF m 3 #[.val (.int p0), .val (.int p1), .val (.int p2), .unset, .unset, .unset, .unset, .unset] [(.int (131071 : Int32)), (.int p0)])) _
    refine XS.iand X0.here hx rfl (hb hby at_3) rfl ?_
    exact kt
  obtain ⟨ln, hln⟩ : ∃ z, z = (p0 &&& (131071 : Int32)) := ⟨_, rfl⟩
  rw [← hln]
  show own_Gl _ _ _ _ _ _ _ _ (s₁.setTop (mkF m 4 #[.val (.int p0), .val (.int p1), .val (.int p2), .unset, .unset, .unset, .unset, .unset] [(.int ln)]))
  have hb01 : ln.toInt = p0.toInt % 2 ^ 17 := by rw [hln]; exact Jvm.Kit.i32_mask p0 131071 (k := 17) (by decide) (by decide)
  have hb0 : 0 ≤ ln.toInt := by omega
  have hb1 : ln.toInt ≤ 131071 := by omega
  have hb2 : ¬ ln < 0 := by rw [Int32.lt_iff_toInt_lt, Int32.toInt_zero]; omega
  have hb3 : ln.toNatClampNeg ≤ 131071 := by rw [← Int32.toNat_toInt]; omega
  refine own_st (A' := s₁.setTop (mkF m 6 #[.val (.int p0), .val (.int p1), .val (.int p2), .val (.int ln), .unset, .unset, .unset, .unset] [(.int ln)])) (fun tg kt => ?_) ?_
  · show Steps p.tables e below (s₁.setTop (mkF m 4 #[.val (.int p0), .val (.int p1), .val (.int p2), .unset, .unset, .unset, .unset, .unset] [(.int ln)])) _
    refine XS.istoreN X0.here hx rfl (hb hby at_4) rfl (l' := #[.val (.int p0), .val (.int p1), .val (.int p2), .val (.int ln), .unset, .unset, .unset, .unset]) rfl ?_
    show Steps p.tables e below (s₁.setTop (mkF m 5 #[.val (.int p0), .val (.int p1), .val (.int p2), .val (.int ln), .unset, .unset, .unset, .unset] [])) _
    refine XS.iloadN X0.here hx rfl (hb hby at_5) rfl ?_
    exact kt
  obtain ⟨T1, h1, k1, X1, e1, E1, A1, st1⟩ := newP X0 hx hZ (hw _ (List.mem_of_getElem? (i := 1) rfl)) e0 (g := (mkF m 6 #[.val (.int p0), .val (.int p1), .val (.int p2), .val (.int ln), .unset, .unset, .unset, .unset] [(.int ln)])) rfl (hb hby at_6) rfl hb2 (cap := 131071) hb3 (by decide) (by decide) (by decide)
  obtain ⟨b1, g1⟩ : ∃ z, z = h0.size := ⟨_, rfl⟩
  rw [← g1] at A1 st1
  have g_b1 : n0 ≤ b1 := Nat.le_trans Z0 (Nat.le_of_eq g1.symm)
  have kw_b1 : h0.size ≤ b1 := Nat.le_trans ((Keep.refl h0 ([] : List Addr))).1 (Nat.le_of_eq g1.symm)
  have K1 := ((Keep.refl h0 ([] : List Addr))).ext E1
  have Z1 : n0 ≤ h1.size := Nat.le_trans Z0 E1.1
  have V_b1 : Arv Z h1 b1 k1 .byte ln [] (.int (0 : Int32)) := Arv.new A1 hb2
  refine own_st st1 ?_
  show own_Gl _ _ _ _ _ _ _ _ (T1.setTop (mkF m 8 #[.val (.int p0), .val (.int p1), .val (.int p2), .val (.int ln), .unset, .unset, .unset, .unset] [(.ref b1)]))
  refine own_st (A' := T1.setTop (mkF m 25 #[.val (.int p0), .val (.int p1), .val (.int p2), .val (.int ln), .val (.ref b1), .val (.int ((((65532 : Int32) - ln) >>> ((1 : Int32) &&& 31)) + (p2 % (3 : Int32)))), .unset, .unset] [(.int p1), (.ref b1)])) (fun tg kt => ?_) ?_
  · show Steps p.tables e below (T1.setTop (mkF m 8 #[.val (.int p0), .val (.int p1), .val (.int p2), .val (.int ln), .unset, .unset, .unset, .unset] [(.ref b1)])) _
    refine XS.astore X1.here hx rfl (hb hby at_8) rfl rfl (l' := #[.val (.int p0), .val (.int p1), .val (.int p2), .val (.int ln), .val (.ref b1), .unset, .unset, .unset]) rfl ?_
    show Steps p.tables e below (T1.setTop (mkF m 10 #[.val (.int p0), .val (.int p1), .val (.int p2), .val (.int ln), .val (.ref b1), .unset, .unset, .unset] [])) _
    refine X1.ldcInt hx hown (mvT hZ (hw _ (List.mem_of_getElem? (i := 2) rfl))) (g := (mkF m 10 #[.val (.int p0), .val (.int p1), .val (.int p2), .val (.int ln), .val (.ref b1), .unset, .unset, .unset] [])) rfl (hb hby at_10) _ ?_
    show Steps p.tables e below (T1.setTop (mkF m 12 #[.val (.int p0), .val (.int p1), .val (.int p2), .val (.int ln), .val (.ref b1), .unset, .unset, .unset] [(.int (65532 : Int32))])) _
    refine XS.iloadN X1.here hx rfl (hb hby at_12) rfl ?_
    show Steps p.tables e below (T1.setTop (mkF m 13 #[.val (.int p0), .val (.int p1), .val (.int p2), .val (.int ln), .val (.ref b1), .unset, .unset, .unset] [(.int ln), (.int (65532 : Int32))])) _
    refine XS.isub X1.here hx rfl (hb hby at_13) rfl ?_
    show Steps p.tables e below (T1.setTop (mkF m 14 #[.val (.int p0), .val (.int p1), .val (.int p2), .val (.int ln), .val (.ref b1), .unset, .unset, .unset] [(.int ((65532 : Int32) - ln))])) _
    refine XS.iconst X1.here hx rfl (hb hby at_14) ?_
    show Steps p.tables e below (T1.setTop (mkF m 15 #[.val (.int p0), .val (.int p1), .val (.int p2), .val (.int ln), .val (.ref b1), .unset, .unset, .unset] [(.int (1 : Int32)), (.int ((65532 : Int32) - ln))])) _
    refine XS.ishr X1.here hx rfl (hb hby at_15) rfl ?_
    show Steps p.tables e below (T1.setTop (mkF m 16 #[.val (.int p0), .val (.int p1), .val (.int p2), .val (.int ln), .val (.ref b1), .unset, .unset, .unset] [(.int (((65532 : Int32) - ln) >>> ((1 : Int32) &&& 31)))])) _
    refine XS.iloadN X1.here hx rfl (hb hby at_16) rfl ?_
    show Steps p.tables e below (T1.setTop (mkF m 17 #[.val (.int p0), .val (.int p1), .val (.int p2), .val (.int ln), .val (.ref b1), .unset, .unset, .unset] [(.int p2), (.int (((65532 : Int32) - ln) >>> ((1 : Int32) &&& 31)))])) _
    refine XS.iconst X1.here hx rfl (hb hby at_17) ?_
    show Steps p.tables e below (T1.setTop (mkF m 18 #[.val (.int p0), .val (.int p1), .val (.int p2), .val (.int ln), .val (.ref b1), .unset, .unset, .unset] [(.int (3 : Int32)), (.int p2), (.int (((65532 : Int32) - ln) >>> ((1 : Int32) &&& 31)))])) _
    refine iremM X1 hx rfl (hb hby at_18) rfl (by decide) ?_
    show Steps p.tables e below (T1.setTop (mkF m 19 #[.val (.int p0), .val (.int p1), .val (.int p2), .val (.int ln), .val (.ref b1), .unset, .unset, .unset] [(.int (p2 % (3 : Int32))), (.int (((65532 : Int32) - ln) >>> ((1 : Int32) &&& 31)))])) _
    refine XS.iadd X1.here hx rfl (hb hby at_19) rfl ?_
    show Steps p.tables e below (T1.setTop (mkF m 20 #[.val (.int p0), .val (.int p1), .val (.int p2), .val (.int ln), .val (.ref b1), .unset, .unset, .unset] [(.int ((((65532 : Int32) - ln) >>> ((1 : Int32) &&& 31)) + (p2 % (3 : Int32))))])) _
    refine XS.istore X1.here hx rfl (hb hby at_20) rfl (l' := #[.val (.int p0), .val (.int p1), .val (.int p2), .val (.int ln), .val (.ref b1), .val (.int ((((65532 : Int32) - ln) >>> ((1 : Int32) &&& 31)) + (p2 % (3 : Int32)))), .unset, .unset]) rfl ?_
    show Steps p.tables e below (T1.setTop (mkF m 22 #[.val (.int p0), .val (.int p1), .val (.int p2), .val (.int ln), .val (.ref b1), .val (.int ((((65532 : Int32) - ln) >>> ((1 : Int32) &&& 31)) + (p2 % (3 : Int32)))), .unset, .unset] [])) _
    refine XS.aload X1.here hx rfl (hb hby at_22) rfl rfl ?_
    show Steps p.tables e below (T1.setTop (mkF m 24 #[.val (.int p0), .val (.int p1), .val (.int p2), .val (.int ln), .val (.ref b1), .val (.int ((((65532 : Int32) - ln) >>> ((1 : Int32) &&& 31)) + (p2 % (3 : Int32)))), .unset, .unset] [(.ref b1)])) _
    refine XS.iloadN X1.here hx rfl (hb hby at_24) rfl ?_
    exact kt
  obtain ⟨_, _, ⟨T2, L2, k2, n2⟩, -, X2, ⟨Lc2, hQ2, l2, y2, z2⟩, st2⟩ := Jvm.LawKit.callS X1 hx (y := (⟨"com/example/tagwire/tagwire/bb/MemoryRead", "fits", "([BI)Z"⟩ : MethodName)) hown (mvT hZ (hw _ (List.mem_of_getElem? (i := 3) rfl))) (mvT hZ (hw _ (List.mem_of_getElem? (i := 4) rfl))) (mvT hZ (hw _ (List.mem_of_getElem? (i := 5) rfl))) (mvT hZ (hw _ (List.mem_of_getElem? (i := 6) rfl))) (by decide) (backOf (W := 0) (rm1 l Z a0 hw [] b1 p1 k1 ln (.int (0 : Int32)) h1 n0 Z1 V_b1) hZ (hw _ (List.mem_of_getElem? (i := 6) rfl)) (hw _ (List.mem_of_getElem? (i := 5) rfl)) (by decide) (by decide)) (g := (mkF m 25 #[.val (.int p0), .val (.int p1), .val (.int p2), .val (.int ln), .val (.ref b1), .val (.int ((((65532 : Int32) - ln) >>> ((1 : Int32) &&& 31)) + (p2 % (3 : Int32)))), .unset, .unset] [(.int p1), (.ref b1)])) rfl (by rw [hml]; rfl) (argsL := [(.ref b1), (.int p1)]) (rest := []) (lenOf own_pd2 rfl) rfl (by show 2 * 0 + _ ≤ _; exact Nat.le_of_eq rfl) (hb hby at_25) (fun _ _ => ⟨rfl, e1, (by decide : 1 + 0 ≤ _), (by decide : 131071 + 0 ≤ _)⟩)
  dsimp only [Pt.U, Pt.locs, Pt.cells, Pt.slots] at X2 l2 y2 z2 st2 hQ2
  subst l2 y2 z2
  obtain ⟨rfl, Nq2, eq2⟩ := hQ2
  have N2 := Fr.app N0 Nq2
  refine own_st st2 ?_
  show own_Gl _ _ _ _ _ _ _ _ (T2.setTop (mkF m 28 #[.val (.int p0), .val (.int p1), .val (.int p2), .val (.int ln), .val (.ref b1), .val (.int ((((65532 : Int32) - ln) >>> ((1 : Int32) &&& 31)) + (p2 % (3 : Int32)))), .unset, .unset] [(.int (own_f ln p1))]))
  refine own_st (A' := T2.setTop (mkF m 30 #[.val (.int p0), .val (.int p1), .val (.int p2), .val (.int ln), .val (.ref b1), .val (.int ((((65532 : Int32) - ln) >>> ((1 : Int32) &&& 31)) + (p2 % (3 : Int32)))), .unset, .unset] [(.int p1), (.int ln), (.int (own_f ln p1))])) (fun tg kt => ?_) ?_
  · show Steps p.tables e below (T2.setTop (mkF m 28 #[.val (.int p0), .val (.int p1), .val (.int p2), .val (.int ln), .val (.ref b1), .val (.int ((((65532 : Int32) - ln) >>> ((1 : Int32) &&& 31)) + (p2 % (3 : Int32)))), .unset, .unset] [(.int (own_f ln p1))])) _
    refine XS.iloadN X2.here hx rfl (hb hby at_28) rfl ?_
    show Steps p.tables e below (T2.setTop (mkF m 29 #[.val (.int p0), .val (.int p1), .val (.int p2), .val (.int ln), .val (.ref b1), .val (.int ((((65532 : Int32) - ln) >>> ((1 : Int32) &&& 31)) + (p2 % (3 : Int32)))), .unset, .unset] [(.int ln), (.int (own_f ln p1))])) _
    refine XS.iloadN X2.here hx rfl (hb hby at_29) rfl ?_
    exact kt
  obtain ⟨_, _, ⟨T3, L3, k3, n3⟩, -, X3, ⟨Lc3, hQ3, l3, y3, z3⟩, st3⟩ := Jvm.LawKit.callS X2 hx (y := (⟨"com/example/tagwire/tagwire/bb/MemoryReadFitsPinLaw", "expected", "(II)Z"⟩ : MethodName)) hown (mvT hZ (hw _ (List.mem_of_getElem? (i := 10) rfl))) (mvT hZ (hw _ (List.mem_of_getElem? (i := 11) rfl))) (mvT hZ (hw _ (List.mem_of_getElem? (i := 12) rfl))) (mvT hZ (hw _ (List.mem_of_getElem? (i := 13) rfl))) (by decide) (backOf (W := 1) (rm2 l Z a0 hw [] ln p1 h1 n0 Z1 hb0 hb1) hZ (hw _ (List.mem_of_getElem? (i := 13) rfl)) (hw _ (List.mem_of_getElem? (i := 12) rfl)) (by decide) (by decide)) (g := (mkF m 30 #[.val (.int p0), .val (.int p1), .val (.int p2), .val (.int ln), .val (.ref b1), .val (.int ((((65532 : Int32) - ln) >>> ((1 : Int32) &&& 31)) + (p2 % (3 : Int32)))), .unset, .unset] [(.int p1), (.int ln), (.int (own_f ln p1))])) rfl (by rw [hml]; rfl) (argsL := [(.int ln), (.int p1)]) (rest := [(.int (own_f ln p1))]) (lenOf own_pd3 rfl) rfl (by show 2 * 0 + _ ≤ _; exact Nat.le_of_eq rfl) (hb hby at_30) (fun _ _ => ⟨rfl, eq2, (by decide : 1 + 0 ≤ _), (by decide : 131071 + 0 ≤ _)⟩)
  dsimp only [Pt.U, Pt.locs, Pt.cells, Pt.slots] at X3 l3 y3 z3 st3 hQ3
  subst l3 y3 z3
  obtain ⟨rfl, Nq3, eq3⟩ := hQ3
  have N3 := Fr.app N2 Nq3
  refine own_st st3 ?_
  show own_Gl _ _ _ _ _ _ _ _ (T3.setTop (mkF m 33 #[.val (.int p0), .val (.int p1), .val (.int p2), .val (.int ln), .val (.ref b1), .val (.int ((((65532 : Int32) - ln) >>> ((1 : Int32) &&& 31)) + (p2 % (3 : Int32)))), .unset, .unset] [(.int (own_f ln p1)), (.int (own_f ln p1))]))
  refine own_st (A' := T3.setTop (mkF m 47 #[.val (.int p0), .val (.int p1), .val (.int p2), .val (.int ln), .val (.ref b1), .val (.int ((((65532 : Int32) - ln) >>> ((1 : Int32) &&& 31)) + (p2 % (3 : Int32)))), .val (.int (1 : Int32)), .unset] [(.int ((((65532 : Int32) - ln) >>> ((1 : Int32) &&& 31)) + (p2 % (3 : Int32)))), (.ref b1)])) (fun tg kt => ?_) ?_
  · show Steps p.tables e below (T3.setTop (mkF m 33 #[.val (.int p0), .val (.int p1), .val (.int p2), .val (.int ln), .val (.ref b1), .val (.int ((((65532 : Int32) - ln) >>> ((1 : Int32) &&& 31)) + (p2 % (3 : Int32)))), .unset, .unset] [(.int (own_f ln p1)), (.int (own_f ln p1))])) _
    refine XS.icmpNo X3.here hx rfl (hb hby at_33) rfl (teq (rfl : (own_f ln p1) = (own_f ln p1))).2 ?_
    show Steps p.tables e below (T3.setTop (mkF m 36 #[.val (.int p0), .val (.int p1), .val (.int p2), .val (.int ln), .val (.ref b1), .val (.int ((((65532 : Int32) - ln) >>> ((1 : Int32) &&& 31)) + (p2 % (3 : Int32)))), .unset, .unset] [])) _
    refine XS.iconst X3.here hx rfl (hb hby at_36) ?_
    show Steps p.tables e below (T3.setTop (mkF m 37 #[.val (.int p0), .val (.int p1), .val (.int p2), .val (.int ln), .val (.ref b1), .val (.int ((((65532 : Int32) - ln) >>> ((1 : Int32) &&& 31)) + (p2 % (3 : Int32)))), .unset, .unset] [(.int (1 : Int32))])) _
    refine XS.goto X3.here hx rfl (pc0 := 37) (pc' := 41) rfl (hb hby at_37) (by decide) (by decide) ?_
    show Steps p.tables e below (T3.setTop (mkF m 41 #[.val (.int p0), .val (.int p1), .val (.int p2), .val (.int ln), .val (.ref b1), .val (.int ((((65532 : Int32) - ln) >>> ((1 : Int32) &&& 31)) + (p2 % (3 : Int32)))), .unset, .unset] [(.int (1 : Int32))])) _
    refine XS.istore X3.here hx rfl (hb hby at_41) rfl (l' := #[.val (.int p0), .val (.int p1), .val (.int p2), .val (.int ln), .val (.ref b1), .val (.int ((((65532 : Int32) - ln) >>> ((1 : Int32) &&& 31)) + (p2 % (3 : Int32)))), .val (.int (1 : Int32)), .unset]) rfl ?_
    show Steps p.tables e below (T3.setTop (mkF m 43 #[.val (.int p0), .val (.int p1), .val (.int p2), .val (.int ln), .val (.ref b1), .val (.int ((((65532 : Int32) - ln) >>> ((1 : Int32) &&& 31)) + (p2 % (3 : Int32)))), .val (.int (1 : Int32)), .unset] [])) _
    refine XS.aload X3.here hx rfl (hb hby at_43) rfl rfl ?_
    show Steps p.tables e below (T3.setTop (mkF m 45 #[.val (.int p0), .val (.int p1), .val (.int p2), .val (.int ln), .val (.ref b1), .val (.int ((((65532 : Int32) - ln) >>> ((1 : Int32) &&& 31)) + (p2 % (3 : Int32)))), .val (.int (1 : Int32)), .unset] [(.ref b1)])) _
    refine XS.iload X3.here hx rfl (hb hby at_45) rfl ?_
    exact kt
  obtain ⟨_, _, ⟨T4, L4, k4, n4⟩, -, X4, ⟨Lc4, hQ4, l4, y4, z4⟩, st4⟩ := Jvm.LawKit.callS X3 hx (y := (⟨"com/example/tagwire/tagwire/bb/MemoryRead", "fits", "([BI)Z"⟩ : MethodName)) hown (mvT hZ (hw _ (List.mem_of_getElem? (i := 3) rfl))) (mvT hZ (hw _ (List.mem_of_getElem? (i := 4) rfl))) (mvT hZ (hw _ (List.mem_of_getElem? (i := 5) rfl))) (mvT hZ (hw _ (List.mem_of_getElem? (i := 6) rfl))) (by decide) (backOf (W := 0) (rm1 l Z a0 hw [] b1 ((((65532 : Int32) - ln) >>> ((1 : Int32) &&& 31)) + (p2 % (3 : Int32))) k1 ln (.int (0 : Int32)) h1 n0 Z1 V_b1) hZ (hw _ (List.mem_of_getElem? (i := 6) rfl)) (hw _ (List.mem_of_getElem? (i := 5) rfl)) (by decide) (by decide)) (g := (mkF m 47 #[.val (.int p0), .val (.int p1), .val (.int p2), .val (.int ln), .val (.ref b1), .val (.int ((((65532 : Int32) - ln) >>> ((1 : Int32) &&& 31)) + (p2 % (3 : Int32)))), .val (.int (1 : Int32)), .unset] [(.int ((((65532 : Int32) - ln) >>> ((1 : Int32) &&& 31)) + (p2 % (3 : Int32)))), (.ref b1)])) rfl (by rw [hml]; rfl) (argsL := [(.ref b1), (.int ((((65532 : Int32) - ln) >>> ((1 : Int32) &&& 31)) + (p2 % (3 : Int32))))]) (rest := []) (lenOf own_pd2 rfl) rfl (by show 2 * 0 + _ ≤ _; exact Nat.le_of_eq rfl) (hb hby at_47) (fun _ _ => ⟨rfl, eq3, (by decide : 1 + 0 ≤ _), (by decide : 131071 + 0 ≤ _)⟩)
  dsimp only [Pt.U, Pt.locs, Pt.cells, Pt.slots] at X4 l4 y4 z4 st4 hQ4
  subst l4 y4 z4
  obtain ⟨rfl, Nq4, eq4⟩ := hQ4
  have N4 := Fr.app N3 Nq4
  refine own_st st4 ?_
  show own_Gl _ _ _ _ _ _ _ _ (T4.setTop (mkF m 50 #[.val (.int p0), .val (.int p1), .val (.int p2), .val (.int ln), .val (.ref b1), .val (.int ((((65532 : Int32) - ln) >>> ((1 : Int32) &&& 31)) + (p2 % (3 : Int32)))), .val (.int (1 : Int32)), .unset] [(.int (own_f ln ((((65532 : Int32) - ln) >>> ((1 : Int32) &&& 31)) + (p2 % (3 : Int32)))))]))
  refine own_st (A' := T4.setTop (mkF m 53 #[.val (.int p0), .val (.int p1), .val (.int p2), .val (.int ln), .val (.ref b1), .val (.int ((((65532 : Int32) - ln) >>> ((1 : Int32) &&& 31)) + (p2 % (3 : Int32)))), .val (.int (1 : Int32)), .unset] [(.int ((((65532 : Int32) - ln) >>> ((1 : Int32) &&& 31)) + (p2 % (3 : Int32)))), (.int ln), (.int (own_f ln ((((65532 : Int32) - ln) >>> ((1 : Int32) &&& 31)) + (p2 % (3 : Int32)))))])) (fun tg kt => ?_) ?_
  · show Steps p.tables e below (T4.setTop (mkF m 50 #[.val (.int p0), .val (.int p1), .val (.int p2), .val (.int ln), .val (.ref b1), .val (.int ((((65532 : Int32) - ln) >>> ((1 : Int32) &&& 31)) + (p2 % (3 : Int32)))), .val (.int (1 : Int32)), .unset] [(.int (own_f ln ((((65532 : Int32) - ln) >>> ((1 : Int32) &&& 31)) + (p2 % (3 : Int32)))))])) _
    refine XS.iloadN X4.here hx rfl (hb hby at_50) rfl ?_
    show Steps p.tables e below (T4.setTop (mkF m 51 #[.val (.int p0), .val (.int p1), .val (.int p2), .val (.int ln), .val (.ref b1), .val (.int ((((65532 : Int32) - ln) >>> ((1 : Int32) &&& 31)) + (p2 % (3 : Int32)))), .val (.int (1 : Int32)), .unset] [(.int ln), (.int (own_f ln ((((65532 : Int32) - ln) >>> ((1 : Int32) &&& 31)) + (p2 % (3 : Int32)))))])) _
    refine XS.iload X4.here hx rfl (hb hby at_51) rfl ?_
    exact kt
  obtain ⟨_, _, ⟨T5, L5, k5, n5⟩, -, X5, ⟨Lc5, hQ5, l5, y5, z5⟩, st5⟩ := Jvm.LawKit.callS X4 hx (y := (⟨"com/example/tagwire/tagwire/bb/MemoryReadFitsPinLaw", "expected", "(II)Z"⟩ : MethodName)) hown (mvT hZ (hw _ (List.mem_of_getElem? (i := 10) rfl))) (mvT hZ (hw _ (List.mem_of_getElem? (i := 11) rfl))) (mvT hZ (hw _ (List.mem_of_getElem? (i := 12) rfl))) (mvT hZ (hw _ (List.mem_of_getElem? (i := 13) rfl))) (by decide) (backOf (W := 1) (rm2 l Z a0 hw [] ln ((((65532 : Int32) - ln) >>> ((1 : Int32) &&& 31)) + (p2 % (3 : Int32))) h1 n0 Z1 hb0 hb1) hZ (hw _ (List.mem_of_getElem? (i := 13) rfl)) (hw _ (List.mem_of_getElem? (i := 12) rfl)) (by decide) (by decide)) (g := (mkF m 53 #[.val (.int p0), .val (.int p1), .val (.int p2), .val (.int ln), .val (.ref b1), .val (.int ((((65532 : Int32) - ln) >>> ((1 : Int32) &&& 31)) + (p2 % (3 : Int32)))), .val (.int (1 : Int32)), .unset] [(.int ((((65532 : Int32) - ln) >>> ((1 : Int32) &&& 31)) + (p2 % (3 : Int32)))), (.int ln), (.int (own_f ln ((((65532 : Int32) - ln) >>> ((1 : Int32) &&& 31)) + (p2 % (3 : Int32)))))])) rfl (by rw [hml]; rfl) (argsL := [(.int ln), (.int ((((65532 : Int32) - ln) >>> ((1 : Int32) &&& 31)) + (p2 % (3 : Int32))))]) (rest := [(.int (own_f ln ((((65532 : Int32) - ln) >>> ((1 : Int32) &&& 31)) + (p2 % (3 : Int32)))))]) (lenOf own_pd3 rfl) rfl (by show 2 * 0 + _ ≤ _; exact Nat.le_of_eq rfl) (hb hby at_53) (fun _ _ => ⟨rfl, eq4, (by decide : 1 + 0 ≤ _), (by decide : 131071 + 0 ≤ _)⟩)
  dsimp only [Pt.U, Pt.locs, Pt.cells, Pt.slots] at X5 l5 y5 z5 st5 hQ5
  subst l5 y5 z5
  obtain ⟨rfl, Nq5, eq5⟩ := hQ5
  have N5 := Fr.app N4 Nq5
  refine own_st st5 ?_
  show own_Gl _ _ _ _ _ _ _ _ (T5.setTop (mkF m 56 #[.val (.int p0), .val (.int p1), .val (.int p2), .val (.int ln), .val (.ref b1), .val (.int ((((65532 : Int32) - ln) >>> ((1 : Int32) &&& 31)) + (p2 % (3 : Int32)))), .val (.int (1 : Int32)), .unset] [(.int (own_f ln ((((65532 : Int32) - ln) >>> ((1 : Int32) &&& 31)) + (p2 % (3 : Int32))))), (.int (own_f ln ((((65532 : Int32) - ln) >>> ((1 : Int32) &&& 31)) + (p2 % (3 : Int32)))))]))
  refine own_st (A' := T5.setTop (mkF m 81 #[.val (.int p0), .val (.int p1), .val (.int p2), .val (.int ln), .val (.ref b1), .val (.int ((((65532 : Int32) - ln) >>> ((1 : Int32) &&& 31)) + (p2 % (3 : Int32)))), .val (.int (1 : Int32)), .val (.int (1 : Int32))] [(.int (1 : Int32))])) (fun tg kt => ?_) ?_
  · show Steps p.tables e below (T5.setTop (mkF m 56 #[.val (.int p0), .val (.int p1), .val (.int p2), .val (.int ln), .val (.ref b1), .val (.int ((((65532 : Int32) - ln) >>> ((1 : Int32) &&& 31)) + (p2 % (3 : Int32)))), .val (.int (1 : Int32)), .unset] [(.int (own_f ln ((((65532 : Int32) - ln) >>> ((1 : Int32) &&& 31)) + (p2 % (3 : Int32))))), (.int (own_f ln ((((65532 : Int32) - ln) >>> ((1 : Int32) &&& 31)) + (p2 % (3 : Int32)))))])) _
    refine XS.icmpNo X5.here hx rfl (hb hby at_56) rfl (teq (rfl : (own_f ln ((((65532 : Int32) - ln) >>> ((1 : Int32) &&& 31)) + (p2 % (3 : Int32)))) = (own_f ln ((((65532 : Int32) - ln) >>> ((1 : Int32) &&& 31)) + (p2 % (3 : Int32)))))).2 ?_
    show Steps p.tables e below (T5.setTop (mkF m 59 #[.val (.int p0), .val (.int p1), .val (.int p2), .val (.int ln), .val (.ref b1), .val (.int ((((65532 : Int32) - ln) >>> ((1 : Int32) &&& 31)) + (p2 % (3 : Int32)))), .val (.int (1 : Int32)), .unset] [])) _
    refine XS.iconst X5.here hx rfl (hb hby at_59) ?_
    show Steps p.tables e below (T5.setTop (mkF m 60 #[.val (.int p0), .val (.int p1), .val (.int p2), .val (.int ln), .val (.ref b1), .val (.int ((((65532 : Int32) - ln) >>> ((1 : Int32) &&& 31)) + (p2 % (3 : Int32)))), .val (.int (1 : Int32)), .unset] [(.int (1 : Int32))])) _
    refine XS.goto X5.here hx rfl (pc0 := 60) (pc' := 64) rfl (hb hby at_60) (by decide) (by decide) ?_
    show Steps p.tables e below (T5.setTop (mkF m 64 #[.val (.int p0), .val (.int p1), .val (.int p2), .val (.int ln), .val (.ref b1), .val (.int ((((65532 : Int32) - ln) >>> ((1 : Int32) &&& 31)) + (p2 % (3 : Int32)))), .val (.int (1 : Int32)), .unset] [(.int (1 : Int32))])) _
    refine XS.istore X5.here hx rfl (hb hby at_64) rfl (l' := #[.val (.int p0), .val (.int p1), .val (.int p2), .val (.int ln), .val (.ref b1), .val (.int ((((65532 : Int32) - ln) >>> ((1 : Int32) &&& 31)) + (p2 % (3 : Int32)))), .val (.int (1 : Int32)), .val (.int (1 : Int32))]) rfl ?_
    show Steps p.tables e below (T5.setTop (mkF m 66 #[.val (.int p0), .val (.int p1), .val (.int p2), .val (.int ln), .val (.ref b1), .val (.int ((((65532 : Int32) - ln) >>> ((1 : Int32) &&& 31)) + (p2 % (3 : Int32)))), .val (.int (1 : Int32)), .val (.int (1 : Int32))] [])) _
    refine XS.iload X5.here hx rfl (hb hby at_66) rfl ?_
    show Steps p.tables e below (T5.setTop (mkF m 68 #[.val (.int p0), .val (.int p1), .val (.int p2), .val (.int ln), .val (.ref b1), .val (.int ((((65532 : Int32) - ln) >>> ((1 : Int32) &&& 31)) + (p2 % (3 : Int32)))), .val (.int (1 : Int32)), .val (.int (1 : Int32))] [(.int (1 : Int32))])) _
    refine XS.ifNo X5.here hx rfl (hb hby at_68) rfl ((if0 _ _).trans (feq ((by decide) : ¬ ((1 : Int32) = (0 : Int32)))).1) ?_
    show Steps p.tables e below (T5.setTop (mkF m 71 #[.val (.int p0), .val (.int p1), .val (.int p2), .val (.int ln), .val (.ref b1), .val (.int ((((65532 : Int32) - ln) >>> ((1 : Int32) &&& 31)) + (p2 % (3 : Int32)))), .val (.int (1 : Int32)), .val (.int (1 : Int32))] [])) _
    refine XS.iload X5.here hx rfl (hb hby at_71) rfl ?_
    show Steps p.tables e below (T5.setTop (mkF m 73 #[.val (.int p0), .val (.int p1), .val (.int p2), .val (.int ln), .val (.ref b1), .val (.int ((((65532 : Int32) - ln) >>> ((1 : Int32) &&& 31)) + (p2 % (3 : Int32)))), .val (.int (1 : Int32)), .val (.int (1 : Int32))] [(.int (1 : Int32))])) _
    refine XS.ifNo X5.here hx rfl (hb hby at_73) rfl ((if0 _ _).trans (feq ((by decide) : ¬ ((1 : Int32) = (0 : Int32)))).1) ?_
    show Steps p.tables e below (T5.setTop (mkF m 76 #[.val (.int p0), .val (.int p1), .val (.int p2), .val (.int ln), .val (.ref b1), .val (.int ((((65532 : Int32) - ln) >>> ((1 : Int32) &&& 31)) + (p2 % (3 : Int32)))), .val (.int (1 : Int32)), .val (.int (1 : Int32))] [])) _
    refine XS.iconst X5.here hx rfl (hb hby at_76) ?_
    show Steps p.tables e below (T5.setTop (mkF m 77 #[.val (.int p0), .val (.int p1), .val (.int p2), .val (.int ln), .val (.ref b1), .val (.int ((((65532 : Int32) - ln) >>> ((1 : Int32) &&& 31)) + (p2 % (3 : Int32)))), .val (.int (1 : Int32)), .val (.int (1 : Int32))] [(.int (1 : Int32))])) _
    refine XS.goto X5.here hx rfl (pc0 := 77) (pc' := 81) rfl (hb hby at_77) (by decide) (by decide) ?_
    exact kt
  refine own_ret X5 (v := some (.int (1 : Int32))) (fun h => by rw [Bd.returns] at h; cases h) hlk (by decide) (by decide) ?_ (fun fs hr => ?_)
  · show Q0 Z p0 p1 p2 h0 n0 (some (.int (1 : Int32))) T5.heap _
    rw [eq5]
    exact ⟨rfl, N5⟩
  · show Steps p.tables e below (T5.setTop (mkF m 81 #[.val (.int p0), .val (.int p1), .val (.int p2), .val (.int ln), .val (.ref b1), .val (.int ((((65532 : Int32) - ln) >>> ((1 : Int32) &&& 31)) + (p2 % (3 : Int32)))), .val (.int (1 : Int32)), .val (.int (1 : Int32))] [(.int (1 : Int32))])) _
    exact retN X5 hx (t := .boolean) Bd.returns (by simp) (hb hby at_81) hr
set_option maxRecDepth 65536 in
set_option maxHeartbeats 40000000 in
theorem comes_1 {Post : Tables → Env → Array Value → State → Outcome → State → Prop} (hpost : ∀ tb e args s v u, (limb_1_1.after args s (.returned v) u = true ∧ limb_1_2.after args s (.returned v) u = true ∧ True) → FrameEnd s (.returned v) u (Jvm.fieldLocs frame_1_writes args s ++ Jvm.arrayLocs frame_1_arrays args s ++ Jvm.staticLocs frame_1_statics s) 16 157312 → Post tb e args s (.returned v) u) :
    ArmFor flags0 classFile x code maxLocals ret World_1 tables_1 room_1 Calls_1 rest_1 Pre_1 Post := by
  intro l hfl _ _ p e ha hc hk s m args below hf hA hF happ hP
  obtain ⟨hcalls, hrest, hpre⟩ := hP
  obtain ⟨-, -, -, hnamed, -, -, -, hat⟩ := (Spec.applies_iff hf).mp happ
  obtain ⟨hg, hn⟩ := and_e (Cond.before_iff.mp (show (Jvm.Cond.and given_1 narrow_1).before args s = true from hpre))
  obtain ⟨gg1, gg2⟩ := and_e hg
  obtain ⟨gg3, gg4⟩ := and_e gg2
  obtain ⟨gg5, gg6⟩ := and_e gg4
  obtain ⟨w0, w1, w2, rfl⟩ : ∃ w0 w1 w2 : Value, args = #[w0, w1, w2] := by
    have hs : args.size = 3 := by simpa [Cond.value, given_1] using gg1
    obtain ⟨L⟩ := args
    match L, hs with
    | [w0, w1, w2], _ => exact ⟨w0, w1, w2, rfl⟩
  have hw := fun d (hd : d ∈ tables_1) => atoms_spec (ws := Jvm.Cond.code x code maxLocals ret :: tables_1) hat d (List.mem_cons_of_mem _ hd)
  have hfit : Fit s := fun {y c} hc i hi => by
    obtain ⟨ha, rfl⟩ := Array.getElem?_eq_some_iff.mp hc
    have q := List.all_eq_true.mp ((Array.all_eq_true_iff_forall_mem.mp hF) _ (Array.getElem_mem ha)) i (List.mem_range.mpr hi)
    simpa [Array.getElem?_eq_getElem hi] using q
  obtain ⟨i0, ei0⟩ := is_v gg3
  obtain rfl : w0 = (.int i0) := Option.some.inj ei0
  obtain ⟨i1, ei1⟩ := is_v gg5
  obtain rfl : w1 = (.int i1) := Option.some.inj ei1
  obtain ⟨i2, ei2⟩ := is_v gg6
  obtain rfl : w2 = (.int i2) := Option.some.inj ei2
  obtain ⟨n, o, h1, h2, h3, _, L, rfl, ⟨rfl, N⟩, hq⟩ := rm0 l s _ hw tables_1 i0 i1 i2 s.heap s.heap.size (Nat.le_refl _)  p e ha hc hk s m _ below hf ((Spec.applies_iff_loose hf).mp happ).1 ⟨rfl, State.Warmed39.refl s, rfl⟩ trivial
  refine ⟨n, _, h1, h2, h3, hpost _ _ _ _ _ _ ⟨Cond.after_iff.mpr rfl, Cond.after_iff.mpr (eq_i res_at (Term.int_eval (1)) rfl), trivial⟩ ⟨hq.1, hq.2.1, (hq.2.2.sift fun y hy => Or.inr (N y hy)).mono (by decide) (by decide)⟩⟩
theorem main_1_1 : Claimed_1_1 := comes_1 fun _ _ _ _ _ _ h hF => ⟨h.1, hF⟩
theorem main_1_2 : Claimed_1_2 := comes_1 fun _ _ _ _ _ _ h hF => ⟨h.2.1, hF⟩
end Jvm.Pilot.@@N@@
namespace Jvm.Pilot.@@N@@
open Jvm Jvm.ClassFile Sem Op Lib Jvm.Free Jvm.Stand Jvm.Pilot.@@N@@.Jvm.D
/-! MADE BY PROGRAM (witnessworld.py) out of the Statement's table words and the real class files: 9 classes; the members and pool entries that the words name. The judged class is class 1, her method 2. -/
namespace start1
open Jvm.ClassFile
def u (s : String) : CpInfo := .utf8 (stringToUtf16 s)
/-- a pool by its gaps: so many unusable entries, then the entry; so many at the end -/
def gap : Nat → List CpInfo → List CpInfo
  | 0, r => r
  | n + 1, r => .unusable :: gap n r
def poolList (es : List (Nat × CpInfo)) (last : Nat) : List CpInfo := es.foldr (fun e r => gap e.1 (e.2 :: r)) (gap last [])
def pool (es : List (Nat × CpInfo)) (last : Nat) : Array CpInfo := ⟨poolList es last⟩
def fileOf (pool : Array CpInfo) (this : Nat) (attrs : Array Attribute := #[]) (ms : Array MethodInfo := #[]) (fl : Nat := 33) (sup : Nat := 0) (ifs : Array Nat := #[]) (fds : Array FieldInfo := #[]) : ClassFile where
  minorVersion := 0
  majorVersion := 65
  constantPool := pool
  accessFlags := fl
  thisClass := this
  superClass := sup
  interfaces := ifs
  fields := fds
  methods := ms
  attributes := attrs
def plain (name : String) (sup : Option ClassId) : Class where
  name := name
  kind := .ordinary
  loader := none
  accessFlags := 33
  super := sup
  interfaces := #[]
  cf := none
  fields := #[]
  methods := #[]
  instanceTypes := #[]
  staticTypes := #[]
  resolved := #[]
  callSites := []
  init := .initialized
  statics := none
  mirror := none

def pool0 : Array CpInfo := pool [(5, u "<init>"), (0, u "()V"), (1, .class_ 10), (1, u "java/lang/Object")] 113

def k0m0 : Method := { name := "<init>", desc := "()V", sig := { parameters := [], returnType := none }, accessFlags := 1, code := none }
/-- java/lang/Object -/
def k0 : Class := { plain "java/lang/Object" none with
  accessFlags := 33
  interfaces := #[]
  cf := some (fileOf pool0 8 #[] #[{ accessFlags := 1, nameIndex := 5, descriptorIndex := 6, attributes := #[] }] 33 0 #[] #[])
  fields := #[]
  methods := #[k0m0]
  instanceTypes := #[]
  staticTypes := #[]
  resolved := Array.replicate 124 none
  statics := none }

def pool1 : Array CpInfo := pool [(2, .class_ 4), (1, u "java/lang/Object"), (0, u "<init>"), (0, u "()V"), (0, .integer 65532), (0, .integer 131071), (0, .methodref 10 11), (0, .class_ 12), (0, .nameAndType 13 14), (0, u "com/example/tagwire/tagwire/bb/MemoryRead"), (0, u "fits"), (0, u "([BI)Z"), (0, .methodref 16 17), (0, .class_ 18), (0, .nameAndType 19 20), (0, u "com/example/tagwire/tagwire/bb/MemoryReadFitsPinLaw"), (0, u "expected"), (0, u "(II)Z"), (3, u "law"), (0, u "(III)Z")] 4

def k1m0 : Method := { name := "<init>", desc := "()V", sig := { parameters := [], returnType := none }, accessFlags := 2, code := none }
def k1c1 : Code := { maxStack := 3, maxLocals := 3, code := method_2_code, exceptionTable := #[], attributes := #[] }
def k1m1 : Method := { name := "expected", desc := "(II)Z", sig := { parameters := [.int, .int], returnType := some .boolean }, accessFlags := 10, code := some k1c1 }
def k1c2 : Code := { maxStack := 3, maxLocals := 8, code := code, exceptionTable := #[], attributes := #[] }
def k1m2 : Method := { name := "law", desc := "(III)Z", sig := { parameters := [.int, .int, .int], returnType := some .boolean }, accessFlags := 9, code := some k1c2 }
/-- com/example/tagwire/tagwire/bb/MemoryReadFitsPinLaw -/
def k1 : Class := { plain "com/example/tagwire/tagwire/bb/MemoryReadFitsPinLaw" (some 0) with
  accessFlags := 49
  interfaces := #[]
  cf := some (fileOf pool1 16 #[] #[{ accessFlags := 2, nameIndex := 5, descriptorIndex := 6, attributes := #[] }, { accessFlags := 10, nameIndex := 19, descriptorIndex := 20, attributes := #[] }, { accessFlags := 9, nameIndex := 24, descriptorIndex := 25, attributes := #[] }] 49 2 #[] #[])
  fields := #[]
  methods := #[k1m0, k1m1, k1m2]
  instanceTypes := #[]
  staticTypes := #[]
  resolved := Array.replicate 30 none
  statics := none }

def pool2 : Array CpInfo := pool [(4, .class_ 6), (1, u "java/lang/Object"), (3, .class_ 12), (1, u "com/example/tagwire/tagwire/bb/MemoryRead"), (0, u "tag"), (0, u "Lcom/example/tagwire/tagwire/bb/NamedTag;"), (2, u "data"), (0, u "[B"), (77, .long 3), (1, .long 2), (1, .long 65535), (10, u "I"), (7, u "MAX_WORDS"), (9, u "fits"), (0, u "([BI)Z")] 19

def k2c0 : Code := { maxStack := 6, maxLocals := 2, code := prog_13_method_4_code, exceptionTable := #[], attributes := #[] }
def k2m0 : Method := { name := "fits", desc := "([BI)Z", sig := { parameters := [(.array .byte), .int], returnType := some .boolean }, accessFlags := 8, code := some k2c0 }
/-- com/example/tagwire/tagwire/bb/MemoryRead -/
def k2 : Class := { plain "com/example/tagwire/tagwire/bb/MemoryRead" (some 0) with
  accessFlags := 49
  interfaces := #[]
  cf := some (fileOf pool2 10 #[] #[{ accessFlags := 8, nameIndex := 129, descriptorIndex := 130, attributes := #[] }] 49 4 #[] #[{ accessFlags := 25, nameIndex := 119, descriptorIndex := 111, attributes := #[] }, { accessFlags := 18, nameIndex := 13, descriptorIndex := 14, attributes := #[] }, { accessFlags := 18, nameIndex := 17, descriptorIndex := 18, attributes := #[] }])
  fields := #[{ name := "MAX_WORDS", type := .int, accessFlags := 25, slot := 0, constantValue := 0 }, { name := "tag", type := (.object "com/example/tagwire/tagwire/bb/NamedTag"), accessFlags := 18, slot := 0, constantValue := 0 }, { name := "data", type := (.array .byte), accessFlags := 18, slot := 1, constantValue := 0 }]
  methods := #[k2m0]
  instanceTypes := #[(.object "com/example/tagwire/tagwire/bb/NamedTag"), (.array .byte)]
  staticTypes := #[.int]
  resolved := Array.replicate 150 none
  statics := none }

def pool3 : Array CpInfo := pool [(1, u "java/lang/Cloneable"), (0, .class_ 1), (0, u "java/lang/Object"), (0, .class_ 3)] 3

/-- java/lang/Cloneable -/
def k3 : Class := { plain "java/lang/Cloneable" (some 0) with
  accessFlags := 1537
  interfaces := #[]
  cf := some (fileOf pool3 2 #[] #[] 1537 4 #[] #[])
  fields := #[]
  methods := #[]
  instanceTypes := #[]
  staticTypes := #[]
  resolved := Array.replicate 8 none
  statics := none }

def pool4 : Array CpInfo := pool [(1, u "java/io/Serializable"), (0, .class_ 1), (0, u "java/lang/Object"), (0, .class_ 3)] 3

/-- java/io/Serializable -/
def k4 : Class := { plain "java/io/Serializable" (some 0) with
  accessFlags := 1537
  interfaces := #[]
  cf := some (fileOf pool4 2 #[] #[] 1537 4 #[] #[])
  fields := #[]
  methods := #[]
  instanceTypes := #[]
  staticTypes := #[]
  resolved := Array.replicate 8 none
  statics := none }

/-- the primitive byte -/
def k5 : Class := { plain "byte" none with kind := .primitive 'B', accessFlags := 0x411 }
/-- [B -/
def k6 : Class := { plain "[B" (some 0) with kind := .array 5 .byte, interfaces := #[3, 4], accessFlags := 1041 }

/-- the primitive int -/
def k7 : Class := { plain "int" none with kind := .primitive 'I', accessFlags := 0x411 }
/-- [I -/
def k8 : Class := { plain "[I" (some 0) with kind := .array 7 .int, interfaces := #[3, 4], accessFlags := 1041 }

def heap : Heap := #[]
def classes : Array Class := #[k0, k1, k2, k3, k4, k5, k6, k7, k8]
def interned : List (Array UInt16 × Addr) := []
def slotsUsed : Nat := 0
def theMethod : MethodId := ⟨1, 2⟩
def args0 : Array Value := #[.int 5, .int 7, .int 1]
def aboutOver (below : List Frame) : State where
  vm := { classes := classes, interned := interned.toArray }
  heap := heap
  slotsUsed := slotsUsed
  threads := #[{ frames := .invoking theMethod args0 :: below }]
def below0 : List Frame := [.native { method := ⟨0, 0⟩, args := #[] }]
def about1 : State := aboutOver below0
def p0 : Program := .bare "" "" ""
def e0 : Env := launch0.env 0 0 0
theorem w_frames : about1.frames = Frame.invoking theMethod args0 :: below0 := rfl
set_option maxRecDepth 65536 in
theorem w_args : argsFit about1.vm theMethod args0 = true := by decide +kernel
set_option maxRecDepth 65536 in
theorem w_heap : heapFits about1 = true := by decide +kernel
set_option maxRecDepth 65536 in
theorem w_runnable : about1.curStatus? = some .runnable := by decide +kernel
set_option maxRecDepth 65536 in
theorem w_alone : about1.alone = true := by decide +kernel
set_option maxRecDepth 65536 in
theorem w_named : about1.methodNamed? x = some theMethod := by decide +kernel
set_option maxRecDepth 65536 in
theorem w_hears : about1.hears theMethod below0 = true := by decide +kernel
set_option maxRecDepth 65536 in
theorem w_ripe : about1.ripe theMethod args0 below0 = true := by decide +kernel
theorem w_running : about1.status = .running := rfl
set_option maxRecDepth 65536 in
theorem w_room : about1.hasRoom e0.platform room_1 = true :=
  launch0.hasRoom_least _ room_1 (by decide +kernel) (by decide +kernel) (by decide +kernel) (by decide +kernel) (by decide +kernel) (by decide +kernel)
theorem allAtoms_all (ts : List Jvm.Cond) (a : Array Jvm.Value) (st : Jvm.State) : (allAtoms ts).before a st = ts.all (fun c => c.before a st) := by
  induction ts with
  | nil => rfl
  | cons c t ih =>
    show (Jvm.Cond.and c (allAtoms t)).before a st = _
    rw [Jvm.Cond.before_and, ih, List.all_cons]
def words1 : List Jvm.Cond := Jvm.Cond.code x code maxLocals ret :: tables_1
/-- a 'code' word, met by the world's own term for the bytes: nothing is compared byte by byte -/
theorem code_word {y : MethodName} {bytes : ByteArray} {mx : Nat} {rt : Option FieldType} {a : Array Value} {s : State} {m : MethodId} {meth : Method} {c : Code} (h1 : s.methodNamed? y = some m) (h2 : s.vm.method? m = some meth) (h3 : meth.code = some c) (h4 : c.code = bytes)
    (h5 : (c.maxLocals == mx && c.exceptionTable.isEmpty && decide (c.maxStack ≤ mostOperands) && decide (meth.sig.returnType = rt) && !meth.locks && decide (parseMethodDescriptor y.desc = some meth.sig)) = true) : (Jvm.Cond.code y bytes mx rt).before a s = true := by
  simp only [Bool.and_eq_true, beq_iff_eq, Bool.not_eq_true', decide_eq_true_eq] at h5
  obtain ⟨⟨⟨⟨⟨g1, g2⟩, g3⟩, g4⟩, g5⟩, g6⟩ := h5
  simp [Cond.before, Cond.holds, Cond.value, h1, h2, h3, h4, g1, g2, g3, g4, g5, g6]
def isCode : Jvm.Cond → Bool
  | .code _ _ _ _ => true
  | _ => false
theorem all_split {L : List Jvm.Cond} {P : Jvm.Cond → Bool} (h1 : L.all (fun c => isCode c || P c) = true) (h2 : ∀ c ∈ L.filter isCode, P c = true) : L.all P = true := by
  refine List.all_eq_true.mpr fun c hc => ?_
  have h := List.all_eq_true.mp h1 c hc
  rcases Bool.eq_false_or_eq_true (isCode c) with hi | hi
  · exact h2 c (List.mem_filter.mpr ⟨hc, hi⟩)
  · simpa [hi] using h
set_option maxRecDepth 65536 in
theorem w_c0 : (Jvm.Cond.code x code maxLocals ret).before args0 about1 = true := code_word (m := ⟨1, 2⟩) (meth := k1m2) (c := k1c2) (by decide +kernel) rfl rfl rfl (by decide +kernel)
set_option maxRecDepth 65536 in
theorem w_c1 : (Jvm.Cond.code ({ cls := "com/example/tagwire/tagwire/bb/MemoryRead", name := "fits", desc := "([BI)Z" } : Jvm.MethodName) prog_13_method_4_code (2 : Nat) (Option.some Jvm.ClassFile.FieldType.boolean)).before args0 about1 = true := code_word (m := ⟨2, 0⟩) (meth := k2m0) (c := k2c0) (by decide +kernel) rfl rfl rfl (by decide +kernel)
set_option maxRecDepth 65536 in
theorem w_c2 : (Jvm.Cond.code ({ cls := "com/example/tagwire/tagwire/bb/MemoryReadFitsPinLaw", name := "expected", desc := "(II)Z" } : Jvm.MethodName) method_2_code (3 : Nat) (Option.some Jvm.ClassFile.FieldType.boolean)).before args0 about1 = true := code_word (m := ⟨1, 1⟩) (meth := k1m1) (c := k1c1) (by decide +kernel) rfl rfl rfl (by decide +kernel)
def codes1 : List Jvm.Cond := [Jvm.Cond.code x code maxLocals ret, Jvm.Cond.code ({ cls := "com/example/tagwire/tagwire/bb/MemoryRead", name := "fits", desc := "([BI)Z" } : Jvm.MethodName) prog_13_method_4_code (2 : Nat) (Option.some Jvm.ClassFile.FieldType.boolean), Jvm.Cond.code ({ cls := "com/example/tagwire/tagwire/bb/MemoryReadFitsPinLaw", name := "expected", desc := "(II)Z" } : Jvm.MethodName) method_2_code (3 : Nat) (Option.some Jvm.ClassFile.FieldType.boolean)]
set_option maxRecDepth 65536 in
theorem codes_eq : words1.filter isCode = codes1 := rfl
theorem w_codes : ∀ c ∈ words1.filter isCode, c.before args0 about1 = true := by
  rw [codes_eq]
  intro c hc
  simp only [codes1, List.mem_cons, List.not_mem_nil, or_false] at hc
  rcases hc with rfl | rfl | rfl
  · exact w_c0
  · exact w_c1
  · exact w_c2
set_option maxRecDepth 65536 in
theorem w_t1 : words1.all (fun c => isCode c || c.before args0 about1) = true := by decide +kernel
theorem w_tables : (allAtoms (Jvm.Cond.code x code maxLocals ret :: tables_1)).before args0 about1 = true := by
  rw [allAtoms_all]
  show words1.all (fun c => c.before args0 about1) = true
  refine all_split ?_ w_codes
  rw [w_t1]
set_option maxRecDepth 65536 in
theorem w_case : (Jvm.Cond.and given_1 narrow_1).before args0 about1 = true := by decide +kernel
theorem w_applies : (headSpec (Jvm.Cond.code x code maxLocals ret :: tables_1) room_1).applies x e0.platform about1 = true :=
  (Spec.applies_iff w_frames).mpr ⟨w_running, w_runnable, w_alone, w_named, w_hears, w_ripe, w_room, w_tables⟩
theorem atStart : AtStart classFile x code maxLocals ret World_1 tables_1 room_1 Calls_1 rest_1 Pre_1 launch0 p0 e0 about1 theMethod args0 below0 :=
  ⟨lists_1, trivial, launch0.admits_env _ _ _, launch0.least_env, fairChoices_fair.cas, fairChoices_fair.clock, w_frames, w_args, w_heap, w_applies, trivial, trivial, w_case⟩
end start1
theorem witness_1 : WitnessClaimed_1 := ⟨start1.p0, start1.e0, start1.about1, start1.theMethod, start1.args0, start1.below0, start1.atStart⟩
end Jvm.Pilot.@@N@@
