import JvmDerived
import JvmDerived.Pilot.@@N@@Statement
import JvmDerived.Pilot.@@N@@Code
set_option linter.unusedVariables false
set_option linter.unusedSimpArgs false
@@BLOCK:NumsL.lean.txt@@
namespace Jvm.RoadKit
open Sem ClassFile Op Lib Jvm.Stand Jvm.Free Jvm.LawKit
section New
variable {p : Program} {l : Launch} {e : Env} {R : Room} {s : State} {m : MethodId} {args : Array Value} {below : List Frame} {meth : Method} {c : Code} {T : State} {locs : List Loc} {cells slots : Nat}
theorem retI (X : Stand p l e R s m args below meth c T locs cells slots) (hx : p.tables.exec = Jvm.exec) {pc : Nat} {Ls : Array Slot} {z : Int32} {rest : List Value} (hret : meth.sig.returnType = some .int) (hd : decode c.code pc = .ok (.ireturn, 1)) {fs : List Frame}
    (hl : ∀ (f : JFrame) (acts : List Action), f.method = m → f.locked = none → f.entered = [] → (doReturn e (T.setTop f) acts (some (.int z))).1 = T.setFrames fs) : Steps p.tables e below (T.setTop (mkF m pc Ls (.int z :: rest))) (T.setFrames fs) := by
  have hm' : T.vm.method? m = some meth := X.method'
  have hn : narrow .int (.int z) = .int z := rfl
  show Steps p.tables e below (T.setTop { method := m, pc := pc, locals := Ls, stack := _ :: rest, locked := none }) _
  jvm_step X.here [X.here.top, hx, hd, hm', hret, hn]
  first | (intro acts; rw [hl _ acts rfl rfl rfl]) | rw [hl _ _ rfl rfl rfl]
  exact Steps.refl _
end New
end Jvm.RoadKit
namespace Jvm.Pilot.@@N@@
open Jvm Jvm.ClassFile Sem Op Lib Jvm.Free Jvm.Stand Jvm.LawKit Jvm.RoadKit Bundle Jvm.Pilot.@@N@@.Jvm.D
/-- what is still to be run from the state A on: it ends, returned, and Q says what it leaves -/
def own_Gl (FE : State → Outcome → State → List Loc → Nat → Nat → Prop) (p : Program) (e : Env) (below : List Frame) (s : State) (Q : Option Value → Heap → List Loc → Prop) (C N : Nat) (A : State) : Prop :=
  ∃ s₂ o, Steps p.tables e below A s₂ ∧ s₂.status = .running ∧ Ended s₂ below o ∧ ∃ v L, o = .returned v ∧ Q v s₂.heap L ∧ FE s o s₂ L C N
theorem own_st {FE : State → Outcome → State → List Loc → Nat → Nat → Prop} {p : Program} {e : Env} {below : List Frame} {s : State} {Q : Option Value → Heap → List Loc → Prop} {C N : Nat} {A A' : State} (h : ∀ t, Steps p.tables e below A' t → Steps p.tables e below A t) (k : own_Gl FE p e below s Q C N A') : own_Gl FE p e below s Q C N A := by
  obtain ⟨s2, o, h1, r⟩ := k
  exact ⟨s2, o, h _ h1, r⟩
theorem own_tr {FE : State → Outcome → State → List Loc → Nat → Nat → Prop} {p : Program} {e : Env} {below : List Frame} {s : State} {Q : Option Value → Heap → List Loc → Prop} {C N : Nat} {A A' : State} (h : Steps p.tables e below A A') (k : own_Gl FE p e below s Q C N A') : own_Gl FE p e below s Q C N A := by
  obtain ⟨s2, o, h1, r⟩ := k
  exact ⟨s2, o, h.trans h1, r⟩
theorem own_ret {p : Program} {l : Launch} {e : Env} {R : Room} {s : State} {m : MethodId} {args : Array Value} {below : List Frame} {meth : Method} {c : Code} {T : State} {locs : List Loc} {cells slots : Nat} {Q : Option Value → Heap → List Loc → Prop} {C N : Nat} {A : State}
    (X : Stand p l e R s m args below meth c T locs cells slots) {v : Option Value} (hv : meth.sig.returnType = none → v = none) (hlocks : meth.locks = false) (hC : cells ≤ C) (hN : slots ≤ N) (q : Q v T.heap locs)
    (h : ∀ fs, (∀ (f : JFrame) (acts : List Action), f.method = m → f.locked = none → f.entered = [] → (doReturn e (T.setTop f) acts v).1 = T.setFrames fs) → Steps p.tables e below A (T.setFrames fs)) : own_Gl FrameEnd p e below s Q C N A := by
  obtain ⟨fs, hr, hrun, hended, hW, hsame⟩ := X.leave (v := v) hv hlocks
  exact ⟨_, _, h fs hr, hrun, hended, v, locs, rfl, q, ⟨v, rfl⟩, hW, hsame.mono hC hN⟩
theorem own_retW {p : Program} {l : Launch} {e : Env} {R : Room} {s : State} {vm0 : Vm} {m : MethodId} {args : Array Value} {below : List Frame} {meth : Method} {c : Code} {T : State} {locs : List Loc} {cells slots : Nat} {Q : Option Value → Heap → List Loc → Prop} {C N : Nat} {A : State}
    (X : Stand p l e R (s.setVm vm0) m args below meth c T locs cells slots) {k0 : Nat} (hS : s.Since vm0 k0) (hk : k0 ≤ T.heap.size) {v : Option Value} (hv : meth.sig.returnType = none → v = none) (hlocks : meth.locks = false) (hC : cells ≤ C) (hN : slots ≤ N) (q : Q v T.heap locs)
    (h : ∀ fs, (∀ (f : JFrame) (acts : List Action), f.method = m → f.locked = none → f.entered = [] → (doReturn e (T.setTop f) acts v).1 = T.setFrames fs) → Steps p.tables e below A (T.setFrames fs)) : own_Gl ReturnedEndW p e below s Q C N A := by
  obtain ⟨fs, hr, hrun, hended, h1, h2, h3, h4⟩ := X.leaveW hS hk (v := v) hv hlocks
  exact ⟨_, _, h fs hr, hrun, hended, v, locs, rfl, q, h1, h2, h3, h4.mono hC hN⟩
theorem own_kext {h0 h : Heap} (K : Keep h0 h ([] : List Addr)) : Ext h0 h := ⟨K.1, fun a c q => K.2.1 a c q nin0⟩
def own_FEH (Z : State) (EL : List (String × Nat)) (s : State) (o : Outcome) (t : State) (L : List Loc) (k n : Nat) : Prop := CHr Z EL s.vm s.heap t.vm t.heap ∧ ReturnedEndW s o t L k n
theorem own_retH {Z : State} {EL : List (String × Nat)} {a0 : Array Value} {p : Program} {l : Launch} {e : Env} {R : Room} {s : State} {vm0 : Vm} {m : MethodId} {args : Array Value} {below : List Frame} {meth : Method} {c : Code} {T : State} {locs : List Loc} {cells slots : Nat} {Q : Option Value → Heap → List Loc → Prop} {C N : Nat} {A : State} {h : Heap}
    (X : Stand p l e R (s.setVm vm0) m args below meth c T locs cells slots) {k0 : Nat} (hS : s.Since vm0 k0) (hk : k0 ≤ T.heap.size) (hZ : Z.Warmed39 vm0) (hEL : EW Z a0 EL) (eT : T.heap = h) (hR : CHr Z EL s.vm s.heap vm0 h) {v : Option Value} (hv : meth.sig.returnType = none → v = none) (hlocks : meth.locks = false) (hC : cells ≤ C) (hN : slots ≤ N) (q : Q v T.heap locs)
    (h' : ∀ fs, (∀ (f : JFrame) (acts : List Action), f.method = m → f.locked = none → f.entered = [] → (doReturn e (T.setTop f) acts v).1 = T.setFrames fs) → Steps p.tables e below A (T.setFrames fs)) : own_Gl (own_FEH Z EL) p e below s Q C N A := by
  obtain ⟨fs, hr, hrun, hended, h1, h2, h3, h4⟩ := X.leaveW hS hk (v := v) hv hlocks
  subst eT
  exact ⟨_, _, h' fs hr, hrun, hended, v, locs, rfl, q, (show CHr Z EL s.vm s.heap T.vm T.heap from hR.trans (CHv.at X hZ hEL hR.1)), h1, h2, h3, h4.mono hC hN⟩
theorem own_lgt {x y : Int64} (h : y < x) : (0 : Int32) < lcmpW x y := by rw [lcW]; exact (lc_gt _ _).mpr h
theorem own_ngt {x y : Int64} (h : ¬ y < x) : ¬ (0 : Int32) < lcmpW x y := by rw [lcW]; exact fun q => h ((lc_gt _ _).mp q)
theorem own_llt {x y : Int64} (h : x < y) : lcmpW x y < (0 : Int32) := by rw [lcW]; exact (lc_lt _ _).mpr h
theorem own_nlt {x y : Int64} (h : ¬ x < y) : ¬ lcmpW x y < (0 : Int32) := by rw [lcW]; exact fun q => h ((lc_lt _ _).mp q)
theorem own_leq {x y : Int64} (h : x = y) : lcmpW x y = (0 : Int32) := by rw [lcW]; exact (lc_eq _ _).mpr h
theorem own_neq {x y : Int64} (h : ¬ x = y) : ¬ lcmpW x y = (0 : Int32) := by rw [lcW]; exact fun q => h ((lc_eq _ _).mp q)
theorem own_lrem {p : Program} {l : Launch} {e : Env} {R : Room} {s : State} {m : MethodId} {args : Array Value} {below : List Frame} {meth : Method} {c : Code} {T : State} {locs : List Loc} {cells slots : Nat} {g : JFrame} {target : State} (X : Stand p l e R s m args below meth c T locs cells slots) (hx : p.tables.exec = Jvm.exec) (hg : g.method = m) {x y : Int64} {rest : List Value} (hd : decode c.code g.pc = .ok (.lrem, 1)) (hs : g.stack = .long y :: .long x :: rest) (hy : y ≠ 0)
    (hr : Steps p.tables e below (T.setTop { g with pc := g.pc + 1, stack := .long (x - (x / y) * y) :: rest }) target) : Steps p.tables e below (T.setTop g) target := XS.lrem X.here hx hg hd hs hy hr
theorem own_eqi {t : Term} {n : Int32} {args : Array Value} {s : State} (h : (Jvm.Cond.eq t (.int n)).value args s none s [] = some true) : t.eval args s none [] s = some (.int n) := by
  have hn : (Term.int n).eval args s none [] s = some (.int n) := rfl
  simp only [Cond.value, hn] at h
  cases hv : t.eval args s none [] s with
  | none => simp [hv] at h
  | some v => cases v <;> simp_all
theorem own_m31 (x : Int32) : (x &&& (2147483647 : Int32)).toInt = x.toInt % 2 ^ 31 := Jvm.Kit.i32_mask x 2147483647 (k := 31) (by decide) (by decide)
theorem own_rem (x k : Int32) (n : Nat) (hk : k.toInt = n) (hn : 0 < n) : 0 ≤ ((x &&& (2147483647 : Int32)) % k).toInt ∧ ((x &&& (2147483647 : Int32)) % k).toInt < n := by
  have m := own_m31 x
  rw [Jvm.Kit.i32_rem_nonneg (by rw [m]; omega), hk]
  exact ⟨Int.emod_nonneg _ (by omega), Int.emod_lt_of_pos _ (by omega)⟩
theorem own_split12 {z : Int32} (h0 : 0 ≤ z.toInt) (h1 : z.toInt < 12) : z = (0 : Int32) ∨ z = (1 : Int32) ∨ z = (2 : Int32) ∨ z = (3 : Int32) ∨ z = (4 : Int32) ∨ z = (5 : Int32) ∨ z = (6 : Int32) ∨ z = (7 : Int32) ∨ z = (8 : Int32) ∨ z = (9 : Int32) ∨ z = (10 : Int32) ∨ z = (11 : Int32) := by
  have e : ∀ k : Int32, z.toInt = k.toInt → z = k := fun k h => Int32.toInt_inj.mp h
  have q : z.toInt = 0 ∨ z.toInt = 1 ∨ z.toInt = 2 ∨ z.toInt = 3 ∨ z.toInt = 4 ∨ z.toInt = 5 ∨ z.toInt = 6 ∨ z.toInt = 7 ∨ z.toInt = 8 ∨ z.toInt = 9 ∨ z.toInt = 10 ∨ z.toInt = 11 := by omega
  rcases q with h | h | h | h | h | h | h | h | h | h | h | h
  · exact Or.inl (e 0 (h.trans (by decide)))
  · exact Or.inr (Or.inl (e 1 (h.trans (by decide))))
  · exact Or.inr (Or.inr (Or.inl (e 2 (h.trans (by decide)))))
  · exact Or.inr (Or.inr (Or.inr (Or.inl (e 3 (h.trans (by decide))))))
  · exact Or.inr (Or.inr (Or.inr (Or.inr (Or.inl (e 4 (h.trans (by decide)))))))
  · exact Or.inr (Or.inr (Or.inr (Or.inr (Or.inr (Or.inl (e 5 (h.trans (by decide))))))))
  · exact Or.inr (Or.inr (Or.inr (Or.inr (Or.inr (Or.inr (Or.inl (e 6 (h.trans (by decide)))))))))
  · exact Or.inr (Or.inr (Or.inr (Or.inr (Or.inr (Or.inr (Or.inr (Or.inl (e 7 (h.trans (by decide))))))))))
  · exact Or.inr (Or.inr (Or.inr (Or.inr (Or.inr (Or.inr (Or.inr (Or.inr (Or.inl (e 8 (h.trans (by decide)))))))))))
  · exact Or.inr (Or.inr (Or.inr (Or.inr (Or.inr (Or.inr (Or.inr (Or.inr (Or.inr (Or.inl (e 9 (h.trans (by decide))))))))))))
  · exact Or.inr (Or.inr (Or.inr (Or.inr (Or.inr (Or.inr (Or.inr (Or.inr (Or.inr (Or.inr (Or.inl (e 10 (h.trans (by decide)))))))))))))
  · exact Or.inr (Or.inr (Or.inr (Or.inr (Or.inr (Or.inr (Or.inr (Or.inr (Or.inr (Or.inr (Or.inr (e 11 (h.trans (by decide)))))))))))))
def own_pick1 (p : Int32) (a_MODULE_INFORMATION a_SET_REGION a_GET_REGION a_SELECT_PARAMETER a_SELECT_MODE a_SINGLE_POLLING a_MULTIPLE_POLLING a_STOP_MULTIPLE_POLLING a_READ a_WRITE a_SET_POWER a_GET_POWER : Addr) : Addr := if p = (0 : Int32) then a_MODULE_INFORMATION else if p = (1 : Int32) then a_SET_REGION else if p = (2 : Int32) then a_GET_REGION else if p = (3 : Int32) then a_SELECT_PARAMETER else if p = (4 : Int32) then a_SELECT_MODE else if p = (5 : Int32) then a_SINGLE_POLLING else if p = (6 : Int32) then a_MULTIPLE_POLLING else if p = (7 : Int32) then a_STOP_MULTIPLE_POLLING else if p = (8 : Int32) then a_READ else if p = (9 : Int32) then a_WRITE else if p = (10 : Int32) then a_SET_POWER else a_GET_POWER
theorem own_d1_0 : decode method_2_code 0 = .ok (.iload_n 0, 1) := by decide +kernel
theorem own_d1_1 : decode method_2_code 1 = .ok (.ifCond .ne 7, 3) := by decide +kernel
theorem own_d1_4 : decode method_2_code 4 = .ok (.getstatic 7, 3) := by decide +kernel
theorem own_d1_7 : decode method_2_code 7 = .ok (.areturn, 1) := by decide +kernel
theorem own_d1_8 : decode method_2_code 8 = .ok (.iload_n 0, 1) := by decide +kernel
theorem own_d1_9 : decode method_2_code 9 = .ok (.iconst 1, 1) := by decide +kernel
theorem own_d1_10 : decode method_2_code 10 = .ok (.if_icmp .ne 7, 3) := by decide +kernel
theorem own_d1_13 : decode method_2_code 13 = .ok (.getstatic 13, 3) := by decide +kernel
theorem own_d1_16 : decode method_2_code 16 = .ok (.areturn, 1) := by decide +kernel
theorem own_d1_17 : decode method_2_code 17 = .ok (.iload_n 0, 1) := by decide +kernel
theorem own_d1_18 : decode method_2_code 18 = .ok (.iconst 2, 1) := by decide +kernel
theorem own_d1_19 : decode method_2_code 19 = .ok (.if_icmp .ne 7, 3) := by decide +kernel
theorem own_d1_22 : decode method_2_code 22 = .ok (.getstatic 16, 3) := by decide +kernel
theorem own_d1_25 : decode method_2_code 25 = .ok (.areturn, 1) := by decide +kernel
theorem own_d1_26 : decode method_2_code 26 = .ok (.iload_n 0, 1) := by decide +kernel
theorem own_d1_27 : decode method_2_code 27 = .ok (.iconst 3, 1) := by decide +kernel
theorem own_d1_28 : decode method_2_code 28 = .ok (.if_icmp .ne 7, 3) := by decide +kernel
theorem own_d1_31 : decode method_2_code 31 = .ok (.getstatic 19, 3) := by decide +kernel
theorem own_d1_34 : decode method_2_code 34 = .ok (.areturn, 1) := by decide +kernel
theorem own_d1_35 : decode method_2_code 35 = .ok (.iload_n 0, 1) := by decide +kernel
theorem own_d1_36 : decode method_2_code 36 = .ok (.iconst 4, 1) := by decide +kernel
theorem own_d1_37 : decode method_2_code 37 = .ok (.if_icmp .ne 7, 3) := by decide +kernel
theorem own_d1_40 : decode method_2_code 40 = .ok (.getstatic 22, 3) := by decide +kernel
theorem own_d1_43 : decode method_2_code 43 = .ok (.areturn, 1) := by decide +kernel
theorem own_d1_44 : decode method_2_code 44 = .ok (.iload_n 0, 1) := by decide +kernel
theorem own_d1_45 : decode method_2_code 45 = .ok (.iconst 5, 1) := by decide +kernel
theorem own_d1_46 : decode method_2_code 46 = .ok (.if_icmp .ne 7, 3) := by decide +kernel
theorem own_d1_49 : decode method_2_code 49 = .ok (.getstatic 25, 3) := by decide +kernel
theorem own_d1_52 : decode method_2_code 52 = .ok (.areturn, 1) := by decide +kernel
theorem own_d1_53 : decode method_2_code 53 = .ok (.iload_n 0, 1) := by decide +kernel
theorem own_d1_54 : decode method_2_code 54 = .ok (.bipush 6, 2) := by decide +kernel
theorem own_d1_56 : decode method_2_code 56 = .ok (.if_icmp .ne 7, 3) := by decide +kernel
theorem own_d1_59 : decode method_2_code 59 = .ok (.getstatic 28, 3) := by decide +kernel
theorem own_d1_62 : decode method_2_code 62 = .ok (.areturn, 1) := by decide +kernel
theorem own_d1_63 : decode method_2_code 63 = .ok (.iload_n 0, 1) := by decide +kernel
theorem own_d1_64 : decode method_2_code 64 = .ok (.bipush 7, 2) := by decide +kernel
theorem own_d1_66 : decode method_2_code 66 = .ok (.if_icmp .ne 7, 3) := by decide +kernel
theorem own_d1_69 : decode method_2_code 69 = .ok (.getstatic 31, 3) := by decide +kernel
theorem own_d1_72 : decode method_2_code 72 = .ok (.areturn, 1) := by decide +kernel
theorem own_d1_73 : decode method_2_code 73 = .ok (.iload_n 0, 1) := by decide +kernel
theorem own_d1_74 : decode method_2_code 74 = .ok (.bipush 8, 2) := by decide +kernel
theorem own_d1_76 : decode method_2_code 76 = .ok (.if_icmp .ne 7, 3) := by decide +kernel
theorem own_d1_79 : decode method_2_code 79 = .ok (.getstatic 34, 3) := by decide +kernel
theorem own_d1_82 : decode method_2_code 82 = .ok (.areturn, 1) := by decide +kernel
theorem own_d1_83 : decode method_2_code 83 = .ok (.iload_n 0, 1) := by decide +kernel
theorem own_d1_84 : decode method_2_code 84 = .ok (.bipush 9, 2) := by decide +kernel
theorem own_d1_86 : decode method_2_code 86 = .ok (.if_icmp .ne 7, 3) := by decide +kernel
theorem own_d1_89 : decode method_2_code 89 = .ok (.getstatic 37, 3) := by decide +kernel
theorem own_d1_92 : decode method_2_code 92 = .ok (.areturn, 1) := by decide +kernel
theorem own_d1_93 : decode method_2_code 93 = .ok (.iload_n 0, 1) := by decide +kernel
theorem own_d1_94 : decode method_2_code 94 = .ok (.bipush 10, 2) := by decide +kernel
theorem own_d1_96 : decode method_2_code 96 = .ok (.if_icmp .ne 7, 3) := by decide +kernel
theorem own_d1_99 : decode method_2_code 99 = .ok (.getstatic 40, 3) := by decide +kernel
theorem own_d1_102 : decode method_2_code 102 = .ok (.areturn, 1) := by decide +kernel
theorem own_d1_103 : decode method_2_code 103 = .ok (.getstatic 43, 3) := by decide +kernel
theorem own_d1_106 : decode method_2_code 106 = .ok (.areturn, 1) := by decide +kernel
theorem own_ef_rm1 (m : MethodId) (p0 : Int32) : entryFrame m #[(.int p0)] 1 = mkF m 0 #[.val (.int p0)] [] := by first | (simp [entryFrame, mkF, argsToLocals, Value.category]; done) | rfl
theorem own_pn0 : plainName "com/example/tagwire/tagwire/bb/CommandIsAnsweredByPinLaw" = true := by first | (simp [plainName, overriddenIn]; done) | decide +kernel
def Q1 (Z : State) (p0 : Int32) (a_MODULE_INFORMATION : Addr) (a_SET_REGION : Addr) (a_GET_REGION : Addr) (a_SELECT_PARAMETER : Addr) (a_SELECT_MODE : Addr) (a_SINGLE_POLLING : Addr) (a_MULTIPLE_POLLING : Addr) (a_STOP_MULTIPLE_POLLING : Addr) (a_READ : Addr) (a_WRITE : Addr) (a_SET_POWER : Addr) (a_GET_POWER : Addr) (h0 : Heap) (n0 : Nat) (v : Option Value) (h : Heap) (L : List Loc) : Prop := v = some (.ref (own_pick1 p0 a_MODULE_INFORMATION a_SET_REGION a_GET_REGION a_SELECT_PARAMETER a_SELECT_MODE a_SINGLE_POLLING a_MULTIPLE_POLLING a_STOP_MULTIPLE_POLLING a_READ a_WRITE a_SET_POWER a_GET_POWER)) ∧ Fr n0 L ∧ h = h0
set_option maxRecDepth 65536 in
set_option maxHeartbeats 40000000 in
theorem rm1 (l : Launch) (Z : State) (a0 : Array Value) (hw : ∀ d ∈ tables_1, d.before a0 Z = true) (ws : List Jvm.Cond) (p0 : Int32) (a_MODULE_INFORMATION : Addr) (a_SET_REGION : Addr) (a_GET_REGION : Addr) (a_SELECT_PARAMETER : Addr) (a_SELECT_MODE : Addr) (a_SINGLE_POLLING : Addr) (a_MULTIPLE_POLLING : Addr) (a_STOP_MULTIPLE_POLLING : Addr) (a_READ : Addr) (a_WRITE : Addr) (a_SET_POWER : Addr) (a_GET_POWER : Addr) (h0 : Heap) (n0 : Nat) (Z0 : n0 ≤ h0.size) (S_MODULE_INFORMATION : Sta Z h0 "com/example/tagwire/tagwire/bb/Command" "MODULE_INFORMATION" "Lcom/example/tagwire/tagwire/bb/Command;" (.ref a_MODULE_INFORMATION)) (S_SET_REGION : Sta Z h0 "com/example/tagwire/tagwire/bb/Command" "SET_REGION" "Lcom/example/tagwire/tagwire/bb/Command;" (.ref a_SET_REGION)) (S_GET_REGION : Sta Z h0 "com/example/tagwire/tagwire/bb/Command" "GET_REGION" "Lcom/example/tagwire/tagwire/bb/Command;" (.ref a_GET_REGION)) (S_SELECT_PARAMETER : Sta Z h0 "com/example/tagwire/tagwire/bb/Command" "SELECT_PARAMETER" "Lcom/example/tagwire/tagwire/bb/Command;" (.ref a_SELECT_PARAMETER)) (S_SELECT_MODE : Sta Z h0 "com/example/tagwire/tagwire/bb/Command" "SELECT_MODE" "Lcom/example/tagwire/tagwire/bb/Command;" (.ref a_SELECT_MODE)) (S_SINGLE_POLLING : Sta Z h0 "com/example/tagwire/tagwire/bb/Command" "SINGLE_POLLING" "Lcom/example/tagwire/tagwire/bb/Command;" (.ref a_SINGLE_POLLING)) (S_MULTIPLE_POLLING : Sta Z h0 "com/example/tagwire/tagwire/bb/Command" "MULTIPLE_POLLING" "Lcom/example/tagwire/tagwire/bb/Command;" (.ref a_MULTIPLE_POLLING)) (S_STOP_MULTIPLE_POLLING : Sta Z h0 "com/example/tagwire/tagwire/bb/Command" "STOP_MULTIPLE_POLLING" "Lcom/example/tagwire/tagwire/bb/Command;" (.ref a_STOP_MULTIPLE_POLLING)) (S_READ : Sta Z h0 "com/example/tagwire/tagwire/bb/Command" "READ" "Lcom/example/tagwire/tagwire/bb/Command;" (.ref a_READ)) (S_WRITE : Sta Z h0 "com/example/tagwire/tagwire/bb/Command" "WRITE" "Lcom/example/tagwire/tagwire/bb/Command;" (.ref a_WRITE)) (S_SET_POWER : Sta Z h0 "com/example/tagwire/tagwire/bb/Command" "SET_POWER" "Lcom/example/tagwire/tagwire/bb/Command;" (.ref a_SET_POWER)) (S_GET_POWER : Sta Z h0 "com/example/tagwire/tagwire/bb/Command" "GET_POWER" "Lcom/example/tagwire/tagwire/bb/Command;" (.ref a_GET_POWER)) :
    MetFree l (⟨"com/example/tagwire/tagwire/bb/CommandIsAnsweredByPinLaw", "pick", "(I)Lcom/example/tagwire/tagwire/bb/Command;"⟩ : MethodName) (head1 (Jvm.Cond.code (⟨"com/example/tagwire/tagwire/bb/CommandIsAnsweredByPinLaw", "pick", "(I)Lcom/example/tagwire/tagwire/bb/Command;"⟩ : MethodName) method_2_code 1 (some (.object "com/example/tagwire/tagwire/bb/Command")) :: ws) ({ frames := 0, cells := 0, slots := 0, locals := 0 } : Room)) (fun a U => a = #[(.int p0)] ∧ Z.Warmed39 U.vm ∧ U.heap = h0) (fun _ _ _ _ _ => True) (fun _ U o U' => ∃ v L, o = .returned v ∧ Q1 Z p0 a_MODULE_INFORMATION a_SET_REGION a_GET_REGION a_SELECT_PARAMETER a_SELECT_MODE a_SINGLE_POLLING a_MULTIPLE_POLLING a_STOP_MULTIPLE_POLLING a_READ a_WRITE a_SET_POWER a_GET_POWER h0 n0 v U'.heap L ∧ FrameEnd U o U' L ({ frames := 0, cells := 0, slots := 0, locals := 0 } : Room).cells ({ frames := 0, cells := 0, slots := 0, locals := 0 } : Room).slots) := by
  refine MetFree.of_bodySF (plainFor_of_name own_pn0) hisR ?_
  intro p e s m args below meth c s₁ Bd hml0 hP hK
  obtain ⟨rfl, hZ, hh⟩ := hP
  have hx := Bd.exec
  have hby := Bd.bytes
  have hml : c.maxLocals = 1 := hml0
  have hown : s.vm.findClass "com/example/tagwire/tagwire/bb/CommandIsAnsweredByPinLaw" = some m.cls := findClass_of_methodNamed Bd.named
  have hnm := (name_of_methodNamed Bd.named Bd.method).1
  have hlk : meth.locks = false := BodyLoose.notSynchronized Bd
  have X0 : Stand p l e ({ frames := 0, cells := 0, slots := 0, locals := 0 } : Room) s m #[(.int p0)] below meth c s₁ [] 0 0 := Stand.of_body Bd
  have e0 : s₁.heap = h0 := by rw [← hh, Bd.state]; rfl
  have N0 := Fr.nil n0
  show own_Gl FrameEnd p e below s (Q1 Z p0 a_MODULE_INFORMATION a_SET_REGION a_GET_REGION a_SELECT_PARAMETER a_SELECT_MODE a_SINGLE_POLLING a_MULTIPLE_POLLING a_STOP_MULTIPLE_POLLING a_READ a_WRITE a_SET_POWER a_GET_POWER h0 n0) ({ frames := 0, cells := 0, slots := 0, locals := 0 } : Room).cells ({ frames := 0, cells := 0, slots := 0, locals := 0 } : Room).slots (s₁.setTop (entryFrame m #[(.int p0)] 1))
  rw [own_ef_rm1 m p0]
  refine own_st (A' := s₁.setTop (mkF m 1 #[.val (.int p0)] [(.int p0)])) (fun tg kt => ?_) ?_
  · show Steps p.tables e below (s₁.setTop (mkF m 0 #[.val (.int p0)] [])) _
    refine XS.iloadN X0.here hx rfl (hb hby own_d1_0) rfl ?_
    exact kt
  by_cases hc1_1 : p0 = (0 : Int32)
  · refine own_st (A' := s₁.setTop (mkF m 4 #[.val (.int p0)] [])) (fun tg kt => ?_) ?_
    · show Steps p.tables e below (s₁.setTop (mkF m 1 #[.val (.int p0)] [(.int p0)])) _
      refine XS.ifNo X0.here hx rfl (hb hby own_d1_1) rfl ((if0 _ _).trans (teq hc1_1).2) ?_
      exact kt
    obtain ⟨T2, X2, e2, st2⟩ := getS2 X0 hx hZ hown (host := "") (Or.inl (hw _ (List.mem_of_getElem? (i := 5) rfl))) Via.refl e0 S_MODULE_INFORMATION (g := (mkF m 4 #[.val (.int p0)] [])) rfl (hb hby own_d1_4)
    refine own_st st2 ?_
    show own_Gl _ _ _ _ _ _ _ _ (T2.setTop (mkF m 7 #[.val (.int p0)] [(.ref a_MODULE_INFORMATION)]))
    refine own_ret X2 (v := some (.ref a_MODULE_INFORMATION)) (fun h => by rw [Bd.returns] at h; cases h) hlk (by decide) (by decide) ?_ (fun fs hr => ?_)
    · show Q1 Z p0 a_MODULE_INFORMATION a_SET_REGION a_GET_REGION a_SELECT_PARAMETER a_SELECT_MODE a_SINGLE_POLLING a_MULTIPLE_POLLING a_STOP_MULTIPLE_POLLING a_READ a_WRITE a_SET_POWER a_GET_POWER h0 n0 (some (.ref a_MODULE_INFORMATION)) T2.heap _
      rw [e2]
      exact ⟨congrArg (fun z => some (Value.ref z)) (by unfold own_pick1; rw [if_pos hc1_1]), N0, rfl⟩
    · show Steps p.tables e below (T2.setTop (mkF m 7 #[.val (.int p0)] [(.ref a_MODULE_INFORMATION)])) _
      jvm_step X2.here [X2.here.top, hx, (hb hby own_d1_7), X2.method', Bd.returns, Value.isRef, FieldType.isReference]
      first | (intro acts; rw [hr _ acts rfl rfl rfl]) | rw [hr _ _ rfl rfl rfl]
      exact Steps.refl _
  · refine own_st (A' := s₁.setTop (mkF m 10 #[.val (.int p0)] [(.int (1 : Int32)), (.int p0)])) (fun tg kt => ?_) ?_
    · show Steps p.tables e below (s₁.setTop (mkF m 1 #[.val (.int p0)] [(.int p0)])) _
      refine XS.ifYes X0.here hx rfl (pc0 := 1) (pc' := 8) rfl (hb hby own_d1_1) rfl ((if0 _ _).trans (feq hc1_1).2) (by decide) (by decide) ?_
      show Steps p.tables e below (s₁.setTop (mkF m 8 #[.val (.int p0)] [])) _
      refine XS.iloadN X0.here hx rfl (hb hby own_d1_8) rfl ?_
      show Steps p.tables e below (s₁.setTop (mkF m 9 #[.val (.int p0)] [(.int p0)])) _
      refine XS.iconst X0.here hx rfl (hb hby own_d1_9) ?_
      exact kt
    by_cases hc10_3 : p0 = (1 : Int32)
    · refine own_st (A' := s₁.setTop (mkF m 13 #[.val (.int p0)] [])) (fun tg kt => ?_) ?_
      · show Steps p.tables e below (s₁.setTop (mkF m 10 #[.val (.int p0)] [(.int (1 : Int32)), (.int p0)])) _
        refine XS.icmpNo X0.here hx rfl (hb hby own_d1_10) rfl (teq hc10_3).2 ?_
        exact kt
      obtain ⟨T4, X4, e4, st4⟩ := getS2 X0 hx hZ hown (host := "") (Or.inl (hw _ (List.mem_of_getElem? (i := 18) rfl))) Via.refl e0 S_SET_REGION (g := (mkF m 13 #[.val (.int p0)] [])) rfl (hb hby own_d1_13)
      refine own_st st4 ?_
      show own_Gl _ _ _ _ _ _ _ _ (T4.setTop (mkF m 16 #[.val (.int p0)] [(.ref a_SET_REGION)]))
      refine own_ret X4 (v := some (.ref a_SET_REGION)) (fun h => by rw [Bd.returns] at h; cases h) hlk (by decide) (by decide) ?_ (fun fs hr => ?_)
      · show Q1 Z p0 a_MODULE_INFORMATION a_SET_REGION a_GET_REGION a_SELECT_PARAMETER a_SELECT_MODE a_SINGLE_POLLING a_MULTIPLE_POLLING a_STOP_MULTIPLE_POLLING a_READ a_WRITE a_SET_POWER a_GET_POWER h0 n0 (some (.ref a_SET_REGION)) T4.heap _
        rw [e4]
        exact ⟨congrArg (fun z => some (Value.ref z)) (by unfold own_pick1; rw [if_neg hc1_1, if_pos hc10_3]), N0, rfl⟩
      · show Steps p.tables e below (T4.setTop (mkF m 16 #[.val (.int p0)] [(.ref a_SET_REGION)])) _
        jvm_step X4.here [X4.here.top, hx, (hb hby own_d1_16), X4.method', Bd.returns, Value.isRef, FieldType.isReference]
        first | (intro acts; rw [hr _ acts rfl rfl rfl]) | rw [hr _ _ rfl rfl rfl]
        exact Steps.refl _
    · refine own_st (A' := s₁.setTop (mkF m 19 #[.val (.int p0)] [(.int (2 : Int32)), (.int p0)])) (fun tg kt => ?_) ?_
      · show Steps p.tables e below (s₁.setTop (mkF m 10 #[.val (.int p0)] [(.int (1 : Int32)), (.int p0)])) _
        refine XS.icmpYes X0.here hx rfl (pc0 := 10) (pc' := 17) rfl (hb hby own_d1_10) rfl (feq hc10_3).2 (by decide) (by decide) ?_
        show Steps p.tables e below (s₁.setTop (mkF m 17 #[.val (.int p0)] [])) _
        refine XS.iloadN X0.here hx rfl (hb hby own_d1_17) rfl ?_
        show Steps p.tables e below (s₁.setTop (mkF m 18 #[.val (.int p0)] [(.int p0)])) _
        refine XS.iconst X0.here hx rfl (hb hby own_d1_18) ?_
        exact kt
      by_cases hc19_5 : p0 = (2 : Int32)
      · refine own_st (A' := s₁.setTop (mkF m 22 #[.val (.int p0)] [])) (fun tg kt => ?_) ?_
        · show Steps p.tables e below (s₁.setTop (mkF m 19 #[.val (.int p0)] [(.int (2 : Int32)), (.int p0)])) _
          refine XS.icmpNo X0.here hx rfl (hb hby own_d1_19) rfl (teq hc19_5).2 ?_
          exact kt
        obtain ⟨T6, X6, e6, st6⟩ := getS2 X0 hx hZ hown (host := "") (Or.inl (hw _ (List.mem_of_getElem? (i := 38) rfl))) Via.refl e0 S_GET_REGION (g := (mkF m 22 #[.val (.int p0)] [])) rfl (hb hby own_d1_22)
        refine own_st st6 ?_
        show own_Gl _ _ _ _ _ _ _ _ (T6.setTop (mkF m 25 #[.val (.int p0)] [(.ref a_GET_REGION)]))
        refine own_ret X6 (v := some (.ref a_GET_REGION)) (fun h => by rw [Bd.returns] at h; cases h) hlk (by decide) (by decide) ?_ (fun fs hr => ?_)
        · show Q1 Z p0 a_MODULE_INFORMATION a_SET_REGION a_GET_REGION a_SELECT_PARAMETER a_SELECT_MODE a_SINGLE_POLLING a_MULTIPLE_POLLING a_STOP_MULTIPLE_POLLING a_READ a_WRITE a_SET_POWER a_GET_POWER h0 n0 (some (.ref a_GET_REGION)) T6.heap _
          rw [e6]
          exact ⟨congrArg (fun z => some (Value.ref z)) (by unfold own_pick1; rw [if_neg hc1_1, if_neg hc10_3, if_pos hc19_5]), N0, rfl⟩
        · show Steps p.tables e below (T6.setTop (mkF m 25 #[.val (.int p0)] [(.ref a_GET_REGION)])) _
          jvm_step X6.here [X6.here.top, hx, (hb hby own_d1_25), X6.method', Bd.returns, Value.isRef, FieldType.isReference]
          first | (intro acts; rw [hr _ acts rfl rfl rfl]) | rw [hr _ _ rfl rfl rfl]
          exact Steps.refl _
      · refine own_st (A' := s₁.setTop (mkF m 28 #[.val (.int p0)] [(.int (3 : Int32)), (.int p0)])) (fun tg kt => ?_) ?_
        · show Steps p.tables e below (s₁.setTop (mkF m 19 #[.val (.int p0)] [(.int (2 : Int32)), (.int p0)])) _
          refine XS.icmpYes X0.here hx rfl (pc0 := 19) (pc' := 26) rfl (hb hby own_d1_19) rfl (feq hc19_5).2 (by decide) (by decide) ?_
          show Steps p.tables e below (s₁.setTop (mkF m 26 #[.val (.int p0)] [])) _
          refine XS.iloadN X0.here hx rfl (hb hby own_d1_26) rfl ?_
          show Steps p.tables e below (s₁.setTop (mkF m 27 #[.val (.int p0)] [(.int p0)])) _
          refine XS.iconst X0.here hx rfl (hb hby own_d1_27) ?_
          exact kt
        by_cases hc28_7 : p0 = (3 : Int32)
        · refine own_st (A' := s₁.setTop (mkF m 31 #[.val (.int p0)] [])) (fun tg kt => ?_) ?_
          · show Steps p.tables e below (s₁.setTop (mkF m 28 #[.val (.int p0)] [(.int (3 : Int32)), (.int p0)])) _
            refine XS.icmpNo X0.here hx rfl (hb hby own_d1_28) rfl (teq hc28_7).2 ?_
            exact kt
          obtain ⟨T8, X8, e8, st8⟩ := getS2 X0 hx hZ hown (host := "") (Or.inl (hw _ (List.mem_of_getElem? (i := 30) rfl))) Via.refl e0 S_SELECT_PARAMETER (g := (mkF m 31 #[.val (.int p0)] [])) rfl (hb hby own_d1_31)
          refine own_st st8 ?_
          show own_Gl _ _ _ _ _ _ _ _ (T8.setTop (mkF m 34 #[.val (.int p0)] [(.ref a_SELECT_PARAMETER)]))
          refine own_ret X8 (v := some (.ref a_SELECT_PARAMETER)) (fun h => by rw [Bd.returns] at h; cases h) hlk (by decide) (by decide) ?_ (fun fs hr => ?_)
          · show Q1 Z p0 a_MODULE_INFORMATION a_SET_REGION a_GET_REGION a_SELECT_PARAMETER a_SELECT_MODE a_SINGLE_POLLING a_MULTIPLE_POLLING a_STOP_MULTIPLE_POLLING a_READ a_WRITE a_SET_POWER a_GET_POWER h0 n0 (some (.ref a_SELECT_PARAMETER)) T8.heap _
            rw [e8]
            exact ⟨congrArg (fun z => some (Value.ref z)) (by unfold own_pick1; rw [if_neg hc1_1, if_neg hc10_3, if_neg hc19_5, if_pos hc28_7]), N0, rfl⟩
          · show Steps p.tables e below (T8.setTop (mkF m 34 #[.val (.int p0)] [(.ref a_SELECT_PARAMETER)])) _
            jvm_step X8.here [X8.here.top, hx, (hb hby own_d1_34), X8.method', Bd.returns, Value.isRef, FieldType.isReference]
            first | (intro acts; rw [hr _ acts rfl rfl rfl]) | rw [hr _ _ rfl rfl rfl]
            exact Steps.refl _
        · refine own_st (A' := s₁.setTop (mkF m 37 #[.val (.int p0)] [(.int (4 : Int32)), (.int p0)])) (fun tg kt => ?_) ?_
          · show Steps p.tables e below (s₁.setTop (mkF m 28 #[.val (.int p0)] [(.int (3 : Int32)), (.int p0)])) _
            refine XS.icmpYes X0.here hx rfl (pc0 := 28) (pc' := 35) rfl (hb hby own_d1_28) rfl (feq hc28_7).2 (by decide) (by decide) ?_
            show Steps p.tables e below (s₁.setTop (mkF m 35 #[.val (.int p0)] [])) _
            refine XS.iloadN X0.here hx rfl (hb hby own_d1_35) rfl ?_
            show Steps p.tables e below (s₁.setTop (mkF m 36 #[.val (.int p0)] [(.int p0)])) _
            refine XS.iconst X0.here hx rfl (hb hby own_d1_36) ?_
            exact kt
          by_cases hc37_9 : p0 = (4 : Int32)
          · refine own_st (A' := s₁.setTop (mkF m 40 #[.val (.int p0)] [])) (fun tg kt => ?_) ?_
            · show Steps p.tables e below (s₁.setTop (mkF m 37 #[.val (.int p0)] [(.int (4 : Int32)), (.int p0)])) _
              refine XS.icmpNo X0.here hx rfl (hb hby own_d1_37) rfl (teq hc37_9).2 ?_
              exact kt
            obtain ⟨T10, X10, e10, st10⟩ := getS2 X0 hx hZ hown (host := "") (Or.inl (hw _ (List.mem_of_getElem? (i := 34) rfl))) Via.refl e0 S_SELECT_MODE (g := (mkF m 40 #[.val (.int p0)] [])) rfl (hb hby own_d1_40)
            refine own_st st10 ?_
            show own_Gl _ _ _ _ _ _ _ _ (T10.setTop (mkF m 43 #[.val (.int p0)] [(.ref a_SELECT_MODE)]))
            refine own_ret X10 (v := some (.ref a_SELECT_MODE)) (fun h => by rw [Bd.returns] at h; cases h) hlk (by decide) (by decide) ?_ (fun fs hr => ?_)
            · show Q1 Z p0 a_MODULE_INFORMATION a_SET_REGION a_GET_REGION a_SELECT_PARAMETER a_SELECT_MODE a_SINGLE_POLLING a_MULTIPLE_POLLING a_STOP_MULTIPLE_POLLING a_READ a_WRITE a_SET_POWER a_GET_POWER h0 n0 (some (.ref a_SELECT_MODE)) T10.heap _
              rw [e10]
              exact ⟨congrArg (fun z => some (Value.ref z)) (by unfold own_pick1; rw [if_neg hc1_1, if_neg hc10_3, if_neg hc19_5, if_neg hc28_7, if_pos hc37_9]), N0, rfl⟩
            · show Steps p.tables e below (T10.setTop (mkF m 43 #[.val (.int p0)] [(.ref a_SELECT_MODE)])) _
              jvm_step X10.here [X10.here.top, hx, (hb hby own_d1_43), X10.method', Bd.returns, Value.isRef, FieldType.isReference]
              first | (intro acts; rw [hr _ acts rfl rfl rfl]) | rw [hr _ _ rfl rfl rfl]
              exact Steps.refl _
          · refine own_st (A' := s₁.setTop (mkF m 46 #[.val (.int p0)] [(.int (5 : Int32)), (.int p0)])) (fun tg kt => ?_) ?_
            · show Steps p.tables e below (s₁.setTop (mkF m 37 #[.val (.int p0)] [(.int (4 : Int32)), (.int p0)])) _
              refine XS.icmpYes X0.here hx rfl (pc0 := 37) (pc' := 44) rfl (hb hby own_d1_37) rfl (feq hc37_9).2 (by decide) (by decide) ?_
              show Steps p.tables e below (s₁.setTop (mkF m 44 #[.val (.int p0)] [])) _
              refine XS.iloadN X0.here hx rfl (hb hby own_d1_44) rfl ?_
              show Steps p.tables e below (s₁.setTop (mkF m 45 #[.val (.int p0)] [(.int p0)])) _
              refine XS.iconst X0.here hx rfl (hb hby own_d1_45) ?_
              exact kt
            by_cases hc46_11 : p0 = (5 : Int32)
            · refine own_st (A' := s₁.setTop (mkF m 49 #[.val (.int p0)] [])) (fun tg kt => ?_) ?_
              · show Steps p.tables e below (s₁.setTop (mkF m 46 #[.val (.int p0)] [(.int (5 : Int32)), (.int p0)])) _
                refine XS.icmpNo X0.here hx rfl (hb hby own_d1_46) rfl (teq hc46_11).2 ?_
                exact kt
              obtain ⟨T12, X12, e12, st12⟩ := getS2 X0 hx hZ hown (host := "") (Or.inl (hw _ (List.mem_of_getElem? (i := 36) rfl))) Via.refl e0 S_SINGLE_POLLING (g := (mkF m 49 #[.val (.int p0)] [])) rfl (hb hby own_d1_49)
              refine own_st st12 ?_
              show own_Gl _ _ _ _ _ _ _ _ (T12.setTop (mkF m 52 #[.val (.int p0)] [(.ref a_SINGLE_POLLING)]))
              refine own_ret X12 (v := some (.ref a_SINGLE_POLLING)) (fun h => by rw [Bd.returns] at h; cases h) hlk (by decide) (by decide) ?_ (fun fs hr => ?_)
              · show Q1 Z p0 a_MODULE_INFORMATION a_SET_REGION a_GET_REGION a_SELECT_PARAMETER a_SELECT_MODE a_SINGLE_POLLING a_MULTIPLE_POLLING a_STOP_MULTIPLE_POLLING a_READ a_WRITE a_SET_POWER a_GET_POWER h0 n0 (some (.ref a_SINGLE_POLLING)) T12.heap _
                rw [e12]
                exact ⟨congrArg (fun z => some (Value.ref z)) (by unfold own_pick1; rw [if_neg hc1_1, if_neg hc10_3, if_neg hc19_5, if_neg hc28_7, if_neg hc37_9, if_pos hc46_11]), N0, rfl⟩
              · show Steps p.tables e below (T12.setTop (mkF m 52 #[.val (.int p0)] [(.ref a_SINGLE_POLLING)])) _
                jvm_step X12.here [X12.here.top, hx, (hb hby own_d1_52), X12.method', Bd.returns, Value.isRef, FieldType.isReference]
                first | (intro acts; rw [hr _ acts rfl rfl rfl]) | rw [hr _ _ rfl rfl rfl]
                exact Steps.refl _
            · refine own_st (A' := s₁.setTop (mkF m 56 #[.val (.int p0)] [(.int (6 : Int32)), (.int p0)])) (fun tg kt => ?_) ?_
              · show Steps p.tables e below (s₁.setTop (mkF m 46 #[.val (.int p0)] [(.int (5 : Int32)), (.int p0)])) _
                refine XS.icmpYes X0.here hx rfl (pc0 := 46) (pc' := 53) rfl (hb hby own_d1_46) rfl (feq hc46_11).2 (by decide) (by decide) ?_
                show Steps p.tables e below (s₁.setTop (mkF m 53 #[.val (.int p0)] [])) _
                refine XS.iloadN X0.here hx rfl (hb hby own_d1_53) rfl ?_
                show Steps p.tables e below (s₁.setTop (mkF m 54 #[.val (.int p0)] [(.int p0)])) _
                refine XS.bipush X0.here hx rfl (hb hby own_d1_54) ?_
                exact kt
              by_cases hc56_13 : p0 = (6 : Int32)
              · refine own_st (A' := s₁.setTop (mkF m 59 #[.val (.int p0)] [])) (fun tg kt => ?_) ?_
                · show Steps p.tables e below (s₁.setTop (mkF m 56 #[.val (.int p0)] [(.int (6 : Int32)), (.int p0)])) _
                  refine XS.icmpNo X0.here hx rfl (hb hby own_d1_56) rfl (teq hc56_13).2 ?_
                  exact kt
                obtain ⟨T14, X14, e14, st14⟩ := getS2 X0 hx hZ hown (host := "") (Or.inl (hw _ (List.mem_of_getElem? (i := 26) rfl))) Via.refl e0 S_MULTIPLE_POLLING (g := (mkF m 59 #[.val (.int p0)] [])) rfl (hb hby own_d1_59)
                refine own_st st14 ?_
                show own_Gl _ _ _ _ _ _ _ _ (T14.setTop (mkF m 62 #[.val (.int p0)] [(.ref a_MULTIPLE_POLLING)]))
                refine own_ret X14 (v := some (.ref a_MULTIPLE_POLLING)) (fun h => by rw [Bd.returns] at h; cases h) hlk (by decide) (by decide) ?_ (fun fs hr => ?_)
                · show Q1 Z p0 a_MODULE_INFORMATION a_SET_REGION a_GET_REGION a_SELECT_PARAMETER a_SELECT_MODE a_SINGLE_POLLING a_MULTIPLE_POLLING a_STOP_MULTIPLE_POLLING a_READ a_WRITE a_SET_POWER a_GET_POWER h0 n0 (some (.ref a_MULTIPLE_POLLING)) T14.heap _
                  rw [e14]
                  exact ⟨congrArg (fun z => some (Value.ref z)) (by unfold own_pick1; rw [if_neg hc1_1, if_neg hc10_3, if_neg hc19_5, if_neg hc28_7, if_neg hc37_9, if_neg hc46_11, if_pos hc56_13]), N0, rfl⟩
                · show Steps p.tables e below (T14.setTop (mkF m 62 #[.val (.int p0)] [(.ref a_MULTIPLE_POLLING)])) _
                  jvm_step X14.here [X14.here.top, hx, (hb hby own_d1_62), X14.method', Bd.returns, Value.isRef, FieldType.isReference]
                  first | (intro acts; rw [hr _ acts rfl rfl rfl]) | rw [hr _ _ rfl rfl rfl]
                  exact Steps.refl _
              · refine own_st (A' := s₁.setTop (mkF m 66 #[.val (.int p0)] [(.int (7 : Int32)), (.int p0)])) (fun tg kt => ?_) ?_
                · show Steps p.tables e below (s₁.setTop (mkF m 56 #[.val (.int p0)] [(.int (6 : Int32)), (.int p0)])) _
                  refine XS.icmpYes X0.here hx rfl (pc0 := 56) (pc' := 63) rfl (hb hby own_d1_56) rfl (feq hc56_13).2 (by decide) (by decide) ?_
                  show Steps p.tables e below (s₁.setTop (mkF m 63 #[.val (.int p0)] [])) _
                  refine XS.iloadN X0.here hx rfl (hb hby own_d1_63) rfl ?_
                  show Steps p.tables e below (s₁.setTop (mkF m 64 #[.val (.int p0)] [(.int p0)])) _
                  refine XS.bipush X0.here hx rfl (hb hby own_d1_64) ?_
                  exact kt
                by_cases hc66_15 : p0 = (7 : Int32)
                · refine own_st (A' := s₁.setTop (mkF m 69 #[.val (.int p0)] [])) (fun tg kt => ?_) ?_
                  · show Steps p.tables e below (s₁.setTop (mkF m 66 #[.val (.int p0)] [(.int (7 : Int32)), (.int p0)])) _
                    refine XS.icmpNo X0.here hx rfl (hb hby own_d1_66) rfl (teq hc66_15).2 ?_
                    exact kt
                  obtain ⟨T16, X16, e16, st16⟩ := getS2 X0 hx hZ hown (host := "") (Or.inl (hw _ (List.mem_of_getElem? (i := 28) rfl))) Via.refl e0 S_STOP_MULTIPLE_POLLING (g := (mkF m 69 #[.val (.int p0)] [])) rfl (hb hby own_d1_69)
                  refine own_st st16 ?_
                  show own_Gl _ _ _ _ _ _ _ _ (T16.setTop (mkF m 72 #[.val (.int p0)] [(.ref a_STOP_MULTIPLE_POLLING)]))
                  refine own_ret X16 (v := some (.ref a_STOP_MULTIPLE_POLLING)) (fun h => by rw [Bd.returns] at h; cases h) hlk (by decide) (by decide) ?_ (fun fs hr => ?_)
                  · show Q1 Z p0 a_MODULE_INFORMATION a_SET_REGION a_GET_REGION a_SELECT_PARAMETER a_SELECT_MODE a_SINGLE_POLLING a_MULTIPLE_POLLING a_STOP_MULTIPLE_POLLING a_READ a_WRITE a_SET_POWER a_GET_POWER h0 n0 (some (.ref a_STOP_MULTIPLE_POLLING)) T16.heap _
                    rw [e16]
                    exact ⟨congrArg (fun z => some (Value.ref z)) (by unfold own_pick1; rw [if_neg hc1_1, if_neg hc10_3, if_neg hc19_5, if_neg hc28_7, if_neg hc37_9, if_neg hc46_11, if_neg hc56_13, if_pos hc66_15]), N0, rfl⟩
                  · show Steps p.tables e below (T16.setTop (mkF m 72 #[.val (.int p0)] [(.ref a_STOP_MULTIPLE_POLLING)])) _
                    jvm_step X16.here [X16.here.top, hx, (hb hby own_d1_72), X16.method', Bd.returns, Value.isRef, FieldType.isReference]
                    first | (intro acts; rw [hr _ acts rfl rfl rfl]) | rw [hr _ _ rfl rfl rfl]
                    exact Steps.refl _
                · refine own_st (A' := s₁.setTop (mkF m 76 #[.val (.int p0)] [(.int (8 : Int32)), (.int p0)])) (fun tg kt => ?_) ?_
                  · show Steps p.tables e below (s₁.setTop (mkF m 66 #[.val (.int p0)] [(.int (7 : Int32)), (.int p0)])) _
                    refine XS.icmpYes X0.here hx rfl (pc0 := 66) (pc' := 73) rfl (hb hby own_d1_66) rfl (feq hc66_15).2 (by decide) (by decide) ?_
                    show Steps p.tables e below (s₁.setTop (mkF m 73 #[.val (.int p0)] [])) _
                    refine XS.iloadN X0.here hx rfl (hb hby own_d1_73) rfl ?_
                    show Steps p.tables e below (s₁.setTop (mkF m 74 #[.val (.int p0)] [(.int p0)])) _
                    refine XS.bipush X0.here hx rfl (hb hby own_d1_74) ?_
                    exact kt
                  by_cases hc76_17 : p0 = (8 : Int32)
                  · refine own_st (A' := s₁.setTop (mkF m 79 #[.val (.int p0)] [])) (fun tg kt => ?_) ?_
                    · show Steps p.tables e below (s₁.setTop (mkF m 76 #[.val (.int p0)] [(.int (8 : Int32)), (.int p0)])) _
                      refine XS.icmpNo X0.here hx rfl (hb hby own_d1_76) rfl (teq hc76_17).2 ?_
                      exact kt
                    obtain ⟨T18, X18, e18, st18⟩ := getS2 X0 hx hZ hown (host := "") (Or.inl (hw _ (List.mem_of_getElem? (i := 22) rfl))) Via.refl e0 S_READ (g := (mkF m 79 #[.val (.int p0)] [])) rfl (hb hby own_d1_79)
                    refine own_st st18 ?_
                    show own_Gl _ _ _ _ _ _ _ _ (T18.setTop (mkF m 82 #[.val (.int p0)] [(.ref a_READ)]))
                    refine own_ret X18 (v := some (.ref a_READ)) (fun h => by rw [Bd.returns] at h; cases h) hlk (by decide) (by decide) ?_ (fun fs hr => ?_)
                    · show Q1 Z p0 a_MODULE_INFORMATION a_SET_REGION a_GET_REGION a_SELECT_PARAMETER a_SELECT_MODE a_SINGLE_POLLING a_MULTIPLE_POLLING a_STOP_MULTIPLE_POLLING a_READ a_WRITE a_SET_POWER a_GET_POWER h0 n0 (some (.ref a_READ)) T18.heap _
                      rw [e18]
                      exact ⟨congrArg (fun z => some (Value.ref z)) (by unfold own_pick1; rw [if_neg hc1_1, if_neg hc10_3, if_neg hc19_5, if_neg hc28_7, if_neg hc37_9, if_neg hc46_11, if_neg hc56_13, if_neg hc66_15, if_pos hc76_17]), N0, rfl⟩
                    · show Steps p.tables e below (T18.setTop (mkF m 82 #[.val (.int p0)] [(.ref a_READ)])) _
                      jvm_step X18.here [X18.here.top, hx, (hb hby own_d1_82), X18.method', Bd.returns, Value.isRef, FieldType.isReference]
                      first | (intro acts; rw [hr _ acts rfl rfl rfl]) | rw [hr _ _ rfl rfl rfl]
                      exact Steps.refl _
                  · refine own_st (A' := s₁.setTop (mkF m 86 #[.val (.int p0)] [(.int (9 : Int32)), (.int p0)])) (fun tg kt => ?_) ?_
                    · show Steps p.tables e below (s₁.setTop (mkF m 76 #[.val (.int p0)] [(.int (8 : Int32)), (.int p0)])) _
                      refine XS.icmpYes X0.here hx rfl (pc0 := 76) (pc' := 83) rfl (hb hby own_d1_76) rfl (feq hc76_17).2 (by decide) (by decide) ?_
                      show Steps p.tables e below (s₁.setTop (mkF m 83 #[.val (.int p0)] [])) _
                      refine XS.iloadN X0.here hx rfl (hb hby own_d1_83) rfl ?_
                      show Steps p.tables e below (s₁.setTop (mkF m 84 #[.val (.int p0)] [(.int p0)])) _
                      refine XS.bipush X0.here hx rfl (hb hby own_d1_84) ?_
                      exact kt
                    by_cases hc86_19 : p0 = (9 : Int32)
                    · refine own_st (A' := s₁.setTop (mkF m 89 #[.val (.int p0)] [])) (fun tg kt => ?_) ?_
                      · show Steps p.tables e below (s₁.setTop (mkF m 86 #[.val (.int p0)] [(.int (9 : Int32)), (.int p0)])) _
                        refine XS.icmpNo X0.here hx rfl (hb hby own_d1_86) rfl (teq hc86_19).2 ?_
                        exact kt
                      obtain ⟨T20, X20, e20, st20⟩ := getS2 X0 hx hZ hown (host := "") (Or.inl (hw _ (List.mem_of_getElem? (i := 40) rfl))) Via.refl e0 S_WRITE (g := (mkF m 89 #[.val (.int p0)] [])) rfl (hb hby own_d1_89)
                      refine own_st st20 ?_
                      show own_Gl _ _ _ _ _ _ _ _ (T20.setTop (mkF m 92 #[.val (.int p0)] [(.ref a_WRITE)]))
                      refine own_ret X20 (v := some (.ref a_WRITE)) (fun h => by rw [Bd.returns] at h; cases h) hlk (by decide) (by decide) ?_ (fun fs hr => ?_)
                      · show Q1 Z p0 a_MODULE_INFORMATION a_SET_REGION a_GET_REGION a_SELECT_PARAMETER a_SELECT_MODE a_SINGLE_POLLING a_MULTIPLE_POLLING a_STOP_MULTIPLE_POLLING a_READ a_WRITE a_SET_POWER a_GET_POWER h0 n0 (some (.ref a_WRITE)) T20.heap _
                        rw [e20]
                        exact ⟨congrArg (fun z => some (Value.ref z)) (by unfold own_pick1; rw [if_neg hc1_1, if_neg hc10_3, if_neg hc19_5, if_neg hc28_7, if_neg hc37_9, if_neg hc46_11, if_neg hc56_13, if_neg hc66_15, if_neg hc76_17, if_pos hc86_19]), N0, rfl⟩
                      · show Steps p.tables e below (T20.setTop (mkF m 92 #[.val (.int p0)] [(.ref a_WRITE)])) _
                        jvm_step X20.here [X20.here.top, hx, (hb hby own_d1_92), X20.method', Bd.returns, Value.isRef, FieldType.isReference]
                        first | (intro acts; rw [hr _ acts rfl rfl rfl]) | rw [hr _ _ rfl rfl rfl]
                        exact Steps.refl _
                    · refine own_st (A' := s₁.setTop (mkF m 96 #[.val (.int p0)] [(.int (10 : Int32)), (.int p0)])) (fun tg kt => ?_) ?_
                      · show Steps p.tables e below (s₁.setTop (mkF m 86 #[.val (.int p0)] [(.int (9 : Int32)), (.int p0)])) _
                        refine XS.icmpYes X0.here hx rfl (pc0 := 86) (pc' := 93) rfl (hb hby own_d1_86) rfl (feq hc86_19).2 (by decide) (by decide) ?_
                        show Steps p.tables e below (s₁.setTop (mkF m 93 #[.val (.int p0)] [])) _
                        refine XS.iloadN X0.here hx rfl (hb hby own_d1_93) rfl ?_
                        show Steps p.tables e below (s₁.setTop (mkF m 94 #[.val (.int p0)] [(.int p0)])) _
                        refine XS.bipush X0.here hx rfl (hb hby own_d1_94) ?_
                        exact kt
                      by_cases hc96_21 : p0 = (10 : Int32)
                      · refine own_st (A' := s₁.setTop (mkF m 99 #[.val (.int p0)] [])) (fun tg kt => ?_) ?_
                        · show Steps p.tables e below (s₁.setTop (mkF m 96 #[.val (.int p0)] [(.int (10 : Int32)), (.int p0)])) _
                          refine XS.icmpNo X0.here hx rfl (hb hby own_d1_96) rfl (teq hc96_21).2 ?_
                          exact kt
                        obtain ⟨T22, X22, e22, st22⟩ := getS2 X0 hx hZ hown (host := "") (Or.inl (hw _ (List.mem_of_getElem? (i := 32) rfl))) Via.refl e0 S_SET_POWER (g := (mkF m 99 #[.val (.int p0)] [])) rfl (hb hby own_d1_99)
                        refine own_st st22 ?_
                        show own_Gl _ _ _ _ _ _ _ _ (T22.setTop (mkF m 102 #[.val (.int p0)] [(.ref a_SET_POWER)]))
                        refine own_ret X22 (v := some (.ref a_SET_POWER)) (fun h => by rw [Bd.returns] at h; cases h) hlk (by decide) (by decide) ?_ (fun fs hr => ?_)
                        · show Q1 Z p0 a_MODULE_INFORMATION a_SET_REGION a_GET_REGION a_SELECT_PARAMETER a_SELECT_MODE a_SINGLE_POLLING a_MULTIPLE_POLLING a_STOP_MULTIPLE_POLLING a_READ a_WRITE a_SET_POWER a_GET_POWER h0 n0 (some (.ref a_SET_POWER)) T22.heap _
                          rw [e22]
                          exact ⟨congrArg (fun z => some (Value.ref z)) (by unfold own_pick1; rw [if_neg hc1_1, if_neg hc10_3, if_neg hc19_5, if_neg hc28_7, if_neg hc37_9, if_neg hc46_11, if_neg hc56_13, if_neg hc66_15, if_neg hc76_17, if_neg hc86_19, if_pos hc96_21]), N0, rfl⟩
                        · show Steps p.tables e below (T22.setTop (mkF m 102 #[.val (.int p0)] [(.ref a_SET_POWER)])) _
                          jvm_step X22.here [X22.here.top, hx, (hb hby own_d1_102), X22.method', Bd.returns, Value.isRef, FieldType.isReference]
                          first | (intro acts; rw [hr _ acts rfl rfl rfl]) | rw [hr _ _ rfl rfl rfl]
                          exact Steps.refl _
                      · refine own_st (A' := s₁.setTop (mkF m 103 #[.val (.int p0)] [])) (fun tg kt => ?_) ?_
                        · show Steps p.tables e below (s₁.setTop (mkF m 96 #[.val (.int p0)] [(.int (10 : Int32)), (.int p0)])) _
                          refine XS.icmpYes X0.here hx rfl (pc0 := 96) (pc' := 103) rfl (hb hby own_d1_96) rfl (feq hc96_21).2 (by decide) (by decide) ?_
                          exact kt
                        obtain ⟨T23, X23, e23, st23⟩ := getS2 X0 hx hZ hown (host := "") (Or.inl (hw _ (List.mem_of_getElem? (i := 24) rfl))) Via.refl e0 S_GET_POWER (g := (mkF m 103 #[.val (.int p0)] [])) rfl (hb hby own_d1_103)
                        refine own_st st23 ?_
                        show own_Gl _ _ _ _ _ _ _ _ (T23.setTop (mkF m 106 #[.val (.int p0)] [(.ref a_GET_POWER)]))
                        refine own_ret X23 (v := some (.ref a_GET_POWER)) (fun h => by rw [Bd.returns] at h; cases h) hlk (by decide) (by decide) ?_ (fun fs hr => ?_)
                        · show Q1 Z p0 a_MODULE_INFORMATION a_SET_REGION a_GET_REGION a_SELECT_PARAMETER a_SELECT_MODE a_SINGLE_POLLING a_MULTIPLE_POLLING a_STOP_MULTIPLE_POLLING a_READ a_WRITE a_SET_POWER a_GET_POWER h0 n0 (some (.ref a_GET_POWER)) T23.heap _
                          rw [e23]
                          exact ⟨congrArg (fun z => some (Value.ref z)) (by unfold own_pick1; rw [if_neg hc1_1, if_neg hc10_3, if_neg hc19_5, if_neg hc28_7, if_neg hc37_9, if_neg hc46_11, if_neg hc56_13, if_neg hc66_15, if_neg hc76_17, if_neg hc86_19, if_neg hc96_21]), N0, rfl⟩
                        · show Steps p.tables e below (T23.setTop (mkF m 106 #[.val (.int p0)] [(.ref a_GET_POWER)])) _
                          jvm_step X23.here [X23.here.top, hx, (hb hby own_d1_106), X23.method', Bd.returns, Value.isRef, FieldType.isReference]
                          first | (intro acts; rw [hr _ acts rfl rfl rfl]) | rw [hr _ _ rfl rfl rfl]
                          exact Steps.refl _
def own_code (p : Int32) : Int32 := if p = (0 : Int32) then 3 else if p = (1 : Int32) then 7 else if p = (2 : Int32) then 8 else if p = (3 : Int32) then 12 else if p = (4 : Int32) then 18 else if p = (5 : Int32) then 34 else if p = (6 : Int32) then 39 else if p = (7 : Int32) then 40 else if p = (8 : Int32) then 57 else if p = (9 : Int32) then 73 else if p = (10 : Int32) then 182 else 183
theorem own_d2_0 : decode method_3_code 0 = .ok (.iload_n 0, 1) := by decide +kernel
theorem own_d2_1 : decode method_3_code 1 = .ok (.ifCond .ne 5, 3) := by decide +kernel
theorem own_d2_4 : decode method_3_code 4 = .ok (.iconst 3, 1) := by decide +kernel
theorem own_d2_5 : decode method_3_code 5 = .ok (.ireturn, 1) := by decide +kernel
theorem own_d2_6 : decode method_3_code 6 = .ok (.iload_n 0, 1) := by decide +kernel
theorem own_d2_7 : decode method_3_code 7 = .ok (.iconst 1, 1) := by decide +kernel
theorem own_d2_8 : decode method_3_code 8 = .ok (.if_icmp .ne 6, 3) := by decide +kernel
theorem own_d2_11 : decode method_3_code 11 = .ok (.bipush 7, 2) := by decide +kernel
theorem own_d2_13 : decode method_3_code 13 = .ok (.ireturn, 1) := by decide +kernel
theorem own_d2_14 : decode method_3_code 14 = .ok (.iload_n 0, 1) := by decide +kernel
theorem own_d2_15 : decode method_3_code 15 = .ok (.iconst 2, 1) := by decide +kernel
theorem own_d2_16 : decode method_3_code 16 = .ok (.if_icmp .ne 6, 3) := by decide +kernel
theorem own_d2_19 : decode method_3_code 19 = .ok (.bipush 8, 2) := by decide +kernel
theorem own_d2_21 : decode method_3_code 21 = .ok (.ireturn, 1) := by decide +kernel
theorem own_d2_22 : decode method_3_code 22 = .ok (.iload_n 0, 1) := by decide +kernel
theorem own_d2_23 : decode method_3_code 23 = .ok (.iconst 3, 1) := by decide +kernel
theorem own_d2_24 : decode method_3_code 24 = .ok (.if_icmp .ne 6, 3) := by decide +kernel
theorem own_d2_27 : decode method_3_code 27 = .ok (.bipush 12, 2) := by decide +kernel
theorem own_d2_29 : decode method_3_code 29 = .ok (.ireturn, 1) := by decide +kernel
theorem own_d2_30 : decode method_3_code 30 = .ok (.iload_n 0, 1) := by decide +kernel
theorem own_d2_31 : decode method_3_code 31 = .ok (.iconst 4, 1) := by decide +kernel
theorem own_d2_32 : decode method_3_code 32 = .ok (.if_icmp .ne 6, 3) := by decide +kernel
theorem own_d2_35 : decode method_3_code 35 = .ok (.bipush 18, 2) := by decide +kernel
theorem own_d2_37 : decode method_3_code 37 = .ok (.ireturn, 1) := by decide +kernel
theorem own_d2_38 : decode method_3_code 38 = .ok (.iload_n 0, 1) := by decide +kernel
theorem own_d2_39 : decode method_3_code 39 = .ok (.iconst 5, 1) := by decide +kernel
theorem own_d2_40 : decode method_3_code 40 = .ok (.if_icmp .ne 6, 3) := by decide +kernel
theorem own_d2_43 : decode method_3_code 43 = .ok (.bipush 34, 2) := by decide +kernel
theorem own_d2_45 : decode method_3_code 45 = .ok (.ireturn, 1) := by decide +kernel
theorem own_d2_46 : decode method_3_code 46 = .ok (.iload_n 0, 1) := by decide +kernel
theorem own_d2_47 : decode method_3_code 47 = .ok (.bipush 6, 2) := by decide +kernel
theorem own_d2_49 : decode method_3_code 49 = .ok (.if_icmp .ne 6, 3) := by decide +kernel
theorem own_d2_52 : decode method_3_code 52 = .ok (.bipush 39, 2) := by decide +kernel
theorem own_d2_54 : decode method_3_code 54 = .ok (.ireturn, 1) := by decide +kernel
theorem own_d2_55 : decode method_3_code 55 = .ok (.iload_n 0, 1) := by decide +kernel
theorem own_d2_56 : decode method_3_code 56 = .ok (.bipush 7, 2) := by decide +kernel
theorem own_d2_58 : decode method_3_code 58 = .ok (.if_icmp .ne 6, 3) := by decide +kernel
theorem own_d2_61 : decode method_3_code 61 = .ok (.bipush 40, 2) := by decide +kernel
theorem own_d2_63 : decode method_3_code 63 = .ok (.ireturn, 1) := by decide +kernel
theorem own_d2_64 : decode method_3_code 64 = .ok (.iload_n 0, 1) := by decide +kernel
theorem own_d2_65 : decode method_3_code 65 = .ok (.bipush 8, 2) := by decide +kernel
theorem own_d2_67 : decode method_3_code 67 = .ok (.if_icmp .ne 6, 3) := by decide +kernel
theorem own_d2_70 : decode method_3_code 70 = .ok (.bipush 57, 2) := by decide +kernel
theorem own_d2_72 : decode method_3_code 72 = .ok (.ireturn, 1) := by decide +kernel
theorem own_d2_73 : decode method_3_code 73 = .ok (.iload_n 0, 1) := by decide +kernel
theorem own_d2_74 : decode method_3_code 74 = .ok (.bipush 9, 2) := by decide +kernel
theorem own_d2_76 : decode method_3_code 76 = .ok (.if_icmp .ne 6, 3) := by decide +kernel
theorem own_d2_79 : decode method_3_code 79 = .ok (.bipush 73, 2) := by decide +kernel
theorem own_d2_81 : decode method_3_code 81 = .ok (.ireturn, 1) := by decide +kernel
theorem own_d2_82 : decode method_3_code 82 = .ok (.iload_n 0, 1) := by decide +kernel
theorem own_d2_83 : decode method_3_code 83 = .ok (.bipush 10, 2) := by decide +kernel
theorem own_d2_85 : decode method_3_code 85 = .ok (.if_icmp .ne 7, 3) := by decide +kernel
theorem own_d2_88 : decode method_3_code 88 = .ok (.sipush 182, 3) := by decide +kernel
theorem own_d2_91 : decode method_3_code 91 = .ok (.ireturn, 1) := by decide +kernel
theorem own_d2_92 : decode method_3_code 92 = .ok (.sipush 183, 3) := by decide +kernel
theorem own_d2_95 : decode method_3_code 95 = .ok (.ireturn, 1) := by decide +kernel
theorem own_ef_rm2 (m : MethodId) (p0 : Int32) : entryFrame m #[(.int p0)] 1 = mkF m 0 #[.val (.int p0)] [] := by first | (simp [entryFrame, mkF, argsToLocals, Value.category]; done) | rfl
def Q2 (Z : State) (p0 : Int32) (h0 : Heap) (n0 : Nat) (v : Option Value) (h : Heap) (L : List Loc) : Prop := v = some (.int (own_code p0)) ∧ Fr n0 L ∧ h = h0
set_option maxRecDepth 65536 in
set_option maxHeartbeats 40000000 in
theorem rm2 (l : Launch) (Z : State) (a0 : Array Value) (hw : ∀ d ∈ tables_1, d.before a0 Z = true) (ws : List Jvm.Cond) (p0 : Int32) (h0 : Heap) (n0 : Nat) (Z0 : n0 ≤ h0.size) :
    MetFree l (⟨"com/example/tagwire/tagwire/bb/CommandIsAnsweredByPinLaw", "codeOf", "(I)I"⟩ : MethodName) (head1 (Jvm.Cond.code (⟨"com/example/tagwire/tagwire/bb/CommandIsAnsweredByPinLaw", "codeOf", "(I)I"⟩ : MethodName) method_3_code 1 (some .int) :: ws) ({ frames := 0, cells := 0, slots := 0, locals := 0 } : Room)) (fun a U => a = #[(.int p0)] ∧ Z.Warmed39 U.vm ∧ U.heap = h0) (fun _ _ _ _ _ => True) (fun _ U o U' => ∃ v L, o = .returned v ∧ Q2 Z p0 h0 n0 v U'.heap L ∧ FrameEnd U o U' L ({ frames := 0, cells := 0, slots := 0, locals := 0 } : Room).cells ({ frames := 0, cells := 0, slots := 0, locals := 0 } : Room).slots) := by
  refine MetFree.of_bodySF (plainFor_of_name own_pn0) hisR ?_
  intro p e s m args below meth c s₁ Bd hml0 hP hK
  obtain ⟨rfl, hZ, hh⟩ := hP
  have hx := Bd.exec
  have hby := Bd.bytes
  have hml : c.maxLocals = 1 := hml0
  have hown : s.vm.findClass "com/example/tagwire/tagwire/bb/CommandIsAnsweredByPinLaw" = some m.cls := findClass_of_methodNamed Bd.named
  have hnm := (name_of_methodNamed Bd.named Bd.method).1
  have hlk : meth.locks = false := BodyLoose.notSynchronized Bd
  have X0 : Stand p l e ({ frames := 0, cells := 0, slots := 0, locals := 0 } : Room) s m #[(.int p0)] below meth c s₁ [] 0 0 := Stand.of_body Bd
  have e0 : s₁.heap = h0 := by rw [← hh, Bd.state]; rfl
  have N0 := Fr.nil n0
  show own_Gl FrameEnd p e below s (Q2 Z p0 h0 n0) ({ frames := 0, cells := 0, slots := 0, locals := 0 } : Room).cells ({ frames := 0, cells := 0, slots := 0, locals := 0 } : Room).slots (s₁.setTop (entryFrame m #[(.int p0)] 1))
  rw [own_ef_rm2 m p0]
  refine own_st (A' := s₁.setTop (mkF m 1 #[.val (.int p0)] [(.int p0)])) (fun tg kt => ?_) ?_
  · show Steps p.tables e below (s₁.setTop (mkF m 0 #[.val (.int p0)] [])) _
    refine XS.iloadN X0.here hx rfl (hb hby own_d2_0) rfl ?_
    exact kt
  by_cases hc1_1 : p0 = (0 : Int32)
  · refine own_st (A' := s₁.setTop (mkF m 5 #[.val (.int p0)] [(.int (3 : Int32))])) (fun tg kt => ?_) ?_
    · show Steps p.tables e below (s₁.setTop (mkF m 1 #[.val (.int p0)] [(.int p0)])) _
      refine XS.ifNo X0.here hx rfl (hb hby own_d2_1) rfl ((if0 _ _).trans (teq hc1_1).2) ?_
      show Steps p.tables e below (s₁.setTop (mkF m 4 #[.val (.int p0)] [])) _
      refine XS.iconst X0.here hx rfl (hb hby own_d2_4) ?_
      exact kt
    refine own_ret X0 (v := some (.int (3 : Int32))) (fun h => by rw [Bd.returns] at h; cases h) hlk (by decide) (by decide) ?_ (fun fs hr => ?_)
    · show Q2 Z p0 h0 n0 (some (.int (3 : Int32))) s₁.heap _
      rw [e0]
      exact ⟨congrArg (fun z => some (Value.int z)) (by unfold own_code; rw [if_pos hc1_1]), N0, rfl⟩
    · show Steps p.tables e below (s₁.setTop (mkF m 5 #[.val (.int p0)] [(.int (3 : Int32))])) _
      exact retI X0 hx Bd.returns (hb hby own_d2_5) hr
  · refine own_st (A' := s₁.setTop (mkF m 8 #[.val (.int p0)] [(.int (1 : Int32)), (.int p0)])) (fun tg kt => ?_) ?_
    · show Steps p.tables e below (s₁.setTop (mkF m 1 #[.val (.int p0)] [(.int p0)])) _
      refine XS.ifYes X0.here hx rfl (pc0 := 1) (pc' := 6) rfl (hb hby own_d2_1) rfl ((if0 _ _).trans (feq hc1_1).2) (by decide) (by decide) ?_
      show Steps p.tables e below (s₁.setTop (mkF m 6 #[.val (.int p0)] [])) _
      refine XS.iloadN X0.here hx rfl (hb hby own_d2_6) rfl ?_
      show Steps p.tables e below (s₁.setTop (mkF m 7 #[.val (.int p0)] [(.int p0)])) _
      refine XS.iconst X0.here hx rfl (hb hby own_d2_7) ?_
      exact kt
    by_cases hc8_2 : p0 = (1 : Int32)
    · refine own_st (A' := s₁.setTop (mkF m 13 #[.val (.int p0)] [(.int (7 : Int32))])) (fun tg kt => ?_) ?_
      · show Steps p.tables e below (s₁.setTop (mkF m 8 #[.val (.int p0)] [(.int (1 : Int32)), (.int p0)])) _
        refine XS.icmpNo X0.here hx rfl (hb hby own_d2_8) rfl (teq hc8_2).2 ?_
        show Steps p.tables e below (s₁.setTop (mkF m 11 #[.val (.int p0)] [])) _
        refine XS.bipush X0.here hx rfl (hb hby own_d2_11) ?_
        exact kt
      refine own_ret X0 (v := some (.int (7 : Int32))) (fun h => by rw [Bd.returns] at h; cases h) hlk (by decide) (by decide) ?_ (fun fs hr => ?_)
      · show Q2 Z p0 h0 n0 (some (.int (7 : Int32))) s₁.heap _
        rw [e0]
        exact ⟨congrArg (fun z => some (Value.int z)) (by unfold own_code; rw [if_neg hc1_1, if_pos hc8_2]), N0, rfl⟩
      · show Steps p.tables e below (s₁.setTop (mkF m 13 #[.val (.int p0)] [(.int (7 : Int32))])) _
        exact retI X0 hx Bd.returns (hb hby own_d2_13) hr
    · refine own_st (A' := s₁.setTop (mkF m 16 #[.val (.int p0)] [(.int (2 : Int32)), (.int p0)])) (fun tg kt => ?_) ?_
      · show Steps p.tables e below (s₁.setTop (mkF m 8 #[.val (.int p0)] [(.int (1 : Int32)), (.int p0)])) _
        refine XS.icmpYes X0.here hx rfl (pc0 := 8) (pc' := 14) rfl (hb hby own_d2_8) rfl (feq hc8_2).2 (by decide) (by decide) ?_
        show Steps p.tables e below (s₁.setTop (mkF m 14 #[.val (.int p0)] [])) _
        refine XS.iloadN X0.here hx rfl (hb hby own_d2_14) rfl ?_
        show Steps p.tables e below (s₁.setTop (mkF m 15 #[.val (.int p0)] [(.int p0)])) _
        refine XS.iconst X0.here hx rfl (hb hby own_d2_15) ?_
        exact kt
      by_cases hc16_3 : p0 = (2 : Int32)
      · refine own_st (A' := s₁.setTop (mkF m 21 #[.val (.int p0)] [(.int (8 : Int32))])) (fun tg kt => ?_) ?_
        · show Steps p.tables e below (s₁.setTop (mkF m 16 #[.val (.int p0)] [(.int (2 : Int32)), (.int p0)])) _
          refine XS.icmpNo X0.here hx rfl (hb hby own_d2_16) rfl (teq hc16_3).2 ?_
          show Steps p.tables e below (s₁.setTop (mkF m 19 #[.val (.int p0)] [])) _
          refine XS.bipush X0.here hx rfl (hb hby own_d2_19) ?_
          exact kt
        refine own_ret X0 (v := some (.int (8 : Int32))) (fun h => by rw [Bd.returns] at h; cases h) hlk (by decide) (by decide) ?_ (fun fs hr => ?_)
        · show Q2 Z p0 h0 n0 (some (.int (8 : Int32))) s₁.heap _
          rw [e0]
          exact ⟨congrArg (fun z => some (Value.int z)) (by unfold own_code; rw [if_neg hc1_1, if_neg hc8_2, if_pos hc16_3]), N0, rfl⟩
        · show Steps p.tables e below (s₁.setTop (mkF m 21 #[.val (.int p0)] [(.int (8 : Int32))])) _
          exact retI X0 hx Bd.returns (hb hby own_d2_21) hr
      · refine own_st (A' := s₁.setTop (mkF m 24 #[.val (.int p0)] [(.int (3 : Int32)), (.int p0)])) (fun tg kt => ?_) ?_
        · show Steps p.tables e below (s₁.setTop (mkF m 16 #[.val (.int p0)] [(.int (2 : Int32)), (.int p0)])) _
          refine XS.icmpYes X0.here hx rfl (pc0 := 16) (pc' := 22) rfl (hb hby own_d2_16) rfl (feq hc16_3).2 (by decide) (by decide) ?_
          show Steps p.tables e below (s₁.setTop (mkF m 22 #[.val (.int p0)] [])) _
          refine XS.iloadN X0.here hx rfl (hb hby own_d2_22) rfl ?_
          show Steps p.tables e below (s₁.setTop (mkF m 23 #[.val (.int p0)] [(.int p0)])) _
          refine XS.iconst X0.here hx rfl (hb hby own_d2_23) ?_
          exact kt
        by_cases hc24_4 : p0 = (3 : Int32)
        · refine own_st (A' := s₁.setTop (mkF m 29 #[.val (.int p0)] [(.int (12 : Int32))])) (fun tg kt => ?_) ?_
          · show Steps p.tables e below (s₁.setTop (mkF m 24 #[.val (.int p0)] [(.int (3 : Int32)), (.int p0)])) _
            refine XS.icmpNo X0.here hx rfl (hb hby own_d2_24) rfl (teq hc24_4).2 ?_
            show Steps p.tables e below (s₁.setTop (mkF m 27 #[.val (.int p0)] [])) _
            refine XS.bipush X0.here hx rfl (hb hby own_d2_27) ?_
            exact kt
          refine own_ret X0 (v := some (.int (12 : Int32))) (fun h => by rw [Bd.returns] at h; cases h) hlk (by decide) (by decide) ?_ (fun fs hr => ?_)
          · show Q2 Z p0 h0 n0 (some (.int (12 : Int32))) s₁.heap _
            rw [e0]
            exact ⟨congrArg (fun z => some (Value.int z)) (by unfold own_code; rw [if_neg hc1_1, if_neg hc8_2, if_neg hc16_3, if_pos hc24_4]), N0, rfl⟩
          · show Steps p.tables e below (s₁.setTop (mkF m 29 #[.val (.int p0)] [(.int (12 : Int32))])) _
            exact retI X0 hx Bd.returns (hb hby own_d2_29) hr
        · refine own_st (A' := s₁.setTop (mkF m 32 #[.val (.int p0)] [(.int (4 : Int32)), (.int p0)])) (fun tg kt => ?_) ?_
          · show Steps p.tables e below (s₁.setTop (mkF m 24 #[.val (.int p0)] [(.int (3 : Int32)), (.int p0)])) _
            refine XS.icmpYes X0.here hx rfl (pc0 := 24) (pc' := 30) rfl (hb hby own_d2_24) rfl (feq hc24_4).2 (by decide) (by decide) ?_
            show Steps p.tables e below (s₁.setTop (mkF m 30 #[.val (.int p0)] [])) _
            refine XS.iloadN X0.here hx rfl (hb hby own_d2_30) rfl ?_
            show Steps p.tables e below (s₁.setTop (mkF m 31 #[.val (.int p0)] [(.int p0)])) _
            refine XS.iconst X0.here hx rfl (hb hby own_d2_31) ?_
            exact kt
          by_cases hc32_5 : p0 = (4 : Int32)
          · refine own_st (A' := s₁.setTop (mkF m 37 #[.val (.int p0)] [(.int (18 : Int32))])) (fun tg kt => ?_) ?_
            · show Steps p.tables e below (s₁.setTop (mkF m 32 #[.val (.int p0)] [(.int (4 : Int32)), (.int p0)])) _
              refine XS.icmpNo X0.here hx rfl (hb hby own_d2_32) rfl (teq hc32_5).2 ?_
              show Steps p.tables e below (s₁.setTop (mkF m 35 #[.val (.int p0)] [])) _
              refine XS.bipush X0.here hx rfl (hb hby own_d2_35) ?_
              exact kt
            refine own_ret X0 (v := some (.int (18 : Int32))) (fun h => by rw [Bd.returns] at h; cases h) hlk (by decide) (by decide) ?_ (fun fs hr => ?_)
            · show Q2 Z p0 h0 n0 (some (.int (18 : Int32))) s₁.heap _
              rw [e0]
              exact ⟨congrArg (fun z => some (Value.int z)) (by unfold own_code; rw [if_neg hc1_1, if_neg hc8_2, if_neg hc16_3, if_neg hc24_4, if_pos hc32_5]), N0, rfl⟩
            · show Steps p.tables e below (s₁.setTop (mkF m 37 #[.val (.int p0)] [(.int (18 : Int32))])) _
              exact retI X0 hx Bd.returns (hb hby own_d2_37) hr
          · refine own_st (A' := s₁.setTop (mkF m 40 #[.val (.int p0)] [(.int (5 : Int32)), (.int p0)])) (fun tg kt => ?_) ?_
            · show Steps p.tables e below (s₁.setTop (mkF m 32 #[.val (.int p0)] [(.int (4 : Int32)), (.int p0)])) _
              refine XS.icmpYes X0.here hx rfl (pc0 := 32) (pc' := 38) rfl (hb hby own_d2_32) rfl (feq hc32_5).2 (by decide) (by decide) ?_
              show Steps p.tables e below (s₁.setTop (mkF m 38 #[.val (.int p0)] [])) _
              refine XS.iloadN X0.here hx rfl (hb hby own_d2_38) rfl ?_
              show Steps p.tables e below (s₁.setTop (mkF m 39 #[.val (.int p0)] [(.int p0)])) _
              refine XS.iconst X0.here hx rfl (hb hby own_d2_39) ?_
              exact kt
            by_cases hc40_6 : p0 = (5 : Int32)
            · refine own_st (A' := s₁.setTop (mkF m 45 #[.val (.int p0)] [(.int (34 : Int32))])) (fun tg kt => ?_) ?_
              · show Steps p.tables e below (s₁.setTop (mkF m 40 #[.val (.int p0)] [(.int (5 : Int32)), (.int p0)])) _
                refine XS.icmpNo X0.here hx rfl (hb hby own_d2_40) rfl (teq hc40_6).2 ?_
                show Steps p.tables e below (s₁.setTop (mkF m 43 #[.val (.int p0)] [])) _
                refine XS.bipush X0.here hx rfl (hb hby own_d2_43) ?_
                exact kt
              refine own_ret X0 (v := some (.int (34 : Int32))) (fun h => by rw [Bd.returns] at h; cases h) hlk (by decide) (by decide) ?_ (fun fs hr => ?_)
              · show Q2 Z p0 h0 n0 (some (.int (34 : Int32))) s₁.heap _
                rw [e0]
                exact ⟨congrArg (fun z => some (Value.int z)) (by unfold own_code; rw [if_neg hc1_1, if_neg hc8_2, if_neg hc16_3, if_neg hc24_4, if_neg hc32_5, if_pos hc40_6]), N0, rfl⟩
              · show Steps p.tables e below (s₁.setTop (mkF m 45 #[.val (.int p0)] [(.int (34 : Int32))])) _
                exact retI X0 hx Bd.returns (hb hby own_d2_45) hr
            · refine own_st (A' := s₁.setTop (mkF m 49 #[.val (.int p0)] [(.int (6 : Int32)), (.int p0)])) (fun tg kt => ?_) ?_
              · show Steps p.tables e below (s₁.setTop (mkF m 40 #[.val (.int p0)] [(.int (5 : Int32)), (.int p0)])) _
                refine XS.icmpYes X0.here hx rfl (pc0 := 40) (pc' := 46) rfl (hb hby own_d2_40) rfl (feq hc40_6).2 (by decide) (by decide) ?_
                show Steps p.tables e below (s₁.setTop (mkF m 46 #[.val (.int p0)] [])) _
                refine XS.iloadN X0.here hx rfl (hb hby own_d2_46) rfl ?_
                show Steps p.tables e below (s₁.setTop (mkF m 47 #[.val (.int p0)] [(.int p0)])) _
                refine XS.bipush X0.here hx rfl (hb hby own_d2_47) ?_
                exact kt
              by_cases hc49_7 : p0 = (6 : Int32)
              · refine own_st (A' := s₁.setTop (mkF m 54 #[.val (.int p0)] [(.int (39 : Int32))])) (fun tg kt => ?_) ?_
                · show Steps p.tables e below (s₁.setTop (mkF m 49 #[.val (.int p0)] [(.int (6 : Int32)), (.int p0)])) _
                  refine XS.icmpNo X0.here hx rfl (hb hby own_d2_49) rfl (teq hc49_7).2 ?_
                  show Steps p.tables e below (s₁.setTop (mkF m 52 #[.val (.int p0)] [])) _
                  refine XS.bipush X0.here hx rfl (hb hby own_d2_52) ?_
                  exact kt
                refine own_ret X0 (v := some (.int (39 : Int32))) (fun h => by rw [Bd.returns] at h; cases h) hlk (by decide) (by decide) ?_ (fun fs hr => ?_)
                · show Q2 Z p0 h0 n0 (some (.int (39 : Int32))) s₁.heap _
                  rw [e0]
                  exact ⟨congrArg (fun z => some (Value.int z)) (by unfold own_code; rw [if_neg hc1_1, if_neg hc8_2, if_neg hc16_3, if_neg hc24_4, if_neg hc32_5, if_neg hc40_6, if_pos hc49_7]), N0, rfl⟩
                · show Steps p.tables e below (s₁.setTop (mkF m 54 #[.val (.int p0)] [(.int (39 : Int32))])) _
                  exact retI X0 hx Bd.returns (hb hby own_d2_54) hr
              · refine own_st (A' := s₁.setTop (mkF m 58 #[.val (.int p0)] [(.int (7 : Int32)), (.int p0)])) (fun tg kt => ?_) ?_
                · show Steps p.tables e below (s₁.setTop (mkF m 49 #[.val (.int p0)] [(.int (6 : Int32)), (.int p0)])) _
                  refine XS.icmpYes X0.here hx rfl (pc0 := 49) (pc' := 55) rfl (hb hby own_d2_49) rfl (feq hc49_7).2 (by decide) (by decide) ?_
                  show Steps p.tables e below (s₁.setTop (mkF m 55 #[.val (.int p0)] [])) _
                  refine XS.iloadN X0.here hx rfl (hb hby own_d2_55) rfl ?_
                  show Steps p.tables e below (s₁.setTop (mkF m 56 #[.val (.int p0)] [(.int p0)])) _
                  refine XS.bipush X0.here hx rfl (hb hby own_d2_56) ?_
                  exact kt
                by_cases hc58_8 : p0 = (7 : Int32)
                · refine own_st (A' := s₁.setTop (mkF m 63 #[.val (.int p0)] [(.int (40 : Int32))])) (fun tg kt => ?_) ?_
                  · show Steps p.tables e below (s₁.setTop (mkF m 58 #[.val (.int p0)] [(.int (7 : Int32)), (.int p0)])) _
                    refine XS.icmpNo X0.here hx rfl (hb hby own_d2_58) rfl (teq hc58_8).2 ?_
                    show Steps p.tables e below (s₁.setTop (mkF m 61 #[.val (.int p0)] [])) _
                    refine XS.bipush X0.here hx rfl (hb hby own_d2_61) ?_
                    exact kt
                  refine own_ret X0 (v := some (.int (40 : Int32))) (fun h => by rw [Bd.returns] at h; cases h) hlk (by decide) (by decide) ?_ (fun fs hr => ?_)
                  · show Q2 Z p0 h0 n0 (some (.int (40 : Int32))) s₁.heap _
                    rw [e0]
                    exact ⟨congrArg (fun z => some (Value.int z)) (by unfold own_code; rw [if_neg hc1_1, if_neg hc8_2, if_neg hc16_3, if_neg hc24_4, if_neg hc32_5, if_neg hc40_6, if_neg hc49_7, if_pos hc58_8]), N0, rfl⟩
                  · show Steps p.tables e below (s₁.setTop (mkF m 63 #[.val (.int p0)] [(.int (40 : Int32))])) _
                    exact retI X0 hx Bd.returns (hb hby own_d2_63) hr
                · refine own_st (A' := s₁.setTop (mkF m 67 #[.val (.int p0)] [(.int (8 : Int32)), (.int p0)])) (fun tg kt => ?_) ?_
                  · show Steps p.tables e below (s₁.setTop (mkF m 58 #[.val (.int p0)] [(.int (7 : Int32)), (.int p0)])) _
                    refine XS.icmpYes X0.here hx rfl (pc0 := 58) (pc' := 64) rfl (hb hby own_d2_58) rfl (feq hc58_8).2 (by decide) (by decide) ?_
                    show Steps p.tables e below (s₁.setTop (mkF m 64 #[.val (.int p0)] [])) _
                    refine XS.iloadN X0.here hx rfl (hb hby own_d2_64) rfl ?_
                    show Steps p.tables e below (s₁.setTop (mkF m 65 #[.val (.int p0)] [(.int p0)])) _
                    refine XS.bipush X0.here hx rfl (hb hby own_d2_65) ?_
                    exact kt
                  by_cases hc67_9 : p0 = (8 : Int32)
                  · refine own_st (A' := s₁.setTop (mkF m 72 #[.val (.int p0)] [(.int (57 : Int32))])) (fun tg kt => ?_) ?_
                    · show Steps p.tables e below (s₁.setTop (mkF m 67 #[.val (.int p0)] [(.int (8 : Int32)), (.int p0)])) _
                      refine XS.icmpNo X0.here hx rfl (hb hby own_d2_67) rfl (teq hc67_9).2 ?_
                      show Steps p.tables e below (s₁.setTop (mkF m 70 #[.val (.int p0)] [])) _
                      refine XS.bipush X0.here hx rfl (hb hby own_d2_70) ?_
                      exact kt
                    refine own_ret X0 (v := some (.int (57 : Int32))) (fun h => by rw [Bd.returns] at h; cases h) hlk (by decide) (by decide) ?_ (fun fs hr => ?_)
                    · show Q2 Z p0 h0 n0 (some (.int (57 : Int32))) s₁.heap _
                      rw [e0]
                      exact ⟨congrArg (fun z => some (Value.int z)) (by unfold own_code; rw [if_neg hc1_1, if_neg hc8_2, if_neg hc16_3, if_neg hc24_4, if_neg hc32_5, if_neg hc40_6, if_neg hc49_7, if_neg hc58_8, if_pos hc67_9]), N0, rfl⟩
                    · show Steps p.tables e below (s₁.setTop (mkF m 72 #[.val (.int p0)] [(.int (57 : Int32))])) _
                      exact retI X0 hx Bd.returns (hb hby own_d2_72) hr
                  · refine own_st (A' := s₁.setTop (mkF m 76 #[.val (.int p0)] [(.int (9 : Int32)), (.int p0)])) (fun tg kt => ?_) ?_
                    · show Steps p.tables e below (s₁.setTop (mkF m 67 #[.val (.int p0)] [(.int (8 : Int32)), (.int p0)])) _
                      refine XS.icmpYes X0.here hx rfl (pc0 := 67) (pc' := 73) rfl (hb hby own_d2_67) rfl (feq hc67_9).2 (by decide) (by decide) ?_
                      show Steps p.tables e below (s₁.setTop (mkF m 73 #[.val (.int p0)] [])) _
                      refine XS.iloadN X0.here hx rfl (hb hby own_d2_73) rfl ?_
                      show Steps p.tables e below (s₁.setTop (mkF m 74 #[.val (.int p0)] [(.int p0)])) _
                      refine XS.bipush X0.here hx rfl (hb hby own_d2_74) ?_
                      exact kt
                    by_cases hc76_10 : p0 = (9 : Int32)
                    · refine own_st (A' := s₁.setTop (mkF m 81 #[.val (.int p0)] [(.int (73 : Int32))])) (fun tg kt => ?_) ?_
                      · show Steps p.tables e below (s₁.setTop (mkF m 76 #[.val (.int p0)] [(.int (9 : Int32)), (.int p0)])) _
                        refine XS.icmpNo X0.here hx rfl (hb hby own_d2_76) rfl (teq hc76_10).2 ?_
                        show Steps p.tables e below (s₁.setTop (mkF m 79 #[.val (.int p0)] [])) _
                        refine XS.bipush X0.here hx rfl (hb hby own_d2_79) ?_
                        exact kt
                      refine own_ret X0 (v := some (.int (73 : Int32))) (fun h => by rw [Bd.returns] at h; cases h) hlk (by decide) (by decide) ?_ (fun fs hr => ?_)
                      · show Q2 Z p0 h0 n0 (some (.int (73 : Int32))) s₁.heap _
                        rw [e0]
                        exact ⟨congrArg (fun z => some (Value.int z)) (by unfold own_code; rw [if_neg hc1_1, if_neg hc8_2, if_neg hc16_3, if_neg hc24_4, if_neg hc32_5, if_neg hc40_6, if_neg hc49_7, if_neg hc58_8, if_neg hc67_9, if_pos hc76_10]), N0, rfl⟩
                      · show Steps p.tables e below (s₁.setTop (mkF m 81 #[.val (.int p0)] [(.int (73 : Int32))])) _
                        exact retI X0 hx Bd.returns (hb hby own_d2_81) hr
                    · refine own_st (A' := s₁.setTop (mkF m 85 #[.val (.int p0)] [(.int (10 : Int32)), (.int p0)])) (fun tg kt => ?_) ?_
                      · show Steps p.tables e below (s₁.setTop (mkF m 76 #[.val (.int p0)] [(.int (9 : Int32)), (.int p0)])) _
                        refine XS.icmpYes X0.here hx rfl (pc0 := 76) (pc' := 82) rfl (hb hby own_d2_76) rfl (feq hc76_10).2 (by decide) (by decide) ?_
                        show Steps p.tables e below (s₁.setTop (mkF m 82 #[.val (.int p0)] [])) _
                        refine XS.iloadN X0.here hx rfl (hb hby own_d2_82) rfl ?_
                        show Steps p.tables e below (s₁.setTop (mkF m 83 #[.val (.int p0)] [(.int p0)])) _
                        refine XS.bipush X0.here hx rfl (hb hby own_d2_83) ?_
                        exact kt
                      by_cases hc85_11 : p0 = (10 : Int32)
                      · refine own_st (A' := s₁.setTop (mkF m 91 #[.val (.int p0)] [(.int (182 : Int32))])) (fun tg kt => ?_) ?_
                        · show Steps p.tables e below (s₁.setTop (mkF m 85 #[.val (.int p0)] [(.int (10 : Int32)), (.int p0)])) _
                          refine XS.icmpNo X0.here hx rfl (hb hby own_d2_85) rfl (teq hc85_11).2 ?_
                          show Steps p.tables e below (s₁.setTop (mkF m 88 #[.val (.int p0)] [])) _
                          refine XS.sipush X0.here hx rfl (hb hby own_d2_88) ?_
                          exact kt
                        refine own_ret X0 (v := some (.int (182 : Int32))) (fun h => by rw [Bd.returns] at h; cases h) hlk (by decide) (by decide) ?_ (fun fs hr => ?_)
                        · show Q2 Z p0 h0 n0 (some (.int (182 : Int32))) s₁.heap _
                          rw [e0]
                          exact ⟨congrArg (fun z => some (Value.int z)) (by unfold own_code; rw [if_neg hc1_1, if_neg hc8_2, if_neg hc16_3, if_neg hc24_4, if_neg hc32_5, if_neg hc40_6, if_neg hc49_7, if_neg hc58_8, if_neg hc67_9, if_neg hc76_10, if_pos hc85_11]), N0, rfl⟩
                        · show Steps p.tables e below (s₁.setTop (mkF m 91 #[.val (.int p0)] [(.int (182 : Int32))])) _
                          exact retI X0 hx Bd.returns (hb hby own_d2_91) hr
                      · refine own_st (A' := s₁.setTop (mkF m 95 #[.val (.int p0)] [(.int (183 : Int32))])) (fun tg kt => ?_) ?_
                        · show Steps p.tables e below (s₁.setTop (mkF m 85 #[.val (.int p0)] [(.int (10 : Int32)), (.int p0)])) _
                          refine XS.icmpYes X0.here hx rfl (pc0 := 85) (pc' := 92) rfl (hb hby own_d2_85) rfl (feq hc85_11).2 (by decide) (by decide) ?_
                          show Steps p.tables e below (s₁.setTop (mkF m 92 #[.val (.int p0)] [])) _
                          refine XS.sipush X0.here hx rfl (hb hby own_d2_92) ?_
                          exact kt
                        refine own_ret X0 (v := some (.int (183 : Int32))) (fun h => by rw [Bd.returns] at h; cases h) hlk (by decide) (by decide) ?_ (fun fs hr => ?_)
                        · show Q2 Z p0 h0 n0 (some (.int (183 : Int32))) s₁.heap _
                          rw [e0]
                          exact ⟨congrArg (fun z => some (Value.int z)) (by unfold own_code; rw [if_neg hc1_1, if_neg hc8_2, if_neg hc16_3, if_neg hc24_4, if_neg hc32_5, if_neg hc40_6, if_neg hc49_7, if_neg hc58_8, if_neg hc67_9, if_neg hc76_10, if_neg hc85_11]), N0, rfl⟩
                        · show Steps p.tables e below (s₁.setTop (mkF m 95 #[.val (.int p0)] [(.int (183 : Int32))])) _
                          exact retI X0 hx Bd.returns (hb hby own_d2_95) hr
def own_ans (q c a : Int32) : Int32 := if q = c then 1 else if q = a then 1 else 0
theorem own_d3_0 : decode prog_1_method_8_code 0 = .ok (.iload_n 1, 1) := by decide +kernel
theorem own_d3_1 : decode prog_1_method_8_code 1 = .ok (.aload_n 0, 1) := by decide +kernel
theorem own_d3_2 : decode prog_1_method_8_code 2 = .ok (.getfield 62, 3) := by decide +kernel
theorem own_d3_5 : decode prog_1_method_8_code 5 = .ok (.if_icmp .eq 11, 3) := by decide +kernel
theorem own_d3_8 : decode prog_1_method_8_code 8 = .ok (.iload_n 1, 1) := by decide +kernel
theorem own_d3_9 : decode prog_1_method_8_code 9 = .ok (.aload_n 0, 1) := by decide +kernel
theorem own_d3_10 : decode prog_1_method_8_code 10 = .ok (.getfield 66, 3) := by decide +kernel
theorem own_d3_13 : decode prog_1_method_8_code 13 = .ok (.if_icmp .ne 7, 3) := by decide +kernel
theorem own_d3_16 : decode prog_1_method_8_code 16 = .ok (.iconst 1, 1) := by decide +kernel
theorem own_d3_17 : decode prog_1_method_8_code 17 = .ok (.goto 4, 3) := by decide +kernel
theorem own_d3_20 : decode prog_1_method_8_code 20 = .ok (.iconst 0, 1) := by decide +kernel
theorem own_d3_21 : decode prog_1_method_8_code 21 = .ok (.ireturn, 1) := by decide +kernel
theorem own_ef_rm3 (m : MethodId) (th : Addr) (q : Int32) : entryFrame m #[(.ref th), (.int q)] 2 = mkF m 0 #[.val (.ref th), .val (.int q)] [] := by first | (simp [entryFrame, mkF, argsToLocals, Value.category]; done) | rfl
theorem own_pn1 : plainName "com/example/tagwire/tagwire/bb/Command" = true := by first | (simp [plainName, overriddenIn]; done) | decide +kernel
def Q3 (Z : State) (th : Addr) (q : Int32) (cc : Int32) (ca : Int32) (h0 : Heap) (n0 : Nat) (v : Option Value) (h : Heap) (L : List Loc) : Prop := v = some (.int (own_ans q cc ca)) ∧ Fr n0 L ∧ h = h0
set_option maxRecDepth 65536 in
set_option maxHeartbeats 40000000 in
theorem rm3 (l : Launch) (Z : State) (a0 : Array Value) (hw : ∀ d ∈ tables_1, d.before a0 Z = true) (ws : List Jvm.Cond) (th : Addr) (q : Int32) (cc : Int32) (ca : Int32) (h0 : Heap) (n0 : Nat) (Z0 : n0 ≤ h0.size) (Fc : Fld Z h0 th "com/example/tagwire/tagwire/bb/Command" "code" "I" (.int cc)) (Fa : Fld Z h0 th "com/example/tagwire/tagwire/bb/Command" "answerCode" "I" (.int ca)) :
    MetFree l (⟨"com/example/tagwire/tagwire/bb/Command", "isAnsweredBy", "(I)Z"⟩ : MethodName) (head1 (Jvm.Cond.code (⟨"com/example/tagwire/tagwire/bb/Command", "isAnsweredBy", "(I)Z"⟩ : MethodName) prog_1_method_8_code 2 (some .boolean) :: ws) ({ frames := 0, cells := 0, slots := 0, locals := 0 } : Room)) (fun a U => a = #[(.ref th), (.int q)] ∧ Z.Warmed39 U.vm ∧ U.heap = h0) (fun _ _ _ _ _ => True) (fun _ U o U' => ∃ v L, o = .returned v ∧ Q3 Z th q cc ca h0 n0 v U'.heap L ∧ FrameEnd U o U' L ({ frames := 0, cells := 0, slots := 0, locals := 0 } : Room).cells ({ frames := 0, cells := 0, slots := 0, locals := 0 } : Room).slots) := by
  refine MetFree.of_bodySF (plainFor_of_name own_pn1) hisR ?_
  intro p e s m args below meth c s₁ Bd hml0 hP hK
  obtain ⟨rfl, hZ, hh⟩ := hP
  have hx := Bd.exec
  have hby := Bd.bytes
  have hml : c.maxLocals = 2 := hml0
  have hown : s.vm.findClass "com/example/tagwire/tagwire/bb/Command" = some m.cls := findClass_of_methodNamed Bd.named
  have hnm := (name_of_methodNamed Bd.named Bd.method).1
  have hlk : meth.locks = false := BodyLoose.notSynchronized Bd
  have X0 : Stand p l e ({ frames := 0, cells := 0, slots := 0, locals := 0 } : Room) s m #[(.ref th), (.int q)] below meth c s₁ [] 0 0 := Stand.of_body Bd
  have e0 : s₁.heap = h0 := by rw [← hh, Bd.state]; rfl
  have N0 := Fr.nil n0
  show own_Gl FrameEnd p e below s (Q3 Z th q cc ca h0 n0) ({ frames := 0, cells := 0, slots := 0, locals := 0 } : Room).cells ({ frames := 0, cells := 0, slots := 0, locals := 0 } : Room).slots (s₁.setTop (entryFrame m #[(.ref th), (.int q)] 2))
  rw [own_ef_rm3 m th q]
  refine own_st (A' := s₁.setTop (mkF m 2 #[.val (.ref th), .val (.int q)] [(.ref th), (.int q)])) (fun tg kt => ?_) ?_
  · show Steps p.tables e below (s₁.setTop (mkF m 0 #[.val (.ref th), .val (.int q)] [])) _
    refine XS.iloadN X0.here hx rfl (hb hby own_d3_0) rfl ?_
    show Steps p.tables e below (s₁.setTop (mkF m 1 #[.val (.ref th), .val (.int q)] [(.int q)])) _
    refine XS.aloadN X0.here hx rfl (hb hby own_d3_1) rfl rfl ?_
    exact kt
  obtain ⟨T1, X1, e1, st1⟩ := getF X0 hx hZ hown (host := "") (Or.inl (hw _ (List.mem_of_getElem? (i := 16) rfl))) Via.refl e0 Fc (g := (mkF m 2 #[.val (.ref th), .val (.int q)] [(.ref th), (.int q)])) rfl rfl (hb hby own_d3_2)
  refine own_st st1 ?_
  show own_Gl _ _ _ _ _ _ _ _ (T1.setTop (mkF m 5 #[.val (.ref th), .val (.int q)] [(.int cc), (.int q)]))
  by_cases hc5_2 : q = cc
  · refine own_st (A' := T1.setTop (mkF m 21 #[.val (.ref th), .val (.int q)] [(.int (1 : Int32))])) (fun tg kt => ?_) ?_
    · show Steps p.tables e below (T1.setTop (mkF m 5 #[.val (.ref th), .val (.int q)] [(.int cc), (.int q)])) _
      refine XS.icmpYes X1.here hx rfl (pc0 := 5) (pc' := 16) rfl (hb hby own_d3_5) rfl (teq hc5_2).1 (by decide) (by decide) ?_
      show Steps p.tables e below (T1.setTop (mkF m 16 #[.val (.ref th), .val (.int q)] [])) _
      refine XS.iconst X1.here hx rfl (hb hby own_d3_16) ?_
      show Steps p.tables e below (T1.setTop (mkF m 17 #[.val (.ref th), .val (.int q)] [(.int (1 : Int32))])) _
      refine XS.goto X1.here hx rfl (pc0 := 17) (pc' := 21) rfl (hb hby own_d3_17) (by decide) (by decide) ?_
      exact kt
    refine own_ret X1 (v := some (.int (1 : Int32))) (fun h => by rw [Bd.returns] at h; cases h) hlk (by decide) (by decide) ?_ (fun fs hr => ?_)
    · show Q3 Z th q cc ca h0 n0 (some (.int (1 : Int32))) T1.heap _
      rw [e1]
      exact ⟨congrArg (fun z => some (Value.int z)) (by unfold own_ans; rw [if_pos hc5_2]), N0, rfl⟩
    · show Steps p.tables e below (T1.setTop (mkF m 21 #[.val (.ref th), .val (.int q)] [(.int (1 : Int32))])) _
      exact retN X1 hx (t := .boolean) Bd.returns (by simp) (hb hby own_d3_21) hr
  · refine own_st (A' := T1.setTop (mkF m 10 #[.val (.ref th), .val (.int q)] [(.ref th), (.int q)])) (fun tg kt => ?_) ?_
    · show Steps p.tables e below (T1.setTop (mkF m 5 #[.val (.ref th), .val (.int q)] [(.int cc), (.int q)])) _
      refine XS.icmpNo X1.here hx rfl (hb hby own_d3_5) rfl (feq hc5_2).1 ?_
      show Steps p.tables e below (T1.setTop (mkF m 8 #[.val (.ref th), .val (.int q)] [])) _
      refine XS.iloadN X1.here hx rfl (hb hby own_d3_8) rfl ?_
      show Steps p.tables e below (T1.setTop (mkF m 9 #[.val (.ref th), .val (.int q)] [(.int q)])) _
      refine XS.aloadN X1.here hx rfl (hb hby own_d3_9) rfl rfl ?_
      exact kt
    obtain ⟨T3, X3, e3, st3⟩ := getF X1 hx hZ hown (host := "") (Or.inl (hw _ (List.mem_of_getElem? (i := 20) rfl))) Via.refl e1 Fa (g := (mkF m 10 #[.val (.ref th), .val (.int q)] [(.ref th), (.int q)])) rfl rfl (hb hby own_d3_10)
    refine own_st st3 ?_
    show own_Gl _ _ _ _ _ _ _ _ (T3.setTop (mkF m 13 #[.val (.ref th), .val (.int q)] [(.int ca), (.int q)]))
    by_cases hc13_4 : q = ca
    · refine own_st (A' := T3.setTop (mkF m 21 #[.val (.ref th), .val (.int q)] [(.int (1 : Int32))])) (fun tg kt => ?_) ?_
      · show Steps p.tables e below (T3.setTop (mkF m 13 #[.val (.ref th), .val (.int q)] [(.int ca), (.int q)])) _
        refine XS.icmpNo X3.here hx rfl (hb hby own_d3_13) rfl (teq hc13_4).2 ?_
        show Steps p.tables e below (T3.setTop (mkF m 16 #[.val (.ref th), .val (.int q)] [])) _
        refine XS.iconst X3.here hx rfl (hb hby own_d3_16) ?_
        show Steps p.tables e below (T3.setTop (mkF m 17 #[.val (.ref th), .val (.int q)] [(.int (1 : Int32))])) _
        refine XS.goto X3.here hx rfl (pc0 := 17) (pc' := 21) rfl (hb hby own_d3_17) (by decide) (by decide) ?_
        exact kt
      refine own_ret X3 (v := some (.int (1 : Int32))) (fun h => by rw [Bd.returns] at h; cases h) hlk (by decide) (by decide) ?_ (fun fs hr => ?_)
      · show Q3 Z th q cc ca h0 n0 (some (.int (1 : Int32))) T3.heap _
        rw [e3]
        exact ⟨congrArg (fun z => some (Value.int z)) (by unfold own_ans; rw [if_neg hc5_2, if_pos hc13_4]), N0, rfl⟩
      · show Steps p.tables e below (T3.setTop (mkF m 21 #[.val (.ref th), .val (.int q)] [(.int (1 : Int32))])) _
        exact retN X3 hx (t := .boolean) Bd.returns (by simp) (hb hby own_d3_21) hr
    · refine own_st (A' := T3.setTop (mkF m 21 #[.val (.ref th), .val (.int q)] [(.int (0 : Int32))])) (fun tg kt => ?_) ?_
      · show Steps p.tables e below (T3.setTop (mkF m 13 #[.val (.ref th), .val (.int q)] [(.int ca), (.int q)])) _
        refine XS.icmpYes X3.here hx rfl (pc0 := 13) (pc' := 20) rfl (hb hby own_d3_13) rfl (feq hc13_4).2 (by decide) (by decide) ?_
        show Steps p.tables e below (T3.setTop (mkF m 20 #[.val (.ref th), .val (.int q)] [])) _
        refine XS.iconst X3.here hx rfl (hb hby own_d3_20) ?_
        exact kt
      refine own_ret X3 (v := some (.int (0 : Int32))) (fun h => by rw [Bd.returns] at h; cases h) hlk (by decide) (by decide) ?_ (fun fs hr => ?_)
      · show Q3 Z th q cc ca h0 n0 (some (.int (0 : Int32))) T3.heap _
        rw [e3]
        exact ⟨congrArg (fun z => some (Value.int z)) (by unfold own_ans; rw [if_neg hc5_2, if_neg hc13_4]), N0, rfl⟩
      · show Steps p.tables e below (T3.setTop (mkF m 21 #[.val (.ref th), .val (.int q)] [(.int (0 : Int32))])) _
        exact retN X3 hx (t := .boolean) Bd.returns (by simp) (hb hby own_d3_21) hr
theorem own_pd2 : parseMethodDescriptor "(I)Lcom/example/tagwire/tagwire/bb/Command;" = some ⟨[.int], some (.object "com/example/tagwire/tagwire/bb/Command")⟩ := by decide +kernel
theorem own_pd3 : parseMethodDescriptor "(I)I" = some ⟨[.int], some .int⟩ := by decide +kernel
theorem own_pd4 : parseMethodDescriptor "(I)Z" = some ⟨[.int], some .boolean⟩ := by decide +kernel
theorem own_ef_rm0 (m : MethodId) (p0 : Int32) (p1 : Int32) (p2 : Int32) : entryFrame m #[(.int p0), (.int p1), (.int p2)] maxLocals = mkF m 0 #[.val (.int p0), .val (.int p1), .val (.int p2), .unset, .unset, .unset, .unset, .unset, .unset] [] := by first | (simp [entryFrame, mkF, argsToLocals, Value.category, maxLocals]; done) | rfl
def Q0 (Z : State) (p0 : Int32) (p1 : Int32) (p2 : Int32) (a_MODULE_INFORMATION : Addr) (a_SET_REGION : Addr) (a_GET_REGION : Addr) (a_SELECT_PARAMETER : Addr) (a_SELECT_MODE : Addr) (a_SINGLE_POLLING : Addr) (a_MULTIPLE_POLLING : Addr) (a_STOP_MULTIPLE_POLLING : Addr) (a_READ : Addr) (a_WRITE : Addr) (a_SET_POWER : Addr) (a_GET_POWER : Addr) (h0 : Heap) (n0 : Nat) (v : Option Value) (h : Heap) (L : List Loc) : Prop := v = some (.int 1) ∧ Fr n0 L
set_option maxRecDepth 65536 in
set_option maxHeartbeats 40000000 in
theorem rm0 (l : Launch) (Z : State) (a0 : Array Value) (hw : ∀ d ∈ tables_1, d.before a0 Z = true) (ws : List Jvm.Cond) (p0 : Int32) (p1 : Int32) (p2 : Int32) (a_MODULE_INFORMATION : Addr) (a_SET_REGION : Addr) (a_GET_REGION : Addr) (a_SELECT_PARAMETER : Addr) (a_SELECT_MODE : Addr) (a_SINGLE_POLLING : Addr) (a_MULTIPLE_POLLING : Addr) (a_STOP_MULTIPLE_POLLING : Addr) (a_READ : Addr) (a_WRITE : Addr) (a_SET_POWER : Addr) (a_GET_POWER : Addr) (h0 : Heap) (n0 : Nat) (Z0 : n0 ≤ h0.size) (S_MODULE_INFORMATION : Sta Z h0 "com/example/tagwire/tagwire/bb/Command" "MODULE_INFORMATION" "Lcom/example/tagwire/tagwire/bb/Command;" (.ref a_MODULE_INFORMATION)) (S_SET_REGION : Sta Z h0 "com/example/tagwire/tagwire/bb/Command" "SET_REGION" "Lcom/example/tagwire/tagwire/bb/Command;" (.ref a_SET_REGION)) (S_GET_REGION : Sta Z h0 "com/example/tagwire/tagwire/bb/Command" "GET_REGION" "Lcom/example/tagwire/tagwire/bb/Command;" (.ref a_GET_REGION)) (S_SELECT_PARAMETER : Sta Z h0 "com/example/tagwire/tagwire/bb/Command" "SELECT_PARAMETER" "Lcom/example/tagwire/tagwire/bb/Command;" (.ref a_SELECT_PARAMETER)) (S_SELECT_MODE : Sta Z h0 "com/example/tagwire/tagwire/bb/Command" "SELECT_MODE" "Lcom/example/tagwire/tagwire/bb/Command;" (.ref a_SELECT_MODE)) (S_SINGLE_POLLING : Sta Z h0 "com/example/tagwire/tagwire/bb/Command" "SINGLE_POLLING" "Lcom/example/tagwire/tagwire/bb/Command;" (.ref a_SINGLE_POLLING)) (S_MULTIPLE_POLLING : Sta Z h0 "com/example/tagwire/tagwire/bb/Command" "MULTIPLE_POLLING" "Lcom/example/tagwire/tagwire/bb/Command;" (.ref a_MULTIPLE_POLLING)) (S_STOP_MULTIPLE_POLLING : Sta Z h0 "com/example/tagwire/tagwire/bb/Command" "STOP_MULTIPLE_POLLING" "Lcom/example/tagwire/tagwire/bb/Command;" (.ref a_STOP_MULTIPLE_POLLING)) (S_READ : Sta Z h0 "com/example/tagwire/tagwire/bb/Command" "READ" "Lcom/example/tagwire/tagwire/bb/Command;" (.ref a_READ)) (S_WRITE : Sta Z h0 "com/example/tagwire/tagwire/bb/Command" "WRITE" "Lcom/example/tagwire/tagwire/bb/Command;" (.ref a_WRITE)) (S_SET_POWER : Sta Z h0 "com/example/tagwire/tagwire/bb/Command" "SET_POWER" "Lcom/example/tagwire/tagwire/bb/Command;" (.ref a_SET_POWER)) (S_GET_POWER : Sta Z h0 "com/example/tagwire/tagwire/bb/Command" "GET_POWER" "Lcom/example/tagwire/tagwire/bb/Command;" (.ref a_GET_POWER)) (E_MODULE_INFORMATION : Exa Z h0 a_MODULE_INFORMATION "com/example/tagwire/tagwire/bb/Command") (E_SET_REGION : Exa Z h0 a_SET_REGION "com/example/tagwire/tagwire/bb/Command") (E_GET_REGION : Exa Z h0 a_GET_REGION "com/example/tagwire/tagwire/bb/Command") (E_SELECT_PARAMETER : Exa Z h0 a_SELECT_PARAMETER "com/example/tagwire/tagwire/bb/Command") (E_SELECT_MODE : Exa Z h0 a_SELECT_MODE "com/example/tagwire/tagwire/bb/Command") (E_SINGLE_POLLING : Exa Z h0 a_SINGLE_POLLING "com/example/tagwire/tagwire/bb/Command") (E_MULTIPLE_POLLING : Exa Z h0 a_MULTIPLE_POLLING "com/example/tagwire/tagwire/bb/Command") (E_STOP_MULTIPLE_POLLING : Exa Z h0 a_STOP_MULTIPLE_POLLING "com/example/tagwire/tagwire/bb/Command") (E_READ : Exa Z h0 a_READ "com/example/tagwire/tagwire/bb/Command") (E_WRITE : Exa Z h0 a_WRITE "com/example/tagwire/tagwire/bb/Command") (E_SET_POWER : Exa Z h0 a_SET_POWER "com/example/tagwire/tagwire/bb/Command") (E_GET_POWER : Exa Z h0 a_GET_POWER "com/example/tagwire/tagwire/bb/Command") (F_MODULE_INFORMATION_code : Fld Z h0 a_MODULE_INFORMATION "com/example/tagwire/tagwire/bb/Command" "code" "I" (.int (3 : Int32))) (F_MODULE_INFORMATION_answerCode : Fld Z h0 a_MODULE_INFORMATION "com/example/tagwire/tagwire/bb/Command" "answerCode" "I" (.int (3 : Int32))) (F_SET_REGION_code : Fld Z h0 a_SET_REGION "com/example/tagwire/tagwire/bb/Command" "code" "I" (.int (7 : Int32))) (F_SET_REGION_answerCode : Fld Z h0 a_SET_REGION "com/example/tagwire/tagwire/bb/Command" "answerCode" "I" (.int (7 : Int32))) (F_GET_REGION_code : Fld Z h0 a_GET_REGION "com/example/tagwire/tagwire/bb/Command" "code" "I" (.int (8 : Int32))) (F_GET_REGION_answerCode : Fld Z h0 a_GET_REGION "com/example/tagwire/tagwire/bb/Command" "answerCode" "I" (.int (8 : Int32))) (F_SELECT_PARAMETER_code : Fld Z h0 a_SELECT_PARAMETER "com/example/tagwire/tagwire/bb/Command" "code" "I" (.int (12 : Int32))) (F_SELECT_PARAMETER_answerCode : Fld Z h0 a_SELECT_PARAMETER "com/example/tagwire/tagwire/bb/Command" "answerCode" "I" (.int (12 : Int32))) (F_SELECT_MODE_code : Fld Z h0 a_SELECT_MODE "com/example/tagwire/tagwire/bb/Command" "code" "I" (.int (18 : Int32))) (F_SELECT_MODE_answerCode : Fld Z h0 a_SELECT_MODE "com/example/tagwire/tagwire/bb/Command" "answerCode" "I" (.int (12 : Int32))) (F_SINGLE_POLLING_code : Fld Z h0 a_SINGLE_POLLING "com/example/tagwire/tagwire/bb/Command" "code" "I" (.int (34 : Int32))) (F_SINGLE_POLLING_answerCode : Fld Z h0 a_SINGLE_POLLING "com/example/tagwire/tagwire/bb/Command" "answerCode" "I" (.int (34 : Int32))) (F_MULTIPLE_POLLING_code : Fld Z h0 a_MULTIPLE_POLLING "com/example/tagwire/tagwire/bb/Command" "code" "I" (.int (39 : Int32))) (F_MULTIPLE_POLLING_answerCode : Fld Z h0 a_MULTIPLE_POLLING "com/example/tagwire/tagwire/bb/Command" "answerCode" "I" (.int (39 : Int32))) (F_STOP_MULTIPLE_POLLING_code : Fld Z h0 a_STOP_MULTIPLE_POLLING "com/example/tagwire/tagwire/bb/Command" "code" "I" (.int (40 : Int32))) (F_STOP_MULTIPLE_POLLING_answerCode : Fld Z h0 a_STOP_MULTIPLE_POLLING "com/example/tagwire/tagwire/bb/Command" "answerCode" "I" (.int (40 : Int32))) (F_READ_code : Fld Z h0 a_READ "com/example/tagwire/tagwire/bb/Command" "code" "I" (.int (57 : Int32))) (F_READ_answerCode : Fld Z h0 a_READ "com/example/tagwire/tagwire/bb/Command" "answerCode" "I" (.int (57 : Int32))) (F_WRITE_code : Fld Z h0 a_WRITE "com/example/tagwire/tagwire/bb/Command" "code" "I" (.int (73 : Int32))) (F_WRITE_answerCode : Fld Z h0 a_WRITE "com/example/tagwire/tagwire/bb/Command" "answerCode" "I" (.int (73 : Int32))) (F_SET_POWER_code : Fld Z h0 a_SET_POWER "com/example/tagwire/tagwire/bb/Command" "code" "I" (.int (182 : Int32))) (F_SET_POWER_answerCode : Fld Z h0 a_SET_POWER "com/example/tagwire/tagwire/bb/Command" "answerCode" "I" (.int (182 : Int32))) (F_GET_POWER_code : Fld Z h0 a_GET_POWER "com/example/tagwire/tagwire/bb/Command" "code" "I" (.int (183 : Int32))) (F_GET_POWER_answerCode : Fld Z h0 a_GET_POWER "com/example/tagwire/tagwire/bb/Command" "answerCode" "I" (.int (183 : Int32))) :
    MetFree l x (head1 (Jvm.Cond.code x code maxLocals ret :: ws) room_1) (fun a U => a = #[(.int p0), (.int p1), (.int p2)] ∧ Z.Warmed39 U.vm ∧ U.heap = h0) (fun _ _ _ _ _ => True) (fun _ U o U' => ∃ v L, o = .returned v ∧ Q0 Z p0 p1 p2 a_MODULE_INFORMATION a_SET_REGION a_GET_REGION a_SELECT_PARAMETER a_SELECT_MODE a_SINGLE_POLLING a_MULTIPLE_POLLING a_STOP_MULTIPLE_POLLING a_READ a_WRITE a_SET_POWER a_GET_POWER h0 n0 v U'.heap L ∧ FrameEnd U o U' L room_1.cells room_1.slots) := by
  refine MetFree.of_bodySF (plainFor_of_name own_pn0) hisR ?_
  intro p e s m args below meth c s₁ Bd hml0 hP hK
  obtain ⟨rfl, hZ, hh⟩ := hP
  have hx := Bd.exec
  have hby := Bd.bytes
  have hml : c.maxLocals = 9 := hml0
  have hown : s.vm.findClass "com/example/tagwire/tagwire/bb/CommandIsAnsweredByPinLaw" = some m.cls := findClass_of_methodNamed Bd.named
  have hnm := (name_of_methodNamed Bd.named Bd.method).1
  have hlk : meth.locks = false := BodyLoose.notSynchronized Bd
  have X0 : Stand p l e room_1 s m #[(.int p0), (.int p1), (.int p2)] below meth c s₁ [] 0 0 := Stand.of_body Bd
  have e0 : s₁.heap = h0 := by rw [← hh, Bd.state]; rfl
  have N0 := Fr.nil n0
  show own_Gl FrameEnd p e below s (Q0 Z p0 p1 p2 a_MODULE_INFORMATION a_SET_REGION a_GET_REGION a_SELECT_PARAMETER a_SELECT_MODE a_SINGLE_POLLING a_MULTIPLE_POLLING a_STOP_MULTIPLE_POLLING a_READ a_WRITE a_SET_POWER a_GET_POWER h0 n0) room_1.cells room_1.slots (s₁.setTop (entryFrame m #[(.int p0), (.int p1), (.int p2)] maxLocals))
  rw [own_ef_rm0 m p0 p1 p2]
  refine own_st (A' := s₁.setTop (mkF m 7 #[.val (.int p0), .val (.int p1), .val (.int p2), .unset, .unset, .unset, .unset, .unset, .unset] [(.int ((p0 &&& (2147483647 : Int32)) % (12 : Int32)))])) (fun tg kt => ?_) ?_
  · show Steps p.tables e below (s₁.setTop (mkF m 0 #[.val (.int p0), .val (.int p1), .val (.int p2), .unset, .unset, .unset, .unset, .unset, .unset] [])) _
    refine XS.iloadN X0.here hx rfl (hb hby at_0) rfl ?_
    show Steps p.tables e below (s₁.setTop (mkF m 1 #[.val (.int p0), .val (.int p1), .val (.int p2), .unset, .unset, .unset, .unset, .unset, .unset] [(.int p0)])) _
    refine X0.ldcInt hx hown (mvT hZ (hw _ (List.mem_of_getElem? (i := 0) rfl))) (g := (mkF m 1 #[.val (.int p0), .val (.int p1), .val (.int p2), .unset, .unset, .unset, .unset, .unset, .unset] [(.int p0)])) rfl (hb hby at_1) _ ?_
    show Steps p.tables e below (s₁.setTop (mkF m 3 #[.val (.int p0), .val (.int p1), .val (.int p2), .unset, .unset, .unset, .unset, .unset, .unset] [(.int (2147483647 : Int32)), (.int p0)])) _
    refine XS.iand X0.here hx rfl (hb hby at_3) rfl ?_
    show Steps p.tables e below (s₁.setTop (mkF m 4 #[.val (.int p0), .val (.int p1), .val (.int p2), .unset, .unset, .unset, .unset, .unset, .unset] [(.int (p0 &&& (2147483647 : Int32)))])) _
    refine XS.bipush X0.here hx rfl (hb hby at_4) ?_
    show Steps p.tables e below (s₁.setTop (mkF m 6 #[.val (.int p0), .val (.int p1), .val (.int p2), .unset, .unset, .unset, .unset, .unset, .unset] [(.int (12 : Int32)), (.int (p0 &&& (2147483647 : Int32)))])) _
    refine iremM X0 hx rfl (hb hby at_6) rfl (by decide) ?_
    exact kt
  obtain ⟨ix, hix⟩ : ∃ z, z = ((p0 &&& (2147483647 : Int32)) % (12 : Int32)) := ⟨_, rfl⟩
  rw [← hix]
  show own_Gl _ _ _ _ _ _ _ _ (s₁.setTop (mkF m 7 #[.val (.int p0), .val (.int p1), .val (.int p2), .unset, .unset, .unset, .unset, .unset, .unset] [(.int ix)]))
  have bx := own_rem p0 12 12 (by decide) (by decide)
  rw [← hix] at bx
  rcases (own_split12 bx.1 bx.2) with rfl | rfl | rfl | rfl | rfl | rfl | rfl | rfl | rfl | rfl | rfl | rfl
  · show own_Gl _ _ _ _ _ _ _ _ (s₁.setTop (mkF m 7 #[.val (.int p0), .val (.int p1), .val (.int p2), .unset, .unset, .unset, .unset, .unset, .unset] [(.int (0 : Int32))]))
    refine own_st (A' := s₁.setTop (mkF m 9 #[.val (.int p0), .val (.int p1), .val (.int p2), .val (.int (0 : Int32)), .unset, .unset, .unset, .unset, .unset] [(.int (0 : Int32))])) (fun tg kt => ?_) ?_
    · show Steps p.tables e below (s₁.setTop (mkF m 7 #[.val (.int p0), .val (.int p1), .val (.int p2), .unset, .unset, .unset, .unset, .unset, .unset] [(.int (0 : Int32))])) _
      refine XS.istoreN X0.here hx rfl (hb hby at_7) rfl (l' := #[.val (.int p0), .val (.int p1), .val (.int p2), .val (.int (0 : Int32)), .unset, .unset, .unset, .unset, .unset]) rfl ?_
      show Steps p.tables e below (s₁.setTop (mkF m 8 #[.val (.int p0), .val (.int p1), .val (.int p2), .val (.int (0 : Int32)), .unset, .unset, .unset, .unset, .unset] [])) _
      refine XS.iloadN X0.here hx rfl (hb hby at_8) rfl ?_
      exact kt
    obtain ⟨_, _, ⟨T1, L1, k1, n1⟩, -, X1, ⟨Lc1, hQ1, l1, y1, z1⟩, st1⟩ := Jvm.LawKit.callS X0 hx (y := (⟨"com/example/tagwire/tagwire/bb/CommandIsAnsweredByPinLaw", "pick", "(I)Lcom/example/tagwire/tagwire/bb/Command;"⟩ : MethodName)) hown (mvT hZ (hw _ (List.mem_of_getElem? (i := 1) rfl))) (mvT hZ (hw _ (List.mem_of_getElem? (i := 2) rfl))) (mvT hZ (hw _ (List.mem_of_getElem? (i := 3) rfl))) (mvT hZ (hw _ (List.mem_of_getElem? (i := 4) rfl))) (by decide) (backOf (W := 0) (rm1 l Z a0 hw [] (0 : Int32) a_MODULE_INFORMATION a_SET_REGION a_GET_REGION a_SELECT_PARAMETER a_SELECT_MODE a_SINGLE_POLLING a_MULTIPLE_POLLING a_STOP_MULTIPLE_POLLING a_READ a_WRITE a_SET_POWER a_GET_POWER h0 n0 Z0 S_MODULE_INFORMATION S_SET_REGION S_GET_REGION S_SELECT_PARAMETER S_SELECT_MODE S_SINGLE_POLLING S_MULTIPLE_POLLING S_STOP_MULTIPLE_POLLING S_READ S_WRITE S_SET_POWER S_GET_POWER) hZ (hw _ (List.mem_of_getElem? (i := 4) rfl)) (hw _ (List.mem_of_getElem? (i := 3) rfl)) (by decide) (by decide)) (g := (mkF m 9 #[.val (.int p0), .val (.int p1), .val (.int p2), .val (.int (0 : Int32)), .unset, .unset, .unset, .unset, .unset] [(.int (0 : Int32))])) rfl (by rw [hml]; rfl) (argsL := [(.int (0 : Int32))]) (rest := []) (lenOf own_pd2 rfl) rfl (by show 2 * 0 + _ ≤ _; exact Nat.le_of_eq rfl) (hb hby at_9) (fun _ _ => ⟨rfl, e0, (by decide : 0 + 0 ≤ _), (by decide : 0 + 0 ≤ _)⟩)
    dsimp only [Pt.U, Pt.locs, Pt.cells, Pt.slots] at X1 l1 y1 z1 st1 hQ1
    subst l1 y1 z1
    obtain ⟨hv1, hr1⟩ := hQ1
    rw [show own_pick1 (0 : Int32) a_MODULE_INFORMATION a_SET_REGION a_GET_REGION a_SELECT_PARAMETER a_SELECT_MODE a_SINGLE_POLLING a_MULTIPLE_POLLING a_STOP_MULTIPLE_POLLING a_READ a_WRITE a_SET_POWER a_GET_POWER = a_MODULE_INFORMATION from rfl] at hv1
    have hQ1 := And.intro hv1 hr1
    obtain ⟨rfl, Nq1, eq1⟩ := hQ1
    have N1 := Fr.app N0 Nq1
    refine own_st st1 ?_
    show own_Gl _ _ _ _ _ _ _ _ (T1.setTop (mkF m 12 #[.val (.int p0), .val (.int p1), .val (.int p2), .val (.int (0 : Int32)), .unset, .unset, .unset, .unset, .unset] [(.ref a_MODULE_INFORMATION)]))
    refine own_st (A' := T1.setTop (mkF m 15 #[.val (.int p0), .val (.int p1), .val (.int p2), .val (.int (0 : Int32)), .val (.ref a_MODULE_INFORMATION), .unset, .unset, .unset, .unset] [(.int (0 : Int32))])) (fun tg kt => ?_) ?_
    · show Steps p.tables e below (T1.setTop (mkF m 12 #[.val (.int p0), .val (.int p1), .val (.int p2), .val (.int (0 : Int32)), .unset, .unset, .unset, .unset, .unset] [(.ref a_MODULE_INFORMATION)])) _
      refine XS.astore X1.here hx rfl (hb hby at_12) rfl rfl (l' := #[.val (.int p0), .val (.int p1), .val (.int p2), .val (.int (0 : Int32)), .val (.ref a_MODULE_INFORMATION), .unset, .unset, .unset, .unset]) rfl ?_
      show Steps p.tables e below (T1.setTop (mkF m 14 #[.val (.int p0), .val (.int p1), .val (.int p2), .val (.int (0 : Int32)), .val (.ref a_MODULE_INFORMATION), .unset, .unset, .unset, .unset] [])) _
      refine XS.iloadN X1.here hx rfl (hb hby at_14) rfl ?_
      exact kt
    obtain ⟨_, _, ⟨T2, L2, k2, n2⟩, -, X2, ⟨Lc2, hQ2, l2, y2, z2⟩, st2⟩ := Jvm.LawKit.callS X1 hx (y := (⟨"com/example/tagwire/tagwire/bb/CommandIsAnsweredByPinLaw", "codeOf", "(I)I"⟩ : MethodName)) hown (mvT hZ (hw _ (List.mem_of_getElem? (i := 8) rfl))) (mvT hZ (hw _ (List.mem_of_getElem? (i := 9) rfl))) (mvT hZ (hw _ (List.mem_of_getElem? (i := 3) rfl))) (mvT hZ (hw _ (List.mem_of_getElem? (i := 10) rfl))) (by decide) (backOf (W := 0) (rm2 l Z a0 hw [] (0 : Int32) h0 n0 Z0) hZ (hw _ (List.mem_of_getElem? (i := 10) rfl)) (hw _ (List.mem_of_getElem? (i := 3) rfl)) (by decide) (by decide)) (g := (mkF m 15 #[.val (.int p0), .val (.int p1), .val (.int p2), .val (.int (0 : Int32)), .val (.ref a_MODULE_INFORMATION), .unset, .unset, .unset, .unset] [(.int (0 : Int32))])) rfl (by rw [hml]; rfl) (argsL := [(.int (0 : Int32))]) (rest := []) (lenOf own_pd3 rfl) rfl (by show 2 * 0 + _ ≤ _; exact Nat.le_of_eq rfl) (hb hby at_15) (fun _ _ => ⟨rfl, eq1, (by decide : 0 + 0 ≤ _), (by decide : 0 + 0 ≤ _)⟩)
    dsimp only [Pt.U, Pt.locs, Pt.cells, Pt.slots] at X2 l2 y2 z2 st2 hQ2
    subst l2 y2 z2
    obtain ⟨hv2, hr2⟩ := hQ2
    rw [show own_code (0 : Int32) = (3 : Int32) from rfl] at hv2
    have hQ2 := And.intro hv2 hr2
    obtain ⟨rfl, Nq2, eq2⟩ := hQ2
    have N2 := Fr.app N1 Nq2
    refine own_st st2 ?_
    show own_Gl _ _ _ _ _ _ _ _ (T2.setTop (mkF m 18 #[.val (.int p0), .val (.int p1), .val (.int p2), .val (.int (0 : Int32)), .val (.ref a_MODULE_INFORMATION), .unset, .unset, .unset, .unset] [(.int (3 : Int32))]))
    refine own_st (A' := T2.setTop (mkF m 25 #[.val (.int p0), .val (.int p1), .val (.int p2), .val (.int (0 : Int32)), .val (.ref a_MODULE_INFORMATION), .val (.int (3 : Int32)), .val (.int (p2 &&& (3 : Int32))), .unset, .unset] [])) (fun tg kt => ?_) ?_
    · show Steps p.tables e below (T2.setTop (mkF m 18 #[.val (.int p0), .val (.int p1), .val (.int p2), .val (.int (0 : Int32)), .val (.ref a_MODULE_INFORMATION), .unset, .unset, .unset, .unset] [(.int (3 : Int32))])) _
      refine XS.istore X2.here hx rfl (hb hby at_18) rfl (l' := #[.val (.int p0), .val (.int p1), .val (.int p2), .val (.int (0 : Int32)), .val (.ref a_MODULE_INFORMATION), .val (.int (3 : Int32)), .unset, .unset, .unset]) rfl ?_
      show Steps p.tables e below (T2.setTop (mkF m 20 #[.val (.int p0), .val (.int p1), .val (.int p2), .val (.int (0 : Int32)), .val (.ref a_MODULE_INFORMATION), .val (.int (3 : Int32)), .unset, .unset, .unset] [])) _
      refine XS.iloadN X2.here hx rfl (hb hby at_20) rfl ?_
      show Steps p.tables e below (T2.setTop (mkF m 21 #[.val (.int p0), .val (.int p1), .val (.int p2), .val (.int (0 : Int32)), .val (.ref a_MODULE_INFORMATION), .val (.int (3 : Int32)), .unset, .unset, .unset] [(.int p2)])) _
      refine XS.iconst X2.here hx rfl (hb hby at_21) ?_
      show Steps p.tables e below (T2.setTop (mkF m 22 #[.val (.int p0), .val (.int p1), .val (.int p2), .val (.int (0 : Int32)), .val (.ref a_MODULE_INFORMATION), .val (.int (3 : Int32)), .unset, .unset, .unset] [(.int (3 : Int32)), (.int p2)])) _
      refine XS.iand X2.here hx rfl (hb hby at_22) rfl ?_
      show Steps p.tables e below (T2.setTop (mkF m 23 #[.val (.int p0), .val (.int p1), .val (.int p2), .val (.int (0 : Int32)), .val (.ref a_MODULE_INFORMATION), .val (.int (3 : Int32)), .unset, .unset, .unset] [(.int (p2 &&& (3 : Int32)))])) _
      refine XS.istore X2.here hx rfl (hb hby at_23) rfl (l' := #[.val (.int p0), .val (.int p1), .val (.int p2), .val (.int (0 : Int32)), .val (.ref a_MODULE_INFORMATION), .val (.int (3 : Int32)), .val (.int (p2 &&& (3 : Int32))), .unset, .unset]) rfl ?_
      exact kt
    have tl : ∀ (q : Int32), own_Gl FrameEnd p e below s (Q0 Z p0 p1 p2 a_MODULE_INFORMATION a_SET_REGION a_GET_REGION a_SELECT_PARAMETER a_SELECT_MODE a_SINGLE_POLLING a_MULTIPLE_POLLING a_STOP_MULTIPLE_POLLING a_READ a_WRITE a_SET_POWER a_GET_POWER h0 n0) room_1.cells room_1.slots (T2.setTop (mkF m 82 #[.val (.int p0), .val (.int p1), .val (.int p2), .val (.int (0 : Int32)), .val (.ref a_MODULE_INFORMATION), .val (.int (3 : Int32)), .val (.int (p2 &&& (3 : Int32))), .val (.int q), .unset] [])) := by
      intro q
      refine own_st (A' := T2.setTop (mkF m 115 #[.val (.int p0), .val (.int p1), .val (.int p2), .val (.int (0 : Int32)), .val (.ref a_MODULE_INFORMATION), .val (.int (3 : Int32)), .val (.int (p2 &&& (3 : Int32))), .val (.int q), .unset] [(.int (3 : Int32)), (.int q)])) (fun tg kt => ?_) ?_
      · show Steps p.tables e below (T2.setTop (mkF m 82 #[.val (.int p0), .val (.int p1), .val (.int p2), .val (.int (0 : Int32)), .val (.ref a_MODULE_INFORMATION), .val (.int (3 : Int32)), .val (.int (p2 &&& (3 : Int32))), .val (.int q), .unset] [])) _
        refine XS.iloadN X2.here hx rfl (hb hby at_82) rfl ?_
        show Steps p.tables e below (T2.setTop (mkF m 83 #[.val (.int p0), .val (.int p1), .val (.int p2), .val (.int (0 : Int32)), .val (.ref a_MODULE_INFORMATION), .val (.int (3 : Int32)), .val (.int (p2 &&& (3 : Int32))), .val (.int q), .unset] [(.int (0 : Int32))])) _
        refine XS.iconst X2.here hx rfl (hb hby at_83) ?_
        show Steps p.tables e below (T2.setTop (mkF m 84 #[.val (.int p0), .val (.int p1), .val (.int p2), .val (.int (0 : Int32)), .val (.ref a_MODULE_INFORMATION), .val (.int (3 : Int32)), .val (.int (p2 &&& (3 : Int32))), .val (.int q), .unset] [(.int (4 : Int32)), (.int (0 : Int32))])) _
        refine XS.icmpYes X2.here hx rfl (pc0 := 84) (pc' := 111) rfl (hb hby at_84) rfl (feq ((by decide) : ¬ ((0 : Int32) = (4 : Int32)))).2 (by decide) (by decide) ?_
        show Steps p.tables e below (T2.setTop (mkF m 111 #[.val (.int p0), .val (.int p1), .val (.int p2), .val (.int (0 : Int32)), .val (.ref a_MODULE_INFORMATION), .val (.int (3 : Int32)), .val (.int (p2 &&& (3 : Int32))), .val (.int q), .unset] [])) _
        refine XS.iload X2.here hx rfl (hb hby at_111) rfl ?_
        show Steps p.tables e below (T2.setTop (mkF m 113 #[.val (.int p0), .val (.int p1), .val (.int p2), .val (.int (0 : Int32)), .val (.ref a_MODULE_INFORMATION), .val (.int (3 : Int32)), .val (.int (p2 &&& (3 : Int32))), .val (.int q), .unset] [(.int q)])) _
        refine XS.iload X2.here hx rfl (hb hby at_113) rfl ?_
        exact kt
      by_cases hc115_3 : q = (3 : Int32)
      · refine own_st (A' := T2.setTop (mkF m 129 #[.val (.int p0), .val (.int p1), .val (.int p2), .val (.int (0 : Int32)), .val (.ref a_MODULE_INFORMATION), .val (.int (3 : Int32)), .val (.int (p2 &&& (3 : Int32))), .val (.int q), .val (.int (1 : Int32))] [(.int q), (.ref a_MODULE_INFORMATION)])) (fun tg kt => ?_) ?_
        · show Steps p.tables e below (T2.setTop (mkF m 115 #[.val (.int p0), .val (.int p1), .val (.int p2), .val (.int (0 : Int32)), .val (.ref a_MODULE_INFORMATION), .val (.int (3 : Int32)), .val (.int (p2 &&& (3 : Int32))), .val (.int q), .unset] [(.int (3 : Int32)), (.int q)])) _
          refine XS.icmpNo X2.here hx rfl (hb hby at_115) rfl (teq hc115_3).2 ?_
          show Steps p.tables e below (T2.setTop (mkF m 118 #[.val (.int p0), .val (.int p1), .val (.int p2), .val (.int (0 : Int32)), .val (.ref a_MODULE_INFORMATION), .val (.int (3 : Int32)), .val (.int (p2 &&& (3 : Int32))), .val (.int q), .unset] [])) _
          refine XS.iconst X2.here hx rfl (hb hby at_118) ?_
          show Steps p.tables e below (T2.setTop (mkF m 119 #[.val (.int p0), .val (.int p1), .val (.int p2), .val (.int (0 : Int32)), .val (.ref a_MODULE_INFORMATION), .val (.int (3 : Int32)), .val (.int (p2 &&& (3 : Int32))), .val (.int q), .unset] [(.int (1 : Int32))])) _
          refine XS.goto X2.here hx rfl (pc0 := 119) (pc' := 123) rfl (hb hby at_119) (by decide) (by decide) ?_
          show Steps p.tables e below (T2.setTop (mkF m 123 #[.val (.int p0), .val (.int p1), .val (.int p2), .val (.int (0 : Int32)), .val (.ref a_MODULE_INFORMATION), .val (.int (3 : Int32)), .val (.int (p2 &&& (3 : Int32))), .val (.int q), .unset] [(.int (1 : Int32))])) _
          refine XS.istore X2.here hx rfl (hb hby at_123) rfl (l' := #[.val (.int p0), .val (.int p1), .val (.int p2), .val (.int (0 : Int32)), .val (.ref a_MODULE_INFORMATION), .val (.int (3 : Int32)), .val (.int (p2 &&& (3 : Int32))), .val (.int q), .val (.int (1 : Int32))]) rfl ?_
          show Steps p.tables e below (T2.setTop (mkF m 125 #[.val (.int p0), .val (.int p1), .val (.int p2), .val (.int (0 : Int32)), .val (.ref a_MODULE_INFORMATION), .val (.int (3 : Int32)), .val (.int (p2 &&& (3 : Int32))), .val (.int q), .val (.int (1 : Int32))] [])) _
          refine XS.aload X2.here hx rfl (hb hby at_125) rfl rfl ?_
          show Steps p.tables e below (T2.setTop (mkF m 127 #[.val (.int p0), .val (.int p1), .val (.int p2), .val (.int (0 : Int32)), .val (.ref a_MODULE_INFORMATION), .val (.int (3 : Int32)), .val (.int (p2 &&& (3 : Int32))), .val (.int q), .val (.int (1 : Int32))] [(.ref a_MODULE_INFORMATION)])) _
          refine XS.iload X2.here hx rfl (hb hby at_127) rfl ?_
          exact kt
        obtain ⟨cq4, kq4, q4a, q4b, q4c⟩ := isOf hZ eq2 E_MODULE_INFORMATION
        obtain ⟨_, _, ⟨T4, L4, k4, n4⟩, -, X4, ⟨Lc4, hQ4, l4, y4, z4⟩, st4⟩ := X2.virtualBack hx (y := (⟨"com/example/tagwire/tagwire/bb/Command", "isAnsweredBy", "(I)Z"⟩ : MethodName)) (z := (⟨"com/example/tagwire/tagwire/bb/Command", "isAnsweredBy", "(I)Z"⟩ : MethodName)) hown (mvT hZ (hw _ (List.mem_of_getElem? (i := 11) rfl))) (mvT hZ (hw _ (List.mem_of_getElem? (i := 12) rfl))) (notFace_of_selects (args := #[]) (mvT hZ (hw _ (List.mem_of_getElem? (i := 14) rfl)))) (mvT hZ (hw _ (List.mem_of_getElem? (i := 14) rfl))) (mvT hZ (hw _ (List.mem_of_getElem? (i := 13) rfl))) (by decide) (backOf (W := 0) (rm3 l Z a0 hw [] a_MODULE_INFORMATION q (3 : Int32) (3 : Int32) h0 n0 Z0 F_MODULE_INFORMATION_code F_MODULE_INFORMATION_answerCode) hZ (hw _ (List.mem_of_getElem? (i := 15) rfl)) (hw _ (List.mem_of_getElem? (i := 6) rfl)) (by decide) (by decide)) q4a q4c (g := (mkF m 129 #[.val (.int p0), .val (.int p1), .val (.int p2), .val (.int (0 : Int32)), .val (.ref a_MODULE_INFORMATION), .val (.int (3 : Int32)), .val (.int (p2 &&& (3 : Int32))), .val (.int q), .val (.int (1 : Int32))] [(.int q), (.ref a_MODULE_INFORMATION)])) rfl (by rw [hml]; rfl) (Steps.refl _) (argsL := [(.int q)]) (rest := []) (lenOf own_pd4 rfl) rfl (by show 2 * 0 + _ ≤ _; exact Nat.le_of_eq rfl) (hb hby at_129) (fun _ _ => ⟨rfl, eq2, (by decide : 0 + 0 ≤ _), (by decide : 0 + 0 ≤ _)⟩)
        dsimp only [Pt.U, Pt.locs, Pt.cells, Pt.slots] at X4 l4 y4 z4 st4 hQ4
        subst l4 y4 z4
        obtain ⟨hv4, hr4⟩ := hQ4
        rw [show own_ans q (3 : Int32) (3 : Int32) = (1 : Int32) from by unfold own_ans; rw [if_pos hc115_3]] at hv4
        have hQ4 := And.intro hv4 hr4
        obtain ⟨rfl, Nq4, eq4⟩ := hQ4
        have N4 := Fr.app N2 Nq4
        refine own_tr st4 ?_
        show own_Gl _ _ _ _ _ _ _ _ (T4.setTop (mkF m 132 #[.val (.int p0), .val (.int p1), .val (.int p2), .val (.int (0 : Int32)), .val (.ref a_MODULE_INFORMATION), .val (.int (3 : Int32)), .val (.int (p2 &&& (3 : Int32))), .val (.int q), .val (.int (1 : Int32))] [(.int (1 : Int32))]))
        refine own_st (A' := T4.setTop (mkF m 142 #[.val (.int p0), .val (.int p1), .val (.int p2), .val (.int (0 : Int32)), .val (.ref a_MODULE_INFORMATION), .val (.int (3 : Int32)), .val (.int (p2 &&& (3 : Int32))), .val (.int q), .val (.int (1 : Int32))] [(.int (1 : Int32))])) (fun tg kt => ?_) ?_
        · show Steps p.tables e below (T4.setTop (mkF m 132 #[.val (.int p0), .val (.int p1), .val (.int p2), .val (.int (0 : Int32)), .val (.ref a_MODULE_INFORMATION), .val (.int (3 : Int32)), .val (.int (p2 &&& (3 : Int32))), .val (.int q), .val (.int (1 : Int32))] [(.int (1 : Int32))])) _
          refine XS.iload X4.here hx rfl (hb hby at_132) rfl ?_
          show Steps p.tables e below (T4.setTop (mkF m 134 #[.val (.int p0), .val (.int p1), .val (.int p2), .val (.int (0 : Int32)), .val (.ref a_MODULE_INFORMATION), .val (.int (3 : Int32)), .val (.int (p2 &&& (3 : Int32))), .val (.int q), .val (.int (1 : Int32))] [(.int (1 : Int32)), (.int (1 : Int32))])) _
          refine XS.icmpNo X4.here hx rfl (hb hby at_134) rfl (teq ((by decide) : (1 : Int32) = (1 : Int32))).2 ?_
          show Steps p.tables e below (T4.setTop (mkF m 137 #[.val (.int p0), .val (.int p1), .val (.int p2), .val (.int (0 : Int32)), .val (.ref a_MODULE_INFORMATION), .val (.int (3 : Int32)), .val (.int (p2 &&& (3 : Int32))), .val (.int q), .val (.int (1 : Int32))] [])) _
          refine XS.iconst X4.here hx rfl (hb hby at_137) ?_
          show Steps p.tables e below (T4.setTop (mkF m 138 #[.val (.int p0), .val (.int p1), .val (.int p2), .val (.int (0 : Int32)), .val (.ref a_MODULE_INFORMATION), .val (.int (3 : Int32)), .val (.int (p2 &&& (3 : Int32))), .val (.int q), .val (.int (1 : Int32))] [(.int (1 : Int32))])) _
          refine XS.goto X4.here hx rfl (pc0 := 138) (pc' := 142) rfl (hb hby at_138) (by decide) (by decide) ?_
          exact kt
        refine own_ret X4 (v := some (.int (1 : Int32))) (fun h => by rw [Bd.returns] at h; cases h) hlk (by decide) (by decide) ?_ (fun fs hr => ?_)
        · show Q0 Z p0 p1 p2 a_MODULE_INFORMATION a_SET_REGION a_GET_REGION a_SELECT_PARAMETER a_SELECT_MODE a_SINGLE_POLLING a_MULTIPLE_POLLING a_STOP_MULTIPLE_POLLING a_READ a_WRITE a_SET_POWER a_GET_POWER h0 n0 (some (.int (1 : Int32))) T4.heap _
          rw [eq4]
          exact ⟨rfl, N4⟩
        · show Steps p.tables e below (T4.setTop (mkF m 142 #[.val (.int p0), .val (.int p1), .val (.int p2), .val (.int (0 : Int32)), .val (.ref a_MODULE_INFORMATION), .val (.int (3 : Int32)), .val (.int (p2 &&& (3 : Int32))), .val (.int q), .val (.int (1 : Int32))] [(.int (1 : Int32))])) _
          exact retN X4 hx (t := .boolean) Bd.returns (by simp) (hb hby at_142) hr
      · refine own_st (A' := T2.setTop (mkF m 129 #[.val (.int p0), .val (.int p1), .val (.int p2), .val (.int (0 : Int32)), .val (.ref a_MODULE_INFORMATION), .val (.int (3 : Int32)), .val (.int (p2 &&& (3 : Int32))), .val (.int q), .val (.int (0 : Int32))] [(.int q), (.ref a_MODULE_INFORMATION)])) (fun tg kt => ?_) ?_
        · show Steps p.tables e below (T2.setTop (mkF m 115 #[.val (.int p0), .val (.int p1), .val (.int p2), .val (.int (0 : Int32)), .val (.ref a_MODULE_INFORMATION), .val (.int (3 : Int32)), .val (.int (p2 &&& (3 : Int32))), .val (.int q), .unset] [(.int (3 : Int32)), (.int q)])) _
          refine XS.icmpYes X2.here hx rfl (pc0 := 115) (pc' := 122) rfl (hb hby at_115) rfl (feq hc115_3).2 (by decide) (by decide) ?_
          show Steps p.tables e below (T2.setTop (mkF m 122 #[.val (.int p0), .val (.int p1), .val (.int p2), .val (.int (0 : Int32)), .val (.ref a_MODULE_INFORMATION), .val (.int (3 : Int32)), .val (.int (p2 &&& (3 : Int32))), .val (.int q), .unset] [])) _
          refine XS.iconst X2.here hx rfl (hb hby at_122) ?_
          show Steps p.tables e below (T2.setTop (mkF m 123 #[.val (.int p0), .val (.int p1), .val (.int p2), .val (.int (0 : Int32)), .val (.ref a_MODULE_INFORMATION), .val (.int (3 : Int32)), .val (.int (p2 &&& (3 : Int32))), .val (.int q), .unset] [(.int (0 : Int32))])) _
          refine XS.istore X2.here hx rfl (hb hby at_123) rfl (l' := #[.val (.int p0), .val (.int p1), .val (.int p2), .val (.int (0 : Int32)), .val (.ref a_MODULE_INFORMATION), .val (.int (3 : Int32)), .val (.int (p2 &&& (3 : Int32))), .val (.int q), .val (.int (0 : Int32))]) rfl ?_
          show Steps p.tables e below (T2.setTop (mkF m 125 #[.val (.int p0), .val (.int p1), .val (.int p2), .val (.int (0 : Int32)), .val (.ref a_MODULE_INFORMATION), .val (.int (3 : Int32)), .val (.int (p2 &&& (3 : Int32))), .val (.int q), .val (.int (0 : Int32))] [])) _
          refine XS.aload X2.here hx rfl (hb hby at_125) rfl rfl ?_
          show Steps p.tables e below (T2.setTop (mkF m 127 #[.val (.int p0), .val (.int p1), .val (.int p2), .val (.int (0 : Int32)), .val (.ref a_MODULE_INFORMATION), .val (.int (3 : Int32)), .val (.int (p2 &&& (3 : Int32))), .val (.int q), .val (.int (0 : Int32))] [(.ref a_MODULE_INFORMATION)])) _
          refine XS.iload X2.here hx rfl (hb hby at_127) rfl ?_
          exact kt
        obtain ⟨cq5, kq5, q5a, q5b, q5c⟩ := isOf hZ eq2 E_MODULE_INFORMATION
        obtain ⟨_, _, ⟨T5, L5, k5, n5⟩, -, X5, ⟨Lc5, hQ5, l5, y5, z5⟩, st5⟩ := X2.virtualBack hx (y := (⟨"com/example/tagwire/tagwire/bb/Command", "isAnsweredBy", "(I)Z"⟩ : MethodName)) (z := (⟨"com/example/tagwire/tagwire/bb/Command", "isAnsweredBy", "(I)Z"⟩ : MethodName)) hown (mvT hZ (hw _ (List.mem_of_getElem? (i := 11) rfl))) (mvT hZ (hw _ (List.mem_of_getElem? (i := 12) rfl))) (notFace_of_selects (args := #[]) (mvT hZ (hw _ (List.mem_of_getElem? (i := 14) rfl)))) (mvT hZ (hw _ (List.mem_of_getElem? (i := 14) rfl))) (mvT hZ (hw _ (List.mem_of_getElem? (i := 13) rfl))) (by decide) (backOf (W := 0) (rm3 l Z a0 hw [] a_MODULE_INFORMATION q (3 : Int32) (3 : Int32) h0 n0 Z0 F_MODULE_INFORMATION_code F_MODULE_INFORMATION_answerCode) hZ (hw _ (List.mem_of_getElem? (i := 15) rfl)) (hw _ (List.mem_of_getElem? (i := 6) rfl)) (by decide) (by decide)) q5a q5c (g := (mkF m 129 #[.val (.int p0), .val (.int p1), .val (.int p2), .val (.int (0 : Int32)), .val (.ref a_MODULE_INFORMATION), .val (.int (3 : Int32)), .val (.int (p2 &&& (3 : Int32))), .val (.int q), .val (.int (0 : Int32))] [(.int q), (.ref a_MODULE_INFORMATION)])) rfl (by rw [hml]; rfl) (Steps.refl _) (argsL := [(.int q)]) (rest := []) (lenOf own_pd4 rfl) rfl (by show 2 * 0 + _ ≤ _; exact Nat.le_of_eq rfl) (hb hby at_129) (fun _ _ => ⟨rfl, eq2, (by decide : 0 + 0 ≤ _), (by decide : 0 + 0 ≤ _)⟩)
        dsimp only [Pt.U, Pt.locs, Pt.cells, Pt.slots] at X5 l5 y5 z5 st5 hQ5
        subst l5 y5 z5
        obtain ⟨hv5, hr5⟩ := hQ5
        rw [show own_ans q (3 : Int32) (3 : Int32) = (0 : Int32) from by unfold own_ans; rw [if_neg hc115_3, if_neg hc115_3]] at hv5
        have hQ5 := And.intro hv5 hr5
        obtain ⟨rfl, Nq5, eq5⟩ := hQ5
        have N5 := Fr.app N2 Nq5
        refine own_tr st5 ?_
        show own_Gl _ _ _ _ _ _ _ _ (T5.setTop (mkF m 132 #[.val (.int p0), .val (.int p1), .val (.int p2), .val (.int (0 : Int32)), .val (.ref a_MODULE_INFORMATION), .val (.int (3 : Int32)), .val (.int (p2 &&& (3 : Int32))), .val (.int q), .val (.int (0 : Int32))] [(.int (0 : Int32))]))
        refine own_st (A' := T5.setTop (mkF m 142 #[.val (.int p0), .val (.int p1), .val (.int p2), .val (.int (0 : Int32)), .val (.ref a_MODULE_INFORMATION), .val (.int (3 : Int32)), .val (.int (p2 &&& (3 : Int32))), .val (.int q), .val (.int (0 : Int32))] [(.int (1 : Int32))])) (fun tg kt => ?_) ?_
        · show Steps p.tables e below (T5.setTop (mkF m 132 #[.val (.int p0), .val (.int p1), .val (.int p2), .val (.int (0 : Int32)), .val (.ref a_MODULE_INFORMATION), .val (.int (3 : Int32)), .val (.int (p2 &&& (3 : Int32))), .val (.int q), .val (.int (0 : Int32))] [(.int (0 : Int32))])) _
          refine XS.iload X5.here hx rfl (hb hby at_132) rfl ?_
          show Steps p.tables e below (T5.setTop (mkF m 134 #[.val (.int p0), .val (.int p1), .val (.int p2), .val (.int (0 : Int32)), .val (.ref a_MODULE_INFORMATION), .val (.int (3 : Int32)), .val (.int (p2 &&& (3 : Int32))), .val (.int q), .val (.int (0 : Int32))] [(.int (0 : Int32)), (.int (0 : Int32))])) _
          refine XS.icmpNo X5.here hx rfl (hb hby at_134) rfl (teq ((by decide) : (0 : Int32) = (0 : Int32))).2 ?_
          show Steps p.tables e below (T5.setTop (mkF m 137 #[.val (.int p0), .val (.int p1), .val (.int p2), .val (.int (0 : Int32)), .val (.ref a_MODULE_INFORMATION), .val (.int (3 : Int32)), .val (.int (p2 &&& (3 : Int32))), .val (.int q), .val (.int (0 : Int32))] [])) _
          refine XS.iconst X5.here hx rfl (hb hby at_137) ?_
          show Steps p.tables e below (T5.setTop (mkF m 138 #[.val (.int p0), .val (.int p1), .val (.int p2), .val (.int (0 : Int32)), .val (.ref a_MODULE_INFORMATION), .val (.int (3 : Int32)), .val (.int (p2 &&& (3 : Int32))), .val (.int q), .val (.int (0 : Int32))] [(.int (1 : Int32))])) _
          refine XS.goto X5.here hx rfl (pc0 := 138) (pc' := 142) rfl (hb hby at_138) (by decide) (by decide) ?_
          exact kt
        refine own_ret X5 (v := some (.int (1 : Int32))) (fun h => by rw [Bd.returns] at h; cases h) hlk (by decide) (by decide) ?_ (fun fs hr => ?_)
        · show Q0 Z p0 p1 p2 a_MODULE_INFORMATION a_SET_REGION a_GET_REGION a_SELECT_PARAMETER a_SELECT_MODE a_SINGLE_POLLING a_MULTIPLE_POLLING a_STOP_MULTIPLE_POLLING a_READ a_WRITE a_SET_POWER a_GET_POWER h0 n0 (some (.int (1 : Int32))) T5.heap _
          rw [eq5]
          exact ⟨rfl, N5⟩
        · show Steps p.tables e below (T5.setTop (mkF m 142 #[.val (.int p0), .val (.int p1), .val (.int p2), .val (.int (0 : Int32)), .val (.ref a_MODULE_INFORMATION), .val (.int (3 : Int32)), .val (.int (p2 &&& (3 : Int32))), .val (.int q), .val (.int (0 : Int32))] [(.int (1 : Int32))])) _
          exact retN X5 hx (t := .boolean) Bd.returns (by simp) (hb hby at_142) hr
    refine own_st (A' := T2.setTop (mkF m 27 #[.val (.int p0), .val (.int p1), .val (.int p2), .val (.int (0 : Int32)), .val (.ref a_MODULE_INFORMATION), .val (.int (3 : Int32)), .val (.int (p2 &&& (3 : Int32))), .unset, .unset] [(.int (p2 &&& (3 : Int32)))])) (fun tg kt => ?_) ?_
    · show Steps p.tables e below (T2.setTop (mkF m 25 #[.val (.int p0), .val (.int p1), .val (.int p2), .val (.int (0 : Int32)), .val (.ref a_MODULE_INFORMATION), .val (.int (3 : Int32)), .val (.int (p2 &&& (3 : Int32))), .unset, .unset] [])) _
      refine XS.iload X2.here hx rfl (hb hby at_25) rfl ?_
      exact kt
    by_cases hc27_6 : (p2 &&& (3 : Int32)) = (0 : Int32)
    · refine own_st (A' := T2.setTop (mkF m 82 #[.val (.int p0), .val (.int p1), .val (.int p2), .val (.int (0 : Int32)), .val (.ref a_MODULE_INFORMATION), .val (.int (3 : Int32)), .val (.int (p2 &&& (3 : Int32))), .val (.int p1), .unset] [])) (fun tg kt => ?_) ?_
      · show Steps p.tables e below (T2.setTop (mkF m 27 #[.val (.int p0), .val (.int p1), .val (.int p2), .val (.int (0 : Int32)), .val (.ref a_MODULE_INFORMATION), .val (.int (3 : Int32)), .val (.int (p2 &&& (3 : Int32))), .unset, .unset] [(.int (p2 &&& (3 : Int32)))])) _
        refine XS.ifNo X2.here hx rfl (hb hby at_27) rfl ((if0 _ _).trans (teq hc27_6).2) ?_
        show Steps p.tables e below (T2.setTop (mkF m 30 #[.val (.int p0), .val (.int p1), .val (.int p2), .val (.int (0 : Int32)), .val (.ref a_MODULE_INFORMATION), .val (.int (3 : Int32)), .val (.int (p2 &&& (3 : Int32))), .unset, .unset] [])) _
        refine XS.iloadN X2.here hx rfl (hb hby at_30) rfl ?_
        show Steps p.tables e below (T2.setTop (mkF m 31 #[.val (.int p0), .val (.int p1), .val (.int p2), .val (.int (0 : Int32)), .val (.ref a_MODULE_INFORMATION), .val (.int (3 : Int32)), .val (.int (p2 &&& (3 : Int32))), .unset, .unset] [(.int p1)])) _
        refine XS.istore X2.here hx rfl (hb hby at_31) rfl (l' := #[.val (.int p0), .val (.int p1), .val (.int p2), .val (.int (0 : Int32)), .val (.ref a_MODULE_INFORMATION), .val (.int (3 : Int32)), .val (.int (p2 &&& (3 : Int32))), .val (.int p1), .unset]) rfl ?_
        show Steps p.tables e below (T2.setTop (mkF m 33 #[.val (.int p0), .val (.int p1), .val (.int p2), .val (.int (0 : Int32)), .val (.ref a_MODULE_INFORMATION), .val (.int (3 : Int32)), .val (.int (p2 &&& (3 : Int32))), .val (.int p1), .unset] [])) _
        refine XS.goto X2.here hx rfl (pc0 := 33) (pc' := 82) rfl (hb hby at_33) (by decide) (by decide) ?_
        exact kt
      exact tl p1
    · refine own_st (A' := T2.setTop (mkF m 39 #[.val (.int p0), .val (.int p1), .val (.int p2), .val (.int (0 : Int32)), .val (.ref a_MODULE_INFORMATION), .val (.int (3 : Int32)), .val (.int (p2 &&& (3 : Int32))), .unset, .unset] [(.int (1 : Int32)), (.int (p2 &&& (3 : Int32)))])) (fun tg kt => ?_) ?_
      · show Steps p.tables e below (T2.setTop (mkF m 27 #[.val (.int p0), .val (.int p1), .val (.int p2), .val (.int (0 : Int32)), .val (.ref a_MODULE_INFORMATION), .val (.int (3 : Int32)), .val (.int (p2 &&& (3 : Int32))), .unset, .unset] [(.int (p2 &&& (3 : Int32)))])) _
        refine XS.ifYes X2.here hx rfl (pc0 := 27) (pc' := 36) rfl (hb hby at_27) rfl ((if0 _ _).trans (feq hc27_6).2) (by decide) (by decide) ?_
        show Steps p.tables e below (T2.setTop (mkF m 36 #[.val (.int p0), .val (.int p1), .val (.int p2), .val (.int (0 : Int32)), .val (.ref a_MODULE_INFORMATION), .val (.int (3 : Int32)), .val (.int (p2 &&& (3 : Int32))), .unset, .unset] [])) _
        refine XS.iload X2.here hx rfl (hb hby at_36) rfl ?_
        show Steps p.tables e below (T2.setTop (mkF m 38 #[.val (.int p0), .val (.int p1), .val (.int p2), .val (.int (0 : Int32)), .val (.ref a_MODULE_INFORMATION), .val (.int (3 : Int32)), .val (.int (p2 &&& (3 : Int32))), .unset, .unset] [(.int (p2 &&& (3 : Int32)))])) _
        refine XS.iconst X2.here hx rfl (hb hby at_38) ?_
        exact kt
      by_cases hc39_7 : (p2 &&& (3 : Int32)) = (1 : Int32)
      · refine own_st (A' := T2.setTop (mkF m 82 #[.val (.int p0), .val (.int p1), .val (.int p2), .val (.int (0 : Int32)), .val (.ref a_MODULE_INFORMATION), .val (.int (3 : Int32)), .val (.int (p2 &&& (3 : Int32))), .val (.int (3 : Int32)), .unset] [])) (fun tg kt => ?_) ?_
        · show Steps p.tables e below (T2.setTop (mkF m 39 #[.val (.int p0), .val (.int p1), .val (.int p2), .val (.int (0 : Int32)), .val (.ref a_MODULE_INFORMATION), .val (.int (3 : Int32)), .val (.int (p2 &&& (3 : Int32))), .unset, .unset] [(.int (1 : Int32)), (.int (p2 &&& (3 : Int32)))])) _
          refine XS.icmpNo X2.here hx rfl (hb hby at_39) rfl (teq hc39_7).2 ?_
          show Steps p.tables e below (T2.setTop (mkF m 42 #[.val (.int p0), .val (.int p1), .val (.int p2), .val (.int (0 : Int32)), .val (.ref a_MODULE_INFORMATION), .val (.int (3 : Int32)), .val (.int (p2 &&& (3 : Int32))), .unset, .unset] [])) _
          refine XS.iload X2.here hx rfl (hb hby at_42) rfl ?_
          show Steps p.tables e below (T2.setTop (mkF m 44 #[.val (.int p0), .val (.int p1), .val (.int p2), .val (.int (0 : Int32)), .val (.ref a_MODULE_INFORMATION), .val (.int (3 : Int32)), .val (.int (p2 &&& (3 : Int32))), .unset, .unset] [(.int (3 : Int32))])) _
          refine XS.istore X2.here hx rfl (hb hby at_44) rfl (l' := #[.val (.int p0), .val (.int p1), .val (.int p2), .val (.int (0 : Int32)), .val (.ref a_MODULE_INFORMATION), .val (.int (3 : Int32)), .val (.int (p2 &&& (3 : Int32))), .val (.int (3 : Int32)), .unset]) rfl ?_
          show Steps p.tables e below (T2.setTop (mkF m 46 #[.val (.int p0), .val (.int p1), .val (.int p2), .val (.int (0 : Int32)), .val (.ref a_MODULE_INFORMATION), .val (.int (3 : Int32)), .val (.int (p2 &&& (3 : Int32))), .val (.int (3 : Int32)), .unset] [])) _
          refine XS.goto X2.here hx rfl (pc0 := 46) (pc' := 82) rfl (hb hby at_46) (by decide) (by decide) ?_
          exact kt
        exact tl (3 : Int32)
      · refine own_st (A' := T2.setTop (mkF m 52 #[.val (.int p0), .val (.int p1), .val (.int p2), .val (.int (0 : Int32)), .val (.ref a_MODULE_INFORMATION), .val (.int (3 : Int32)), .val (.int (p2 &&& (3 : Int32))), .unset, .unset] [(.int (2 : Int32)), (.int (p2 &&& (3 : Int32)))])) (fun tg kt => ?_) ?_
        · show Steps p.tables e below (T2.setTop (mkF m 39 #[.val (.int p0), .val (.int p1), .val (.int p2), .val (.int (0 : Int32)), .val (.ref a_MODULE_INFORMATION), .val (.int (3 : Int32)), .val (.int (p2 &&& (3 : Int32))), .unset, .unset] [(.int (1 : Int32)), (.int (p2 &&& (3 : Int32)))])) _
          refine XS.icmpYes X2.here hx rfl (pc0 := 39) (pc' := 49) rfl (hb hby at_39) rfl (feq hc39_7).2 (by decide) (by decide) ?_
          show Steps p.tables e below (T2.setTop (mkF m 49 #[.val (.int p0), .val (.int p1), .val (.int p2), .val (.int (0 : Int32)), .val (.ref a_MODULE_INFORMATION), .val (.int (3 : Int32)), .val (.int (p2 &&& (3 : Int32))), .unset, .unset] [])) _
          refine XS.iload X2.here hx rfl (hb hby at_49) rfl ?_
          show Steps p.tables e below (T2.setTop (mkF m 51 #[.val (.int p0), .val (.int p1), .val (.int p2), .val (.int (0 : Int32)), .val (.ref a_MODULE_INFORMATION), .val (.int (3 : Int32)), .val (.int (p2 &&& (3 : Int32))), .unset, .unset] [(.int (p2 &&& (3 : Int32)))])) _
          refine XS.iconst X2.here hx rfl (hb hby at_51) ?_
          exact kt
        by_cases hc52_8 : (p2 &&& (3 : Int32)) = (2 : Int32)
        · refine own_st (A' := T2.setTop (mkF m 82 #[.val (.int p0), .val (.int p1), .val (.int p2), .val (.int (0 : Int32)), .val (.ref a_MODULE_INFORMATION), .val (.int (3 : Int32)), .val (.int (p2 &&& (3 : Int32))), .val (.int (3 : Int32)), .unset] [])) (fun tg kt => ?_) ?_
          · show Steps p.tables e below (T2.setTop (mkF m 52 #[.val (.int p0), .val (.int p1), .val (.int p2), .val (.int (0 : Int32)), .val (.ref a_MODULE_INFORMATION), .val (.int (3 : Int32)), .val (.int (p2 &&& (3 : Int32))), .unset, .unset] [(.int (2 : Int32)), (.int (p2 &&& (3 : Int32)))])) _
            refine XS.icmpNo X2.here hx rfl (hb hby at_52) rfl (teq hc52_8).2 ?_
            show Steps p.tables e below (T2.setTop (mkF m 55 #[.val (.int p0), .val (.int p1), .val (.int p2), .val (.int (0 : Int32)), .val (.ref a_MODULE_INFORMATION), .val (.int (3 : Int32)), .val (.int (p2 &&& (3 : Int32))), .unset, .unset] [])) _
            refine XS.iloadN X2.here hx rfl (hb hby at_55) rfl ?_
            show Steps p.tables e below (T2.setTop (mkF m 56 #[.val (.int p0), .val (.int p1), .val (.int p2), .val (.int (0 : Int32)), .val (.ref a_MODULE_INFORMATION), .val (.int (3 : Int32)), .val (.int (p2 &&& (3 : Int32))), .unset, .unset] [(.int (0 : Int32))])) _
            refine XS.iconst X2.here hx rfl (hb hby at_56) ?_
            show Steps p.tables e below (T2.setTop (mkF m 57 #[.val (.int p0), .val (.int p1), .val (.int p2), .val (.int (0 : Int32)), .val (.ref a_MODULE_INFORMATION), .val (.int (3 : Int32)), .val (.int (p2 &&& (3 : Int32))), .unset, .unset] [(.int (4 : Int32)), (.int (0 : Int32))])) _
            refine XS.icmpYes X2.here hx rfl (pc0 := 57) (pc' := 65) rfl (hb hby at_57) rfl (feq ((by decide) : ¬ ((0 : Int32) = (4 : Int32)))).2 (by decide) (by decide) ?_
            show Steps p.tables e below (T2.setTop (mkF m 65 #[.val (.int p0), .val (.int p1), .val (.int p2), .val (.int (0 : Int32)), .val (.ref a_MODULE_INFORMATION), .val (.int (3 : Int32)), .val (.int (p2 &&& (3 : Int32))), .unset, .unset] [])) _
            refine XS.iload X2.here hx rfl (hb hby at_65) rfl ?_
            show Steps p.tables e below (T2.setTop (mkF m 67 #[.val (.int p0), .val (.int p1), .val (.int p2), .val (.int (0 : Int32)), .val (.ref a_MODULE_INFORMATION), .val (.int (3 : Int32)), .val (.int (p2 &&& (3 : Int32))), .unset, .unset] [(.int (3 : Int32))])) _
            refine XS.istore X2.here hx rfl (hb hby at_67) rfl (l' := #[.val (.int p0), .val (.int p1), .val (.int p2), .val (.int (0 : Int32)), .val (.ref a_MODULE_INFORMATION), .val (.int (3 : Int32)), .val (.int (p2 &&& (3 : Int32))), .val (.int (3 : Int32)), .unset]) rfl ?_
            show Steps p.tables e below (T2.setTop (mkF m 69 #[.val (.int p0), .val (.int p1), .val (.int p2), .val (.int (0 : Int32)), .val (.ref a_MODULE_INFORMATION), .val (.int (3 : Int32)), .val (.int (p2 &&& (3 : Int32))), .val (.int (3 : Int32)), .unset] [])) _
            refine XS.goto X2.here hx rfl (pc0 := 69) (pc' := 82) rfl (hb hby at_69) (by decide) (by decide) ?_
            exact kt
          exact tl (3 : Int32)
        · refine own_st (A' := T2.setTop (mkF m 82 #[.val (.int p0), .val (.int p1), .val (.int p2), .val (.int (0 : Int32)), .val (.ref a_MODULE_INFORMATION), .val (.int (3 : Int32)), .val (.int (p2 &&& (3 : Int32))), .val (.int ((3 : Int32) + ((p1 &&& (3 : Int32)) - (2 : Int32)))), .unset] [])) (fun tg kt => ?_) ?_
          · show Steps p.tables e below (T2.setTop (mkF m 52 #[.val (.int p0), .val (.int p1), .val (.int p2), .val (.int (0 : Int32)), .val (.ref a_MODULE_INFORMATION), .val (.int (3 : Int32)), .val (.int (p2 &&& (3 : Int32))), .unset, .unset] [(.int (2 : Int32)), (.int (p2 &&& (3 : Int32)))])) _
            refine XS.icmpYes X2.here hx rfl (pc0 := 52) (pc' := 72) rfl (hb hby at_52) rfl (feq hc52_8).2 (by decide) (by decide) ?_
            show Steps p.tables e below (T2.setTop (mkF m 72 #[.val (.int p0), .val (.int p1), .val (.int p2), .val (.int (0 : Int32)), .val (.ref a_MODULE_INFORMATION), .val (.int (3 : Int32)), .val (.int (p2 &&& (3 : Int32))), .unset, .unset] [])) _
            refine XS.iload X2.here hx rfl (hb hby at_72) rfl ?_
            show Steps p.tables e below (T2.setTop (mkF m 74 #[.val (.int p0), .val (.int p1), .val (.int p2), .val (.int (0 : Int32)), .val (.ref a_MODULE_INFORMATION), .val (.int (3 : Int32)), .val (.int (p2 &&& (3 : Int32))), .unset, .unset] [(.int (3 : Int32))])) _
            refine XS.iloadN X2.here hx rfl (hb hby at_74) rfl ?_
            show Steps p.tables e below (T2.setTop (mkF m 75 #[.val (.int p0), .val (.int p1), .val (.int p2), .val (.int (0 : Int32)), .val (.ref a_MODULE_INFORMATION), .val (.int (3 : Int32)), .val (.int (p2 &&& (3 : Int32))), .unset, .unset] [(.int p1), (.int (3 : Int32))])) _
            refine XS.iconst X2.here hx rfl (hb hby at_75) ?_
            show Steps p.tables e below (T2.setTop (mkF m 76 #[.val (.int p0), .val (.int p1), .val (.int p2), .val (.int (0 : Int32)), .val (.ref a_MODULE_INFORMATION), .val (.int (3 : Int32)), .val (.int (p2 &&& (3 : Int32))), .unset, .unset] [(.int (3 : Int32)), (.int p1), (.int (3 : Int32))])) _
            refine XS.iand X2.here hx rfl (hb hby at_76) rfl ?_
            show Steps p.tables e below (T2.setTop (mkF m 77 #[.val (.int p0), .val (.int p1), .val (.int p2), .val (.int (0 : Int32)), .val (.ref a_MODULE_INFORMATION), .val (.int (3 : Int32)), .val (.int (p2 &&& (3 : Int32))), .unset, .unset] [(.int (p1 &&& (3 : Int32))), (.int (3 : Int32))])) _
            refine XS.iconst X2.here hx rfl (hb hby at_77) ?_
            show Steps p.tables e below (T2.setTop (mkF m 78 #[.val (.int p0), .val (.int p1), .val (.int p2), .val (.int (0 : Int32)), .val (.ref a_MODULE_INFORMATION), .val (.int (3 : Int32)), .val (.int (p2 &&& (3 : Int32))), .unset, .unset] [(.int (2 : Int32)), (.int (p1 &&& (3 : Int32))), (.int (3 : Int32))])) _
            refine XS.isub X2.here hx rfl (hb hby at_78) rfl ?_
            show Steps p.tables e below (T2.setTop (mkF m 79 #[.val (.int p0), .val (.int p1), .val (.int p2), .val (.int (0 : Int32)), .val (.ref a_MODULE_INFORMATION), .val (.int (3 : Int32)), .val (.int (p2 &&& (3 : Int32))), .unset, .unset] [(.int ((p1 &&& (3 : Int32)) - (2 : Int32))), (.int (3 : Int32))])) _
            refine XS.iadd X2.here hx rfl (hb hby at_79) rfl ?_
            show Steps p.tables e below (T2.setTop (mkF m 80 #[.val (.int p0), .val (.int p1), .val (.int p2), .val (.int (0 : Int32)), .val (.ref a_MODULE_INFORMATION), .val (.int (3 : Int32)), .val (.int (p2 &&& (3 : Int32))), .unset, .unset] [(.int ((3 : Int32) + ((p1 &&& (3 : Int32)) - (2 : Int32))))])) _
            refine XS.istore X2.here hx rfl (hb hby at_80) rfl (l' := #[.val (.int p0), .val (.int p1), .val (.int p2), .val (.int (0 : Int32)), .val (.ref a_MODULE_INFORMATION), .val (.int (3 : Int32)), .val (.int (p2 &&& (3 : Int32))), .val (.int ((3 : Int32) + ((p1 &&& (3 : Int32)) - (2 : Int32)))), .unset]) rfl ?_
            exact kt
          exact tl ((3 : Int32) + ((p1 &&& (3 : Int32)) - (2 : Int32)))
  · show own_Gl _ _ _ _ _ _ _ _ (s₁.setTop (mkF m 7 #[.val (.int p0), .val (.int p1), .val (.int p2), .unset, .unset, .unset, .unset, .unset, .unset] [(.int (1 : Int32))]))
    refine own_st (A' := s₁.setTop (mkF m 9 #[.val (.int p0), .val (.int p1), .val (.int p2), .val (.int (1 : Int32)), .unset, .unset, .unset, .unset, .unset] [(.int (1 : Int32))])) (fun tg kt => ?_) ?_
    · show Steps p.tables e below (s₁.setTop (mkF m 7 #[.val (.int p0), .val (.int p1), .val (.int p2), .unset, .unset, .unset, .unset, .unset, .unset] [(.int (1 : Int32))])) _
      refine XS.istoreN X0.here hx rfl (hb hby at_7) rfl (l' := #[.val (.int p0), .val (.int p1), .val (.int p2), .val (.int (1 : Int32)), .unset, .unset, .unset, .unset, .unset]) rfl ?_
      show Steps p.tables e below (s₁.setTop (mkF m 8 #[.val (.int p0), .val (.int p1), .val (.int p2), .val (.int (1 : Int32)), .unset, .unset, .unset, .unset, .unset] [])) _
      refine XS.iloadN X0.here hx rfl (hb hby at_8) rfl ?_
      exact kt
    obtain ⟨_, _, ⟨T9, L9, k9, n9⟩, -, X9, ⟨Lc9, hQ9, l9, y9, z9⟩, st9⟩ := Jvm.LawKit.callS X0 hx (y := (⟨"com/example/tagwire/tagwire/bb/CommandIsAnsweredByPinLaw", "pick", "(I)Lcom/example/tagwire/tagwire/bb/Command;"⟩ : MethodName)) hown (mvT hZ (hw _ (List.mem_of_getElem? (i := 1) rfl))) (mvT hZ (hw _ (List.mem_of_getElem? (i := 2) rfl))) (mvT hZ (hw _ (List.mem_of_getElem? (i := 3) rfl))) (mvT hZ (hw _ (List.mem_of_getElem? (i := 4) rfl))) (by decide) (backOf (W := 0) (rm1 l Z a0 hw [] (1 : Int32) a_MODULE_INFORMATION a_SET_REGION a_GET_REGION a_SELECT_PARAMETER a_SELECT_MODE a_SINGLE_POLLING a_MULTIPLE_POLLING a_STOP_MULTIPLE_POLLING a_READ a_WRITE a_SET_POWER a_GET_POWER h0 n0 Z0 S_MODULE_INFORMATION S_SET_REGION S_GET_REGION S_SELECT_PARAMETER S_SELECT_MODE S_SINGLE_POLLING S_MULTIPLE_POLLING S_STOP_MULTIPLE_POLLING S_READ S_WRITE S_SET_POWER S_GET_POWER) hZ (hw _ (List.mem_of_getElem? (i := 4) rfl)) (hw _ (List.mem_of_getElem? (i := 3) rfl)) (by decide) (by decide)) (g := (mkF m 9 #[.val (.int p0), .val (.int p1), .val (.int p2), .val (.int (1 : Int32)), .unset, .unset, .unset, .unset, .unset] [(.int (1 : Int32))])) rfl (by rw [hml]; rfl) (argsL := [(.int (1 : Int32))]) (rest := []) (lenOf own_pd2 rfl) rfl (by show 2 * 0 + _ ≤ _; exact Nat.le_of_eq rfl) (hb hby at_9) (fun _ _ => ⟨rfl, e0, (by decide : 0 + 0 ≤ _), (by decide : 0 + 0 ≤ _)⟩)
    dsimp only [Pt.U, Pt.locs, Pt.cells, Pt.slots] at X9 l9 y9 z9 st9 hQ9
    subst l9 y9 z9
    obtain ⟨hv9, hr9⟩ := hQ9
    rw [show own_pick1 (1 : Int32) a_MODULE_INFORMATION a_SET_REGION a_GET_REGION a_SELECT_PARAMETER a_SELECT_MODE a_SINGLE_POLLING a_MULTIPLE_POLLING a_STOP_MULTIPLE_POLLING a_READ a_WRITE a_SET_POWER a_GET_POWER = a_SET_REGION from rfl] at hv9
    have hQ9 := And.intro hv9 hr9
    obtain ⟨rfl, Nq9, eq9⟩ := hQ9
    have N9 := Fr.app N0 Nq9
    refine own_st st9 ?_
    show own_Gl _ _ _ _ _ _ _ _ (T9.setTop (mkF m 12 #[.val (.int p0), .val (.int p1), .val (.int p2), .val (.int (1 : Int32)), .unset, .unset, .unset, .unset, .unset] [(.ref a_SET_REGION)]))
    refine own_st (A' := T9.setTop (mkF m 15 #[.val (.int p0), .val (.int p1), .val (.int p2), .val (.int (1 : Int32)), .val (.ref a_SET_REGION), .unset, .unset, .unset, .unset] [(.int (1 : Int32))])) (fun tg kt => ?_) ?_
    · show Steps p.tables e below (T9.setTop (mkF m 12 #[.val (.int p0), .val (.int p1), .val (.int p2), .val (.int (1 : Int32)), .unset, .unset, .unset, .unset, .unset] [(.ref a_SET_REGION)])) _
      refine XS.astore X9.here hx rfl (hb hby at_12) rfl rfl (l' := #[.val (.int p0), .val (.int p1), .val (.int p2), .val (.int (1 : Int32)), .val (.ref a_SET_REGION), .unset, .unset, .unset, .unset]) rfl ?_
      show Steps p.tables e below (T9.setTop (mkF m 14 #[.val (.int p0), .val (.int p1), .val (.int p2), .val (.int (1 : Int32)), .val (.ref a_SET_REGION), .unset, .unset, .unset, .unset] [])) _
      refine XS.iloadN X9.here hx rfl (hb hby at_14) rfl ?_
      exact kt
    obtain ⟨_, _, ⟨T10, L10, k10, n10⟩, -, X10, ⟨Lc10, hQ10, l10, y10, z10⟩, st10⟩ := Jvm.LawKit.callS X9 hx (y := (⟨"com/example/tagwire/tagwire/bb/CommandIsAnsweredByPinLaw", "codeOf", "(I)I"⟩ : MethodName)) hown (mvT hZ (hw _ (List.mem_of_getElem? (i := 8) rfl))) (mvT hZ (hw _ (List.mem_of_getElem? (i := 9) rfl))) (mvT hZ (hw _ (List.mem_of_getElem? (i := 3) rfl))) (mvT hZ (hw _ (List.mem_of_getElem? (i := 10) rfl))) (by decide) (backOf (W := 0) (rm2 l Z a0 hw [] (1 : Int32) h0 n0 Z0) hZ (hw _ (List.mem_of_getElem? (i := 10) rfl)) (hw _ (List.mem_of_getElem? (i := 3) rfl)) (by decide) (by decide)) (g := (mkF m 15 #[.val (.int p0), .val (.int p1), .val (.int p2), .val (.int (1 : Int32)), .val (.ref a_SET_REGION), .unset, .unset, .unset, .unset] [(.int (1 : Int32))])) rfl (by rw [hml]; rfl) (argsL := [(.int (1 : Int32))]) (rest := []) (lenOf own_pd3 rfl) rfl (by show 2 * 0 + _ ≤ _; exact Nat.le_of_eq rfl) (hb hby at_15) (fun _ _ => ⟨rfl, eq9, (by decide : 0 + 0 ≤ _), (by decide : 0 + 0 ≤ _)⟩)
    dsimp only [Pt.U, Pt.locs, Pt.cells, Pt.slots] at X10 l10 y10 z10 st10 hQ10
    subst l10 y10 z10
    obtain ⟨hv10, hr10⟩ := hQ10
    rw [show own_code (1 : Int32) = (7 : Int32) from rfl] at hv10
    have hQ10 := And.intro hv10 hr10
    obtain ⟨rfl, Nq10, eq10⟩ := hQ10
    have N10 := Fr.app N9 Nq10
    refine own_st st10 ?_
    show own_Gl _ _ _ _ _ _ _ _ (T10.setTop (mkF m 18 #[.val (.int p0), .val (.int p1), .val (.int p2), .val (.int (1 : Int32)), .val (.ref a_SET_REGION), .unset, .unset, .unset, .unset] [(.int (7 : Int32))]))
    refine own_st (A' := T10.setTop (mkF m 25 #[.val (.int p0), .val (.int p1), .val (.int p2), .val (.int (1 : Int32)), .val (.ref a_SET_REGION), .val (.int (7 : Int32)), .val (.int (p2 &&& (3 : Int32))), .unset, .unset] [])) (fun tg kt => ?_) ?_
    · show Steps p.tables e below (T10.setTop (mkF m 18 #[.val (.int p0), .val (.int p1), .val (.int p2), .val (.int (1 : Int32)), .val (.ref a_SET_REGION), .unset, .unset, .unset, .unset] [(.int (7 : Int32))])) _
      refine XS.istore X10.here hx rfl (hb hby at_18) rfl (l' := #[.val (.int p0), .val (.int p1), .val (.int p2), .val (.int (1 : Int32)), .val (.ref a_SET_REGION), .val (.int (7 : Int32)), .unset, .unset, .unset]) rfl ?_
      show Steps p.tables e below (T10.setTop (mkF m 20 #[.val (.int p0), .val (.int p1), .val (.int p2), .val (.int (1 : Int32)), .val (.ref a_SET_REGION), .val (.int (7 : Int32)), .unset, .unset, .unset] [])) _
      refine XS.iloadN X10.here hx rfl (hb hby at_20) rfl ?_
      show Steps p.tables e below (T10.setTop (mkF m 21 #[.val (.int p0), .val (.int p1), .val (.int p2), .val (.int (1 : Int32)), .val (.ref a_SET_REGION), .val (.int (7 : Int32)), .unset, .unset, .unset] [(.int p2)])) _
      refine XS.iconst X10.here hx rfl (hb hby at_21) ?_
      show Steps p.tables e below (T10.setTop (mkF m 22 #[.val (.int p0), .val (.int p1), .val (.int p2), .val (.int (1 : Int32)), .val (.ref a_SET_REGION), .val (.int (7 : Int32)), .unset, .unset, .unset] [(.int (3 : Int32)), (.int p2)])) _
      refine XS.iand X10.here hx rfl (hb hby at_22) rfl ?_
      show Steps p.tables e below (T10.setTop (mkF m 23 #[.val (.int p0), .val (.int p1), .val (.int p2), .val (.int (1 : Int32)), .val (.ref a_SET_REGION), .val (.int (7 : Int32)), .unset, .unset, .unset] [(.int (p2 &&& (3 : Int32)))])) _
      refine XS.istore X10.here hx rfl (hb hby at_23) rfl (l' := #[.val (.int p0), .val (.int p1), .val (.int p2), .val (.int (1 : Int32)), .val (.ref a_SET_REGION), .val (.int (7 : Int32)), .val (.int (p2 &&& (3 : Int32))), .unset, .unset]) rfl ?_
      exact kt
    have tl : ∀ (q : Int32), own_Gl FrameEnd p e below s (Q0 Z p0 p1 p2 a_MODULE_INFORMATION a_SET_REGION a_GET_REGION a_SELECT_PARAMETER a_SELECT_MODE a_SINGLE_POLLING a_MULTIPLE_POLLING a_STOP_MULTIPLE_POLLING a_READ a_WRITE a_SET_POWER a_GET_POWER h0 n0) room_1.cells room_1.slots (T10.setTop (mkF m 82 #[.val (.int p0), .val (.int p1), .val (.int p2), .val (.int (1 : Int32)), .val (.ref a_SET_REGION), .val (.int (7 : Int32)), .val (.int (p2 &&& (3 : Int32))), .val (.int q), .unset] [])) := by
      intro q
      refine own_st (A' := T10.setTop (mkF m 115 #[.val (.int p0), .val (.int p1), .val (.int p2), .val (.int (1 : Int32)), .val (.ref a_SET_REGION), .val (.int (7 : Int32)), .val (.int (p2 &&& (3 : Int32))), .val (.int q), .unset] [(.int (7 : Int32)), (.int q)])) (fun tg kt => ?_) ?_
      · show Steps p.tables e below (T10.setTop (mkF m 82 #[.val (.int p0), .val (.int p1), .val (.int p2), .val (.int (1 : Int32)), .val (.ref a_SET_REGION), .val (.int (7 : Int32)), .val (.int (p2 &&& (3 : Int32))), .val (.int q), .unset] [])) _
        refine XS.iloadN X10.here hx rfl (hb hby at_82) rfl ?_
        show Steps p.tables e below (T10.setTop (mkF m 83 #[.val (.int p0), .val (.int p1), .val (.int p2), .val (.int (1 : Int32)), .val (.ref a_SET_REGION), .val (.int (7 : Int32)), .val (.int (p2 &&& (3 : Int32))), .val (.int q), .unset] [(.int (1 : Int32))])) _
        refine XS.iconst X10.here hx rfl (hb hby at_83) ?_
        show Steps p.tables e below (T10.setTop (mkF m 84 #[.val (.int p0), .val (.int p1), .val (.int p2), .val (.int (1 : Int32)), .val (.ref a_SET_REGION), .val (.int (7 : Int32)), .val (.int (p2 &&& (3 : Int32))), .val (.int q), .unset] [(.int (4 : Int32)), (.int (1 : Int32))])) _
        refine XS.icmpYes X10.here hx rfl (pc0 := 84) (pc' := 111) rfl (hb hby at_84) rfl (feq ((by decide) : ¬ ((1 : Int32) = (4 : Int32)))).2 (by decide) (by decide) ?_
        show Steps p.tables e below (T10.setTop (mkF m 111 #[.val (.int p0), .val (.int p1), .val (.int p2), .val (.int (1 : Int32)), .val (.ref a_SET_REGION), .val (.int (7 : Int32)), .val (.int (p2 &&& (3 : Int32))), .val (.int q), .unset] [])) _
        refine XS.iload X10.here hx rfl (hb hby at_111) rfl ?_
        show Steps p.tables e below (T10.setTop (mkF m 113 #[.val (.int p0), .val (.int p1), .val (.int p2), .val (.int (1 : Int32)), .val (.ref a_SET_REGION), .val (.int (7 : Int32)), .val (.int (p2 &&& (3 : Int32))), .val (.int q), .unset] [(.int q)])) _
        refine XS.iload X10.here hx rfl (hb hby at_113) rfl ?_
        exact kt
      by_cases hc115_11 : q = (7 : Int32)
      · refine own_st (A' := T10.setTop (mkF m 129 #[.val (.int p0), .val (.int p1), .val (.int p2), .val (.int (1 : Int32)), .val (.ref a_SET_REGION), .val (.int (7 : Int32)), .val (.int (p2 &&& (3 : Int32))), .val (.int q), .val (.int (1 : Int32))] [(.int q), (.ref a_SET_REGION)])) (fun tg kt => ?_) ?_
        · show Steps p.tables e below (T10.setTop (mkF m 115 #[.val (.int p0), .val (.int p1), .val (.int p2), .val (.int (1 : Int32)), .val (.ref a_SET_REGION), .val (.int (7 : Int32)), .val (.int (p2 &&& (3 : Int32))), .val (.int q), .unset] [(.int (7 : Int32)), (.int q)])) _
          refine XS.icmpNo X10.here hx rfl (hb hby at_115) rfl (teq hc115_11).2 ?_
          show Steps p.tables e below (T10.setTop (mkF m 118 #[.val (.int p0), .val (.int p1), .val (.int p2), .val (.int (1 : Int32)), .val (.ref a_SET_REGION), .val (.int (7 : Int32)), .val (.int (p2 &&& (3 : Int32))), .val (.int q), .unset] [])) _
          refine XS.iconst X10.here hx rfl (hb hby at_118) ?_
          show Steps p.tables e below (T10.setTop (mkF m 119 #[.val (.int p0), .val (.int p1), .val (.int p2), .val (.int (1 : Int32)), .val (.ref a_SET_REGION), .val (.int (7 : Int32)), .val (.int (p2 &&& (3 : Int32))), .val (.int q), .unset] [(.int (1 : Int32))])) _
          refine XS.goto X10.here hx rfl (pc0 := 119) (pc' := 123) rfl (hb hby at_119) (by decide) (by decide) ?_
          show Steps p.tables e below (T10.setTop (mkF m 123 #[.val (.int p0), .val (.int p1), .val (.int p2), .val (.int (1 : Int32)), .val (.ref a_SET_REGION), .val (.int (7 : Int32)), .val (.int (p2 &&& (3 : Int32))), .val (.int q), .unset] [(.int (1 : Int32))])) _
          refine XS.istore X10.here hx rfl (hb hby at_123) rfl (l' := #[.val (.int p0), .val (.int p1), .val (.int p2), .val (.int (1 : Int32)), .val (.ref a_SET_REGION), .val (.int (7 : Int32)), .val (.int (p2 &&& (3 : Int32))), .val (.int q), .val (.int (1 : Int32))]) rfl ?_
          show Steps p.tables e below (T10.setTop (mkF m 125 #[.val (.int p0), .val (.int p1), .val (.int p2), .val (.int (1 : Int32)), .val (.ref a_SET_REGION), .val (.int (7 : Int32)), .val (.int (p2 &&& (3 : Int32))), .val (.int q), .val (.int (1 : Int32))] [])) _
          refine XS.aload X10.here hx rfl (hb hby at_125) rfl rfl ?_
          show Steps p.tables e below (T10.setTop (mkF m 127 #[.val (.int p0), .val (.int p1), .val (.int p2), .val (.int (1 : Int32)), .val (.ref a_SET_REGION), .val (.int (7 : Int32)), .val (.int (p2 &&& (3 : Int32))), .val (.int q), .val (.int (1 : Int32))] [(.ref a_SET_REGION)])) _
          refine XS.iload X10.here hx rfl (hb hby at_127) rfl ?_
          exact kt
        obtain ⟨cq12, kq12, q12a, q12b, q12c⟩ := isOf hZ eq10 E_SET_REGION
        obtain ⟨_, _, ⟨T12, L12, k12, n12⟩, -, X12, ⟨Lc12, hQ12, l12, y12, z12⟩, st12⟩ := X10.virtualBack hx (y := (⟨"com/example/tagwire/tagwire/bb/Command", "isAnsweredBy", "(I)Z"⟩ : MethodName)) (z := (⟨"com/example/tagwire/tagwire/bb/Command", "isAnsweredBy", "(I)Z"⟩ : MethodName)) hown (mvT hZ (hw _ (List.mem_of_getElem? (i := 11) rfl))) (mvT hZ (hw _ (List.mem_of_getElem? (i := 12) rfl))) (notFace_of_selects (args := #[]) (mvT hZ (hw _ (List.mem_of_getElem? (i := 14) rfl)))) (mvT hZ (hw _ (List.mem_of_getElem? (i := 14) rfl))) (mvT hZ (hw _ (List.mem_of_getElem? (i := 13) rfl))) (by decide) (backOf (W := 0) (rm3 l Z a0 hw [] a_SET_REGION q (7 : Int32) (7 : Int32) h0 n0 Z0 F_SET_REGION_code F_SET_REGION_answerCode) hZ (hw _ (List.mem_of_getElem? (i := 15) rfl)) (hw _ (List.mem_of_getElem? (i := 6) rfl)) (by decide) (by decide)) q12a q12c (g := (mkF m 129 #[.val (.int p0), .val (.int p1), .val (.int p2), .val (.int (1 : Int32)), .val (.ref a_SET_REGION), .val (.int (7 : Int32)), .val (.int (p2 &&& (3 : Int32))), .val (.int q), .val (.int (1 : Int32))] [(.int q), (.ref a_SET_REGION)])) rfl (by rw [hml]; rfl) (Steps.refl _) (argsL := [(.int q)]) (rest := []) (lenOf own_pd4 rfl) rfl (by show 2 * 0 + _ ≤ _; exact Nat.le_of_eq rfl) (hb hby at_129) (fun _ _ => ⟨rfl, eq10, (by decide : 0 + 0 ≤ _), (by decide : 0 + 0 ≤ _)⟩)
        dsimp only [Pt.U, Pt.locs, Pt.cells, Pt.slots] at X12 l12 y12 z12 st12 hQ12
        subst l12 y12 z12
        obtain ⟨hv12, hr12⟩ := hQ12
        rw [show own_ans q (7 : Int32) (7 : Int32) = (1 : Int32) from by unfold own_ans; rw [if_pos hc115_11]] at hv12
        have hQ12 := And.intro hv12 hr12
        obtain ⟨rfl, Nq12, eq12⟩ := hQ12
        have N12 := Fr.app N10 Nq12
        refine own_tr st12 ?_
        show own_Gl _ _ _ _ _ _ _ _ (T12.setTop (mkF m 132 #[.val (.int p0), .val (.int p1), .val (.int p2), .val (.int (1 : Int32)), .val (.ref a_SET_REGION), .val (.int (7 : Int32)), .val (.int (p2 &&& (3 : Int32))), .val (.int q), .val (.int (1 : Int32))] [(.int (1 : Int32))]))
        refine own_st (A' := T12.setTop (mkF m 142 #[.val (.int p0), .val (.int p1), .val (.int p2), .val (.int (1 : Int32)), .val (.ref a_SET_REGION), .val (.int (7 : Int32)), .val (.int (p2 &&& (3 : Int32))), .val (.int q), .val (.int (1 : Int32))] [(.int (1 : Int32))])) (fun tg kt => ?_) ?_
        · show Steps p.tables e below (T12.setTop (mkF m 132 #[.val (.int p0), .val (.int p1), .val (.int p2), .val (.int (1 : Int32)), .val (.ref a_SET_REGION), .val (.int (7 : Int32)), .val (.int (p2 &&& (3 : Int32))), .val (.int q), .val (.int (1 : Int32))] [(.int (1 : Int32))])) _
          refine XS.iload X12.here hx rfl (hb hby at_132) rfl ?_
          show Steps p.tables e below (T12.setTop (mkF m 134 #[.val (.int p0), .val (.int p1), .val (.int p2), .val (.int (1 : Int32)), .val (.ref a_SET_REGION), .val (.int (7 : Int32)), .val (.int (p2 &&& (3 : Int32))), .val (.int q), .val (.int (1 : Int32))] [(.int (1 : Int32)), (.int (1 : Int32))])) _
          refine XS.icmpNo X12.here hx rfl (hb hby at_134) rfl (teq ((by decide) : (1 : Int32) = (1 : Int32))).2 ?_
          show Steps p.tables e below (T12.setTop (mkF m 137 #[.val (.int p0), .val (.int p1), .val (.int p2), .val (.int (1 : Int32)), .val (.ref a_SET_REGION), .val (.int (7 : Int32)), .val (.int (p2 &&& (3 : Int32))), .val (.int q), .val (.int (1 : Int32))] [])) _
          refine XS.iconst X12.here hx rfl (hb hby at_137) ?_
          show Steps p.tables e below (T12.setTop (mkF m 138 #[.val (.int p0), .val (.int p1), .val (.int p2), .val (.int (1 : Int32)), .val (.ref a_SET_REGION), .val (.int (7 : Int32)), .val (.int (p2 &&& (3 : Int32))), .val (.int q), .val (.int (1 : Int32))] [(.int (1 : Int32))])) _
          refine XS.goto X12.here hx rfl (pc0 := 138) (pc' := 142) rfl (hb hby at_138) (by decide) (by decide) ?_
          exact kt
        refine own_ret X12 (v := some (.int (1 : Int32))) (fun h => by rw [Bd.returns] at h; cases h) hlk (by decide) (by decide) ?_ (fun fs hr => ?_)
        · show Q0 Z p0 p1 p2 a_MODULE_INFORMATION a_SET_REGION a_GET_REGION a_SELECT_PARAMETER a_SELECT_MODE a_SINGLE_POLLING a_MULTIPLE_POLLING a_STOP_MULTIPLE_POLLING a_READ a_WRITE a_SET_POWER a_GET_POWER h0 n0 (some (.int (1 : Int32))) T12.heap _
          rw [eq12]
          exact ⟨rfl, N12⟩
        · show Steps p.tables e below (T12.setTop (mkF m 142 #[.val (.int p0), .val (.int p1), .val (.int p2), .val (.int (1 : Int32)), .val (.ref a_SET_REGION), .val (.int (7 : Int32)), .val (.int (p2 &&& (3 : Int32))), .val (.int q), .val (.int (1 : Int32))] [(.int (1 : Int32))])) _
          exact retN X12 hx (t := .boolean) Bd.returns (by simp) (hb hby at_142) hr
      · refine own_st (A' := T10.setTop (mkF m 129 #[.val (.int p0), .val (.int p1), .val (.int p2), .val (.int (1 : Int32)), .val (.ref a_SET_REGION), .val (.int (7 : Int32)), .val (.int (p2 &&& (3 : Int32))), .val (.int q), .val (.int (0 : Int32))] [(.int q), (.ref a_SET_REGION)])) (fun tg kt => ?_) ?_
        · show Steps p.tables e below (T10.setTop (mkF m 115 #[.val (.int p0), .val (.int p1), .val (.int p2), .val (.int (1 : Int32)), .val (.ref a_SET_REGION), .val (.int (7 : Int32)), .val (.int (p2 &&& (3 : Int32))), .val (.int q), .unset] [(.int (7 : Int32)), (.int q)])) _
          refine XS.icmpYes X10.here hx rfl (pc0 := 115) (pc' := 122) rfl (hb hby at_115) rfl (feq hc115_11).2 (by decide) (by decide) ?_
          show Steps p.tables e below (T10.setTop (mkF m 122 #[.val (.int p0), .val (.int p1), .val (.int p2), .val (.int (1 : Int32)), .val (.ref a_SET_REGION), .val (.int (7 : Int32)), .val (.int (p2 &&& (3 : Int32))), .val (.int q), .unset] [])) _
          refine XS.iconst X10.here hx rfl (hb hby at_122) ?_
          show Steps p.tables e below (T10.setTop (mkF m 123 #[.val (.int p0), .val (.int p1), .val (.int p2), .val (.int (1 : Int32)), .val (.ref a_SET_REGION), .val (.int (7 : Int32)), .val (.int (p2 &&& (3 : Int32))), .val (.int q), .unset] [(.int (0 : Int32))])) _
          refine XS.istore X10.here hx rfl (hb hby at_123) rfl (l' := #[.val (.int p0), .val (.int p1), .val (.int p2), .val (.int (1 : Int32)), .val (.ref a_SET_REGION), .val (.int (7 : Int32)), .val (.int (p2 &&& (3 : Int32))), .val (.int q), .val (.int (0 : Int32))]) rfl ?_
          show Steps p.tables e below (T10.setTop (mkF m 125 #[.val (.int p0), .val (.int p1), .val (.int p2), .val (.int (1 : Int32)), .val (.ref a_SET_REGION), .val (.int (7 : Int32)), .val (.int (p2 &&& (3 : Int32))), .val (.int q), .val (.int (0 : Int32))] [])) _
          refine XS.aload X10.here hx rfl (hb hby at_125) rfl rfl ?_
          show Steps p.tables e below (T10.setTop (mkF m 127 #[.val (.int p0), .val (.int p1), .val (.int p2), .val (.int (1 : Int32)), .val (.ref a_SET_REGION), .val (.int (7 : Int32)), .val (.int (p2 &&& (3 : Int32))), .val (.int q), .val (.int (0 : Int32))] [(.ref a_SET_REGION)])) _
          refine XS.iload X10.here hx rfl (hb hby at_127) rfl ?_
          exact kt
        obtain ⟨cq13, kq13, q13a, q13b, q13c⟩ := isOf hZ eq10 E_SET_REGION
        obtain ⟨_, _, ⟨T13, L13, k13, n13⟩, -, X13, ⟨Lc13, hQ13, l13, y13, z13⟩, st13⟩ := X10.virtualBack hx (y := (⟨"com/example/tagwire/tagwire/bb/Command", "isAnsweredBy", "(I)Z"⟩ : MethodName)) (z := (⟨"com/example/tagwire/tagwire/bb/Command", "isAnsweredBy", "(I)Z"⟩ : MethodName)) hown (mvT hZ (hw _ (List.mem_of_getElem? (i := 11) rfl))) (mvT hZ (hw _ (List.mem_of_getElem? (i := 12) rfl))) (notFace_of_selects (args := #[]) (mvT hZ (hw _ (List.mem_of_getElem? (i := 14) rfl)))) (mvT hZ (hw _ (List.mem_of_getElem? (i := 14) rfl))) (mvT hZ (hw _ (List.mem_of_getElem? (i := 13) rfl))) (by decide) (backOf (W := 0) (rm3 l Z a0 hw [] a_SET_REGION q (7 : Int32) (7 : Int32) h0 n0 Z0 F_SET_REGION_code F_SET_REGION_answerCode) hZ (hw _ (List.mem_of_getElem? (i := 15) rfl)) (hw _ (List.mem_of_getElem? (i := 6) rfl)) (by decide) (by decide)) q13a q13c (g := (mkF m 129 #[.val (.int p0), .val (.int p1), .val (.int p2), .val (.int (1 : Int32)), .val (.ref a_SET_REGION), .val (.int (7 : Int32)), .val (.int (p2 &&& (3 : Int32))), .val (.int q), .val (.int (0 : Int32))] [(.int q), (.ref a_SET_REGION)])) rfl (by rw [hml]; rfl) (Steps.refl _) (argsL := [(.int q)]) (rest := []) (lenOf own_pd4 rfl) rfl (by show 2 * 0 + _ ≤ _; exact Nat.le_of_eq rfl) (hb hby at_129) (fun _ _ => ⟨rfl, eq10, (by decide : 0 + 0 ≤ _), (by decide : 0 + 0 ≤ _)⟩)
        dsimp only [Pt.U, Pt.locs, Pt.cells, Pt.slots] at X13 l13 y13 z13 st13 hQ13
        subst l13 y13 z13
        obtain ⟨hv13, hr13⟩ := hQ13
        rw [show own_ans q (7 : Int32) (7 : Int32) = (0 : Int32) from by unfold own_ans; rw [if_neg hc115_11, if_neg hc115_11]] at hv13
        have hQ13 := And.intro hv13 hr13
        obtain ⟨rfl, Nq13, eq13⟩ := hQ13
        have N13 := Fr.app N10 Nq13
        refine own_tr st13 ?_
        show own_Gl _ _ _ _ _ _ _ _ (T13.setTop (mkF m 132 #[.val (.int p0), .val (.int p1), .val (.int p2), .val (.int (1 : Int32)), .val (.ref a_SET_REGION), .val (.int (7 : Int32)), .val (.int (p2 &&& (3 : Int32))), .val (.int q), .val (.int (0 : Int32))] [(.int (0 : Int32))]))
        refine own_st (A' := T13.setTop (mkF m 142 #[.val (.int p0), .val (.int p1), .val (.int p2), .val (.int (1 : Int32)), .val (.ref a_SET_REGION), .val (.int (7 : Int32)), .val (.int (p2 &&& (3 : Int32))), .val (.int q), .val (.int (0 : Int32))] [(.int (1 : Int32))])) (fun tg kt => ?_) ?_
        · show Steps p.tables e below (T13.setTop (mkF m 132 #[.val (.int p0), .val (.int p1), .val (.int p2), .val (.int (1 : Int32)), .val (.ref a_SET_REGION), .val (.int (7 : Int32)), .val (.int (p2 &&& (3 : Int32))), .val (.int q), .val (.int (0 : Int32))] [(.int (0 : Int32))])) _
          refine XS.iload X13.here hx rfl (hb hby at_132) rfl ?_
          show Steps p.tables e below (T13.setTop (mkF m 134 #[.val (.int p0), .val (.int p1), .val (.int p2), .val (.int (1 : Int32)), .val (.ref a_SET_REGION), .val (.int (7 : Int32)), .val (.int (p2 &&& (3 : Int32))), .val (.int q), .val (.int (0 : Int32))] [(.int (0 : Int32)), (.int (0 : Int32))])) _
          refine XS.icmpNo X13.here hx rfl (hb hby at_134) rfl (teq ((by decide) : (0 : Int32) = (0 : Int32))).2 ?_
          show Steps p.tables e below (T13.setTop (mkF m 137 #[.val (.int p0), .val (.int p1), .val (.int p2), .val (.int (1 : Int32)), .val (.ref a_SET_REGION), .val (.int (7 : Int32)), .val (.int (p2 &&& (3 : Int32))), .val (.int q), .val (.int (0 : Int32))] [])) _
          refine XS.iconst X13.here hx rfl (hb hby at_137) ?_
          show Steps p.tables e below (T13.setTop (mkF m 138 #[.val (.int p0), .val (.int p1), .val (.int p2), .val (.int (1 : Int32)), .val (.ref a_SET_REGION), .val (.int (7 : Int32)), .val (.int (p2 &&& (3 : Int32))), .val (.int q), .val (.int (0 : Int32))] [(.int (1 : Int32))])) _
          refine XS.goto X13.here hx rfl (pc0 := 138) (pc' := 142) rfl (hb hby at_138) (by decide) (by decide) ?_
          exact kt
        refine own_ret X13 (v := some (.int (1 : Int32))) (fun h => by rw [Bd.returns] at h; cases h) hlk (by decide) (by decide) ?_ (fun fs hr => ?_)
        · show Q0 Z p0 p1 p2 a_MODULE_INFORMATION a_SET_REGION a_GET_REGION a_SELECT_PARAMETER a_SELECT_MODE a_SINGLE_POLLING a_MULTIPLE_POLLING a_STOP_MULTIPLE_POLLING a_READ a_WRITE a_SET_POWER a_GET_POWER h0 n0 (some (.int (1 : Int32))) T13.heap _
          rw [eq13]
          exact ⟨rfl, N13⟩
        · show Steps p.tables e below (T13.setTop (mkF m 142 #[.val (.int p0), .val (.int p1), .val (.int p2), .val (.int (1 : Int32)), .val (.ref a_SET_REGION), .val (.int (7 : Int32)), .val (.int (p2 &&& (3 : Int32))), .val (.int q), .val (.int (0 : Int32))] [(.int (1 : Int32))])) _
          exact retN X13 hx (t := .boolean) Bd.returns (by simp) (hb hby at_142) hr
    refine own_st (A' := T10.setTop (mkF m 27 #[.val (.int p0), .val (.int p1), .val (.int p2), .val (.int (1 : Int32)), .val (.ref a_SET_REGION), .val (.int (7 : Int32)), .val (.int (p2 &&& (3 : Int32))), .unset, .unset] [(.int (p2 &&& (3 : Int32)))])) (fun tg kt => ?_) ?_
    · show Steps p.tables e below (T10.setTop (mkF m 25 #[.val (.int p0), .val (.int p1), .val (.int p2), .val (.int (1 : Int32)), .val (.ref a_SET_REGION), .val (.int (7 : Int32)), .val (.int (p2 &&& (3 : Int32))), .unset, .unset] [])) _
      refine XS.iload X10.here hx rfl (hb hby at_25) rfl ?_
      exact kt
    by_cases hc27_14 : (p2 &&& (3 : Int32)) = (0 : Int32)
    · refine own_st (A' := T10.setTop (mkF m 82 #[.val (.int p0), .val (.int p1), .val (.int p2), .val (.int (1 : Int32)), .val (.ref a_SET_REGION), .val (.int (7 : Int32)), .val (.int (p2 &&& (3 : Int32))), .val (.int p1), .unset] [])) (fun tg kt => ?_) ?_
      · show Steps p.tables e below (T10.setTop (mkF m 27 #[.val (.int p0), .val (.int p1), .val (.int p2), .val (.int (1 : Int32)), .val (.ref a_SET_REGION), .val (.int (7 : Int32)), .val (.int (p2 &&& (3 : Int32))), .unset, .unset] [(.int (p2 &&& (3 : Int32)))])) _
        refine XS.ifNo X10.here hx rfl (hb hby at_27) rfl ((if0 _ _).trans (teq hc27_14).2) ?_
        show Steps p.tables e below (T10.setTop (mkF m 30 #[.val (.int p0), .val (.int p1), .val (.int p2), .val (.int (1 : Int32)), .val (.ref a_SET_REGION), .val (.int (7 : Int32)), .val (.int (p2 &&& (3 : Int32))), .unset, .unset] [])) _
        refine XS.iloadN X10.here hx rfl (hb hby at_30) rfl ?_
        show Steps p.tables e below (T10.setTop (mkF m 31 #[.val (.int p0), .val (.int p1), .val (.int p2), .val (.int (1 : Int32)), .val (.ref a_SET_REGION), .val (.int (7 : Int32)), .val (.int (p2 &&& (3 : Int32))), .unset, .unset] [(.int p1)])) _
        refine XS.istore X10.here hx rfl (hb hby at_31) rfl (l' := #[.val (.int p0), .val (.int p1), .val (.int p2), .val (.int (1 : Int32)), .val (.ref a_SET_REGION), .val (.int (7 : Int32)), .val (.int (p2 &&& (3 : Int32))), .val (.int p1), .unset]) rfl ?_
        show Steps p.tables e below (T10.setTop (mkF m 33 #[.val (.int p0), .val (.int p1), .val (.int p2), .val (.int (1 : Int32)), .val (.ref a_SET_REGION), .val (.int (7 : Int32)), .val (.int (p2 &&& (3 : Int32))), .val (.int p1), .unset] [])) _
        refine XS.goto X10.here hx rfl (pc0 := 33) (pc' := 82) rfl (hb hby at_33) (by decide) (by decide) ?_
        exact kt
      exact tl p1
    · refine own_st (A' := T10.setTop (mkF m 39 #[.val (.int p0), .val (.int p1), .val (.int p2), .val (.int (1 : Int32)), .val (.ref a_SET_REGION), .val (.int (7 : Int32)), .val (.int (p2 &&& (3 : Int32))), .unset, .unset] [(.int (1 : Int32)), (.int (p2 &&& (3 : Int32)))])) (fun tg kt => ?_) ?_
      · show Steps p.tables e below (T10.setTop (mkF m 27 #[.val (.int p0), .val (.int p1), .val (.int p2), .val (.int (1 : Int32)), .val (.ref a_SET_REGION), .val (.int (7 : Int32)), .val (.int (p2 &&& (3 : Int32))), .unset, .unset] [(.int (p2 &&& (3 : Int32)))])) _
        refine XS.ifYes X10.here hx rfl (pc0 := 27) (pc' := 36) rfl (hb hby at_27) rfl ((if0 _ _).trans (feq hc27_14).2) (by decide) (by decide) ?_
        show Steps p.tables e below (T10.setTop (mkF m 36 #[.val (.int p0), .val (.int p1), .val (.int p2), .val (.int (1 : Int32)), .val (.ref a_SET_REGION), .val (.int (7 : Int32)), .val (.int (p2 &&& (3 : Int32))), .unset, .unset] [])) _
        refine XS.iload X10.here hx rfl (hb hby at_36) rfl ?_
        show Steps p.tables e below (T10.setTop (mkF m 38 #[.val (.int p0), .val (.int p1), .val (.int p2), .val (.int (1 : Int32)), .val (.ref a_SET_REGION), .val (.int (7 : Int32)), .val (.int (p2 &&& (3 : Int32))), .unset, .unset] [(.int (p2 &&& (3 : Int32)))])) _
        refine XS.iconst X10.here hx rfl (hb hby at_38) ?_
        exact kt
      by_cases hc39_15 : (p2 &&& (3 : Int32)) = (1 : Int32)
      · refine own_st (A' := T10.setTop (mkF m 82 #[.val (.int p0), .val (.int p1), .val (.int p2), .val (.int (1 : Int32)), .val (.ref a_SET_REGION), .val (.int (7 : Int32)), .val (.int (p2 &&& (3 : Int32))), .val (.int (7 : Int32)), .unset] [])) (fun tg kt => ?_) ?_
        · show Steps p.tables e below (T10.setTop (mkF m 39 #[.val (.int p0), .val (.int p1), .val (.int p2), .val (.int (1 : Int32)), .val (.ref a_SET_REGION), .val (.int (7 : Int32)), .val (.int (p2 &&& (3 : Int32))), .unset, .unset] [(.int (1 : Int32)), (.int (p2 &&& (3 : Int32)))])) _
          refine XS.icmpNo X10.here hx rfl (hb hby at_39) rfl (teq hc39_15).2 ?_
          show Steps p.tables e below (T10.setTop (mkF m 42 #[.val (.int p0), .val (.int p1), .val (.int p2), .val (.int (1 : Int32)), .val (.ref a_SET_REGION), .val (.int (7 : Int32)), .val (.int (p2 &&& (3 : Int32))), .unset, .unset] [])) _
          refine XS.iload X10.here hx rfl (hb hby at_42) rfl ?_
          show Steps p.tables e below (T10.setTop (mkF m 44 #[.val (.int p0), .val (.int p1), .val (.int p2), .val (.int (1 : Int32)), .val (.ref a_SET_REGION), .val (.int (7 : Int32)), .val (.int (p2 &&& (3 : Int32))), .unset, .unset] [(.int (7 : Int32))])) _
          refine XS.istore X10.here hx rfl (hb hby at_44) rfl (l' := #[.val (.int p0), .val (.int p1), .val (.int p2), .val (.int (1 : Int32)), .val (.ref a_SET_REGION), .val (.int (7 : Int32)), .val (.int (p2 &&& (3 : Int32))), .val (.int (7 : Int32)), .unset]) rfl ?_
          show Steps p.tables e below (T10.setTop (mkF m 46 #[.val (.int p0), .val (.int p1), .val (.int p2), .val (.int (1 : Int32)), .val (.ref a_SET_REGION), .val (.int (7 : Int32)), .val (.int (p2 &&& (3 : Int32))), .val (.int (7 : Int32)), .unset] [])) _
          refine XS.goto X10.here hx rfl (pc0 := 46) (pc' := 82) rfl (hb hby at_46) (by decide) (by decide) ?_
          exact kt
        exact tl (7 : Int32)
      · refine own_st (A' := T10.setTop (mkF m 52 #[.val (.int p0), .val (.int p1), .val (.int p2), .val (.int (1 : Int32)), .val (.ref a_SET_REGION), .val (.int (7 : Int32)), .val (.int (p2 &&& (3 : Int32))), .unset, .unset] [(.int (2 : Int32)), (.int (p2 &&& (3 : Int32)))])) (fun tg kt => ?_) ?_
        · show Steps p.tables e below (T10.setTop (mkF m 39 #[.val (.int p0), .val (.int p1), .val (.int p2), .val (.int (1 : Int32)), .val (.ref a_SET_REGION), .val (.int (7 : Int32)), .val (.int (p2 &&& (3 : Int32))), .unset, .unset] [(.int (1 : Int32)), (.int (p2 &&& (3 : Int32)))])) _
          refine XS.icmpYes X10.here hx rfl (pc0 := 39) (pc' := 49) rfl (hb hby at_39) rfl (feq hc39_15).2 (by decide) (by decide) ?_
          show Steps p.tables e below (T10.setTop (mkF m 49 #[.val (.int p0), .val (.int p1), .val (.int p2), .val (.int (1 : Int32)), .val (.ref a_SET_REGION), .val (.int (7 : Int32)), .val (.int (p2 &&& (3 : Int32))), .unset, .unset] [])) _
          refine XS.iload X10.here hx rfl (hb hby at_49) rfl ?_
          show Steps p.tables e below (T10.setTop (mkF m 51 #[.val (.int p0), .val (.int p1), .val (.int p2), .val (.int (1 : Int32)), .val (.ref a_SET_REGION), .val (.int (7 : Int32)), .val (.int (p2 &&& (3 : Int32))), .unset, .unset] [(.int (p2 &&& (3 : Int32)))])) _
          refine XS.iconst X10.here hx rfl (hb hby at_51) ?_
          exact kt
        by_cases hc52_16 : (p2 &&& (3 : Int32)) = (2 : Int32)
        · refine own_st (A' := T10.setTop (mkF m 82 #[.val (.int p0), .val (.int p1), .val (.int p2), .val (.int (1 : Int32)), .val (.ref a_SET_REGION), .val (.int (7 : Int32)), .val (.int (p2 &&& (3 : Int32))), .val (.int (7 : Int32)), .unset] [])) (fun tg kt => ?_) ?_
          · show Steps p.tables e below (T10.setTop (mkF m 52 #[.val (.int p0), .val (.int p1), .val (.int p2), .val (.int (1 : Int32)), .val (.ref a_SET_REGION), .val (.int (7 : Int32)), .val (.int (p2 &&& (3 : Int32))), .unset, .unset] [(.int (2 : Int32)), (.int (p2 &&& (3 : Int32)))])) _
            refine XS.icmpNo X10.here hx rfl (hb hby at_52) rfl (teq hc52_16).2 ?_
            show Steps p.tables e below (T10.setTop (mkF m 55 #[.val (.int p0), .val (.int p1), .val (.int p2), .val (.int (1 : Int32)), .val (.ref a_SET_REGION), .val (.int (7 : Int32)), .val (.int (p2 &&& (3 : Int32))), .unset, .unset] [])) _
            refine XS.iloadN X10.here hx rfl (hb hby at_55) rfl ?_
            show Steps p.tables e below (T10.setTop (mkF m 56 #[.val (.int p0), .val (.int p1), .val (.int p2), .val (.int (1 : Int32)), .val (.ref a_SET_REGION), .val (.int (7 : Int32)), .val (.int (p2 &&& (3 : Int32))), .unset, .unset] [(.int (1 : Int32))])) _
            refine XS.iconst X10.here hx rfl (hb hby at_56) ?_
            show Steps p.tables e below (T10.setTop (mkF m 57 #[.val (.int p0), .val (.int p1), .val (.int p2), .val (.int (1 : Int32)), .val (.ref a_SET_REGION), .val (.int (7 : Int32)), .val (.int (p2 &&& (3 : Int32))), .unset, .unset] [(.int (4 : Int32)), (.int (1 : Int32))])) _
            refine XS.icmpYes X10.here hx rfl (pc0 := 57) (pc' := 65) rfl (hb hby at_57) rfl (feq ((by decide) : ¬ ((1 : Int32) = (4 : Int32)))).2 (by decide) (by decide) ?_
            show Steps p.tables e below (T10.setTop (mkF m 65 #[.val (.int p0), .val (.int p1), .val (.int p2), .val (.int (1 : Int32)), .val (.ref a_SET_REGION), .val (.int (7 : Int32)), .val (.int (p2 &&& (3 : Int32))), .unset, .unset] [])) _
            refine XS.iload X10.here hx rfl (hb hby at_65) rfl ?_
            show Steps p.tables e below (T10.setTop (mkF m 67 #[.val (.int p0), .val (.int p1), .val (.int p2), .val (.int (1 : Int32)), .val (.ref a_SET_REGION), .val (.int (7 : Int32)), .val (.int (p2 &&& (3 : Int32))), .unset, .unset] [(.int (7 : Int32))])) _
            refine XS.istore X10.here hx rfl (hb hby at_67) rfl (l' := #[.val (.int p0), .val (.int p1), .val (.int p2), .val (.int (1 : Int32)), .val (.ref a_SET_REGION), .val (.int (7 : Int32)), .val (.int (p2 &&& (3 : Int32))), .val (.int (7 : Int32)), .unset]) rfl ?_
            show Steps p.tables e below (T10.setTop (mkF m 69 #[.val (.int p0), .val (.int p1), .val (.int p2), .val (.int (1 : Int32)), .val (.ref a_SET_REGION), .val (.int (7 : Int32)), .val (.int (p2 &&& (3 : Int32))), .val (.int (7 : Int32)), .unset] [])) _
            refine XS.goto X10.here hx rfl (pc0 := 69) (pc' := 82) rfl (hb hby at_69) (by decide) (by decide) ?_
            exact kt
          exact tl (7 : Int32)
        · refine own_st (A' := T10.setTop (mkF m 82 #[.val (.int p0), .val (.int p1), .val (.int p2), .val (.int (1 : Int32)), .val (.ref a_SET_REGION), .val (.int (7 : Int32)), .val (.int (p2 &&& (3 : Int32))), .val (.int ((7 : Int32) + ((p1 &&& (3 : Int32)) - (2 : Int32)))), .unset] [])) (fun tg kt => ?_) ?_
          · show Steps p.tables e below (T10.setTop (mkF m 52 #[.val (.int p0), .val (.int p1), .val (.int p2), .val (.int (1 : Int32)), .val (.ref a_SET_REGION), .val (.int (7 : Int32)), .val (.int (p2 &&& (3 : Int32))), .unset, .unset] [(.int (2 : Int32)), (.int (p2 &&& (3 : Int32)))])) _
            refine XS.icmpYes X10.here hx rfl (pc0 := 52) (pc' := 72) rfl (hb hby at_52) rfl (feq hc52_16).2 (by decide) (by decide) ?_
            show Steps p.tables e below (T10.setTop (mkF m 72 #[.val (.int p0), .val (.int p1), .val (.int p2), .val (.int (1 : Int32)), .val (.ref a_SET_REGION), .val (.int (7 : Int32)), .val (.int (p2 &&& (3 : Int32))), .unset, .unset] [])) _
            refine XS.iload X10.here hx rfl (hb hby at_72) rfl ?_
            show Steps p.tables e below (T10.setTop (mkF m 74 #[.val (.int p0), .val (.int p1), .val (.int p2), .val (.int (1 : Int32)), .val (.ref a_SET_REGION), .val (.int (7 : Int32)), .val (.int (p2 &&& (3 : Int32))), .unset, .unset] [(.int (7 : Int32))])) _
            refine XS.iloadN X10.here hx rfl (hb hby at_74) rfl ?_
            show Steps p.tables e below (T10.setTop (mkF m 75 #[.val (.int p0), .val (.int p1), .val (.int p2), .val (.int (1 : Int32)), .val (.ref a_SET_REGION), .val (.int (7 : Int32)), .val (.int (p2 &&& (3 : Int32))), .unset, .unset] [(.int p1), (.int (7 : Int32))])) _
            refine XS.iconst X10.here hx rfl (hb hby at_75) ?_
            show Steps p.tables e below (T10.setTop (mkF m 76 #[.val (.int p0), .val (.int p1), .val (.int p2), .val (.int (1 : Int32)), .val (.ref a_SET_REGION), .val (.int (7 : Int32)), .val (.int (p2 &&& (3 : Int32))), .unset, .unset] [(.int (3 : Int32)), (.int p1), (.int (7 : Int32))])) _
            refine XS.iand X10.here hx rfl (hb hby at_76) rfl ?_
            show Steps p.tables e below (T10.setTop (mkF m 77 #[.val (.int p0), .val (.int p1), .val (.int p2), .val (.int (1 : Int32)), .val (.ref a_SET_REGION), .val (.int (7 : Int32)), .val (.int (p2 &&& (3 : Int32))), .unset, .unset] [(.int (p1 &&& (3 : Int32))), (.int (7 : Int32))])) _
            refine XS.iconst X10.here hx rfl (hb hby at_77) ?_
            show Steps p.tables e below (T10.setTop (mkF m 78 #[.val (.int p0), .val (.int p1), .val (.int p2), .val (.int (1 : Int32)), .val (.ref a_SET_REGION), .val (.int (7 : Int32)), .val (.int (p2 &&& (3 : Int32))), .unset, .unset] [(.int (2 : Int32)), (.int (p1 &&& (3 : Int32))), (.int (7 : Int32))])) _
            refine XS.isub X10.here hx rfl (hb hby at_78) rfl ?_
            show Steps p.tables e below (T10.setTop (mkF m 79 #[.val (.int p0), .val (.int p1), .val (.int p2), .val (.int (1 : Int32)), .val (.ref a_SET_REGION), .val (.int (7 : Int32)), .val (.int (p2 &&& (3 : Int32))), .unset, .unset] [(.int ((p1 &&& (3 : Int32)) - (2 : Int32))), (.int (7 : Int32))])) _
            refine XS.iadd X10.here hx rfl (hb hby at_79) rfl ?_
            show Steps p.tables e below (T10.setTop (mkF m 80 #[.val (.int p0), .val (.int p1), .val (.int p2), .val (.int (1 : Int32)), .val (.ref a_SET_REGION), .val (.int (7 : Int32)), .val (.int (p2 &&& (3 : Int32))), .unset, .unset] [(.int ((7 : Int32) + ((p1 &&& (3 : Int32)) - (2 : Int32))))])) _
            refine XS.istore X10.here hx rfl (hb hby at_80) rfl (l' := #[.val (.int p0), .val (.int p1), .val (.int p2), .val (.int (1 : Int32)), .val (.ref a_SET_REGION), .val (.int (7 : Int32)), .val (.int (p2 &&& (3 : Int32))), .val (.int ((7 : Int32) + ((p1 &&& (3 : Int32)) - (2 : Int32)))), .unset]) rfl ?_
            exact kt
          exact tl ((7 : Int32) + ((p1 &&& (3 : Int32)) - (2 : Int32)))
  · show own_Gl _ _ _ _ _ _ _ _ (s₁.setTop (mkF m 7 #[.val (.int p0), .val (.int p1), .val (.int p2), .unset, .unset, .unset, .unset, .unset, .unset] [(.int (2 : Int32))]))
    refine own_st (A' := s₁.setTop (mkF m 9 #[.val (.int p0), .val (.int p1), .val (.int p2), .val (.int (2 : Int32)), .unset, .unset, .unset, .unset, .unset] [(.int (2 : Int32))])) (fun tg kt => ?_) ?_
    · show Steps p.tables e below (s₁.setTop (mkF m 7 #[.val (.int p0), .val (.int p1), .val (.int p2), .unset, .unset, .unset, .unset, .unset, .unset] [(.int (2 : Int32))])) _
      refine XS.istoreN X0.here hx rfl (hb hby at_7) rfl (l' := #[.val (.int p0), .val (.int p1), .val (.int p2), .val (.int (2 : Int32)), .unset, .unset, .unset, .unset, .unset]) rfl ?_
      show Steps p.tables e below (s₁.setTop (mkF m 8 #[.val (.int p0), .val (.int p1), .val (.int p2), .val (.int (2 : Int32)), .unset, .unset, .unset, .unset, .unset] [])) _
      refine XS.iloadN X0.here hx rfl (hb hby at_8) rfl ?_
      exact kt
    obtain ⟨_, _, ⟨T17, L17, k17, n17⟩, -, X17, ⟨Lc17, hQ17, l17, y17, z17⟩, st17⟩ := Jvm.LawKit.callS X0 hx (y := (⟨"com/example/tagwire/tagwire/bb/CommandIsAnsweredByPinLaw", "pick", "(I)Lcom/example/tagwire/tagwire/bb/Command;"⟩ : MethodName)) hown (mvT hZ (hw _ (List.mem_of_getElem? (i := 1) rfl))) (mvT hZ (hw _ (List.mem_of_getElem? (i := 2) rfl))) (mvT hZ (hw _ (List.mem_of_getElem? (i := 3) rfl))) (mvT hZ (hw _ (List.mem_of_getElem? (i := 4) rfl))) (by decide) (backOf (W := 0) (rm1 l Z a0 hw [] (2 : Int32) a_MODULE_INFORMATION a_SET_REGION a_GET_REGION a_SELECT_PARAMETER a_SELECT_MODE a_SINGLE_POLLING a_MULTIPLE_POLLING a_STOP_MULTIPLE_POLLING a_READ a_WRITE a_SET_POWER a_GET_POWER h0 n0 Z0 S_MODULE_INFORMATION S_SET_REGION S_GET_REGION S_SELECT_PARAMETER S_SELECT_MODE S_SINGLE_POLLING S_MULTIPLE_POLLING S_STOP_MULTIPLE_POLLING S_READ S_WRITE S_SET_POWER S_GET_POWER) hZ (hw _ (List.mem_of_getElem? (i := 4) rfl)) (hw _ (List.mem_of_getElem? (i := 3) rfl)) (by decide) (by decide)) (g := (mkF m 9 #[.val (.int p0), .val (.int p1), .val (.int p2), .val (.int (2 : Int32)), .unset, .unset, .unset, .unset, .unset] [(.int (2 : Int32))])) rfl (by rw [hml]; rfl) (argsL := [(.int (2 : Int32))]) (rest := []) (lenOf own_pd2 rfl) rfl (by show 2 * 0 + _ ≤ _; exact Nat.le_of_eq rfl) (hb hby at_9) (fun _ _ => ⟨rfl, e0, (by decide : 0 + 0 ≤ _), (by decide : 0 + 0 ≤ _)⟩)
    dsimp only [Pt.U, Pt.locs, Pt.cells, Pt.slots] at X17 l17 y17 z17 st17 hQ17
    subst l17 y17 z17
    obtain ⟨hv17, hr17⟩ := hQ17
    rw [show own_pick1 (2 : Int32) a_MODULE_INFORMATION a_SET_REGION a_GET_REGION a_SELECT_PARAMETER a_SELECT_MODE a_SINGLE_POLLING a_MULTIPLE_POLLING a_STOP_MULTIPLE_POLLING a_READ a_WRITE a_SET_POWER a_GET_POWER = a_GET_REGION from rfl] at hv17
    have hQ17 := And.intro hv17 hr17
    obtain ⟨rfl, Nq17, eq17⟩ := hQ17
    have N17 := Fr.app N0 Nq17
    refine own_st st17 ?_
    show own_Gl _ _ _ _ _ _ _ _ (T17.setTop (mkF m 12 #[.val (.int p0), .val (.int p1), .val (.int p2), .val (.int (2 : Int32)), .unset, .unset, .unset, .unset, .unset] [(.ref a_GET_REGION)]))
    refine own_st (A' := T17.setTop (mkF m 15 #[.val (.int p0), .val (.int p1), .val (.int p2), .val (.int (2 : Int32)), .val (.ref a_GET_REGION), .unset, .unset, .unset, .unset] [(.int (2 : Int32))])) (fun tg kt => ?_) ?_
    · show Steps p.tables e below (T17.setTop (mkF m 12 #[.val (.int p0), .val (.int p1), .val (.int p2), .val (.int (2 : Int32)), .unset, .unset, .unset, .unset, .unset] [(.ref a_GET_REGION)])) _
      refine XS.astore X17.here hx rfl (hb hby at_12) rfl rfl (l' := #[.val (.int p0), .val (.int p1), .val (.int p2), .val (.int (2 : Int32)), .val (.ref a_GET_REGION), .unset, .unset, .unset, .unset]) rfl ?_
      show Steps p.tables e below (T17.setTop (mkF m 14 #[.val (.int p0), .val (.int p1), .val (.int p2), .val (.int (2 : Int32)), .val (.ref a_GET_REGION), .unset, .unset, .unset, .unset] [])) _
      refine XS.iloadN X17.here hx rfl (hb hby at_14) rfl ?_
      exact kt
    obtain ⟨_, _, ⟨T18, L18, k18, n18⟩, -, X18, ⟨Lc18, hQ18, l18, y18, z18⟩, st18⟩ := Jvm.LawKit.callS X17 hx (y := (⟨"com/example/tagwire/tagwire/bb/CommandIsAnsweredByPinLaw", "codeOf", "(I)I"⟩ : MethodName)) hown (mvT hZ (hw _ (List.mem_of_getElem? (i := 8) rfl))) (mvT hZ (hw _ (List.mem_of_getElem? (i := 9) rfl))) (mvT hZ (hw _ (List.mem_of_getElem? (i := 3) rfl))) (mvT hZ (hw _ (List.mem_of_getElem? (i := 10) rfl))) (by decide) (backOf (W := 0) (rm2 l Z a0 hw [] (2 : Int32) h0 n0 Z0) hZ (hw _ (List.mem_of_getElem? (i := 10) rfl)) (hw _ (List.mem_of_getElem? (i := 3) rfl)) (by decide) (by decide)) (g := (mkF m 15 #[.val (.int p0), .val (.int p1), .val (.int p2), .val (.int (2 : Int32)), .val (.ref a_GET_REGION), .unset, .unset, .unset, .unset] [(.int (2 : Int32))])) rfl (by rw [hml]; rfl) (argsL := [(.int (2 : Int32))]) (rest := []) (lenOf own_pd3 rfl) rfl (by show 2 * 0 + _ ≤ _; exact Nat.le_of_eq rfl) (hb hby at_15) (fun _ _ => ⟨rfl, eq17, (by decide : 0 + 0 ≤ _), (by decide : 0 + 0 ≤ _)⟩)
    dsimp only [Pt.U, Pt.locs, Pt.cells, Pt.slots] at X18 l18 y18 z18 st18 hQ18
    subst l18 y18 z18
    obtain ⟨hv18, hr18⟩ := hQ18
    rw [show own_code (2 : Int32) = (8 : Int32) from rfl] at hv18
    have hQ18 := And.intro hv18 hr18
    obtain ⟨rfl, Nq18, eq18⟩ := hQ18
    have N18 := Fr.app N17 Nq18
    refine own_st st18 ?_
    show own_Gl _ _ _ _ _ _ _ _ (T18.setTop (mkF m 18 #[.val (.int p0), .val (.int p1), .val (.int p2), .val (.int (2 : Int32)), .val (.ref a_GET_REGION), .unset, .unset, .unset, .unset] [(.int (8 : Int32))]))
    refine own_st (A' := T18.setTop (mkF m 25 #[.val (.int p0), .val (.int p1), .val (.int p2), .val (.int (2 : Int32)), .val (.ref a_GET_REGION), .val (.int (8 : Int32)), .val (.int (p2 &&& (3 : Int32))), .unset, .unset] [])) (fun tg kt => ?_) ?_
    · show Steps p.tables e below (T18.setTop (mkF m 18 #[.val (.int p0), .val (.int p1), .val (.int p2), .val (.int (2 : Int32)), .val (.ref a_GET_REGION), .unset, .unset, .unset, .unset] [(.int (8 : Int32))])) _
      refine XS.istore X18.here hx rfl (hb hby at_18) rfl (l' := #[.val (.int p0), .val (.int p1), .val (.int p2), .val (.int (2 : Int32)), .val (.ref a_GET_REGION), .val (.int (8 : Int32)), .unset, .unset, .unset]) rfl ?_
      show Steps p.tables e below (T18.setTop (mkF m 20 #[.val (.int p0), .val (.int p1), .val (.int p2), .val (.int (2 : Int32)), .val (.ref a_GET_REGION), .val (.int (8 : Int32)), .unset, .unset, .unset] [])) _
      refine XS.iloadN X18.here hx rfl (hb hby at_20) rfl ?_
      show Steps p.tables e below (T18.setTop (mkF m 21 #[.val (.int p0), .val (.int p1), .val (.int p2), .val (.int (2 : Int32)), .val (.ref a_GET_REGION), .val (.int (8 : Int32)), .unset, .unset, .unset] [(.int p2)])) _
      refine XS.iconst X18.here hx rfl (hb hby at_21) ?_
      show Steps p.tables e below (T18.setTop (mkF m 22 #[.val (.int p0), .val (.int p1), .val (.int p2), .val (.int (2 : Int32)), .val (.ref a_GET_REGION), .val (.int (8 : Int32)), .unset, .unset, .unset] [(.int (3 : Int32)), (.int p2)])) _
      refine XS.iand X18.here hx rfl (hb hby at_22) rfl ?_
      show Steps p.tables e below (T18.setTop (mkF m 23 #[.val (.int p0), .val (.int p1), .val (.int p2), .val (.int (2 : Int32)), .val (.ref a_GET_REGION), .val (.int (8 : Int32)), .unset, .unset, .unset] [(.int (p2 &&& (3 : Int32)))])) _
      refine XS.istore X18.here hx rfl (hb hby at_23) rfl (l' := #[.val (.int p0), .val (.int p1), .val (.int p2), .val (.int (2 : Int32)), .val (.ref a_GET_REGION), .val (.int (8 : Int32)), .val (.int (p2 &&& (3 : Int32))), .unset, .unset]) rfl ?_
      exact kt
    have tl : ∀ (q : Int32), own_Gl FrameEnd p e below s (Q0 Z p0 p1 p2 a_MODULE_INFORMATION a_SET_REGION a_GET_REGION a_SELECT_PARAMETER a_SELECT_MODE a_SINGLE_POLLING a_MULTIPLE_POLLING a_STOP_MULTIPLE_POLLING a_READ a_WRITE a_SET_POWER a_GET_POWER h0 n0) room_1.cells room_1.slots (T18.setTop (mkF m 82 #[.val (.int p0), .val (.int p1), .val (.int p2), .val (.int (2 : Int32)), .val (.ref a_GET_REGION), .val (.int (8 : Int32)), .val (.int (p2 &&& (3 : Int32))), .val (.int q), .unset] [])) := by
      intro q
      refine own_st (A' := T18.setTop (mkF m 115 #[.val (.int p0), .val (.int p1), .val (.int p2), .val (.int (2 : Int32)), .val (.ref a_GET_REGION), .val (.int (8 : Int32)), .val (.int (p2 &&& (3 : Int32))), .val (.int q), .unset] [(.int (8 : Int32)), (.int q)])) (fun tg kt => ?_) ?_
      · show Steps p.tables e below (T18.setTop (mkF m 82 #[.val (.int p0), .val (.int p1), .val (.int p2), .val (.int (2 : Int32)), .val (.ref a_GET_REGION), .val (.int (8 : Int32)), .val (.int (p2 &&& (3 : Int32))), .val (.int q), .unset] [])) _
        refine XS.iloadN X18.here hx rfl (hb hby at_82) rfl ?_
        show Steps p.tables e below (T18.setTop (mkF m 83 #[.val (.int p0), .val (.int p1), .val (.int p2), .val (.int (2 : Int32)), .val (.ref a_GET_REGION), .val (.int (8 : Int32)), .val (.int (p2 &&& (3 : Int32))), .val (.int q), .unset] [(.int (2 : Int32))])) _
        refine XS.iconst X18.here hx rfl (hb hby at_83) ?_
        show Steps p.tables e below (T18.setTop (mkF m 84 #[.val (.int p0), .val (.int p1), .val (.int p2), .val (.int (2 : Int32)), .val (.ref a_GET_REGION), .val (.int (8 : Int32)), .val (.int (p2 &&& (3 : Int32))), .val (.int q), .unset] [(.int (4 : Int32)), (.int (2 : Int32))])) _
        refine XS.icmpYes X18.here hx rfl (pc0 := 84) (pc' := 111) rfl (hb hby at_84) rfl (feq ((by decide) : ¬ ((2 : Int32) = (4 : Int32)))).2 (by decide) (by decide) ?_
        show Steps p.tables e below (T18.setTop (mkF m 111 #[.val (.int p0), .val (.int p1), .val (.int p2), .val (.int (2 : Int32)), .val (.ref a_GET_REGION), .val (.int (8 : Int32)), .val (.int (p2 &&& (3 : Int32))), .val (.int q), .unset] [])) _
        refine XS.iload X18.here hx rfl (hb hby at_111) rfl ?_
        show Steps p.tables e below (T18.setTop (mkF m 113 #[.val (.int p0), .val (.int p1), .val (.int p2), .val (.int (2 : Int32)), .val (.ref a_GET_REGION), .val (.int (8 : Int32)), .val (.int (p2 &&& (3 : Int32))), .val (.int q), .unset] [(.int q)])) _
        refine XS.iload X18.here hx rfl (hb hby at_113) rfl ?_
        exact kt
      by_cases hc115_19 : q = (8 : Int32)
      · refine own_st (A' := T18.setTop (mkF m 129 #[.val (.int p0), .val (.int p1), .val (.int p2), .val (.int (2 : Int32)), .val (.ref a_GET_REGION), .val (.int (8 : Int32)), .val (.int (p2 &&& (3 : Int32))), .val (.int q), .val (.int (1 : Int32))] [(.int q), (.ref a_GET_REGION)])) (fun tg kt => ?_) ?_
        · show Steps p.tables e below (T18.setTop (mkF m 115 #[.val (.int p0), .val (.int p1), .val (.int p2), .val (.int (2 : Int32)), .val (.ref a_GET_REGION), .val (.int (8 : Int32)), .val (.int (p2 &&& (3 : Int32))), .val (.int q), .unset] [(.int (8 : Int32)), (.int q)])) _
          refine XS.icmpNo X18.here hx rfl (hb hby at_115) rfl (teq hc115_19).2 ?_
          show Steps p.tables e below (T18.setTop (mkF m 118 #[.val (.int p0), .val (.int p1), .val (.int p2), .val (.int (2 : Int32)), .val (.ref a_GET_REGION), .val (.int (8 : Int32)), .val (.int (p2 &&& (3 : Int32))), .val (.int q), .unset] [])) _
          refine XS.iconst X18.here hx rfl (hb hby at_118) ?_
          show Steps p.tables e below (T18.setTop (mkF m 119 #[.val (.int p0), .val (.int p1), .val (.int p2), .val (.int (2 : Int32)), .val (.ref a_GET_REGION), .val (.int (8 : Int32)), .val (.int (p2 &&& (3 : Int32))), .val (.int q), .unset] [(.int (1 : Int32))])) _
          refine XS.goto X18.here hx rfl (pc0 := 119) (pc' := 123) rfl (hb hby at_119) (by decide) (by decide) ?_
          show Steps p.tables e below (T18.setTop (mkF m 123 #[.val (.int p0), .val (.int p1), .val (.int p2), .val (.int (2 : Int32)), .val (.ref a_GET_REGION), .val (.int (8 : Int32)), .val (.int (p2 &&& (3 : Int32))), .val (.int q), .unset] [(.int (1 : Int32))])) _
          refine XS.istore X18.here hx rfl (hb hby at_123) rfl (l' := #[.val (.int p0), .val (.int p1), .val (.int p2), .val (.int (2 : Int32)), .val (.ref a_GET_REGION), .val (.int (8 : Int32)), .val (.int (p2 &&& (3 : Int32))), .val (.int q), .val (.int (1 : Int32))]) rfl ?_
          show Steps p.tables e below (T18.setTop (mkF m 125 #[.val (.int p0), .val (.int p1), .val (.int p2), .val (.int (2 : Int32)), .val (.ref a_GET_REGION), .val (.int (8 : Int32)), .val (.int (p2 &&& (3 : Int32))), .val (.int q), .val (.int (1 : Int32))] [])) _
          refine XS.aload X18.here hx rfl (hb hby at_125) rfl rfl ?_
          show Steps p.tables e below (T18.setTop (mkF m 127 #[.val (.int p0), .val (.int p1), .val (.int p2), .val (.int (2 : Int32)), .val (.ref a_GET_REGION), .val (.int (8 : Int32)), .val (.int (p2 &&& (3 : Int32))), .val (.int q), .val (.int (1 : Int32))] [(.ref a_GET_REGION)])) _
          refine XS.iload X18.here hx rfl (hb hby at_127) rfl ?_
          exact kt
        obtain ⟨cq20, kq20, q20a, q20b, q20c⟩ := isOf hZ eq18 E_GET_REGION
        obtain ⟨_, _, ⟨T20, L20, k20, n20⟩, -, X20, ⟨Lc20, hQ20, l20, y20, z20⟩, st20⟩ := X18.virtualBack hx (y := (⟨"com/example/tagwire/tagwire/bb/Command", "isAnsweredBy", "(I)Z"⟩ : MethodName)) (z := (⟨"com/example/tagwire/tagwire/bb/Command", "isAnsweredBy", "(I)Z"⟩ : MethodName)) hown (mvT hZ (hw _ (List.mem_of_getElem? (i := 11) rfl))) (mvT hZ (hw _ (List.mem_of_getElem? (i := 12) rfl))) (notFace_of_selects (args := #[]) (mvT hZ (hw _ (List.mem_of_getElem? (i := 14) rfl)))) (mvT hZ (hw _ (List.mem_of_getElem? (i := 14) rfl))) (mvT hZ (hw _ (List.mem_of_getElem? (i := 13) rfl))) (by decide) (backOf (W := 0) (rm3 l Z a0 hw [] a_GET_REGION q (8 : Int32) (8 : Int32) h0 n0 Z0 F_GET_REGION_code F_GET_REGION_answerCode) hZ (hw _ (List.mem_of_getElem? (i := 15) rfl)) (hw _ (List.mem_of_getElem? (i := 6) rfl)) (by decide) (by decide)) q20a q20c (g := (mkF m 129 #[.val (.int p0), .val (.int p1), .val (.int p2), .val (.int (2 : Int32)), .val (.ref a_GET_REGION), .val (.int (8 : Int32)), .val (.int (p2 &&& (3 : Int32))), .val (.int q), .val (.int (1 : Int32))] [(.int q), (.ref a_GET_REGION)])) rfl (by rw [hml]; rfl) (Steps.refl _) (argsL := [(.int q)]) (rest := []) (lenOf own_pd4 rfl) rfl (by show 2 * 0 + _ ≤ _; exact Nat.le_of_eq rfl) (hb hby at_129) (fun _ _ => ⟨rfl, eq18, (by decide : 0 + 0 ≤ _), (by decide : 0 + 0 ≤ _)⟩)
        dsimp only [Pt.U, Pt.locs, Pt.cells, Pt.slots] at X20 l20 y20 z20 st20 hQ20
        subst l20 y20 z20
        obtain ⟨hv20, hr20⟩ := hQ20
        rw [show own_ans q (8 : Int32) (8 : Int32) = (1 : Int32) from by unfold own_ans; rw [if_pos hc115_19]] at hv20
        have hQ20 := And.intro hv20 hr20
        obtain ⟨rfl, Nq20, eq20⟩ := hQ20
        have N20 := Fr.app N18 Nq20
        refine own_tr st20 ?_
        show own_Gl _ _ _ _ _ _ _ _ (T20.setTop (mkF m 132 #[.val (.int p0), .val (.int p1), .val (.int p2), .val (.int (2 : Int32)), .val (.ref a_GET_REGION), .val (.int (8 : Int32)), .val (.int (p2 &&& (3 : Int32))), .val (.int q), .val (.int (1 : Int32))] [(.int (1 : Int32))]))
        refine own_st (A' := T20.setTop (mkF m 142 #[.val (.int p0), .val (.int p1), .val (.int p2), .val (.int (2 : Int32)), .val (.ref a_GET_REGION), .val (.int (8 : Int32)), .val (.int (p2 &&& (3 : Int32))), .val (.int q), .val (.int (1 : Int32))] [(.int (1 : Int32))])) (fun tg kt => ?_) ?_
        · show Steps p.tables e below (T20.setTop (mkF m 132 #[.val (.int p0), .val (.int p1), .val (.int p2), .val (.int (2 : Int32)), .val (.ref a_GET_REGION), .val (.int (8 : Int32)), .val (.int (p2 &&& (3 : Int32))), .val (.int q), .val (.int (1 : Int32))] [(.int (1 : Int32))])) _
          refine XS.iload X20.here hx rfl (hb hby at_132) rfl ?_
          show Steps p.tables e below (T20.setTop (mkF m 134 #[.val (.int p0), .val (.int p1), .val (.int p2), .val (.int (2 : Int32)), .val (.ref a_GET_REGION), .val (.int (8 : Int32)), .val (.int (p2 &&& (3 : Int32))), .val (.int q), .val (.int (1 : Int32))] [(.int (1 : Int32)), (.int (1 : Int32))])) _
          refine XS.icmpNo X20.here hx rfl (hb hby at_134) rfl (teq ((by decide) : (1 : Int32) = (1 : Int32))).2 ?_
          show Steps p.tables e below (T20.setTop (mkF m 137 #[.val (.int p0), .val (.int p1), .val (.int p2), .val (.int (2 : Int32)), .val (.ref a_GET_REGION), .val (.int (8 : Int32)), .val (.int (p2 &&& (3 : Int32))), .val (.int q), .val (.int (1 : Int32))] [])) _
          refine XS.iconst X20.here hx rfl (hb hby at_137) ?_
          show Steps p.tables e below (T20.setTop (mkF m 138 #[.val (.int p0), .val (.int p1), .val (.int p2), .val (.int (2 : Int32)), .val (.ref a_GET_REGION), .val (.int (8 : Int32)), .val (.int (p2 &&& (3 : Int32))), .val (.int q), .val (.int (1 : Int32))] [(.int (1 : Int32))])) _
          refine XS.goto X20.here hx rfl (pc0 := 138) (pc' := 142) rfl (hb hby at_138) (by decide) (by decide) ?_
          exact kt
        refine own_ret X20 (v := some (.int (1 : Int32))) (fun h => by rw [Bd.returns] at h; cases h) hlk (by decide) (by decide) ?_ (fun fs hr => ?_)
        · show Q0 Z p0 p1 p2 a_MODULE_INFORMATION a_SET_REGION a_GET_REGION a_SELECT_PARAMETER a_SELECT_MODE a_SINGLE_POLLING a_MULTIPLE_POLLING a_STOP_MULTIPLE_POLLING a_READ a_WRITE a_SET_POWER a_GET_POWER h0 n0 (some (.int (1 : Int32))) T20.heap _
          rw [eq20]
          exact ⟨rfl, N20⟩
        · show Steps p.tables e below (T20.setTop (mkF m 142 #[.val (.int p0), .val (.int p1), .val (.int p2), .val (.int (2 : Int32)), .val (.ref a_GET_REGION), .val (.int (8 : Int32)), .val (.int (p2 &&& (3 : Int32))), .val (.int q), .val (.int (1 : Int32))] [(.int (1 : Int32))])) _
          exact retN X20 hx (t := .boolean) Bd.returns (by simp) (hb hby at_142) hr
      · refine own_st (A' := T18.setTop (mkF m 129 #[.val (.int p0), .val (.int p1), .val (.int p2), .val (.int (2 : Int32)), .val (.ref a_GET_REGION), .val (.int (8 : Int32)), .val (.int (p2 &&& (3 : Int32))), .val (.int q), .val (.int (0 : Int32))] [(.int q), (.ref a_GET_REGION)])) (fun tg kt => ?_) ?_
        · show Steps p.tables e below (T18.setTop (mkF m 115 #[.val (.int p0), .val (.int p1), .val (.int p2), .val (.int (2 : Int32)), .val (.ref a_GET_REGION), .val (.int (8 : Int32)), .val (.int (p2 &&& (3 : Int32))), .val (.int q), .unset] [(.int (8 : Int32)), (.int q)])) _
          refine XS.icmpYes X18.here hx rfl (pc0 := 115) (pc' := 122) rfl (hb hby at_115) rfl (feq hc115_19).2 (by decide) (by decide) ?_
          show Steps p.tables e below (T18.setTop (mkF m 122 #[.val (.int p0), .val (.int p1), .val (.int p2), .val (.int (2 : Int32)), .val (.ref a_GET_REGION), .val (.int (8 : Int32)), .val (.int (p2 &&& (3 : Int32))), .val (.int q), .unset] [])) _
          refine XS.iconst X18.here hx rfl (hb hby at_122) ?_
          show Steps p.tables e below (T18.setTop (mkF m 123 #[.val (.int p0), .val (.int p1), .val (.int p2), .val (.int (2 : Int32)), .val (.ref a_GET_REGION), .val (.int (8 : Int32)), .val (.int (p2 &&& (3 : Int32))), .val (.int q), .unset] [(.int (0 : Int32))])) _
          refine XS.istore X18.here hx rfl (hb hby at_123) rfl (l' := #[.val (.int p0), .val (.int p1), .val (.int p2), .val (.int (2 : Int32)), .val (.ref a_GET_REGION), .val (.int (8 : Int32)), .val (.int (p2 &&& (3 : Int32))), .val (.int q), .val (.int (0 : Int32))]) rfl ?_
          show Steps p.tables e below (T18.setTop (mkF m 125 #[.val (.int p0), .val (.int p1), .val (.int p2), .val (.int (2 : Int32)), .val (.ref a_GET_REGION), .val (.int (8 : Int32)), .val (.int (p2 &&& (3 : Int32))), .val (.int q), .val (.int (0 : Int32))] [])) _
          refine XS.aload X18.here hx rfl (hb hby at_125) rfl rfl ?_
          show Steps p.tables e below (T18.setTop (mkF m 127 #[.val (.int p0), .val (.int p1), .val (.int p2), .val (.int (2 : Int32)), .val (.ref a_GET_REGION), .val (.int (8 : Int32)), .val (.int (p2 &&& (3 : Int32))), .val (.int q), .val (.int (0 : Int32))] [(.ref a_GET_REGION)])) _
          refine XS.iload X18.here hx rfl (hb hby at_127) rfl ?_
          exact kt
        obtain ⟨cq21, kq21, q21a, q21b, q21c⟩ := isOf hZ eq18 E_GET_REGION
        obtain ⟨_, _, ⟨T21, L21, k21, n21⟩, -, X21, ⟨Lc21, hQ21, l21, y21, z21⟩, st21⟩ := X18.virtualBack hx (y := (⟨"com/example/tagwire/tagwire/bb/Command", "isAnsweredBy", "(I)Z"⟩ : MethodName)) (z := (⟨"com/example/tagwire/tagwire/bb/Command", "isAnsweredBy", "(I)Z"⟩ : MethodName)) hown (mvT hZ (hw _ (List.mem_of_getElem? (i := 11) rfl))) (mvT hZ (hw _ (List.mem_of_getElem? (i := 12) rfl))) (notFace_of_selects (args := #[]) (mvT hZ (hw _ (List.mem_of_getElem? (i := 14) rfl)))) (mvT hZ (hw _ (List.mem_of_getElem? (i := 14) rfl))) (mvT hZ (hw _ (List.mem_of_getElem? (i := 13) rfl))) (by decide) (backOf (W := 0) (rm3 l Z a0 hw [] a_GET_REGION q (8 : Int32) (8 : Int32) h0 n0 Z0 F_GET_REGION_code F_GET_REGION_answerCode) hZ (hw _ (List.mem_of_getElem? (i := 15) rfl)) (hw _ (List.mem_of_getElem? (i := 6) rfl)) (by decide) (by decide)) q21a q21c (g := (mkF m 129 #[.val (.int p0), .val (.int p1), .val (.int p2), .val (.int (2 : Int32)), .val (.ref a_GET_REGION), .val (.int (8 : Int32)), .val (.int (p2 &&& (3 : Int32))), .val (.int q), .val (.int (0 : Int32))] [(.int q), (.ref a_GET_REGION)])) rfl (by rw [hml]; rfl) (Steps.refl _) (argsL := [(.int q)]) (rest := []) (lenOf own_pd4 rfl) rfl (by show 2 * 0 + _ ≤ _; exact Nat.le_of_eq rfl) (hb hby at_129) (fun _ _ => ⟨rfl, eq18, (by decide : 0 + 0 ≤ _), (by decide : 0 + 0 ≤ _)⟩)
        dsimp only [Pt.U, Pt.locs, Pt.cells, Pt.slots] at X21 l21 y21 z21 st21 hQ21
        subst l21 y21 z21
        obtain ⟨hv21, hr21⟩ := hQ21
        rw [show own_ans q (8 : Int32) (8 : Int32) = (0 : Int32) from by unfold own_ans; rw [if_neg hc115_19, if_neg hc115_19]] at hv21
        have hQ21 := And.intro hv21 hr21
        obtain ⟨rfl, Nq21, eq21⟩ := hQ21
        have N21 := Fr.app N18 Nq21
        refine own_tr st21 ?_
        show own_Gl _ _ _ _ _ _ _ _ (T21.setTop (mkF m 132 #[.val (.int p0), .val (.int p1), .val (.int p2), .val (.int (2 : Int32)), .val (.ref a_GET_REGION), .val (.int (8 : Int32)), .val (.int (p2 &&& (3 : Int32))), .val (.int q), .val (.int (0 : Int32))] [(.int (0 : Int32))]))
        refine own_st (A' := T21.setTop (mkF m 142 #[.val (.int p0), .val (.int p1), .val (.int p2), .val (.int (2 : Int32)), .val (.ref a_GET_REGION), .val (.int (8 : Int32)), .val (.int (p2 &&& (3 : Int32))), .val (.int q), .val (.int (0 : Int32))] [(.int (1 : Int32))])) (fun tg kt => ?_) ?_
        · show Steps p.tables e below (T21.setTop (mkF m 132 #[.val (.int p0), .val (.int p1), .val (.int p2), .val (.int (2 : Int32)), .val (.ref a_GET_REGION), .val (.int (8 : Int32)), .val (.int (p2 &&& (3 : Int32))), .val (.int q), .val (.int (0 : Int32))] [(.int (0 : Int32))])) _
          refine XS.iload X21.here hx rfl (hb hby at_132) rfl ?_
          show Steps p.tables e below (T21.setTop (mkF m 134 #[.val (.int p0), .val (.int p1), .val (.int p2), .val (.int (2 : Int32)), .val (.ref a_GET_REGION), .val (.int (8 : Int32)), .val (.int (p2 &&& (3 : Int32))), .val (.int q), .val (.int (0 : Int32))] [(.int (0 : Int32)), (.int (0 : Int32))])) _
          refine XS.icmpNo X21.here hx rfl (hb hby at_134) rfl (teq ((by decide) : (0 : Int32) = (0 : Int32))).2 ?_
          show Steps p.tables e below (T21.setTop (mkF m 137 #[.val (.int p0), .val (.int p1), .val (.int p2), .val (.int (2 : Int32)), .val (.ref a_GET_REGION), .val (.int (8 : Int32)), .val (.int (p2 &&& (3 : Int32))), .val (.int q), .val (.int (0 : Int32))] [])) _
          refine XS.iconst X21.here hx rfl (hb hby at_137) ?_
          show Steps p.tables e below (T21.setTop (mkF m 138 #[.val (.int p0), .val (.int p1), .val (.int p2), .val (.int (2 : Int32)), .val (.ref a_GET_REGION), .val (.int (8 : Int32)), .val (.int (p2 &&& (3 : Int32))), .val (.int q), .val (.int (0 : Int32))] [(.int (1 : Int32))])) _
          refine XS.goto X21.here hx rfl (pc0 := 138) (pc' := 142) rfl (hb hby at_138) (by decide) (by decide) ?_
          exact kt
        refine own_ret X21 (v := some (.int (1 : Int32))) (fun h => by rw [Bd.returns] at h; cases h) hlk (by decide) (by decide) ?_ (fun fs hr => ?_)
        · show Q0 Z p0 p1 p2 a_MODULE_INFORMATION a_SET_REGION a_GET_REGION a_SELECT_PARAMETER a_SELECT_MODE a_SINGLE_POLLING a_MULTIPLE_POLLING a_STOP_MULTIPLE_POLLING a_READ a_WRITE a_SET_POWER a_GET_POWER h0 n0 (some (.int (1 : Int32))) T21.heap _
          rw [eq21]
          exact ⟨rfl, N21⟩
        · show Steps p.tables e below (T21.setTop (mkF m 142 #[.val (.int p0), .val (.int p1), .val (.int p2), .val (.int (2 : Int32)), .val (.ref a_GET_REGION), .val (.int (8 : Int32)), .val (.int (p2 &&& (3 : Int32))), .val (.int q), .val (.int (0 : Int32))] [(.int (1 : Int32))])) _
          exact retN X21 hx (t := .boolean) Bd.returns (by simp) (hb hby at_142) hr
    refine own_st (A' := T18.setTop (mkF m 27 #[.val (.int p0), .val (.int p1), .val (.int p2), .val (.int (2 : Int32)), .val (.ref a_GET_REGION), .val (.int (8 : Int32)), .val (.int (p2 &&& (3 : Int32))), .unset, .unset] [(.int (p2 &&& (3 : Int32)))])) (fun tg kt => ?_) ?_
    · show Steps p.tables e below (T18.setTop (mkF m 25 #[.val (.int p0), .val (.int p1), .val (.int p2), .val (.int (2 : Int32)), .val (.ref a_GET_REGION), .val (.int (8 : Int32)), .val (.int (p2 &&& (3 : Int32))), .unset, .unset] [])) _
      refine XS.iload X18.here hx rfl (hb hby at_25) rfl ?_
      exact kt
    by_cases hc27_22 : (p2 &&& (3 : Int32)) = (0 : Int32)
    · refine own_st (A' := T18.setTop (mkF m 82 #[.val (.int p0), .val (.int p1), .val (.int p2), .val (.int (2 : Int32)), .val (.ref a_GET_REGION), .val (.int (8 : Int32)), .val (.int (p2 &&& (3 : Int32))), .val (.int p1), .unset] [])) (fun tg kt => ?_) ?_
      · show Steps p.tables e below (T18.setTop (mkF m 27 #[.val (.int p0), .val (.int p1), .val (.int p2), .val (.int (2 : Int32)), .val (.ref a_GET_REGION), .val (.int (8 : Int32)), .val (.int (p2 &&& (3 : Int32))), .unset, .unset] [(.int (p2 &&& (3 : Int32)))])) _
        refine XS.ifNo X18.here hx rfl (hb hby at_27) rfl ((if0 _ _).trans (teq hc27_22).2) ?_
        show Steps p.tables e below (T18.setTop (mkF m 30 #[.val (.int p0), .val (.int p1), .val (.int p2), .val (.int (2 : Int32)), .val (.ref a_GET_REGION), .val (.int (8 : Int32)), .val (.int (p2 &&& (3 : Int32))), .unset, .unset] [])) _
        refine XS.iloadN X18.here hx rfl (hb hby at_30) rfl ?_
        show Steps p.tables e below (T18.setTop (mkF m 31 #[.val (.int p0), .val (.int p1), .val (.int p2), .val (.int (2 : Int32)), .val (.ref a_GET_REGION), .val (.int (8 : Int32)), .val (.int (p2 &&& (3 : Int32))), .unset, .unset] [(.int p1)])) _
        refine XS.istore X18.here hx rfl (hb hby at_31) rfl (l' := #[.val (.int p0), .val (.int p1), .val (.int p2), .val (.int (2 : Int32)), .val (.ref a_GET_REGION), .val (.int (8 : Int32)), .val (.int (p2 &&& (3 : Int32))), .val (.int p1), .unset]) rfl ?_
        show Steps p.tables e below (T18.setTop (mkF m 33 #[.val (.int p0), .val (.int p1), .val (.int p2), .val (.int (2 : Int32)), .val (.ref a_GET_REGION), .val (.int (8 : Int32)), .val (.int (p2 &&& (3 : Int32))), .val (.int p1), .unset] [])) _
        refine XS.goto X18.here hx rfl (pc0 := 33) (pc' := 82) rfl (hb hby at_33) (by decide) (by decide) ?_
        exact kt
      exact tl p1
    · refine own_st (A' := T18.setTop (mkF m 39 #[.val (.int p0), .val (.int p1), .val (.int p2), .val (.int (2 : Int32)), .val (.ref a_GET_REGION), .val (.int (8 : Int32)), .val (.int (p2 &&& (3 : Int32))), .unset, .unset] [(.int (1 : Int32)), (.int (p2 &&& (3 : Int32)))])) (fun tg kt => ?_) ?_
      · show Steps p.tables e below (T18.setTop (mkF m 27 #[.val (.int p0), .val (.int p1), .val (.int p2), .val (.int (2 : Int32)), .val (.ref a_GET_REGION), .val (.int (8 : Int32)), .val (.int (p2 &&& (3 : Int32))), .unset, .unset] [(.int (p2 &&& (3 : Int32)))])) _
        refine XS.ifYes X18.here hx rfl (pc0 := 27) (pc' := 36) rfl (hb hby at_27) rfl ((if0 _ _).trans (feq hc27_22).2) (by decide) (by decide) ?_
        show Steps p.tables e below (T18.setTop (mkF m 36 #[.val (.int p0), .val (.int p1), .val (.int p2), .val (.int (2 : Int32)), .val (.ref a_GET_REGION), .val (.int (8 : Int32)), .val (.int (p2 &&& (3 : Int32))), .unset, .unset] [])) _
        refine XS.iload X18.here hx rfl (hb hby at_36) rfl ?_
        show Steps p.tables e below (T18.setTop (mkF m 38 #[.val (.int p0), .val (.int p1), .val (.int p2), .val (.int (2 : Int32)), .val (.ref a_GET_REGION), .val (.int (8 : Int32)), .val (.int (p2 &&& (3 : Int32))), .unset, .unset] [(.int (p2 &&& (3 : Int32)))])) _
        refine XS.iconst X18.here hx rfl (hb hby at_38) ?_
        exact kt
      by_cases hc39_23 : (p2 &&& (3 : Int32)) = (1 : Int32)
      · refine own_st (A' := T18.setTop (mkF m 82 #[.val (.int p0), .val (.int p1), .val (.int p2), .val (.int (2 : Int32)), .val (.ref a_GET_REGION), .val (.int (8 : Int32)), .val (.int (p2 &&& (3 : Int32))), .val (.int (8 : Int32)), .unset] [])) (fun tg kt => ?_) ?_
        · show Steps p.tables e below (T18.setTop (mkF m 39 #[.val (.int p0), .val (.int p1), .val (.int p2), .val (.int (2 : Int32)), .val (.ref a_GET_REGION), .val (.int (8 : Int32)), .val (.int (p2 &&& (3 : Int32))), .unset, .unset] [(.int (1 : Int32)), (.int (p2 &&& (3 : Int32)))])) _
          refine XS.icmpNo X18.here hx rfl (hb hby at_39) rfl (teq hc39_23).2 ?_
          show Steps p.tables e below (T18.setTop (mkF m 42 #[.val (.int p0), .val (.int p1), .val (.int p2), .val (.int (2 : Int32)), .val (.ref a_GET_REGION), .val (.int (8 : Int32)), .val (.int (p2 &&& (3 : Int32))), .unset, .unset] [])) _
          refine XS.iload X18.here hx rfl (hb hby at_42) rfl ?_
          show Steps p.tables e below (T18.setTop (mkF m 44 #[.val (.int p0), .val (.int p1), .val (.int p2), .val (.int (2 : Int32)), .val (.ref a_GET_REGION), .val (.int (8 : Int32)), .val (.int (p2 &&& (3 : Int32))), .unset, .unset] [(.int (8 : Int32))])) _
          refine XS.istore X18.here hx rfl (hb hby at_44) rfl (l' := #[.val (.int p0), .val (.int p1), .val (.int p2), .val (.int (2 : Int32)), .val (.ref a_GET_REGION), .val (.int (8 : Int32)), .val (.int (p2 &&& (3 : Int32))), .val (.int (8 : Int32)), .unset]) rfl ?_
          show Steps p.tables e below (T18.setTop (mkF m 46 #[.val (.int p0), .val (.int p1), .val (.int p2), .val (.int (2 : Int32)), .val (.ref a_GET_REGION), .val (.int (8 : Int32)), .val (.int (p2 &&& (3 : Int32))), .val (.int (8 : Int32)), .unset] [])) _
          refine XS.goto X18.here hx rfl (pc0 := 46) (pc' := 82) rfl (hb hby at_46) (by decide) (by decide) ?_
          exact kt
        exact tl (8 : Int32)
      · refine own_st (A' := T18.setTop (mkF m 52 #[.val (.int p0), .val (.int p1), .val (.int p2), .val (.int (2 : Int32)), .val (.ref a_GET_REGION), .val (.int (8 : Int32)), .val (.int (p2 &&& (3 : Int32))), .unset, .unset] [(.int (2 : Int32)), (.int (p2 &&& (3 : Int32)))])) (fun tg kt => ?_) ?_
        · show Steps p.tables e below (T18.setTop (mkF m 39 #[.val (.int p0), .val (.int p1), .val (.int p2), .val (.int (2 : Int32)), .val (.ref a_GET_REGION), .val (.int (8 : Int32)), .val (.int (p2 &&& (3 : Int32))), .unset, .unset] [(.int (1 : Int32)), (.int (p2 &&& (3 : Int32)))])) _
          refine XS.icmpYes X18.here hx rfl (pc0 := 39) (pc' := 49) rfl (hb hby at_39) rfl (feq hc39_23).2 (by decide) (by decide) ?_
          show Steps p.tables e below (T18.setTop (mkF m 49 #[.val (.int p0), .val (.int p1), .val (.int p2), .val (.int (2 : Int32)), .val (.ref a_GET_REGION), .val (.int (8 : Int32)), .val (.int (p2 &&& (3 : Int32))), .unset, .unset] [])) _
          refine XS.iload X18.here hx rfl (hb hby at_49) rfl ?_
          show Steps p.tables e below (T18.setTop (mkF m 51 #[.val (.int p0), .val (.int p1), .val (.int p2), .val (.int (2 : Int32)), .val (.ref a_GET_REGION), .val (.int (8 : Int32)), .val (.int (p2 &&& (3 : Int32))), .unset, .unset] [(.int (p2 &&& (3 : Int32)))])) _
          refine XS.iconst X18.here hx rfl (hb hby at_51) ?_
          exact kt
        by_cases hc52_24 : (p2 &&& (3 : Int32)) = (2 : Int32)
        · refine own_st (A' := T18.setTop (mkF m 82 #[.val (.int p0), .val (.int p1), .val (.int p2), .val (.int (2 : Int32)), .val (.ref a_GET_REGION), .val (.int (8 : Int32)), .val (.int (p2 &&& (3 : Int32))), .val (.int (8 : Int32)), .unset] [])) (fun tg kt => ?_) ?_
          · show Steps p.tables e below (T18.setTop (mkF m 52 #[.val (.int p0), .val (.int p1), .val (.int p2), .val (.int (2 : Int32)), .val (.ref a_GET_REGION), .val (.int (8 : Int32)), .val (.int (p2 &&& (3 : Int32))), .unset, .unset] [(.int (2 : Int32)), (.int (p2 &&& (3 : Int32)))])) _
            refine XS.icmpNo X18.here hx rfl (hb hby at_52) rfl (teq hc52_24).2 ?_
            show Steps p.tables e below (T18.setTop (mkF m 55 #[.val (.int p0), .val (.int p1), .val (.int p2), .val (.int (2 : Int32)), .val (.ref a_GET_REGION), .val (.int (8 : Int32)), .val (.int (p2 &&& (3 : Int32))), .unset, .unset] [])) _
            refine XS.iloadN X18.here hx rfl (hb hby at_55) rfl ?_
            show Steps p.tables e below (T18.setTop (mkF m 56 #[.val (.int p0), .val (.int p1), .val (.int p2), .val (.int (2 : Int32)), .val (.ref a_GET_REGION), .val (.int (8 : Int32)), .val (.int (p2 &&& (3 : Int32))), .unset, .unset] [(.int (2 : Int32))])) _
            refine XS.iconst X18.here hx rfl (hb hby at_56) ?_
            show Steps p.tables e below (T18.setTop (mkF m 57 #[.val (.int p0), .val (.int p1), .val (.int p2), .val (.int (2 : Int32)), .val (.ref a_GET_REGION), .val (.int (8 : Int32)), .val (.int (p2 &&& (3 : Int32))), .unset, .unset] [(.int (4 : Int32)), (.int (2 : Int32))])) _
            refine XS.icmpYes X18.here hx rfl (pc0 := 57) (pc' := 65) rfl (hb hby at_57) rfl (feq ((by decide) : ¬ ((2 : Int32) = (4 : Int32)))).2 (by decide) (by decide) ?_
            show Steps p.tables e below (T18.setTop (mkF m 65 #[.val (.int p0), .val (.int p1), .val (.int p2), .val (.int (2 : Int32)), .val (.ref a_GET_REGION), .val (.int (8 : Int32)), .val (.int (p2 &&& (3 : Int32))), .unset, .unset] [])) _
            refine XS.iload X18.here hx rfl (hb hby at_65) rfl ?_
            show Steps p.tables e below (T18.setTop (mkF m 67 #[.val (.int p0), .val (.int p1), .val (.int p2), .val (.int (2 : Int32)), .val (.ref a_GET_REGION), .val (.int (8 : Int32)), .val (.int (p2 &&& (3 : Int32))), .unset, .unset] [(.int (8 : Int32))])) _
            refine XS.istore X18.here hx rfl (hb hby at_67) rfl (l' := #[.val (.int p0), .val (.int p1), .val (.int p2), .val (.int (2 : Int32)), .val (.ref a_GET_REGION), .val (.int (8 : Int32)), .val (.int (p2 &&& (3 : Int32))), .val (.int (8 : Int32)), .unset]) rfl ?_
            show Steps p.tables e below (T18.setTop (mkF m 69 #[.val (.int p0), .val (.int p1), .val (.int p2), .val (.int (2 : Int32)), .val (.ref a_GET_REGION), .val (.int (8 : Int32)), .val (.int (p2 &&& (3 : Int32))), .val (.int (8 : Int32)), .unset] [])) _
            refine XS.goto X18.here hx rfl (pc0 := 69) (pc' := 82) rfl (hb hby at_69) (by decide) (by decide) ?_
            exact kt
          exact tl (8 : Int32)
        · refine own_st (A' := T18.setTop (mkF m 82 #[.val (.int p0), .val (.int p1), .val (.int p2), .val (.int (2 : Int32)), .val (.ref a_GET_REGION), .val (.int (8 : Int32)), .val (.int (p2 &&& (3 : Int32))), .val (.int ((8 : Int32) + ((p1 &&& (3 : Int32)) - (2 : Int32)))), .unset] [])) (fun tg kt => ?_) ?_
          · show Steps p.tables e below (T18.setTop (mkF m 52 #[.val (.int p0), .val (.int p1), .val (.int p2), .val (.int (2 : Int32)), .val (.ref a_GET_REGION), .val (.int (8 : Int32)), .val (.int (p2 &&& (3 : Int32))), .unset, .unset] [(.int (2 : Int32)), (.int (p2 &&& (3 : Int32)))])) _
            refine XS.icmpYes X18.here hx rfl (pc0 := 52) (pc' := 72) rfl (hb hby at_52) rfl (feq hc52_24).2 (by decide) (by decide) ?_
            show Steps p.tables e below (T18.setTop (mkF m 72 #[.val (.int p0), .val (.int p1), .val (.int p2), .val (.int (2 : Int32)), .val (.ref a_GET_REGION), .val (.int (8 : Int32)), .val (.int (p2 &&& (3 : Int32))), .unset, .unset] [])) _
            refine XS.iload X18.here hx rfl (hb hby at_72) rfl ?_
            show Steps p.tables e below (T18.setTop (mkF m 74 #[.val (.int p0), .val (.int p1), .val (.int p2), .val (.int (2 : Int32)), .val (.ref a_GET_REGION), .val (.int (8 : Int32)), .val (.int (p2 &&& (3 : Int32))), .unset, .unset] [(.int (8 : Int32))])) _
            refine XS.iloadN X18.here hx rfl (hb hby at_74) rfl ?_
            show Steps p.tables e below (T18.setTop (mkF m 75 #[.val (.int p0), .val (.int p1), .val (.int p2), .val (.int (2 : Int32)), .val (.ref a_GET_REGION), .val (.int (8 : Int32)), .val (.int (p2 &&& (3 : Int32))), .unset, .unset] [(.int p1), (.int (8 : Int32))])) _
            refine XS.iconst X18.here hx rfl (hb hby at_75) ?_
            show Steps p.tables e below (T18.setTop (mkF m 76 #[.val (.int p0), .val (.int p1), .val (.int p2), .val (.int (2 : Int32)), .val (.ref a_GET_REGION), .val (.int (8 : Int32)), .val (.int (p2 &&& (3 : Int32))), .unset, .unset] [(.int (3 : Int32)), (.int p1), (.int (8 : Int32))])) _
            refine XS.iand X18.here hx rfl (hb hby at_76) rfl ?_
            show Steps p.tables e below (T18.setTop (mkF m 77 #[.val (.int p0), .val (.int p1), .val (.int p2), .val (.int (2 : Int32)), .val (.ref a_GET_REGION), .val (.int (8 : Int32)), .val (.int (p2 &&& (3 : Int32))), .unset, .unset] [(.int (p1 &&& (3 : Int32))), (.int (8 : Int32))])) _
            refine XS.iconst X18.here hx rfl (hb hby at_77) ?_
            show Steps p.tables e below (T18.setTop (mkF m 78 #[.val (.int p0), .val (.int p1), .val (.int p2), .val (.int (2 : Int32)), .val (.ref a_GET_REGION), .val (.int (8 : Int32)), .val (.int (p2 &&& (3 : Int32))), .unset, .unset] [(.int (2 : Int32)), (.int (p1 &&& (3 : Int32))), (.int (8 : Int32))])) _
            refine XS.isub X18.here hx rfl (hb hby at_78) rfl ?_
            show Steps p.tables e below (T18.setTop (mkF m 79 #[.val (.int p0), .val (.int p1), .val (.int p2), .val (.int (2 : Int32)), .val (.ref a_GET_REGION), .val (.int (8 : Int32)), .val (.int (p2 &&& (3 : Int32))), .unset, .unset] [(.int ((p1 &&& (3 : Int32)) - (2 : Int32))), (.int (8 : Int32))])) _
            refine XS.iadd X18.here hx rfl (hb hby at_79) rfl ?_
            show Steps p.tables e below (T18.setTop (mkF m 80 #[.val (.int p0), .val (.int p1), .val (.int p2), .val (.int (2 : Int32)), .val (.ref a_GET_REGION), .val (.int (8 : Int32)), .val (.int (p2 &&& (3 : Int32))), .unset, .unset] [(.int ((8 : Int32) + ((p1 &&& (3 : Int32)) - (2 : Int32))))])) _
            refine XS.istore X18.here hx rfl (hb hby at_80) rfl (l' := #[.val (.int p0), .val (.int p1), .val (.int p2), .val (.int (2 : Int32)), .val (.ref a_GET_REGION), .val (.int (8 : Int32)), .val (.int (p2 &&& (3 : Int32))), .val (.int ((8 : Int32) + ((p1 &&& (3 : Int32)) - (2 : Int32)))), .unset]) rfl ?_
            exact kt
          exact tl ((8 : Int32) + ((p1 &&& (3 : Int32)) - (2 : Int32)))
  · show own_Gl _ _ _ _ _ _ _ _ (s₁.setTop (mkF m 7 #[.val (.int p0), .val (.int p1), .val (.int p2), .unset, .unset, .unset, .unset, .unset, .unset] [(.int (3 : Int32))]))
    refine own_st (A' := s₁.setTop (mkF m 9 #[.val (.int p0), .val (.int p1), .val (.int p2), .val (.int (3 : Int32)), .unset, .unset, .unset, .unset, .unset] [(.int (3 : Int32))])) (fun tg kt => ?_) ?_
    · show Steps p.tables e below (s₁.setTop (mkF m 7 #[.val (.int p0), .val (.int p1), .val (.int p2), .unset, .unset, .unset, .unset, .unset, .unset] [(.int (3 : Int32))])) _
      refine XS.istoreN X0.here hx rfl (hb hby at_7) rfl (l' := #[.val (.int p0), .val (.int p1), .val (.int p2), .val (.int (3 : Int32)), .unset, .unset, .unset, .unset, .unset]) rfl ?_
      show Steps p.tables e below (s₁.setTop (mkF m 8 #[.val (.int p0), .val (.int p1), .val (.int p2), .val (.int (3 : Int32)), .unset, .unset, .unset, .unset, .unset] [])) _
      refine XS.iloadN X0.here hx rfl (hb hby at_8) rfl ?_
      exact kt
    obtain ⟨_, _, ⟨T25, L25, k25, n25⟩, -, X25, ⟨Lc25, hQ25, l25, y25, z25⟩, st25⟩ := Jvm.LawKit.callS X0 hx (y := (⟨"com/example/tagwire/tagwire/bb/CommandIsAnsweredByPinLaw", "pick", "(I)Lcom/example/tagwire/tagwire/bb/Command;"⟩ : MethodName)) hown (mvT hZ (hw _ (List.mem_of_getElem? (i := 1) rfl))) (mvT hZ (hw _ (List.mem_of_getElem? (i := 2) rfl))) (mvT hZ (hw _ (List.mem_of_getElem? (i := 3) rfl))) (mvT hZ (hw _ (List.mem_of_getElem? (i := 4) rfl))) (by decide) (backOf (W := 0) (rm1 l Z a0 hw [] (3 : Int32) a_MODULE_INFORMATION a_SET_REGION a_GET_REGION a_SELECT_PARAMETER a_SELECT_MODE a_SINGLE_POLLING a_MULTIPLE_POLLING a_STOP_MULTIPLE_POLLING a_READ a_WRITE a_SET_POWER a_GET_POWER h0 n0 Z0 S_MODULE_INFORMATION S_SET_REGION S_GET_REGION S_SELECT_PARAMETER S_SELECT_MODE S_SINGLE_POLLING S_MULTIPLE_POLLING S_STOP_MULTIPLE_POLLING S_READ S_WRITE S_SET_POWER S_GET_POWER) hZ (hw _ (List.mem_of_getElem? (i := 4) rfl)) (hw _ (List.mem_of_getElem? (i := 3) rfl)) (by decide) (by decide)) (g := (mkF m 9 #[.val (.int p0), .val (.int p1), .val (.int p2), .val (.int (3 : Int32)), .unset, .unset, .unset, .unset, .unset] [(.int (3 : Int32))])) rfl (by rw [hml]; rfl) (argsL := [(.int (3 : Int32))]) (rest := []) (lenOf own_pd2 rfl) rfl (by show 2 * 0 + _ ≤ _; exact Nat.le_of_eq rfl) (hb hby at_9) (fun _ _ => ⟨rfl, e0, (by decide : 0 + 0 ≤ _), (by decide : 0 + 0 ≤ _)⟩)
    dsimp only [Pt.U, Pt.locs, Pt.cells, Pt.slots] at X25 l25 y25 z25 st25 hQ25
    subst l25 y25 z25
    obtain ⟨hv25, hr25⟩ := hQ25
    rw [show own_pick1 (3 : Int32) a_MODULE_INFORMATION a_SET_REGION a_GET_REGION a_SELECT_PARAMETER a_SELECT_MODE a_SINGLE_POLLING a_MULTIPLE_POLLING a_STOP_MULTIPLE_POLLING a_READ a_WRITE a_SET_POWER a_GET_POWER = a_SELECT_PARAMETER from rfl] at hv25
    have hQ25 := And.intro hv25 hr25
    obtain ⟨rfl, Nq25, eq25⟩ := hQ25
    have N25 := Fr.app N0 Nq25
    refine own_st st25 ?_
    show own_Gl _ _ _ _ _ _ _ _ (T25.setTop (mkF m 12 #[.val (.int p0), .val (.int p1), .val (.int p2), .val (.int (3 : Int32)), .unset, .unset, .unset, .unset, .unset] [(.ref a_SELECT_PARAMETER)]))
    refine own_st (A' := T25.setTop (mkF m 15 #[.val (.int p0), .val (.int p1), .val (.int p2), .val (.int (3 : Int32)), .val (.ref a_SELECT_PARAMETER), .unset, .unset, .unset, .unset] [(.int (3 : Int32))])) (fun tg kt => ?_) ?_
    · show Steps p.tables e below (T25.setTop (mkF m 12 #[.val (.int p0), .val (.int p1), .val (.int p2), .val (.int (3 : Int32)), .unset, .unset, .unset, .unset, .unset] [(.ref a_SELECT_PARAMETER)])) _
      refine XS.astore X25.here hx rfl (hb hby at_12) rfl rfl (l' := #[.val (.int p0), .val (.int p1), .val (.int p2), .val (.int (3 : Int32)), .val (.ref a_SELECT_PARAMETER), .unset, .unset, .unset, .unset]) rfl ?_
      show Steps p.tables e below (T25.setTop (mkF m 14 #[.val (.int p0), .val (.int p1), .val (.int p2), .val (.int (3 : Int32)), .val (.ref a_SELECT_PARAMETER), .unset, .unset, .unset, .unset] [])) _
      refine XS.iloadN X25.here hx rfl (hb hby at_14) rfl ?_
      exact kt
    obtain ⟨_, _, ⟨T26, L26, k26, n26⟩, -, X26, ⟨Lc26, hQ26, l26, y26, z26⟩, st26⟩ := Jvm.LawKit.callS X25 hx (y := (⟨"com/example/tagwire/tagwire/bb/CommandIsAnsweredByPinLaw", "codeOf", "(I)I"⟩ : MethodName)) hown (mvT hZ (hw _ (List.mem_of_getElem? (i := 8) rfl))) (mvT hZ (hw _ (List.mem_of_getElem? (i := 9) rfl))) (mvT hZ (hw _ (List.mem_of_getElem? (i := 3) rfl))) (mvT hZ (hw _ (List.mem_of_getElem? (i := 10) rfl))) (by decide) (backOf (W := 0) (rm2 l Z a0 hw [] (3 : Int32) h0 n0 Z0) hZ (hw _ (List.mem_of_getElem? (i := 10) rfl)) (hw _ (List.mem_of_getElem? (i := 3) rfl)) (by decide) (by decide)) (g := (mkF m 15 #[.val (.int p0), .val (.int p1), .val (.int p2), .val (.int (3 : Int32)), .val (.ref a_SELECT_PARAMETER), .unset, .unset, .unset, .unset] [(.int (3 : Int32))])) rfl (by rw [hml]; rfl) (argsL := [(.int (3 : Int32))]) (rest := []) (lenOf own_pd3 rfl) rfl (by show 2 * 0 + _ ≤ _; exact Nat.le_of_eq rfl) (hb hby at_15) (fun _ _ => ⟨rfl, eq25, (by decide : 0 + 0 ≤ _), (by decide : 0 + 0 ≤ _)⟩)
    dsimp only [Pt.U, Pt.locs, Pt.cells, Pt.slots] at X26 l26 y26 z26 st26 hQ26
    subst l26 y26 z26
    obtain ⟨hv26, hr26⟩ := hQ26
    rw [show own_code (3 : Int32) = (12 : Int32) from rfl] at hv26
    have hQ26 := And.intro hv26 hr26
    obtain ⟨rfl, Nq26, eq26⟩ := hQ26
    have N26 := Fr.app N25 Nq26
    refine own_st st26 ?_
    show own_Gl _ _ _ _ _ _ _ _ (T26.setTop (mkF m 18 #[.val (.int p0), .val (.int p1), .val (.int p2), .val (.int (3 : Int32)), .val (.ref a_SELECT_PARAMETER), .unset, .unset, .unset, .unset] [(.int (12 : Int32))]))
    refine own_st (A' := T26.setTop (mkF m 25 #[.val (.int p0), .val (.int p1), .val (.int p2), .val (.int (3 : Int32)), .val (.ref a_SELECT_PARAMETER), .val (.int (12 : Int32)), .val (.int (p2 &&& (3 : Int32))), .unset, .unset] [])) (fun tg kt => ?_) ?_
    · show Steps p.tables e below (T26.setTop (mkF m 18 #[.val (.int p0), .val (.int p1), .val (.int p2), .val (.int (3 : Int32)), .val (.ref a_SELECT_PARAMETER), .unset, .unset, .unset, .unset] [(.int (12 : Int32))])) _
      refine XS.istore X26.here hx rfl (hb hby at_18) rfl (l' := #[.val (.int p0), .val (.int p1), .val (.int p2), .val (.int (3 : Int32)), .val (.ref a_SELECT_PARAMETER), .val (.int (12 : Int32)), .unset, .unset, .unset]) rfl ?_
      show Steps p.tables e below (T26.setTop (mkF m 20 #[.val (.int p0), .val (.int p1), .val (.int p2), .val (.int (3 : Int32)), .val (.ref a_SELECT_PARAMETER), .val (.int (12 : Int32)), .unset, .unset, .unset] [])) _
      refine XS.iloadN X26.here hx rfl (hb hby at_20) rfl ?_
      show Steps p.tables e below (T26.setTop (mkF m 21 #[.val (.int p0), .val (.int p1), .val (.int p2), .val (.int (3 : Int32)), .val (.ref a_SELECT_PARAMETER), .val (.int (12 : Int32)), .unset, .unset, .unset] [(.int p2)])) _
      refine XS.iconst X26.here hx rfl (hb hby at_21) ?_
      show Steps p.tables e below (T26.setTop (mkF m 22 #[.val (.int p0), .val (.int p1), .val (.int p2), .val (.int (3 : Int32)), .val (.ref a_SELECT_PARAMETER), .val (.int (12 : Int32)), .unset, .unset, .unset] [(.int (3 : Int32)), (.int p2)])) _
      refine XS.iand X26.here hx rfl (hb hby at_22) rfl ?_
      show Steps p.tables e below (T26.setTop (mkF m 23 #[.val (.int p0), .val (.int p1), .val (.int p2), .val (.int (3 : Int32)), .val (.ref a_SELECT_PARAMETER), .val (.int (12 : Int32)), .unset, .unset, .unset] [(.int (p2 &&& (3 : Int32)))])) _
      refine XS.istore X26.here hx rfl (hb hby at_23) rfl (l' := #[.val (.int p0), .val (.int p1), .val (.int p2), .val (.int (3 : Int32)), .val (.ref a_SELECT_PARAMETER), .val (.int (12 : Int32)), .val (.int (p2 &&& (3 : Int32))), .unset, .unset]) rfl ?_
      exact kt
    have tl : ∀ (q : Int32), own_Gl FrameEnd p e below s (Q0 Z p0 p1 p2 a_MODULE_INFORMATION a_SET_REGION a_GET_REGION a_SELECT_PARAMETER a_SELECT_MODE a_SINGLE_POLLING a_MULTIPLE_POLLING a_STOP_MULTIPLE_POLLING a_READ a_WRITE a_SET_POWER a_GET_POWER h0 n0) room_1.cells room_1.slots (T26.setTop (mkF m 82 #[.val (.int p0), .val (.int p1), .val (.int p2), .val (.int (3 : Int32)), .val (.ref a_SELECT_PARAMETER), .val (.int (12 : Int32)), .val (.int (p2 &&& (3 : Int32))), .val (.int q), .unset] [])) := by
      intro q
      refine own_st (A' := T26.setTop (mkF m 115 #[.val (.int p0), .val (.int p1), .val (.int p2), .val (.int (3 : Int32)), .val (.ref a_SELECT_PARAMETER), .val (.int (12 : Int32)), .val (.int (p2 &&& (3 : Int32))), .val (.int q), .unset] [(.int (12 : Int32)), (.int q)])) (fun tg kt => ?_) ?_
      · show Steps p.tables e below (T26.setTop (mkF m 82 #[.val (.int p0), .val (.int p1), .val (.int p2), .val (.int (3 : Int32)), .val (.ref a_SELECT_PARAMETER), .val (.int (12 : Int32)), .val (.int (p2 &&& (3 : Int32))), .val (.int q), .unset] [])) _
        refine XS.iloadN X26.here hx rfl (hb hby at_82) rfl ?_
        show Steps p.tables e below (T26.setTop (mkF m 83 #[.val (.int p0), .val (.int p1), .val (.int p2), .val (.int (3 : Int32)), .val (.ref a_SELECT_PARAMETER), .val (.int (12 : Int32)), .val (.int (p2 &&& (3 : Int32))), .val (.int q), .unset] [(.int (3 : Int32))])) _
        refine XS.iconst X26.here hx rfl (hb hby at_83) ?_
        show Steps p.tables e below (T26.setTop (mkF m 84 #[.val (.int p0), .val (.int p1), .val (.int p2), .val (.int (3 : Int32)), .val (.ref a_SELECT_PARAMETER), .val (.int (12 : Int32)), .val (.int (p2 &&& (3 : Int32))), .val (.int q), .unset] [(.int (4 : Int32)), (.int (3 : Int32))])) _
        refine XS.icmpYes X26.here hx rfl (pc0 := 84) (pc' := 111) rfl (hb hby at_84) rfl (feq ((by decide) : ¬ ((3 : Int32) = (4 : Int32)))).2 (by decide) (by decide) ?_
        show Steps p.tables e below (T26.setTop (mkF m 111 #[.val (.int p0), .val (.int p1), .val (.int p2), .val (.int (3 : Int32)), .val (.ref a_SELECT_PARAMETER), .val (.int (12 : Int32)), .val (.int (p2 &&& (3 : Int32))), .val (.int q), .unset] [])) _
        refine XS.iload X26.here hx rfl (hb hby at_111) rfl ?_
        show Steps p.tables e below (T26.setTop (mkF m 113 #[.val (.int p0), .val (.int p1), .val (.int p2), .val (.int (3 : Int32)), .val (.ref a_SELECT_PARAMETER), .val (.int (12 : Int32)), .val (.int (p2 &&& (3 : Int32))), .val (.int q), .unset] [(.int q)])) _
        refine XS.iload X26.here hx rfl (hb hby at_113) rfl ?_
        exact kt
      by_cases hc115_27 : q = (12 : Int32)
      · refine own_st (A' := T26.setTop (mkF m 129 #[.val (.int p0), .val (.int p1), .val (.int p2), .val (.int (3 : Int32)), .val (.ref a_SELECT_PARAMETER), .val (.int (12 : Int32)), .val (.int (p2 &&& (3 : Int32))), .val (.int q), .val (.int (1 : Int32))] [(.int q), (.ref a_SELECT_PARAMETER)])) (fun tg kt => ?_) ?_
        · show Steps p.tables e below (T26.setTop (mkF m 115 #[.val (.int p0), .val (.int p1), .val (.int p2), .val (.int (3 : Int32)), .val (.ref a_SELECT_PARAMETER), .val (.int (12 : Int32)), .val (.int (p2 &&& (3 : Int32))), .val (.int q), .unset] [(.int (12 : Int32)), (.int q)])) _
          refine XS.icmpNo X26.here hx rfl (hb hby at_115) rfl (teq hc115_27).2 ?_
          show Steps p.tables e below (T26.setTop (mkF m 118 #[.val (.int p0), .val (.int p1), .val (.int p2), .val (.int (3 : Int32)), .val (.ref a_SELECT_PARAMETER), .val (.int (12 : Int32)), .val (.int (p2 &&& (3 : Int32))), .val (.int q), .unset] [])) _
          refine XS.iconst X26.here hx rfl (hb hby at_118) ?_
          show Steps p.tables e below (T26.setTop (mkF m 119 #[.val (.int p0), .val (.int p1), .val (.int p2), .val (.int (3 : Int32)), .val (.ref a_SELECT_PARAMETER), .val (.int (12 : Int32)), .val (.int (p2 &&& (3 : Int32))), .val (.int q), .unset] [(.int (1 : Int32))])) _
          refine XS.goto X26.here hx rfl (pc0 := 119) (pc' := 123) rfl (hb hby at_119) (by decide) (by decide) ?_
          show Steps p.tables e below (T26.setTop (mkF m 123 #[.val (.int p0), .val (.int p1), .val (.int p2), .val (.int (3 : Int32)), .val (.ref a_SELECT_PARAMETER), .val (.int (12 : Int32)), .val (.int (p2 &&& (3 : Int32))), .val (.int q), .unset] [(.int (1 : Int32))])) _
          refine XS.istore X26.here hx rfl (hb hby at_123) rfl (l' := #[.val (.int p0), .val (.int p1), .val (.int p2), .val (.int (3 : Int32)), .val (.ref a_SELECT_PARAMETER), .val (.int (12 : Int32)), .val (.int (p2 &&& (3 : Int32))), .val (.int q), .val (.int (1 : Int32))]) rfl ?_
          show Steps p.tables e below (T26.setTop (mkF m 125 #[.val (.int p0), .val (.int p1), .val (.int p2), .val (.int (3 : Int32)), .val (.ref a_SELECT_PARAMETER), .val (.int (12 : Int32)), .val (.int (p2 &&& (3 : Int32))), .val (.int q), .val (.int (1 : Int32))] [])) _
          refine XS.aload X26.here hx rfl (hb hby at_125) rfl rfl ?_
          show Steps p.tables e below (T26.setTop (mkF m 127 #[.val (.int p0), .val (.int p1), .val (.int p2), .val (.int (3 : Int32)), .val (.ref a_SELECT_PARAMETER), .val (.int (12 : Int32)), .val (.int (p2 &&& (3 : Int32))), .val (.int q), .val (.int (1 : Int32))] [(.ref a_SELECT_PARAMETER)])) _
          refine XS.iload X26.here hx rfl (hb hby at_127) rfl ?_
          exact kt
        obtain ⟨cq28, kq28, q28a, q28b, q28c⟩ := isOf hZ eq26 E_SELECT_PARAMETER
        obtain ⟨_, _, ⟨T28, L28, k28, n28⟩, -, X28, ⟨Lc28, hQ28, l28, y28, z28⟩, st28⟩ := X26.virtualBack hx (y := (⟨"com/example/tagwire/tagwire/bb/Command", "isAnsweredBy", "(I)Z"⟩ : MethodName)) (z := (⟨"com/example/tagwire/tagwire/bb/Command", "isAnsweredBy", "(I)Z"⟩ : MethodName)) hown (mvT hZ (hw _ (List.mem_of_getElem? (i := 11) rfl))) (mvT hZ (hw _ (List.mem_of_getElem? (i := 12) rfl))) (notFace_of_selects (args := #[]) (mvT hZ (hw _ (List.mem_of_getElem? (i := 14) rfl)))) (mvT hZ (hw _ (List.mem_of_getElem? (i := 14) rfl))) (mvT hZ (hw _ (List.mem_of_getElem? (i := 13) rfl))) (by decide) (backOf (W := 0) (rm3 l Z a0 hw [] a_SELECT_PARAMETER q (12 : Int32) (12 : Int32) h0 n0 Z0 F_SELECT_PARAMETER_code F_SELECT_PARAMETER_answerCode) hZ (hw _ (List.mem_of_getElem? (i := 15) rfl)) (hw _ (List.mem_of_getElem? (i := 6) rfl)) (by decide) (by decide)) q28a q28c (g := (mkF m 129 #[.val (.int p0), .val (.int p1), .val (.int p2), .val (.int (3 : Int32)), .val (.ref a_SELECT_PARAMETER), .val (.int (12 : Int32)), .val (.int (p2 &&& (3 : Int32))), .val (.int q), .val (.int (1 : Int32))] [(.int q), (.ref a_SELECT_PARAMETER)])) rfl (by rw [hml]; rfl) (Steps.refl _) (argsL := [(.int q)]) (rest := []) (lenOf own_pd4 rfl) rfl (by show 2 * 0 + _ ≤ _; exact Nat.le_of_eq rfl) (hb hby at_129) (fun _ _ => ⟨rfl, eq26, (by decide : 0 + 0 ≤ _), (by decide : 0 + 0 ≤ _)⟩)
        dsimp only [Pt.U, Pt.locs, Pt.cells, Pt.slots] at X28 l28 y28 z28 st28 hQ28
        subst l28 y28 z28
        obtain ⟨hv28, hr28⟩ := hQ28
        rw [show own_ans q (12 : Int32) (12 : Int32) = (1 : Int32) from by unfold own_ans; rw [if_pos hc115_27]] at hv28
        have hQ28 := And.intro hv28 hr28
        obtain ⟨rfl, Nq28, eq28⟩ := hQ28
        have N28 := Fr.app N26 Nq28
        refine own_tr st28 ?_
        show own_Gl _ _ _ _ _ _ _ _ (T28.setTop (mkF m 132 #[.val (.int p0), .val (.int p1), .val (.int p2), .val (.int (3 : Int32)), .val (.ref a_SELECT_PARAMETER), .val (.int (12 : Int32)), .val (.int (p2 &&& (3 : Int32))), .val (.int q), .val (.int (1 : Int32))] [(.int (1 : Int32))]))
        refine own_st (A' := T28.setTop (mkF m 142 #[.val (.int p0), .val (.int p1), .val (.int p2), .val (.int (3 : Int32)), .val (.ref a_SELECT_PARAMETER), .val (.int (12 : Int32)), .val (.int (p2 &&& (3 : Int32))), .val (.int q), .val (.int (1 : Int32))] [(.int (1 : Int32))])) (fun tg kt => ?_) ?_
        · show Steps p.tables e below (T28.setTop (mkF m 132 #[.val (.int p0), .val (.int p1), .val (.int p2), .val (.int (3 : Int32)), .val (.ref a_SELECT_PARAMETER), .val (.int (12 : Int32)), .val (.int (p2 &&& (3 : Int32))), .val (.int q), .val (.int (1 : Int32))] [(.int (1 : Int32))])) _
          refine XS.iload X28.here hx rfl (hb hby at_132) rfl ?_
          show Steps p.tables e below (T28.setTop (mkF m 134 #[.val (.int p0), .val (.int p1), .val (.int p2), .val (.int (3 : Int32)), .val (.ref a_SELECT_PARAMETER), .val (.int (12 : Int32)), .val (.int (p2 &&& (3 : Int32))), .val (.int q), .val (.int (1 : Int32))] [(.int (1 : Int32)), (.int (1 : Int32))])) _
          refine XS.icmpNo X28.here hx rfl (hb hby at_134) rfl (teq ((by decide) : (1 : Int32) = (1 : Int32))).2 ?_
          show Steps p.tables e below (T28.setTop (mkF m 137 #[.val (.int p0), .val (.int p1), .val (.int p2), .val (.int (3 : Int32)), .val (.ref a_SELECT_PARAMETER), .val (.int (12 : Int32)), .val (.int (p2 &&& (3 : Int32))), .val (.int q), .val (.int (1 : Int32))] [])) _
          refine XS.iconst X28.here hx rfl (hb hby at_137) ?_
          show Steps p.tables e below (T28.setTop (mkF m 138 #[.val (.int p0), .val (.int p1), .val (.int p2), .val (.int (3 : Int32)), .val (.ref a_SELECT_PARAMETER), .val (.int (12 : Int32)), .val (.int (p2 &&& (3 : Int32))), .val (.int q), .val (.int (1 : Int32))] [(.int (1 : Int32))])) _
          refine XS.goto X28.here hx rfl (pc0 := 138) (pc' := 142) rfl (hb hby at_138) (by decide) (by decide) ?_
          exact kt
        refine own_ret X28 (v := some (.int (1 : Int32))) (fun h => by rw [Bd.returns] at h; cases h) hlk (by decide) (by decide) ?_ (fun fs hr => ?_)
        · show Q0 Z p0 p1 p2 a_MODULE_INFORMATION a_SET_REGION a_GET_REGION a_SELECT_PARAMETER a_SELECT_MODE a_SINGLE_POLLING a_MULTIPLE_POLLING a_STOP_MULTIPLE_POLLING a_READ a_WRITE a_SET_POWER a_GET_POWER h0 n0 (some (.int (1 : Int32))) T28.heap _
          rw [eq28]
          exact ⟨rfl, N28⟩
        · show Steps p.tables e below (T28.setTop (mkF m 142 #[.val (.int p0), .val (.int p1), .val (.int p2), .val (.int (3 : Int32)), .val (.ref a_SELECT_PARAMETER), .val (.int (12 : Int32)), .val (.int (p2 &&& (3 : Int32))), .val (.int q), .val (.int (1 : Int32))] [(.int (1 : Int32))])) _
          exact retN X28 hx (t := .boolean) Bd.returns (by simp) (hb hby at_142) hr
      · refine own_st (A' := T26.setTop (mkF m 129 #[.val (.int p0), .val (.int p1), .val (.int p2), .val (.int (3 : Int32)), .val (.ref a_SELECT_PARAMETER), .val (.int (12 : Int32)), .val (.int (p2 &&& (3 : Int32))), .val (.int q), .val (.int (0 : Int32))] [(.int q), (.ref a_SELECT_PARAMETER)])) (fun tg kt => ?_) ?_
        · show Steps p.tables e below (T26.setTop (mkF m 115 #[.val (.int p0), .val (.int p1), .val (.int p2), .val (.int (3 : Int32)), .val (.ref a_SELECT_PARAMETER), .val (.int (12 : Int32)), .val (.int (p2 &&& (3 : Int32))), .val (.int q), .unset] [(.int (12 : Int32)), (.int q)])) _
          refine XS.icmpYes X26.here hx rfl (pc0 := 115) (pc' := 122) rfl (hb hby at_115) rfl (feq hc115_27).2 (by decide) (by decide) ?_
          show Steps p.tables e below (T26.setTop (mkF m 122 #[.val (.int p0), .val (.int p1), .val (.int p2), .val (.int (3 : Int32)), .val (.ref a_SELECT_PARAMETER), .val (.int (12 : Int32)), .val (.int (p2 &&& (3 : Int32))), .val (.int q), .unset] [])) _
          refine XS.iconst X26.here hx rfl (hb hby at_122) ?_
          show Steps p.tables e below (T26.setTop (mkF m 123 #[.val (.int p0), .val (.int p1), .val (.int p2), .val (.int (3 : Int32)), .val (.ref a_SELECT_PARAMETER), .val (.int (12 : Int32)), .val (.int (p2 &&& (3 : Int32))), .val (.int q), .unset] [(.int (0 : Int32))])) _
          refine XS.istore X26.here hx rfl (hb hby at_123) rfl (l' := #[.val (.int p0), .val (.int p1), .val (.int p2), .val (.int (3 : Int32)), .val (.ref a_SELECT_PARAMETER), .val (.int (12 : Int32)), .val (.int (p2 &&& (3 : Int32))), .val (.int q), .val (.int (0 : Int32))]) rfl ?_
          show Steps p.tables e below (T26.setTop (mkF m 125 #[.val (.int p0), .val (.int p1), .val (.int p2), .val (.int (3 : Int32)), .val (.ref a_SELECT_PARAMETER), .val (.int (12 : Int32)), .val (.int (p2 &&& (3 : Int32))), .val (.int q), .val (.int (0 : Int32))] [])) _
          refine XS.aload X26.here hx rfl (hb hby at_125) rfl rfl ?_
          show Steps p.tables e below (T26.setTop (mkF m 127 #[.val (.int p0), .val (.int p1), .val (.int p2), .val (.int (3 : Int32)), .val (.ref a_SELECT_PARAMETER), .val (.int (12 : Int32)), .val (.int (p2 &&& (3 : Int32))), .val (.int q), .val (.int (0 : Int32))] [(.ref a_SELECT_PARAMETER)])) _
          refine XS.iload X26.here hx rfl (hb hby at_127) rfl ?_
          exact kt
        obtain ⟨cq29, kq29, q29a, q29b, q29c⟩ := isOf hZ eq26 E_SELECT_PARAMETER
        obtain ⟨_, _, ⟨T29, L29, k29, n29⟩, -, X29, ⟨Lc29, hQ29, l29, y29, z29⟩, st29⟩ := X26.virtualBack hx (y := (⟨"com/example/tagwire/tagwire/bb/Command", "isAnsweredBy", "(I)Z"⟩ : MethodName)) (z := (⟨"com/example/tagwire/tagwire/bb/Command", "isAnsweredBy", "(I)Z"⟩ : MethodName)) hown (mvT hZ (hw _ (List.mem_of_getElem? (i := 11) rfl))) (mvT hZ (hw _ (List.mem_of_getElem? (i := 12) rfl))) (notFace_of_selects (args := #[]) (mvT hZ (hw _ (List.mem_of_getElem? (i := 14) rfl)))) (mvT hZ (hw _ (List.mem_of_getElem? (i := 14) rfl))) (mvT hZ (hw _ (List.mem_of_getElem? (i := 13) rfl))) (by decide) (backOf (W := 0) (rm3 l Z a0 hw [] a_SELECT_PARAMETER q (12 : Int32) (12 : Int32) h0 n0 Z0 F_SELECT_PARAMETER_code F_SELECT_PARAMETER_answerCode) hZ (hw _ (List.mem_of_getElem? (i := 15) rfl)) (hw _ (List.mem_of_getElem? (i := 6) rfl)) (by decide) (by decide)) q29a q29c (g := (mkF m 129 #[.val (.int p0), .val (.int p1), .val (.int p2), .val (.int (3 : Int32)), .val (.ref a_SELECT_PARAMETER), .val (.int (12 : Int32)), .val (.int (p2 &&& (3 : Int32))), .val (.int q), .val (.int (0 : Int32))] [(.int q), (.ref a_SELECT_PARAMETER)])) rfl (by rw [hml]; rfl) (Steps.refl _) (argsL := [(.int q)]) (rest := []) (lenOf own_pd4 rfl) rfl (by show 2 * 0 + _ ≤ _; exact Nat.le_of_eq rfl) (hb hby at_129) (fun _ _ => ⟨rfl, eq26, (by decide : 0 + 0 ≤ _), (by decide : 0 + 0 ≤ _)⟩)
        dsimp only [Pt.U, Pt.locs, Pt.cells, Pt.slots] at X29 l29 y29 z29 st29 hQ29
        subst l29 y29 z29
        obtain ⟨hv29, hr29⟩ := hQ29
        rw [show own_ans q (12 : Int32) (12 : Int32) = (0 : Int32) from by unfold own_ans; rw [if_neg hc115_27, if_neg hc115_27]] at hv29
        have hQ29 := And.intro hv29 hr29
        obtain ⟨rfl, Nq29, eq29⟩ := hQ29
        have N29 := Fr.app N26 Nq29
        refine own_tr st29 ?_
        show own_Gl _ _ _ _ _ _ _ _ (T29.setTop (mkF m 132 #[.val (.int p0), .val (.int p1), .val (.int p2), .val (.int (3 : Int32)), .val (.ref a_SELECT_PARAMETER), .val (.int (12 : Int32)), .val (.int (p2 &&& (3 : Int32))), .val (.int q), .val (.int (0 : Int32))] [(.int (0 : Int32))]))
        refine own_st (A' := T29.setTop (mkF m 142 #[.val (.int p0), .val (.int p1), .val (.int p2), .val (.int (3 : Int32)), .val (.ref a_SELECT_PARAMETER), .val (.int (12 : Int32)), .val (.int (p2 &&& (3 : Int32))), .val (.int q), .val (.int (0 : Int32))] [(.int (1 : Int32))])) (fun tg kt => ?_) ?_
        · show Steps p.tables e below (T29.setTop (mkF m 132 #[.val (.int p0), .val (.int p1), .val (.int p2), .val (.int (3 : Int32)), .val (.ref a_SELECT_PARAMETER), .val (.int (12 : Int32)), .val (.int (p2 &&& (3 : Int32))), .val (.int q), .val (.int (0 : Int32))] [(.int (0 : Int32))])) _
          refine XS.iload X29.here hx rfl (hb hby at_132) rfl ?_
          show Steps p.tables e below (T29.setTop (mkF m 134 #[.val (.int p0), .val (.int p1), .val (.int p2), .val (.int (3 : Int32)), .val (.ref a_SELECT_PARAMETER), .val (.int (12 : Int32)), .val (.int (p2 &&& (3 : Int32))), .val (.int q), .val (.int (0 : Int32))] [(.int (0 : Int32)), (.int (0 : Int32))])) _
          refine XS.icmpNo X29.here hx rfl (hb hby at_134) rfl (teq ((by decide) : (0 : Int32) = (0 : Int32))).2 ?_
          show Steps p.tables e below (T29.setTop (mkF m 137 #[.val (.int p0), .val (.int p1), .val (.int p2), .val (.int (3 : Int32)), .val (.ref a_SELECT_PARAMETER), .val (.int (12 : Int32)), .val (.int (p2 &&& (3 : Int32))), .val (.int q), .val (.int (0 : Int32))] [])) _
          refine XS.iconst X29.here hx rfl (hb hby at_137) ?_
          show Steps p.tables e below (T29.setTop (mkF m 138 #[.val (.int p0), .val (.int p1), .val (.int p2), .val (.int (3 : Int32)), .val (.ref a_SELECT_PARAMETER), .val (.int (12 : Int32)), .val (.int (p2 &&& (3 : Int32))), .val (.int q), .val (.int (0 : Int32))] [(.int (1 : Int32))])) _
          refine XS.goto X29.here hx rfl (pc0 := 138) (pc' := 142) rfl (hb hby at_138) (by decide) (by decide) ?_
          exact kt
        refine own_ret X29 (v := some (.int (1 : Int32))) (fun h => by rw [Bd.returns] at h; cases h) hlk (by decide) (by decide) ?_ (fun fs hr => ?_)
        · show Q0 Z p0 p1 p2 a_MODULE_INFORMATION a_SET_REGION a_GET_REGION a_SELECT_PARAMETER a_SELECT_MODE a_SINGLE_POLLING a_MULTIPLE_POLLING a_STOP_MULTIPLE_POLLING a_READ a_WRITE a_SET_POWER a_GET_POWER h0 n0 (some (.int (1 : Int32))) T29.heap _
          rw [eq29]
          exact ⟨rfl, N29⟩
        · show Steps p.tables e below (T29.setTop (mkF m 142 #[.val (.int p0), .val (.int p1), .val (.int p2), .val (.int (3 : Int32)), .val (.ref a_SELECT_PARAMETER), .val (.int (12 : Int32)), .val (.int (p2 &&& (3 : Int32))), .val (.int q), .val (.int (0 : Int32))] [(.int (1 : Int32))])) _
          exact retN X29 hx (t := .boolean) Bd.returns (by simp) (hb hby at_142) hr
    refine own_st (A' := T26.setTop (mkF m 27 #[.val (.int p0), .val (.int p1), .val (.int p2), .val (.int (3 : Int32)), .val (.ref a_SELECT_PARAMETER), .val (.int (12 : Int32)), .val (.int (p2 &&& (3 : Int32))), .unset, .unset] [(.int (p2 &&& (3 : Int32)))])) (fun tg kt => ?_) ?_
    · show Steps p.tables e below (T26.setTop (mkF m 25 #[.val (.int p0), .val (.int p1), .val (.int p2), .val (.int (3 : Int32)), .val (.ref a_SELECT_PARAMETER), .val (.int (12 : Int32)), .val (.int (p2 &&& (3 : Int32))), .unset, .unset] [])) _
      refine XS.iload X26.here hx rfl (hb hby at_25) rfl ?_
      exact kt
    by_cases hc27_30 : (p2 &&& (3 : Int32)) = (0 : Int32)
    · refine own_st (A' := T26.setTop (mkF m 82 #[.val (.int p0), .val (.int p1), .val (.int p2), .val (.int (3 : Int32)), .val (.ref a_SELECT_PARAMETER), .val (.int (12 : Int32)), .val (.int (p2 &&& (3 : Int32))), .val (.int p1), .unset] [])) (fun tg kt => ?_) ?_
      · show Steps p.tables e below (T26.setTop (mkF m 27 #[.val (.int p0), .val (.int p1), .val (.int p2), .val (.int (3 : Int32)), .val (.ref a_SELECT_PARAMETER), .val (.int (12 : Int32)), .val (.int (p2 &&& (3 : Int32))), .unset, .unset] [(.int (p2 &&& (3 : Int32)))])) _
        refine XS.ifNo X26.here hx rfl (hb hby at_27) rfl ((if0 _ _).trans (teq hc27_30).2) ?_
        show Steps p.tables e below (T26.setTop (mkF m 30 #[.val (.int p0), .val (.int p1), .val (.int p2), .val (.int (3 : Int32)), .val (.ref a_SELECT_PARAMETER), .val (.int (12 : Int32)), .val (.int (p2 &&& (3 : Int32))), .unset, .unset] [])) _
        refine XS.iloadN X26.here hx rfl (hb hby at_30) rfl ?_
        show Steps p.tables e below (T26.setTop (mkF m 31 #[.val (.int p0), .val (.int p1), .val (.int p2), .val (.int (3 : Int32)), .val (.ref a_SELECT_PARAMETER), .val (.int (12 : Int32)), .val (.int (p2 &&& (3 : Int32))), .unset, .unset] [(.int p1)])) _
        refine XS.istore X26.here hx rfl (hb hby at_31) rfl (l' := #[.val (.int p0), .val (.int p1), .val (.int p2), .val (.int (3 : Int32)), .val (.ref a_SELECT_PARAMETER), .val (.int (12 : Int32)), .val (.int (p2 &&& (3 : Int32))), .val (.int p1), .unset]) rfl ?_
        show Steps p.tables e below (T26.setTop (mkF m 33 #[.val (.int p0), .val (.int p1), .val (.int p2), .val (.int (3 : Int32)), .val (.ref a_SELECT_PARAMETER), .val (.int (12 : Int32)), .val (.int (p2 &&& (3 : Int32))), .val (.int p1), .unset] [])) _
        refine XS.goto X26.here hx rfl (pc0 := 33) (pc' := 82) rfl (hb hby at_33) (by decide) (by decide) ?_
        exact kt
      exact tl p1
    · refine own_st (A' := T26.setTop (mkF m 39 #[.val (.int p0), .val (.int p1), .val (.int p2), .val (.int (3 : Int32)), .val (.ref a_SELECT_PARAMETER), .val (.int (12 : Int32)), .val (.int (p2 &&& (3 : Int32))), .unset, .unset] [(.int (1 : Int32)), (.int (p2 &&& (3 : Int32)))])) (fun tg kt => ?_) ?_
      · show Steps p.tables e below (T26.setTop (mkF m 27 #[.val (.int p0), .val (.int p1), .val (.int p2), .val (.int (3 : Int32)), .val (.ref a_SELECT_PARAMETER), .val (.int (12 : Int32)), .val (.int (p2 &&& (3 : Int32))), .unset, .unset] [(.int (p2 &&& (3 : Int32)))])) _
        refine XS.ifYes X26.here hx rfl (pc0 := 27) (pc' := 36) rfl (hb hby at_27) rfl ((if0 _ _).trans (feq hc27_30).2) (by decide) (by decide) ?_
        show Steps p.tables e below (T26.setTop (mkF m 36 #[.val (.int p0), .val (.int p1), .val (.int p2), .val (.int (3 : Int32)), .val (.ref a_SELECT_PARAMETER), .val (.int (12 : Int32)), .val (.int (p2 &&& (3 : Int32))), .unset, .unset] [])) _
        refine XS.iload X26.here hx rfl (hb hby at_36) rfl ?_
        show Steps p.tables e below (T26.setTop (mkF m 38 #[.val (.int p0), .val (.int p1), .val (.int p2), .val (.int (3 : Int32)), .val (.ref a_SELECT_PARAMETER), .val (.int (12 : Int32)), .val (.int (p2 &&& (3 : Int32))), .unset, .unset] [(.int (p2 &&& (3 : Int32)))])) _
        refine XS.iconst X26.here hx rfl (hb hby at_38) ?_
        exact kt
      by_cases hc39_31 : (p2 &&& (3 : Int32)) = (1 : Int32)
      · refine own_st (A' := T26.setTop (mkF m 82 #[.val (.int p0), .val (.int p1), .val (.int p2), .val (.int (3 : Int32)), .val (.ref a_SELECT_PARAMETER), .val (.int (12 : Int32)), .val (.int (p2 &&& (3 : Int32))), .val (.int (12 : Int32)), .unset] [])) (fun tg kt => ?_) ?_
        · show Steps p.tables e below (T26.setTop (mkF m 39 #[.val (.int p0), .val (.int p1), .val (.int p2), .val (.int (3 : Int32)), .val (.ref a_SELECT_PARAMETER), .val (.int (12 : Int32)), .val (.int (p2 &&& (3 : Int32))), .unset, .unset] [(.int (1 : Int32)), (.int (p2 &&& (3 : Int32)))])) _
          refine XS.icmpNo X26.here hx rfl (hb hby at_39) rfl (teq hc39_31).2 ?_
          show Steps p.tables e below (T26.setTop (mkF m 42 #[.val (.int p0), .val (.int p1), .val (.int p2), .val (.int (3 : Int32)), .val (.ref a_SELECT_PARAMETER), .val (.int (12 : Int32)), .val (.int (p2 &&& (3 : Int32))), .unset, .unset] [])) _
          refine XS.iload X26.here hx rfl (hb hby at_42) rfl ?_
          show Steps p.tables e below (T26.setTop (mkF m 44 #[.val (.int p0), .val (.int p1), .val (.int p2), .val (.int (3 : Int32)), .val (.ref a_SELECT_PARAMETER), .val (.int (12 : Int32)), .val (.int (p2 &&& (3 : Int32))), .unset, .unset] [(.int (12 : Int32))])) _
          refine XS.istore X26.here hx rfl (hb hby at_44) rfl (l' := #[.val (.int p0), .val (.int p1), .val (.int p2), .val (.int (3 : Int32)), .val (.ref a_SELECT_PARAMETER), .val (.int (12 : Int32)), .val (.int (p2 &&& (3 : Int32))), .val (.int (12 : Int32)), .unset]) rfl ?_
          show Steps p.tables e below (T26.setTop (mkF m 46 #[.val (.int p0), .val (.int p1), .val (.int p2), .val (.int (3 : Int32)), .val (.ref a_SELECT_PARAMETER), .val (.int (12 : Int32)), .val (.int (p2 &&& (3 : Int32))), .val (.int (12 : Int32)), .unset] [])) _
          refine XS.goto X26.here hx rfl (pc0 := 46) (pc' := 82) rfl (hb hby at_46) (by decide) (by decide) ?_
          exact kt
        exact tl (12 : Int32)
      · refine own_st (A' := T26.setTop (mkF m 52 #[.val (.int p0), .val (.int p1), .val (.int p2), .val (.int (3 : Int32)), .val (.ref a_SELECT_PARAMETER), .val (.int (12 : Int32)), .val (.int (p2 &&& (3 : Int32))), .unset, .unset] [(.int (2 : Int32)), (.int (p2 &&& (3 : Int32)))])) (fun tg kt => ?_) ?_
        · show Steps p.tables e below (T26.setTop (mkF m 39 #[.val (.int p0), .val (.int p1), .val (.int p2), .val (.int (3 : Int32)), .val (.ref a_SELECT_PARAMETER), .val (.int (12 : Int32)), .val (.int (p2 &&& (3 : Int32))), .unset, .unset] [(.int (1 : Int32)), (.int (p2 &&& (3 : Int32)))])) _
          refine XS.icmpYes X26.here hx rfl (pc0 := 39) (pc' := 49) rfl (hb hby at_39) rfl (feq hc39_31).2 (by decide) (by decide) ?_
          show Steps p.tables e below (T26.setTop (mkF m 49 #[.val (.int p0), .val (.int p1), .val (.int p2), .val (.int (3 : Int32)), .val (.ref a_SELECT_PARAMETER), .val (.int (12 : Int32)), .val (.int (p2 &&& (3 : Int32))), .unset, .unset] [])) _
          refine XS.iload X26.here hx rfl (hb hby at_49) rfl ?_
          show Steps p.tables e below (T26.setTop (mkF m 51 #[.val (.int p0), .val (.int p1), .val (.int p2), .val (.int (3 : Int32)), .val (.ref a_SELECT_PARAMETER), .val (.int (12 : Int32)), .val (.int (p2 &&& (3 : Int32))), .unset, .unset] [(.int (p2 &&& (3 : Int32)))])) _
          refine XS.iconst X26.here hx rfl (hb hby at_51) ?_
          exact kt
        by_cases hc52_32 : (p2 &&& (3 : Int32)) = (2 : Int32)
        · refine own_st (A' := T26.setTop (mkF m 82 #[.val (.int p0), .val (.int p1), .val (.int p2), .val (.int (3 : Int32)), .val (.ref a_SELECT_PARAMETER), .val (.int (12 : Int32)), .val (.int (p2 &&& (3 : Int32))), .val (.int (12 : Int32)), .unset] [])) (fun tg kt => ?_) ?_
          · show Steps p.tables e below (T26.setTop (mkF m 52 #[.val (.int p0), .val (.int p1), .val (.int p2), .val (.int (3 : Int32)), .val (.ref a_SELECT_PARAMETER), .val (.int (12 : Int32)), .val (.int (p2 &&& (3 : Int32))), .unset, .unset] [(.int (2 : Int32)), (.int (p2 &&& (3 : Int32)))])) _
            refine XS.icmpNo X26.here hx rfl (hb hby at_52) rfl (teq hc52_32).2 ?_
            show Steps p.tables e below (T26.setTop (mkF m 55 #[.val (.int p0), .val (.int p1), .val (.int p2), .val (.int (3 : Int32)), .val (.ref a_SELECT_PARAMETER), .val (.int (12 : Int32)), .val (.int (p2 &&& (3 : Int32))), .unset, .unset] [])) _
            refine XS.iloadN X26.here hx rfl (hb hby at_55) rfl ?_
            show Steps p.tables e below (T26.setTop (mkF m 56 #[.val (.int p0), .val (.int p1), .val (.int p2), .val (.int (3 : Int32)), .val (.ref a_SELECT_PARAMETER), .val (.int (12 : Int32)), .val (.int (p2 &&& (3 : Int32))), .unset, .unset] [(.int (3 : Int32))])) _
            refine XS.iconst X26.here hx rfl (hb hby at_56) ?_
            show Steps p.tables e below (T26.setTop (mkF m 57 #[.val (.int p0), .val (.int p1), .val (.int p2), .val (.int (3 : Int32)), .val (.ref a_SELECT_PARAMETER), .val (.int (12 : Int32)), .val (.int (p2 &&& (3 : Int32))), .unset, .unset] [(.int (4 : Int32)), (.int (3 : Int32))])) _
            refine XS.icmpYes X26.here hx rfl (pc0 := 57) (pc' := 65) rfl (hb hby at_57) rfl (feq ((by decide) : ¬ ((3 : Int32) = (4 : Int32)))).2 (by decide) (by decide) ?_
            show Steps p.tables e below (T26.setTop (mkF m 65 #[.val (.int p0), .val (.int p1), .val (.int p2), .val (.int (3 : Int32)), .val (.ref a_SELECT_PARAMETER), .val (.int (12 : Int32)), .val (.int (p2 &&& (3 : Int32))), .unset, .unset] [])) _
            refine XS.iload X26.here hx rfl (hb hby at_65) rfl ?_
            show Steps p.tables e below (T26.setTop (mkF m 67 #[.val (.int p0), .val (.int p1), .val (.int p2), .val (.int (3 : Int32)), .val (.ref a_SELECT_PARAMETER), .val (.int (12 : Int32)), .val (.int (p2 &&& (3 : Int32))), .unset, .unset] [(.int (12 : Int32))])) _
            refine XS.istore X26.here hx rfl (hb hby at_67) rfl (l' := #[.val (.int p0), .val (.int p1), .val (.int p2), .val (.int (3 : Int32)), .val (.ref a_SELECT_PARAMETER), .val (.int (12 : Int32)), .val (.int (p2 &&& (3 : Int32))), .val (.int (12 : Int32)), .unset]) rfl ?_
            show Steps p.tables e below (T26.setTop (mkF m 69 #[.val (.int p0), .val (.int p1), .val (.int p2), .val (.int (3 : Int32)), .val (.ref a_SELECT_PARAMETER), .val (.int (12 : Int32)), .val (.int (p2 &&& (3 : Int32))), .val (.int (12 : Int32)), .unset] [])) _
            refine XS.goto X26.here hx rfl (pc0 := 69) (pc' := 82) rfl (hb hby at_69) (by decide) (by decide) ?_
            exact kt
          exact tl (12 : Int32)
        · refine own_st (A' := T26.setTop (mkF m 82 #[.val (.int p0), .val (.int p1), .val (.int p2), .val (.int (3 : Int32)), .val (.ref a_SELECT_PARAMETER), .val (.int (12 : Int32)), .val (.int (p2 &&& (3 : Int32))), .val (.int ((12 : Int32) + ((p1 &&& (3 : Int32)) - (2 : Int32)))), .unset] [])) (fun tg kt => ?_) ?_
          · show Steps p.tables e below (T26.setTop (mkF m 52 #[.val (.int p0), .val (.int p1), .val (.int p2), .val (.int (3 : Int32)), .val (.ref a_SELECT_PARAMETER), .val (.int (12 : Int32)), .val (.int (p2 &&& (3 : Int32))), .unset, .unset] [(.int (2 : Int32)), (.int (p2 &&& (3 : Int32)))])) _
            refine XS.icmpYes X26.here hx rfl (pc0 := 52) (pc' := 72) rfl (hb hby at_52) rfl (feq hc52_32).2 (by decide) (by decide) ?_
            show Steps p.tables e below (T26.setTop (mkF m 72 #[.val (.int p0), .val (.int p1), .val (.int p2), .val (.int (3 : Int32)), .val (.ref a_SELECT_PARAMETER), .val (.int (12 : Int32)), .val (.int (p2 &&& (3 : Int32))), .unset, .unset] [])) _
            refine XS.iload X26.here hx rfl (hb hby at_72) rfl ?_
            show Steps p.tables e below (T26.setTop (mkF m 74 #[.val (.int p0), .val (.int p1), .val (.int p2), .val (.int (3 : Int32)), .val (.ref a_SELECT_PARAMETER), .val (.int (12 : Int32)), .val (.int (p2 &&& (3 : Int32))), .unset, .unset] [(.int (12 : Int32))])) _
            refine XS.iloadN X26.here hx rfl (hb hby at_74) rfl ?_
            show Steps p.tables e below (T26.setTop (mkF m 75 #[.val (.int p0), .val (.int p1), .val (.int p2), .val (.int (3 : Int32)), .val (.ref a_SELECT_PARAMETER), .val (.int (12 : Int32)), .val (.int (p2 &&& (3 : Int32))), .unset, .unset] [(.int p1), (.int (12 : Int32))])) _
            refine XS.iconst X26.here hx rfl (hb hby at_75) ?_
            show Steps p.tables e below (T26.setTop (mkF m 76 #[.val (.int p0), .val (.int p1), .val (.int p2), .val (.int (3 : Int32)), .val (.ref a_SELECT_PARAMETER), .val (.int (12 : Int32)), .val (.int (p2 &&& (3 : Int32))), .unset, .unset] [(.int (3 : Int32)), (.int p1), (.int (12 : Int32))])) _
            refine XS.iand X26.here hx rfl (hb hby at_76) rfl ?_
            show Steps p.tables e below (T26.setTop (mkF m 77 #[.val (.int p0), .val (.int p1), .val (.int p2), .val (.int (3 : Int32)), .val (.ref a_SELECT_PARAMETER), .val (.int (12 : Int32)), .val (.int (p2 &&& (3 : Int32))), .unset, .unset] [(.int (p1 &&& (3 : Int32))), (.int (12 : Int32))])) _
            refine XS.iconst X26.here hx rfl (hb hby at_77) ?_
            show Steps p.tables e below (T26.setTop (mkF m 78 #[.val (.int p0), .val (.int p1), .val (.int p2), .val (.int (3 : Int32)), .val (.ref a_SELECT_PARAMETER), .val (.int (12 : Int32)), .val (.int (p2 &&& (3 : Int32))), .unset, .unset] [(.int (2 : Int32)), (.int (p1 &&& (3 : Int32))), (.int (12 : Int32))])) _
            refine XS.isub X26.here hx rfl (hb hby at_78) rfl ?_
            show Steps p.tables e below (T26.setTop (mkF m 79 #[.val (.int p0), .val (.int p1), .val (.int p2), .val (.int (3 : Int32)), .val (.ref a_SELECT_PARAMETER), .val (.int (12 : Int32)), .val (.int (p2 &&& (3 : Int32))), .unset, .unset] [(.int ((p1 &&& (3 : Int32)) - (2 : Int32))), (.int (12 : Int32))])) _
            refine XS.iadd X26.here hx rfl (hb hby at_79) rfl ?_
            show Steps p.tables e below (T26.setTop (mkF m 80 #[.val (.int p0), .val (.int p1), .val (.int p2), .val (.int (3 : Int32)), .val (.ref a_SELECT_PARAMETER), .val (.int (12 : Int32)), .val (.int (p2 &&& (3 : Int32))), .unset, .unset] [(.int ((12 : Int32) + ((p1 &&& (3 : Int32)) - (2 : Int32))))])) _
            refine XS.istore X26.here hx rfl (hb hby at_80) rfl (l' := #[.val (.int p0), .val (.int p1), .val (.int p2), .val (.int (3 : Int32)), .val (.ref a_SELECT_PARAMETER), .val (.int (12 : Int32)), .val (.int (p2 &&& (3 : Int32))), .val (.int ((12 : Int32) + ((p1 &&& (3 : Int32)) - (2 : Int32)))), .unset]) rfl ?_
            exact kt
          exact tl ((12 : Int32) + ((p1 &&& (3 : Int32)) - (2 : Int32)))
  · show own_Gl _ _ _ _ _ _ _ _ (s₁.setTop (mkF m 7 #[.val (.int p0), .val (.int p1), .val (.int p2), .unset, .unset, .unset, .unset, .unset, .unset] [(.int (4 : Int32))]))
    refine own_st (A' := s₁.setTop (mkF m 9 #[.val (.int p0), .val (.int p1), .val (.int p2), .val (.int (4 : Int32)), .unset, .unset, .unset, .unset, .unset] [(.int (4 : Int32))])) (fun tg kt => ?_) ?_
    · show Steps p.tables e below (s₁.setTop (mkF m 7 #[.val (.int p0), .val (.int p1), .val (.int p2), .unset, .unset, .unset, .unset, .unset, .unset] [(.int (4 : Int32))])) _
      refine XS.istoreN X0.here hx rfl (hb hby at_7) rfl (l' := #[.val (.int p0), .val (.int p1), .val (.int p2), .val (.int (4 : Int32)), .unset, .unset, .unset, .unset, .unset]) rfl ?_
      show Steps p.tables e below (s₁.setTop (mkF m 8 #[.val (.int p0), .val (.int p1), .val (.int p2), .val (.int (4 : Int32)), .unset, .unset, .unset, .unset, .unset] [])) _
      refine XS.iloadN X0.here hx rfl (hb hby at_8) rfl ?_
      exact kt
    obtain ⟨_, _, ⟨T33, L33, k33, n33⟩, -, X33, ⟨Lc33, hQ33, l33, y33, z33⟩, st33⟩ := Jvm.LawKit.callS X0 hx (y := (⟨"com/example/tagwire/tagwire/bb/CommandIsAnsweredByPinLaw", "pick", "(I)Lcom/example/tagwire/tagwire/bb/Command;"⟩ : MethodName)) hown (mvT hZ (hw _ (List.mem_of_getElem? (i := 1) rfl))) (mvT hZ (hw _ (List.mem_of_getElem? (i := 2) rfl))) (mvT hZ (hw _ (List.mem_of_getElem? (i := 3) rfl))) (mvT hZ (hw _ (List.mem_of_getElem? (i := 4) rfl))) (by decide) (backOf (W := 0) (rm1 l Z a0 hw [] (4 : Int32) a_MODULE_INFORMATION a_SET_REGION a_GET_REGION a_SELECT_PARAMETER a_SELECT_MODE a_SINGLE_POLLING a_MULTIPLE_POLLING a_STOP_MULTIPLE_POLLING a_READ a_WRITE a_SET_POWER a_GET_POWER h0 n0 Z0 S_MODULE_INFORMATION S_SET_REGION S_GET_REGION S_SELECT_PARAMETER S_SELECT_MODE S_SINGLE_POLLING S_MULTIPLE_POLLING S_STOP_MULTIPLE_POLLING S_READ S_WRITE S_SET_POWER S_GET_POWER) hZ (hw _ (List.mem_of_getElem? (i := 4) rfl)) (hw _ (List.mem_of_getElem? (i := 3) rfl)) (by decide) (by decide)) (g := (mkF m 9 #[.val (.int p0), .val (.int p1), .val (.int p2), .val (.int (4 : Int32)), .unset, .unset, .unset, .unset, .unset] [(.int (4 : Int32))])) rfl (by rw [hml]; rfl) (argsL := [(.int (4 : Int32))]) (rest := []) (lenOf own_pd2 rfl) rfl (by show 2 * 0 + _ ≤ _; exact Nat.le_of_eq rfl) (hb hby at_9) (fun _ _ => ⟨rfl, e0, (by decide : 0 + 0 ≤ _), (by decide : 0 + 0 ≤ _)⟩)
    dsimp only [Pt.U, Pt.locs, Pt.cells, Pt.slots] at X33 l33 y33 z33 st33 hQ33
    subst l33 y33 z33
    obtain ⟨hv33, hr33⟩ := hQ33
    rw [show own_pick1 (4 : Int32) a_MODULE_INFORMATION a_SET_REGION a_GET_REGION a_SELECT_PARAMETER a_SELECT_MODE a_SINGLE_POLLING a_MULTIPLE_POLLING a_STOP_MULTIPLE_POLLING a_READ a_WRITE a_SET_POWER a_GET_POWER = a_SELECT_MODE from rfl] at hv33
    have hQ33 := And.intro hv33 hr33
    obtain ⟨rfl, Nq33, eq33⟩ := hQ33
    have N33 := Fr.app N0 Nq33
    refine own_st st33 ?_
    show own_Gl _ _ _ _ _ _ _ _ (T33.setTop (mkF m 12 #[.val (.int p0), .val (.int p1), .val (.int p2), .val (.int (4 : Int32)), .unset, .unset, .unset, .unset, .unset] [(.ref a_SELECT_MODE)]))
    refine own_st (A' := T33.setTop (mkF m 15 #[.val (.int p0), .val (.int p1), .val (.int p2), .val (.int (4 : Int32)), .val (.ref a_SELECT_MODE), .unset, .unset, .unset, .unset] [(.int (4 : Int32))])) (fun tg kt => ?_) ?_
    · show Steps p.tables e below (T33.setTop (mkF m 12 #[.val (.int p0), .val (.int p1), .val (.int p2), .val (.int (4 : Int32)), .unset, .unset, .unset, .unset, .unset] [(.ref a_SELECT_MODE)])) _
      refine XS.astore X33.here hx rfl (hb hby at_12) rfl rfl (l' := #[.val (.int p0), .val (.int p1), .val (.int p2), .val (.int (4 : Int32)), .val (.ref a_SELECT_MODE), .unset, .unset, .unset, .unset]) rfl ?_
      show Steps p.tables e below (T33.setTop (mkF m 14 #[.val (.int p0), .val (.int p1), .val (.int p2), .val (.int (4 : Int32)), .val (.ref a_SELECT_MODE), .unset, .unset, .unset, .unset] [])) _
      refine XS.iloadN X33.here hx rfl (hb hby at_14) rfl ?_
      exact kt
    obtain ⟨_, _, ⟨T34, L34, k34, n34⟩, -, X34, ⟨Lc34, hQ34, l34, y34, z34⟩, st34⟩ := Jvm.LawKit.callS X33 hx (y := (⟨"com/example/tagwire/tagwire/bb/CommandIsAnsweredByPinLaw", "codeOf", "(I)I"⟩ : MethodName)) hown (mvT hZ (hw _ (List.mem_of_getElem? (i := 8) rfl))) (mvT hZ (hw _ (List.mem_of_getElem? (i := 9) rfl))) (mvT hZ (hw _ (List.mem_of_getElem? (i := 3) rfl))) (mvT hZ (hw _ (List.mem_of_getElem? (i := 10) rfl))) (by decide) (backOf (W := 0) (rm2 l Z a0 hw [] (4 : Int32) h0 n0 Z0) hZ (hw _ (List.mem_of_getElem? (i := 10) rfl)) (hw _ (List.mem_of_getElem? (i := 3) rfl)) (by decide) (by decide)) (g := (mkF m 15 #[.val (.int p0), .val (.int p1), .val (.int p2), .val (.int (4 : Int32)), .val (.ref a_SELECT_MODE), .unset, .unset, .unset, .unset] [(.int (4 : Int32))])) rfl (by rw [hml]; rfl) (argsL := [(.int (4 : Int32))]) (rest := []) (lenOf own_pd3 rfl) rfl (by show 2 * 0 + _ ≤ _; exact Nat.le_of_eq rfl) (hb hby at_15) (fun _ _ => ⟨rfl, eq33, (by decide : 0 + 0 ≤ _), (by decide : 0 + 0 ≤ _)⟩)
    dsimp only [Pt.U, Pt.locs, Pt.cells, Pt.slots] at X34 l34 y34 z34 st34 hQ34
    subst l34 y34 z34
    obtain ⟨hv34, hr34⟩ := hQ34
    rw [show own_code (4 : Int32) = (18 : Int32) from rfl] at hv34
    have hQ34 := And.intro hv34 hr34
    obtain ⟨rfl, Nq34, eq34⟩ := hQ34
    have N34 := Fr.app N33 Nq34
    refine own_st st34 ?_
    show own_Gl _ _ _ _ _ _ _ _ (T34.setTop (mkF m 18 #[.val (.int p0), .val (.int p1), .val (.int p2), .val (.int (4 : Int32)), .val (.ref a_SELECT_MODE), .unset, .unset, .unset, .unset] [(.int (18 : Int32))]))
    refine own_st (A' := T34.setTop (mkF m 25 #[.val (.int p0), .val (.int p1), .val (.int p2), .val (.int (4 : Int32)), .val (.ref a_SELECT_MODE), .val (.int (18 : Int32)), .val (.int (p2 &&& (3 : Int32))), .unset, .unset] [])) (fun tg kt => ?_) ?_
    · show Steps p.tables e below (T34.setTop (mkF m 18 #[.val (.int p0), .val (.int p1), .val (.int p2), .val (.int (4 : Int32)), .val (.ref a_SELECT_MODE), .unset, .unset, .unset, .unset] [(.int (18 : Int32))])) _
      refine XS.istore X34.here hx rfl (hb hby at_18) rfl (l' := #[.val (.int p0), .val (.int p1), .val (.int p2), .val (.int (4 : Int32)), .val (.ref a_SELECT_MODE), .val (.int (18 : Int32)), .unset, .unset, .unset]) rfl ?_
      show Steps p.tables e below (T34.setTop (mkF m 20 #[.val (.int p0), .val (.int p1), .val (.int p2), .val (.int (4 : Int32)), .val (.ref a_SELECT_MODE), .val (.int (18 : Int32)), .unset, .unset, .unset] [])) _
      refine XS.iloadN X34.here hx rfl (hb hby at_20) rfl ?_
      show Steps p.tables e below (T34.setTop (mkF m 21 #[.val (.int p0), .val (.int p1), .val (.int p2), .val (.int (4 : Int32)), .val (.ref a_SELECT_MODE), .val (.int (18 : Int32)), .unset, .unset, .unset] [(.int p2)])) _
      refine XS.iconst X34.here hx rfl (hb hby at_21) ?_
      show Steps p.tables e below (T34.setTop (mkF m 22 #[.val (.int p0), .val (.int p1), .val (.int p2), .val (.int (4 : Int32)), .val (.ref a_SELECT_MODE), .val (.int (18 : Int32)), .unset, .unset, .unset] [(.int (3 : Int32)), (.int p2)])) _
      refine XS.iand X34.here hx rfl (hb hby at_22) rfl ?_
      show Steps p.tables e below (T34.setTop (mkF m 23 #[.val (.int p0), .val (.int p1), .val (.int p2), .val (.int (4 : Int32)), .val (.ref a_SELECT_MODE), .val (.int (18 : Int32)), .unset, .unset, .unset] [(.int (p2 &&& (3 : Int32)))])) _
      refine XS.istore X34.here hx rfl (hb hby at_23) rfl (l' := #[.val (.int p0), .val (.int p1), .val (.int p2), .val (.int (4 : Int32)), .val (.ref a_SELECT_MODE), .val (.int (18 : Int32)), .val (.int (p2 &&& (3 : Int32))), .unset, .unset]) rfl ?_
      exact kt
    have tl : ∀ (q : Int32), own_Gl FrameEnd p e below s (Q0 Z p0 p1 p2 a_MODULE_INFORMATION a_SET_REGION a_GET_REGION a_SELECT_PARAMETER a_SELECT_MODE a_SINGLE_POLLING a_MULTIPLE_POLLING a_STOP_MULTIPLE_POLLING a_READ a_WRITE a_SET_POWER a_GET_POWER h0 n0) room_1.cells room_1.slots (T34.setTop (mkF m 82 #[.val (.int p0), .val (.int p1), .val (.int p2), .val (.int (4 : Int32)), .val (.ref a_SELECT_MODE), .val (.int (18 : Int32)), .val (.int (p2 &&& (3 : Int32))), .val (.int q), .unset] [])) := by
      intro q
      refine own_st (A' := T34.setTop (mkF m 91 #[.val (.int p0), .val (.int p1), .val (.int p2), .val (.int (4 : Int32)), .val (.ref a_SELECT_MODE), .val (.int (18 : Int32)), .val (.int (p2 &&& (3 : Int32))), .val (.int q), .unset] [(.int (18 : Int32)), (.int q)])) (fun tg kt => ?_) ?_
      · show Steps p.tables e below (T34.setTop (mkF m 82 #[.val (.int p0), .val (.int p1), .val (.int p2), .val (.int (4 : Int32)), .val (.ref a_SELECT_MODE), .val (.int (18 : Int32)), .val (.int (p2 &&& (3 : Int32))), .val (.int q), .unset] [])) _
        refine XS.iloadN X34.here hx rfl (hb hby at_82) rfl ?_
        show Steps p.tables e below (T34.setTop (mkF m 83 #[.val (.int p0), .val (.int p1), .val (.int p2), .val (.int (4 : Int32)), .val (.ref a_SELECT_MODE), .val (.int (18 : Int32)), .val (.int (p2 &&& (3 : Int32))), .val (.int q), .unset] [(.int (4 : Int32))])) _
        refine XS.iconst X34.here hx rfl (hb hby at_83) ?_
        show Steps p.tables e below (T34.setTop (mkF m 84 #[.val (.int p0), .val (.int p1), .val (.int p2), .val (.int (4 : Int32)), .val (.ref a_SELECT_MODE), .val (.int (18 : Int32)), .val (.int (p2 &&& (3 : Int32))), .val (.int q), .unset] [(.int (4 : Int32)), (.int (4 : Int32))])) _
        refine XS.icmpNo X34.here hx rfl (hb hby at_84) rfl (teq ((by decide) : (4 : Int32) = (4 : Int32))).2 ?_
        show Steps p.tables e below (T34.setTop (mkF m 87 #[.val (.int p0), .val (.int p1), .val (.int p2), .val (.int (4 : Int32)), .val (.ref a_SELECT_MODE), .val (.int (18 : Int32)), .val (.int (p2 &&& (3 : Int32))), .val (.int q), .unset] [])) _
        refine XS.iload X34.here hx rfl (hb hby at_87) rfl ?_
        show Steps p.tables e below (T34.setTop (mkF m 89 #[.val (.int p0), .val (.int p1), .val (.int p2), .val (.int (4 : Int32)), .val (.ref a_SELECT_MODE), .val (.int (18 : Int32)), .val (.int (p2 &&& (3 : Int32))), .val (.int q), .unset] [(.int q)])) _
        refine XS.bipush X34.here hx rfl (hb hby at_89) ?_
        exact kt
      by_cases hc91_35 : q = (18 : Int32)
      · refine own_st (A' := T34.setTop (mkF m 129 #[.val (.int p0), .val (.int p1), .val (.int p2), .val (.int (4 : Int32)), .val (.ref a_SELECT_MODE), .val (.int (18 : Int32)), .val (.int (p2 &&& (3 : Int32))), .val (.int q), .val (.int (1 : Int32))] [(.int q), (.ref a_SELECT_MODE)])) (fun tg kt => ?_) ?_
        · show Steps p.tables e below (T34.setTop (mkF m 91 #[.val (.int p0), .val (.int p1), .val (.int p2), .val (.int (4 : Int32)), .val (.ref a_SELECT_MODE), .val (.int (18 : Int32)), .val (.int (p2 &&& (3 : Int32))), .val (.int q), .unset] [(.int (18 : Int32)), (.int q)])) _
          refine XS.icmpYes X34.here hx rfl (pc0 := 91) (pc' := 101) rfl (hb hby at_91) rfl (teq hc91_35).1 (by decide) (by decide) ?_
          show Steps p.tables e below (T34.setTop (mkF m 101 #[.val (.int p0), .val (.int p1), .val (.int p2), .val (.int (4 : Int32)), .val (.ref a_SELECT_MODE), .val (.int (18 : Int32)), .val (.int (p2 &&& (3 : Int32))), .val (.int q), .unset] [])) _
          refine XS.iconst X34.here hx rfl (hb hby at_101) ?_
          show Steps p.tables e below (T34.setTop (mkF m 102 #[.val (.int p0), .val (.int p1), .val (.int p2), .val (.int (4 : Int32)), .val (.ref a_SELECT_MODE), .val (.int (18 : Int32)), .val (.int (p2 &&& (3 : Int32))), .val (.int q), .unset] [(.int (1 : Int32))])) _
          refine XS.goto X34.here hx rfl (pc0 := 102) (pc' := 106) rfl (hb hby at_102) (by decide) (by decide) ?_
          show Steps p.tables e below (T34.setTop (mkF m 106 #[.val (.int p0), .val (.int p1), .val (.int p2), .val (.int (4 : Int32)), .val (.ref a_SELECT_MODE), .val (.int (18 : Int32)), .val (.int (p2 &&& (3 : Int32))), .val (.int q), .unset] [(.int (1 : Int32))])) _
          refine XS.istore X34.here hx rfl (hb hby at_106) rfl (l' := #[.val (.int p0), .val (.int p1), .val (.int p2), .val (.int (4 : Int32)), .val (.ref a_SELECT_MODE), .val (.int (18 : Int32)), .val (.int (p2 &&& (3 : Int32))), .val (.int q), .val (.int (1 : Int32))]) rfl ?_
          show Steps p.tables e below (T34.setTop (mkF m 108 #[.val (.int p0), .val (.int p1), .val (.int p2), .val (.int (4 : Int32)), .val (.ref a_SELECT_MODE), .val (.int (18 : Int32)), .val (.int (p2 &&& (3 : Int32))), .val (.int q), .val (.int (1 : Int32))] [])) _
          refine XS.goto X34.here hx rfl (pc0 := 108) (pc' := 125) rfl (hb hby at_108) (by decide) (by decide) ?_
          show Steps p.tables e below (T34.setTop (mkF m 125 #[.val (.int p0), .val (.int p1), .val (.int p2), .val (.int (4 : Int32)), .val (.ref a_SELECT_MODE), .val (.int (18 : Int32)), .val (.int (p2 &&& (3 : Int32))), .val (.int q), .val (.int (1 : Int32))] [])) _
          refine XS.aload X34.here hx rfl (hb hby at_125) rfl rfl ?_
          show Steps p.tables e below (T34.setTop (mkF m 127 #[.val (.int p0), .val (.int p1), .val (.int p2), .val (.int (4 : Int32)), .val (.ref a_SELECT_MODE), .val (.int (18 : Int32)), .val (.int (p2 &&& (3 : Int32))), .val (.int q), .val (.int (1 : Int32))] [(.ref a_SELECT_MODE)])) _
          refine XS.iload X34.here hx rfl (hb hby at_127) rfl ?_
          exact kt
        obtain ⟨cq36, kq36, q36a, q36b, q36c⟩ := isOf hZ eq34 E_SELECT_MODE
        obtain ⟨_, _, ⟨T36, L36, k36, n36⟩, -, X36, ⟨Lc36, hQ36, l36, y36, z36⟩, st36⟩ := X34.virtualBack hx (y := (⟨"com/example/tagwire/tagwire/bb/Command", "isAnsweredBy", "(I)Z"⟩ : MethodName)) (z := (⟨"com/example/tagwire/tagwire/bb/Command", "isAnsweredBy", "(I)Z"⟩ : MethodName)) hown (mvT hZ (hw _ (List.mem_of_getElem? (i := 11) rfl))) (mvT hZ (hw _ (List.mem_of_getElem? (i := 12) rfl))) (notFace_of_selects (args := #[]) (mvT hZ (hw _ (List.mem_of_getElem? (i := 14) rfl)))) (mvT hZ (hw _ (List.mem_of_getElem? (i := 14) rfl))) (mvT hZ (hw _ (List.mem_of_getElem? (i := 13) rfl))) (by decide) (backOf (W := 0) (rm3 l Z a0 hw [] a_SELECT_MODE q (18 : Int32) (12 : Int32) h0 n0 Z0 F_SELECT_MODE_code F_SELECT_MODE_answerCode) hZ (hw _ (List.mem_of_getElem? (i := 15) rfl)) (hw _ (List.mem_of_getElem? (i := 6) rfl)) (by decide) (by decide)) q36a q36c (g := (mkF m 129 #[.val (.int p0), .val (.int p1), .val (.int p2), .val (.int (4 : Int32)), .val (.ref a_SELECT_MODE), .val (.int (18 : Int32)), .val (.int (p2 &&& (3 : Int32))), .val (.int q), .val (.int (1 : Int32))] [(.int q), (.ref a_SELECT_MODE)])) rfl (by rw [hml]; rfl) (Steps.refl _) (argsL := [(.int q)]) (rest := []) (lenOf own_pd4 rfl) rfl (by show 2 * 0 + _ ≤ _; exact Nat.le_of_eq rfl) (hb hby at_129) (fun _ _ => ⟨rfl, eq34, (by decide : 0 + 0 ≤ _), (by decide : 0 + 0 ≤ _)⟩)
        dsimp only [Pt.U, Pt.locs, Pt.cells, Pt.slots] at X36 l36 y36 z36 st36 hQ36
        subst l36 y36 z36
        obtain ⟨hv36, hr36⟩ := hQ36
        rw [show own_ans q (18 : Int32) (12 : Int32) = (1 : Int32) from by unfold own_ans; rw [if_pos hc91_35]] at hv36
        have hQ36 := And.intro hv36 hr36
        obtain ⟨rfl, Nq36, eq36⟩ := hQ36
        have N36 := Fr.app N34 Nq36
        refine own_tr st36 ?_
        show own_Gl _ _ _ _ _ _ _ _ (T36.setTop (mkF m 132 #[.val (.int p0), .val (.int p1), .val (.int p2), .val (.int (4 : Int32)), .val (.ref a_SELECT_MODE), .val (.int (18 : Int32)), .val (.int (p2 &&& (3 : Int32))), .val (.int q), .val (.int (1 : Int32))] [(.int (1 : Int32))]))
        refine own_st (A' := T36.setTop (mkF m 142 #[.val (.int p0), .val (.int p1), .val (.int p2), .val (.int (4 : Int32)), .val (.ref a_SELECT_MODE), .val (.int (18 : Int32)), .val (.int (p2 &&& (3 : Int32))), .val (.int q), .val (.int (1 : Int32))] [(.int (1 : Int32))])) (fun tg kt => ?_) ?_
        · show Steps p.tables e below (T36.setTop (mkF m 132 #[.val (.int p0), .val (.int p1), .val (.int p2), .val (.int (4 : Int32)), .val (.ref a_SELECT_MODE), .val (.int (18 : Int32)), .val (.int (p2 &&& (3 : Int32))), .val (.int q), .val (.int (1 : Int32))] [(.int (1 : Int32))])) _
          refine XS.iload X36.here hx rfl (hb hby at_132) rfl ?_
          show Steps p.tables e below (T36.setTop (mkF m 134 #[.val (.int p0), .val (.int p1), .val (.int p2), .val (.int (4 : Int32)), .val (.ref a_SELECT_MODE), .val (.int (18 : Int32)), .val (.int (p2 &&& (3 : Int32))), .val (.int q), .val (.int (1 : Int32))] [(.int (1 : Int32)), (.int (1 : Int32))])) _
          refine XS.icmpNo X36.here hx rfl (hb hby at_134) rfl (teq ((by decide) : (1 : Int32) = (1 : Int32))).2 ?_
          show Steps p.tables e below (T36.setTop (mkF m 137 #[.val (.int p0), .val (.int p1), .val (.int p2), .val (.int (4 : Int32)), .val (.ref a_SELECT_MODE), .val (.int (18 : Int32)), .val (.int (p2 &&& (3 : Int32))), .val (.int q), .val (.int (1 : Int32))] [])) _
          refine XS.iconst X36.here hx rfl (hb hby at_137) ?_
          show Steps p.tables e below (T36.setTop (mkF m 138 #[.val (.int p0), .val (.int p1), .val (.int p2), .val (.int (4 : Int32)), .val (.ref a_SELECT_MODE), .val (.int (18 : Int32)), .val (.int (p2 &&& (3 : Int32))), .val (.int q), .val (.int (1 : Int32))] [(.int (1 : Int32))])) _
          refine XS.goto X36.here hx rfl (pc0 := 138) (pc' := 142) rfl (hb hby at_138) (by decide) (by decide) ?_
          exact kt
        refine own_ret X36 (v := some (.int (1 : Int32))) (fun h => by rw [Bd.returns] at h; cases h) hlk (by decide) (by decide) ?_ (fun fs hr => ?_)
        · show Q0 Z p0 p1 p2 a_MODULE_INFORMATION a_SET_REGION a_GET_REGION a_SELECT_PARAMETER a_SELECT_MODE a_SINGLE_POLLING a_MULTIPLE_POLLING a_STOP_MULTIPLE_POLLING a_READ a_WRITE a_SET_POWER a_GET_POWER h0 n0 (some (.int (1 : Int32))) T36.heap _
          rw [eq36]
          exact ⟨rfl, N36⟩
        · show Steps p.tables e below (T36.setTop (mkF m 142 #[.val (.int p0), .val (.int p1), .val (.int p2), .val (.int (4 : Int32)), .val (.ref a_SELECT_MODE), .val (.int (18 : Int32)), .val (.int (p2 &&& (3 : Int32))), .val (.int q), .val (.int (1 : Int32))] [(.int (1 : Int32))])) _
          exact retN X36 hx (t := .boolean) Bd.returns (by simp) (hb hby at_142) hr
      · refine own_st (A' := T34.setTop (mkF m 98 #[.val (.int p0), .val (.int p1), .val (.int p2), .val (.int (4 : Int32)), .val (.ref a_SELECT_MODE), .val (.int (18 : Int32)), .val (.int (p2 &&& (3 : Int32))), .val (.int q), .unset] [(.int (12 : Int32)), (.int q)])) (fun tg kt => ?_) ?_
        · show Steps p.tables e below (T34.setTop (mkF m 91 #[.val (.int p0), .val (.int p1), .val (.int p2), .val (.int (4 : Int32)), .val (.ref a_SELECT_MODE), .val (.int (18 : Int32)), .val (.int (p2 &&& (3 : Int32))), .val (.int q), .unset] [(.int (18 : Int32)), (.int q)])) _
          refine XS.icmpNo X34.here hx rfl (hb hby at_91) rfl (feq hc91_35).1 ?_
          show Steps p.tables e below (T34.setTop (mkF m 94 #[.val (.int p0), .val (.int p1), .val (.int p2), .val (.int (4 : Int32)), .val (.ref a_SELECT_MODE), .val (.int (18 : Int32)), .val (.int (p2 &&& (3 : Int32))), .val (.int q), .unset] [])) _
          refine XS.iload X34.here hx rfl (hb hby at_94) rfl ?_
          show Steps p.tables e below (T34.setTop (mkF m 96 #[.val (.int p0), .val (.int p1), .val (.int p2), .val (.int (4 : Int32)), .val (.ref a_SELECT_MODE), .val (.int (18 : Int32)), .val (.int (p2 &&& (3 : Int32))), .val (.int q), .unset] [(.int q)])) _
          refine XS.bipush X34.here hx rfl (hb hby at_96) ?_
          exact kt
        by_cases hc98_37 : q = (12 : Int32)
        · refine own_st (A' := T34.setTop (mkF m 129 #[.val (.int p0), .val (.int p1), .val (.int p2), .val (.int (4 : Int32)), .val (.ref a_SELECT_MODE), .val (.int (18 : Int32)), .val (.int (p2 &&& (3 : Int32))), .val (.int q), .val (.int (1 : Int32))] [(.int q), (.ref a_SELECT_MODE)])) (fun tg kt => ?_) ?_
          · show Steps p.tables e below (T34.setTop (mkF m 98 #[.val (.int p0), .val (.int p1), .val (.int p2), .val (.int (4 : Int32)), .val (.ref a_SELECT_MODE), .val (.int (18 : Int32)), .val (.int (p2 &&& (3 : Int32))), .val (.int q), .unset] [(.int (12 : Int32)), (.int q)])) _
            refine XS.icmpNo X34.here hx rfl (hb hby at_98) rfl (teq hc98_37).2 ?_
            show Steps p.tables e below (T34.setTop (mkF m 101 #[.val (.int p0), .val (.int p1), .val (.int p2), .val (.int (4 : Int32)), .val (.ref a_SELECT_MODE), .val (.int (18 : Int32)), .val (.int (p2 &&& (3 : Int32))), .val (.int q), .unset] [])) _
            refine XS.iconst X34.here hx rfl (hb hby at_101) ?_
            show Steps p.tables e below (T34.setTop (mkF m 102 #[.val (.int p0), .val (.int p1), .val (.int p2), .val (.int (4 : Int32)), .val (.ref a_SELECT_MODE), .val (.int (18 : Int32)), .val (.int (p2 &&& (3 : Int32))), .val (.int q), .unset] [(.int (1 : Int32))])) _
            refine XS.goto X34.here hx rfl (pc0 := 102) (pc' := 106) rfl (hb hby at_102) (by decide) (by decide) ?_
            show Steps p.tables e below (T34.setTop (mkF m 106 #[.val (.int p0), .val (.int p1), .val (.int p2), .val (.int (4 : Int32)), .val (.ref a_SELECT_MODE), .val (.int (18 : Int32)), .val (.int (p2 &&& (3 : Int32))), .val (.int q), .unset] [(.int (1 : Int32))])) _
            refine XS.istore X34.here hx rfl (hb hby at_106) rfl (l' := #[.val (.int p0), .val (.int p1), .val (.int p2), .val (.int (4 : Int32)), .val (.ref a_SELECT_MODE), .val (.int (18 : Int32)), .val (.int (p2 &&& (3 : Int32))), .val (.int q), .val (.int (1 : Int32))]) rfl ?_
            show Steps p.tables e below (T34.setTop (mkF m 108 #[.val (.int p0), .val (.int p1), .val (.int p2), .val (.int (4 : Int32)), .val (.ref a_SELECT_MODE), .val (.int (18 : Int32)), .val (.int (p2 &&& (3 : Int32))), .val (.int q), .val (.int (1 : Int32))] [])) _
            refine XS.goto X34.here hx rfl (pc0 := 108) (pc' := 125) rfl (hb hby at_108) (by decide) (by decide) ?_
            show Steps p.tables e below (T34.setTop (mkF m 125 #[.val (.int p0), .val (.int p1), .val (.int p2), .val (.int (4 : Int32)), .val (.ref a_SELECT_MODE), .val (.int (18 : Int32)), .val (.int (p2 &&& (3 : Int32))), .val (.int q), .val (.int (1 : Int32))] [])) _
            refine XS.aload X34.here hx rfl (hb hby at_125) rfl rfl ?_
            show Steps p.tables e below (T34.setTop (mkF m 127 #[.val (.int p0), .val (.int p1), .val (.int p2), .val (.int (4 : Int32)), .val (.ref a_SELECT_MODE), .val (.int (18 : Int32)), .val (.int (p2 &&& (3 : Int32))), .val (.int q), .val (.int (1 : Int32))] [(.ref a_SELECT_MODE)])) _
            refine XS.iload X34.here hx rfl (hb hby at_127) rfl ?_
            exact kt
          obtain ⟨cq38, kq38, q38a, q38b, q38c⟩ := isOf hZ eq34 E_SELECT_MODE
          obtain ⟨_, _, ⟨T38, L38, k38, n38⟩, -, X38, ⟨Lc38, hQ38, l38, y38, z38⟩, st38⟩ := X34.virtualBack hx (y := (⟨"com/example/tagwire/tagwire/bb/Command", "isAnsweredBy", "(I)Z"⟩ : MethodName)) (z := (⟨"com/example/tagwire/tagwire/bb/Command", "isAnsweredBy", "(I)Z"⟩ : MethodName)) hown (mvT hZ (hw _ (List.mem_of_getElem? (i := 11) rfl))) (mvT hZ (hw _ (List.mem_of_getElem? (i := 12) rfl))) (notFace_of_selects (args := #[]) (mvT hZ (hw _ (List.mem_of_getElem? (i := 14) rfl)))) (mvT hZ (hw _ (List.mem_of_getElem? (i := 14) rfl))) (mvT hZ (hw _ (List.mem_of_getElem? (i := 13) rfl))) (by decide) (backOf (W := 0) (rm3 l Z a0 hw [] a_SELECT_MODE q (18 : Int32) (12 : Int32) h0 n0 Z0 F_SELECT_MODE_code F_SELECT_MODE_answerCode) hZ (hw _ (List.mem_of_getElem? (i := 15) rfl)) (hw _ (List.mem_of_getElem? (i := 6) rfl)) (by decide) (by decide)) q38a q38c (g := (mkF m 129 #[.val (.int p0), .val (.int p1), .val (.int p2), .val (.int (4 : Int32)), .val (.ref a_SELECT_MODE), .val (.int (18 : Int32)), .val (.int (p2 &&& (3 : Int32))), .val (.int q), .val (.int (1 : Int32))] [(.int q), (.ref a_SELECT_MODE)])) rfl (by rw [hml]; rfl) (Steps.refl _) (argsL := [(.int q)]) (rest := []) (lenOf own_pd4 rfl) rfl (by show 2 * 0 + _ ≤ _; exact Nat.le_of_eq rfl) (hb hby at_129) (fun _ _ => ⟨rfl, eq34, (by decide : 0 + 0 ≤ _), (by decide : 0 + 0 ≤ _)⟩)
          dsimp only [Pt.U, Pt.locs, Pt.cells, Pt.slots] at X38 l38 y38 z38 st38 hQ38
          subst l38 y38 z38
          obtain ⟨hv38, hr38⟩ := hQ38
          rw [show own_ans q (18 : Int32) (12 : Int32) = (1 : Int32) from by unfold own_ans; rw [if_neg hc91_35, if_pos hc98_37]] at hv38
          have hQ38 := And.intro hv38 hr38
          obtain ⟨rfl, Nq38, eq38⟩ := hQ38
          have N38 := Fr.app N34 Nq38
          refine own_tr st38 ?_
          show own_Gl _ _ _ _ _ _ _ _ (T38.setTop (mkF m 132 #[.val (.int p0), .val (.int p1), .val (.int p2), .val (.int (4 : Int32)), .val (.ref a_SELECT_MODE), .val (.int (18 : Int32)), .val (.int (p2 &&& (3 : Int32))), .val (.int q), .val (.int (1 : Int32))] [(.int (1 : Int32))]))
          refine own_st (A' := T38.setTop (mkF m 142 #[.val (.int p0), .val (.int p1), .val (.int p2), .val (.int (4 : Int32)), .val (.ref a_SELECT_MODE), .val (.int (18 : Int32)), .val (.int (p2 &&& (3 : Int32))), .val (.int q), .val (.int (1 : Int32))] [(.int (1 : Int32))])) (fun tg kt => ?_) ?_
          · show Steps p.tables e below (T38.setTop (mkF m 132 #[.val (.int p0), .val (.int p1), .val (.int p2), .val (.int (4 : Int32)), .val (.ref a_SELECT_MODE), .val (.int (18 : Int32)), .val (.int (p2 &&& (3 : Int32))), .val (.int q), .val (.int (1 : Int32))] [(.int (1 : Int32))])) _
            refine XS.iload X38.here hx rfl (hb hby at_132) rfl ?_
            show Steps p.tables e below (T38.setTop (mkF m 134 #[.val (.int p0), .val (.int p1), .val (.int p2), .val (.int (4 : Int32)), .val (.ref a_SELECT_MODE), .val (.int (18 : Int32)), .val (.int (p2 &&& (3 : Int32))), .val (.int q), .val (.int (1 : Int32))] [(.int (1 : Int32)), (.int (1 : Int32))])) _
            refine XS.icmpNo X38.here hx rfl (hb hby at_134) rfl (teq ((by decide) : (1 : Int32) = (1 : Int32))).2 ?_
            show Steps p.tables e below (T38.setTop (mkF m 137 #[.val (.int p0), .val (.int p1), .val (.int p2), .val (.int (4 : Int32)), .val (.ref a_SELECT_MODE), .val (.int (18 : Int32)), .val (.int (p2 &&& (3 : Int32))), .val (.int q), .val (.int (1 : Int32))] [])) _
            refine XS.iconst X38.here hx rfl (hb hby at_137) ?_
            show Steps p.tables e below (T38.setTop (mkF m 138 #[.val (.int p0), .val (.int p1), .val (.int p2), .val (.int (4 : Int32)), .val (.ref a_SELECT_MODE), .val (.int (18 : Int32)), .val (.int (p2 &&& (3 : Int32))), .val (.int q), .val (.int (1 : Int32))] [(.int (1 : Int32))])) _
            refine XS.goto X38.here hx rfl (pc0 := 138) (pc' := 142) rfl (hb hby at_138) (by decide) (by decide) ?_
            exact kt
          refine own_ret X38 (v := some (.int (1 : Int32))) (fun h => by rw [Bd.returns] at h; cases h) hlk (by decide) (by decide) ?_ (fun fs hr => ?_)
          · show Q0 Z p0 p1 p2 a_MODULE_INFORMATION a_SET_REGION a_GET_REGION a_SELECT_PARAMETER a_SELECT_MODE a_SINGLE_POLLING a_MULTIPLE_POLLING a_STOP_MULTIPLE_POLLING a_READ a_WRITE a_SET_POWER a_GET_POWER h0 n0 (some (.int (1 : Int32))) T38.heap _
            rw [eq38]
            exact ⟨rfl, N38⟩
          · show Steps p.tables e below (T38.setTop (mkF m 142 #[.val (.int p0), .val (.int p1), .val (.int p2), .val (.int (4 : Int32)), .val (.ref a_SELECT_MODE), .val (.int (18 : Int32)), .val (.int (p2 &&& (3 : Int32))), .val (.int q), .val (.int (1 : Int32))] [(.int (1 : Int32))])) _
            exact retN X38 hx (t := .boolean) Bd.returns (by simp) (hb hby at_142) hr
        · refine own_st (A' := T34.setTop (mkF m 129 #[.val (.int p0), .val (.int p1), .val (.int p2), .val (.int (4 : Int32)), .val (.ref a_SELECT_MODE), .val (.int (18 : Int32)), .val (.int (p2 &&& (3 : Int32))), .val (.int q), .val (.int (0 : Int32))] [(.int q), (.ref a_SELECT_MODE)])) (fun tg kt => ?_) ?_
          · show Steps p.tables e below (T34.setTop (mkF m 98 #[.val (.int p0), .val (.int p1), .val (.int p2), .val (.int (4 : Int32)), .val (.ref a_SELECT_MODE), .val (.int (18 : Int32)), .val (.int (p2 &&& (3 : Int32))), .val (.int q), .unset] [(.int (12 : Int32)), (.int q)])) _
            refine XS.icmpYes X34.here hx rfl (pc0 := 98) (pc' := 105) rfl (hb hby at_98) rfl (feq hc98_37).2 (by decide) (by decide) ?_
            show Steps p.tables e below (T34.setTop (mkF m 105 #[.val (.int p0), .val (.int p1), .val (.int p2), .val (.int (4 : Int32)), .val (.ref a_SELECT_MODE), .val (.int (18 : Int32)), .val (.int (p2 &&& (3 : Int32))), .val (.int q), .unset] [])) _
            refine XS.iconst X34.here hx rfl (hb hby at_105) ?_
            show Steps p.tables e below (T34.setTop (mkF m 106 #[.val (.int p0), .val (.int p1), .val (.int p2), .val (.int (4 : Int32)), .val (.ref a_SELECT_MODE), .val (.int (18 : Int32)), .val (.int (p2 &&& (3 : Int32))), .val (.int q), .unset] [(.int (0 : Int32))])) _
            refine XS.istore X34.here hx rfl (hb hby at_106) rfl (l' := #[.val (.int p0), .val (.int p1), .val (.int p2), .val (.int (4 : Int32)), .val (.ref a_SELECT_MODE), .val (.int (18 : Int32)), .val (.int (p2 &&& (3 : Int32))), .val (.int q), .val (.int (0 : Int32))]) rfl ?_
            show Steps p.tables e below (T34.setTop (mkF m 108 #[.val (.int p0), .val (.int p1), .val (.int p2), .val (.int (4 : Int32)), .val (.ref a_SELECT_MODE), .val (.int (18 : Int32)), .val (.int (p2 &&& (3 : Int32))), .val (.int q), .val (.int (0 : Int32))] [])) _
            refine XS.goto X34.here hx rfl (pc0 := 108) (pc' := 125) rfl (hb hby at_108) (by decide) (by decide) ?_
            show Steps p.tables e below (T34.setTop (mkF m 125 #[.val (.int p0), .val (.int p1), .val (.int p2), .val (.int (4 : Int32)), .val (.ref a_SELECT_MODE), .val (.int (18 : Int32)), .val (.int (p2 &&& (3 : Int32))), .val (.int q), .val (.int (0 : Int32))] [])) _
            refine XS.aload X34.here hx rfl (hb hby at_125) rfl rfl ?_
            show Steps p.tables e below (T34.setTop (mkF m 127 #[.val (.int p0), .val (.int p1), .val (.int p2), .val (.int (4 : Int32)), .val (.ref a_SELECT_MODE), .val (.int (18 : Int32)), .val (.int (p2 &&& (3 : Int32))), .val (.int q), .val (.int (0 : Int32))] [(.ref a_SELECT_MODE)])) _
            refine XS.iload X34.here hx rfl (hb hby at_127) rfl ?_
            exact kt
          obtain ⟨cq39, kq39, q39a, q39b, q39c⟩ := isOf hZ eq34 E_SELECT_MODE
          obtain ⟨_, _, ⟨T39, L39, k39, n39⟩, -, X39, ⟨Lc39, hQ39, l39, y39, z39⟩, st39⟩ := X34.virtualBack hx (y := (⟨"com/example/tagwire/tagwire/bb/Command", "isAnsweredBy", "(I)Z"⟩ : MethodName)) (z := (⟨"com/example/tagwire/tagwire/bb/Command", "isAnsweredBy", "(I)Z"⟩ : MethodName)) hown (mvT hZ (hw _ (List.mem_of_getElem? (i := 11) rfl))) (mvT hZ (hw _ (List.mem_of_getElem? (i := 12) rfl))) (notFace_of_selects (args := #[]) (mvT hZ (hw _ (List.mem_of_getElem? (i := 14) rfl)))) (mvT hZ (hw _ (List.mem_of_getElem? (i := 14) rfl))) (mvT hZ (hw _ (List.mem_of_getElem? (i := 13) rfl))) (by decide) (backOf (W := 0) (rm3 l Z a0 hw [] a_SELECT_MODE q (18 : Int32) (12 : Int32) h0 n0 Z0 F_SELECT_MODE_code F_SELECT_MODE_answerCode) hZ (hw _ (List.mem_of_getElem? (i := 15) rfl)) (hw _ (List.mem_of_getElem? (i := 6) rfl)) (by decide) (by decide)) q39a q39c (g := (mkF m 129 #[.val (.int p0), .val (.int p1), .val (.int p2), .val (.int (4 : Int32)), .val (.ref a_SELECT_MODE), .val (.int (18 : Int32)), .val (.int (p2 &&& (3 : Int32))), .val (.int q), .val (.int (0 : Int32))] [(.int q), (.ref a_SELECT_MODE)])) rfl (by rw [hml]; rfl) (Steps.refl _) (argsL := [(.int q)]) (rest := []) (lenOf own_pd4 rfl) rfl (by show 2 * 0 + _ ≤ _; exact Nat.le_of_eq rfl) (hb hby at_129) (fun _ _ => ⟨rfl, eq34, (by decide : 0 + 0 ≤ _), (by decide : 0 + 0 ≤ _)⟩)
          dsimp only [Pt.U, Pt.locs, Pt.cells, Pt.slots] at X39 l39 y39 z39 st39 hQ39
          subst l39 y39 z39
          obtain ⟨hv39, hr39⟩ := hQ39
          rw [show own_ans q (18 : Int32) (12 : Int32) = (0 : Int32) from by unfold own_ans; rw [if_neg hc91_35, if_neg hc98_37]] at hv39
          have hQ39 := And.intro hv39 hr39
          obtain ⟨rfl, Nq39, eq39⟩ := hQ39
          have N39 := Fr.app N34 Nq39
          refine own_tr st39 ?_
          show own_Gl _ _ _ _ _ _ _ _ (T39.setTop (mkF m 132 #[.val (.int p0), .val (.int p1), .val (.int p2), .val (.int (4 : Int32)), .val (.ref a_SELECT_MODE), .val (.int (18 : Int32)), .val (.int (p2 &&& (3 : Int32))), .val (.int q), .val (.int (0 : Int32))] [(.int (0 : Int32))]))
          refine own_st (A' := T39.setTop (mkF m 142 #[.val (.int p0), .val (.int p1), .val (.int p2), .val (.int (4 : Int32)), .val (.ref a_SELECT_MODE), .val (.int (18 : Int32)), .val (.int (p2 &&& (3 : Int32))), .val (.int q), .val (.int (0 : Int32))] [(.int (1 : Int32))])) (fun tg kt => ?_) ?_
          · show Steps p.tables e below (T39.setTop (mkF m 132 #[.val (.int p0), .val (.int p1), .val (.int p2), .val (.int (4 : Int32)), .val (.ref a_SELECT_MODE), .val (.int (18 : Int32)), .val (.int (p2 &&& (3 : Int32))), .val (.int q), .val (.int (0 : Int32))] [(.int (0 : Int32))])) _
            refine XS.iload X39.here hx rfl (hb hby at_132) rfl ?_
            show Steps p.tables e below (T39.setTop (mkF m 134 #[.val (.int p0), .val (.int p1), .val (.int p2), .val (.int (4 : Int32)), .val (.ref a_SELECT_MODE), .val (.int (18 : Int32)), .val (.int (p2 &&& (3 : Int32))), .val (.int q), .val (.int (0 : Int32))] [(.int (0 : Int32)), (.int (0 : Int32))])) _
            refine XS.icmpNo X39.here hx rfl (hb hby at_134) rfl (teq ((by decide) : (0 : Int32) = (0 : Int32))).2 ?_
            show Steps p.tables e below (T39.setTop (mkF m 137 #[.val (.int p0), .val (.int p1), .val (.int p2), .val (.int (4 : Int32)), .val (.ref a_SELECT_MODE), .val (.int (18 : Int32)), .val (.int (p2 &&& (3 : Int32))), .val (.int q), .val (.int (0 : Int32))] [])) _
            refine XS.iconst X39.here hx rfl (hb hby at_137) ?_
            show Steps p.tables e below (T39.setTop (mkF m 138 #[.val (.int p0), .val (.int p1), .val (.int p2), .val (.int (4 : Int32)), .val (.ref a_SELECT_MODE), .val (.int (18 : Int32)), .val (.int (p2 &&& (3 : Int32))), .val (.int q), .val (.int (0 : Int32))] [(.int (1 : Int32))])) _
            refine XS.goto X39.here hx rfl (pc0 := 138) (pc' := 142) rfl (hb hby at_138) (by decide) (by decide) ?_
            exact kt
          refine own_ret X39 (v := some (.int (1 : Int32))) (fun h => by rw [Bd.returns] at h; cases h) hlk (by decide) (by decide) ?_ (fun fs hr => ?_)
          · show Q0 Z p0 p1 p2 a_MODULE_INFORMATION a_SET_REGION a_GET_REGION a_SELECT_PARAMETER a_SELECT_MODE a_SINGLE_POLLING a_MULTIPLE_POLLING a_STOP_MULTIPLE_POLLING a_READ a_WRITE a_SET_POWER a_GET_POWER h0 n0 (some (.int (1 : Int32))) T39.heap _
            rw [eq39]
            exact ⟨rfl, N39⟩
          · show Steps p.tables e below (T39.setTop (mkF m 142 #[.val (.int p0), .val (.int p1), .val (.int p2), .val (.int (4 : Int32)), .val (.ref a_SELECT_MODE), .val (.int (18 : Int32)), .val (.int (p2 &&& (3 : Int32))), .val (.int q), .val (.int (0 : Int32))] [(.int (1 : Int32))])) _
            exact retN X39 hx (t := .boolean) Bd.returns (by simp) (hb hby at_142) hr
    refine own_st (A' := T34.setTop (mkF m 27 #[.val (.int p0), .val (.int p1), .val (.int p2), .val (.int (4 : Int32)), .val (.ref a_SELECT_MODE), .val (.int (18 : Int32)), .val (.int (p2 &&& (3 : Int32))), .unset, .unset] [(.int (p2 &&& (3 : Int32)))])) (fun tg kt => ?_) ?_
    · show Steps p.tables e below (T34.setTop (mkF m 25 #[.val (.int p0), .val (.int p1), .val (.int p2), .val (.int (4 : Int32)), .val (.ref a_SELECT_MODE), .val (.int (18 : Int32)), .val (.int (p2 &&& (3 : Int32))), .unset, .unset] [])) _
      refine XS.iload X34.here hx rfl (hb hby at_25) rfl ?_
      exact kt
    by_cases hc27_40 : (p2 &&& (3 : Int32)) = (0 : Int32)
    · refine own_st (A' := T34.setTop (mkF m 82 #[.val (.int p0), .val (.int p1), .val (.int p2), .val (.int (4 : Int32)), .val (.ref a_SELECT_MODE), .val (.int (18 : Int32)), .val (.int (p2 &&& (3 : Int32))), .val (.int p1), .unset] [])) (fun tg kt => ?_) ?_
      · show Steps p.tables e below (T34.setTop (mkF m 27 #[.val (.int p0), .val (.int p1), .val (.int p2), .val (.int (4 : Int32)), .val (.ref a_SELECT_MODE), .val (.int (18 : Int32)), .val (.int (p2 &&& (3 : Int32))), .unset, .unset] [(.int (p2 &&& (3 : Int32)))])) _
        refine XS.ifNo X34.here hx rfl (hb hby at_27) rfl ((if0 _ _).trans (teq hc27_40).2) ?_
        show Steps p.tables e below (T34.setTop (mkF m 30 #[.val (.int p0), .val (.int p1), .val (.int p2), .val (.int (4 : Int32)), .val (.ref a_SELECT_MODE), .val (.int (18 : Int32)), .val (.int (p2 &&& (3 : Int32))), .unset, .unset] [])) _
        refine XS.iloadN X34.here hx rfl (hb hby at_30) rfl ?_
        show Steps p.tables e below (T34.setTop (mkF m 31 #[.val (.int p0), .val (.int p1), .val (.int p2), .val (.int (4 : Int32)), .val (.ref a_SELECT_MODE), .val (.int (18 : Int32)), .val (.int (p2 &&& (3 : Int32))), .unset, .unset] [(.int p1)])) _
        refine XS.istore X34.here hx rfl (hb hby at_31) rfl (l' := #[.val (.int p0), .val (.int p1), .val (.int p2), .val (.int (4 : Int32)), .val (.ref a_SELECT_MODE), .val (.int (18 : Int32)), .val (.int (p2 &&& (3 : Int32))), .val (.int p1), .unset]) rfl ?_
        show Steps p.tables e below (T34.setTop (mkF m 33 #[.val (.int p0), .val (.int p1), .val (.int p2), .val (.int (4 : Int32)), .val (.ref a_SELECT_MODE), .val (.int (18 : Int32)), .val (.int (p2 &&& (3 : Int32))), .val (.int p1), .unset] [])) _
        refine XS.goto X34.here hx rfl (pc0 := 33) (pc' := 82) rfl (hb hby at_33) (by decide) (by decide) ?_
        exact kt
      exact tl p1
    · refine own_st (A' := T34.setTop (mkF m 39 #[.val (.int p0), .val (.int p1), .val (.int p2), .val (.int (4 : Int32)), .val (.ref a_SELECT_MODE), .val (.int (18 : Int32)), .val (.int (p2 &&& (3 : Int32))), .unset, .unset] [(.int (1 : Int32)), (.int (p2 &&& (3 : Int32)))])) (fun tg kt => ?_) ?_
      · show Steps p.tables e below (T34.setTop (mkF m 27 #[.val (.int p0), .val (.int p1), .val (.int p2), .val (.int (4 : Int32)), .val (.ref a_SELECT_MODE), .val (.int (18 : Int32)), .val (.int (p2 &&& (3 : Int32))), .unset, .unset] [(.int (p2 &&& (3 : Int32)))])) _
        refine XS.ifYes X34.here hx rfl (pc0 := 27) (pc' := 36) rfl (hb hby at_27) rfl ((if0 _ _).trans (feq hc27_40).2) (by decide) (by decide) ?_
        show Steps p.tables e below (T34.setTop (mkF m 36 #[.val (.int p0), .val (.int p1), .val (.int p2), .val (.int (4 : Int32)), .val (.ref a_SELECT_MODE), .val (.int (18 : Int32)), .val (.int (p2 &&& (3 : Int32))), .unset, .unset] [])) _
        refine XS.iload X34.here hx rfl (hb hby at_36) rfl ?_
        show Steps p.tables e below (T34.setTop (mkF m 38 #[.val (.int p0), .val (.int p1), .val (.int p2), .val (.int (4 : Int32)), .val (.ref a_SELECT_MODE), .val (.int (18 : Int32)), .val (.int (p2 &&& (3 : Int32))), .unset, .unset] [(.int (p2 &&& (3 : Int32)))])) _
        refine XS.iconst X34.here hx rfl (hb hby at_38) ?_
        exact kt
      by_cases hc39_41 : (p2 &&& (3 : Int32)) = (1 : Int32)
      · refine own_st (A' := T34.setTop (mkF m 82 #[.val (.int p0), .val (.int p1), .val (.int p2), .val (.int (4 : Int32)), .val (.ref a_SELECT_MODE), .val (.int (18 : Int32)), .val (.int (p2 &&& (3 : Int32))), .val (.int (18 : Int32)), .unset] [])) (fun tg kt => ?_) ?_
        · show Steps p.tables e below (T34.setTop (mkF m 39 #[.val (.int p0), .val (.int p1), .val (.int p2), .val (.int (4 : Int32)), .val (.ref a_SELECT_MODE), .val (.int (18 : Int32)), .val (.int (p2 &&& (3 : Int32))), .unset, .unset] [(.int (1 : Int32)), (.int (p2 &&& (3 : Int32)))])) _
          refine XS.icmpNo X34.here hx rfl (hb hby at_39) rfl (teq hc39_41).2 ?_
          show Steps p.tables e below (T34.setTop (mkF m 42 #[.val (.int p0), .val (.int p1), .val (.int p2), .val (.int (4 : Int32)), .val (.ref a_SELECT_MODE), .val (.int (18 : Int32)), .val (.int (p2 &&& (3 : Int32))), .unset, .unset] [])) _
          refine XS.iload X34.here hx rfl (hb hby at_42) rfl ?_
          show Steps p.tables e below (T34.setTop (mkF m 44 #[.val (.int p0), .val (.int p1), .val (.int p2), .val (.int (4 : Int32)), .val (.ref a_SELECT_MODE), .val (.int (18 : Int32)), .val (.int (p2 &&& (3 : Int32))), .unset, .unset] [(.int (18 : Int32))])) _
          refine XS.istore X34.here hx rfl (hb hby at_44) rfl (l' := #[.val (.int p0), .val (.int p1), .val (.int p2), .val (.int (4 : Int32)), .val (.ref a_SELECT_MODE), .val (.int (18 : Int32)), .val (.int (p2 &&& (3 : Int32))), .val (.int (18 : Int32)), .unset]) rfl ?_
          show Steps p.tables e below (T34.setTop (mkF m 46 #[.val (.int p0), .val (.int p1), .val (.int p2), .val (.int (4 : Int32)), .val (.ref a_SELECT_MODE), .val (.int (18 : Int32)), .val (.int (p2 &&& (3 : Int32))), .val (.int (18 : Int32)), .unset] [])) _
          refine XS.goto X34.here hx rfl (pc0 := 46) (pc' := 82) rfl (hb hby at_46) (by decide) (by decide) ?_
          exact kt
        exact tl (18 : Int32)
      · refine own_st (A' := T34.setTop (mkF m 52 #[.val (.int p0), .val (.int p1), .val (.int p2), .val (.int (4 : Int32)), .val (.ref a_SELECT_MODE), .val (.int (18 : Int32)), .val (.int (p2 &&& (3 : Int32))), .unset, .unset] [(.int (2 : Int32)), (.int (p2 &&& (3 : Int32)))])) (fun tg kt => ?_) ?_
        · show Steps p.tables e below (T34.setTop (mkF m 39 #[.val (.int p0), .val (.int p1), .val (.int p2), .val (.int (4 : Int32)), .val (.ref a_SELECT_MODE), .val (.int (18 : Int32)), .val (.int (p2 &&& (3 : Int32))), .unset, .unset] [(.int (1 : Int32)), (.int (p2 &&& (3 : Int32)))])) _
          refine XS.icmpYes X34.here hx rfl (pc0 := 39) (pc' := 49) rfl (hb hby at_39) rfl (feq hc39_41).2 (by decide) (by decide) ?_
          show Steps p.tables e below (T34.setTop (mkF m 49 #[.val (.int p0), .val (.int p1), .val (.int p2), .val (.int (4 : Int32)), .val (.ref a_SELECT_MODE), .val (.int (18 : Int32)), .val (.int (p2 &&& (3 : Int32))), .unset, .unset] [])) _
          refine XS.iload X34.here hx rfl (hb hby at_49) rfl ?_
          show Steps p.tables e below (T34.setTop (mkF m 51 #[.val (.int p0), .val (.int p1), .val (.int p2), .val (.int (4 : Int32)), .val (.ref a_SELECT_MODE), .val (.int (18 : Int32)), .val (.int (p2 &&& (3 : Int32))), .unset, .unset] [(.int (p2 &&& (3 : Int32)))])) _
          refine XS.iconst X34.here hx rfl (hb hby at_51) ?_
          exact kt
        by_cases hc52_42 : (p2 &&& (3 : Int32)) = (2 : Int32)
        · refine own_st (A' := T34.setTop (mkF m 82 #[.val (.int p0), .val (.int p1), .val (.int p2), .val (.int (4 : Int32)), .val (.ref a_SELECT_MODE), .val (.int (18 : Int32)), .val (.int (p2 &&& (3 : Int32))), .val (.int (12 : Int32)), .unset] [])) (fun tg kt => ?_) ?_
          · show Steps p.tables e below (T34.setTop (mkF m 52 #[.val (.int p0), .val (.int p1), .val (.int p2), .val (.int (4 : Int32)), .val (.ref a_SELECT_MODE), .val (.int (18 : Int32)), .val (.int (p2 &&& (3 : Int32))), .unset, .unset] [(.int (2 : Int32)), (.int (p2 &&& (3 : Int32)))])) _
            refine XS.icmpNo X34.here hx rfl (hb hby at_52) rfl (teq hc52_42).2 ?_
            show Steps p.tables e below (T34.setTop (mkF m 55 #[.val (.int p0), .val (.int p1), .val (.int p2), .val (.int (4 : Int32)), .val (.ref a_SELECT_MODE), .val (.int (18 : Int32)), .val (.int (p2 &&& (3 : Int32))), .unset, .unset] [])) _
            refine XS.iloadN X34.here hx rfl (hb hby at_55) rfl ?_
            show Steps p.tables e below (T34.setTop (mkF m 56 #[.val (.int p0), .val (.int p1), .val (.int p2), .val (.int (4 : Int32)), .val (.ref a_SELECT_MODE), .val (.int (18 : Int32)), .val (.int (p2 &&& (3 : Int32))), .unset, .unset] [(.int (4 : Int32))])) _
            refine XS.iconst X34.here hx rfl (hb hby at_56) ?_
            show Steps p.tables e below (T34.setTop (mkF m 57 #[.val (.int p0), .val (.int p1), .val (.int p2), .val (.int (4 : Int32)), .val (.ref a_SELECT_MODE), .val (.int (18 : Int32)), .val (.int (p2 &&& (3 : Int32))), .unset, .unset] [(.int (4 : Int32)), (.int (4 : Int32))])) _
            refine XS.icmpNo X34.here hx rfl (hb hby at_57) rfl (teq ((by decide) : (4 : Int32) = (4 : Int32))).2 ?_
            show Steps p.tables e below (T34.setTop (mkF m 60 #[.val (.int p0), .val (.int p1), .val (.int p2), .val (.int (4 : Int32)), .val (.ref a_SELECT_MODE), .val (.int (18 : Int32)), .val (.int (p2 &&& (3 : Int32))), .unset, .unset] [])) _
            refine XS.bipush X34.here hx rfl (hb hby at_60) ?_
            show Steps p.tables e below (T34.setTop (mkF m 62 #[.val (.int p0), .val (.int p1), .val (.int p2), .val (.int (4 : Int32)), .val (.ref a_SELECT_MODE), .val (.int (18 : Int32)), .val (.int (p2 &&& (3 : Int32))), .unset, .unset] [(.int (12 : Int32))])) _
            refine XS.goto X34.here hx rfl (pc0 := 62) (pc' := 67) rfl (hb hby at_62) (by decide) (by decide) ?_
            show Steps p.tables e below (T34.setTop (mkF m 67 #[.val (.int p0), .val (.int p1), .val (.int p2), .val (.int (4 : Int32)), .val (.ref a_SELECT_MODE), .val (.int (18 : Int32)), .val (.int (p2 &&& (3 : Int32))), .unset, .unset] [(.int (12 : Int32))])) _
            refine XS.istore X34.here hx rfl (hb hby at_67) rfl (l' := #[.val (.int p0), .val (.int p1), .val (.int p2), .val (.int (4 : Int32)), .val (.ref a_SELECT_MODE), .val (.int (18 : Int32)), .val (.int (p2 &&& (3 : Int32))), .val (.int (12 : Int32)), .unset]) rfl ?_
            show Steps p.tables e below (T34.setTop (mkF m 69 #[.val (.int p0), .val (.int p1), .val (.int p2), .val (.int (4 : Int32)), .val (.ref a_SELECT_MODE), .val (.int (18 : Int32)), .val (.int (p2 &&& (3 : Int32))), .val (.int (12 : Int32)), .unset] [])) _
            refine XS.goto X34.here hx rfl (pc0 := 69) (pc' := 82) rfl (hb hby at_69) (by decide) (by decide) ?_
            exact kt
          exact tl (12 : Int32)
        · refine own_st (A' := T34.setTop (mkF m 82 #[.val (.int p0), .val (.int p1), .val (.int p2), .val (.int (4 : Int32)), .val (.ref a_SELECT_MODE), .val (.int (18 : Int32)), .val (.int (p2 &&& (3 : Int32))), .val (.int ((18 : Int32) + ((p1 &&& (3 : Int32)) - (2 : Int32)))), .unset] [])) (fun tg kt => ?_) ?_
          · show Steps p.tables e below (T34.setTop (mkF m 52 #[.val (.int p0), .val (.int p1), .val (.int p2), .val (.int (4 : Int32)), .val (.ref a_SELECT_MODE), .val (.int (18 : Int32)), .val (.int (p2 &&& (3 : Int32))), .unset, .unset] [(.int (2 : Int32)), (.int (p2 &&& (3 : Int32)))])) _
            refine XS.icmpYes X34.here hx rfl (pc0 := 52) (pc' := 72) rfl (hb hby at_52) rfl (feq hc52_42).2 (by decide) (by decide) ?_
            show Steps p.tables e below (T34.setTop (mkF m 72 #[.val (.int p0), .val (.int p1), .val (.int p2), .val (.int (4 : Int32)), .val (.ref a_SELECT_MODE), .val (.int (18 : Int32)), .val (.int (p2 &&& (3 : Int32))), .unset, .unset] [])) _
            refine XS.iload X34.here hx rfl (hb hby at_72) rfl ?_
            show Steps p.tables e below (T34.setTop (mkF m 74 #[.val (.int p0), .val (.int p1), .val (.int p2), .val (.int (4 : Int32)), .val (.ref a_SELECT_MODE), .val (.int (18 : Int32)), .val (.int (p2 &&& (3 : Int32))), .unset, .unset] [(.int (18 : Int32))])) _
            refine XS.iloadN X34.here hx rfl (hb hby at_74) rfl ?_
            show Steps p.tables e below (T34.setTop (mkF m 75 #[.val (.int p0), .val (.int p1), .val (.int p2), .val (.int (4 : Int32)), .val (.ref a_SELECT_MODE), .val (.int (18 : Int32)), .val (.int (p2 &&& (3 : Int32))), .unset, .unset] [(.int p1), (.int (18 : Int32))])) _
            refine XS.iconst X34.here hx rfl (hb hby at_75) ?_
            show Steps p.tables e below (T34.setTop (mkF m 76 #[.val (.int p0), .val (.int p1), .val (.int p2), .val (.int (4 : Int32)), .val (.ref a_SELECT_MODE), .val (.int (18 : Int32)), .val (.int (p2 &&& (3 : Int32))), .unset, .unset] [(.int (3 : Int32)), (.int p1), (.int (18 : Int32))])) _
            refine XS.iand X34.here hx rfl (hb hby at_76) rfl ?_
            show Steps p.tables e below (T34.setTop (mkF m 77 #[.val (.int p0), .val (.int p1), .val (.int p2), .val (.int (4 : Int32)), .val (.ref a_SELECT_MODE), .val (.int (18 : Int32)), .val (.int (p2 &&& (3 : Int32))), .unset, .unset] [(.int (p1 &&& (3 : Int32))), (.int (18 : Int32))])) _
            refine XS.iconst X34.here hx rfl (hb hby at_77) ?_
            show Steps p.tables e below (T34.setTop (mkF m 78 #[.val (.int p0), .val (.int p1), .val (.int p2), .val (.int (4 : Int32)), .val (.ref a_SELECT_MODE), .val (.int (18 : Int32)), .val (.int (p2 &&& (3 : Int32))), .unset, .unset] [(.int (2 : Int32)), (.int (p1 &&& (3 : Int32))), (.int (18 : Int32))])) _
            refine XS.isub X34.here hx rfl (hb hby at_78) rfl ?_
            show Steps p.tables e below (T34.setTop (mkF m 79 #[.val (.int p0), .val (.int p1), .val (.int p2), .val (.int (4 : Int32)), .val (.ref a_SELECT_MODE), .val (.int (18 : Int32)), .val (.int (p2 &&& (3 : Int32))), .unset, .unset] [(.int ((p1 &&& (3 : Int32)) - (2 : Int32))), (.int (18 : Int32))])) _
            refine XS.iadd X34.here hx rfl (hb hby at_79) rfl ?_
            show Steps p.tables e below (T34.setTop (mkF m 80 #[.val (.int p0), .val (.int p1), .val (.int p2), .val (.int (4 : Int32)), .val (.ref a_SELECT_MODE), .val (.int (18 : Int32)), .val (.int (p2 &&& (3 : Int32))), .unset, .unset] [(.int ((18 : Int32) + ((p1 &&& (3 : Int32)) - (2 : Int32))))])) _
            refine XS.istore X34.here hx rfl (hb hby at_80) rfl (l' := #[.val (.int p0), .val (.int p1), .val (.int p2), .val (.int (4 : Int32)), .val (.ref a_SELECT_MODE), .val (.int (18 : Int32)), .val (.int (p2 &&& (3 : Int32))), .val (.int ((18 : Int32) + ((p1 &&& (3 : Int32)) - (2 : Int32)))), .unset]) rfl ?_
            exact kt
          exact tl ((18 : Int32) + ((p1 &&& (3 : Int32)) - (2 : Int32)))
  · show own_Gl _ _ _ _ _ _ _ _ (s₁.setTop (mkF m 7 #[.val (.int p0), .val (.int p1), .val (.int p2), .unset, .unset, .unset, .unset, .unset, .unset] [(.int (5 : Int32))]))
    refine own_st (A' := s₁.setTop (mkF m 9 #[.val (.int p0), .val (.int p1), .val (.int p2), .val (.int (5 : Int32)), .unset, .unset, .unset, .unset, .unset] [(.int (5 : Int32))])) (fun tg kt => ?_) ?_
    · show Steps p.tables e below (s₁.setTop (mkF m 7 #[.val (.int p0), .val (.int p1), .val (.int p2), .unset, .unset, .unset, .unset, .unset, .unset] [(.int (5 : Int32))])) _
      refine XS.istoreN X0.here hx rfl (hb hby at_7) rfl (l' := #[.val (.int p0), .val (.int p1), .val (.int p2), .val (.int (5 : Int32)), .unset, .unset, .unset, .unset, .unset]) rfl ?_
      show Steps p.tables e below (s₁.setTop (mkF m 8 #[.val (.int p0), .val (.int p1), .val (.int p2), .val (.int (5 : Int32)), .unset, .unset, .unset, .unset, .unset] [])) _
      refine XS.iloadN X0.here hx rfl (hb hby at_8) rfl ?_
      exact kt
    obtain ⟨_, _, ⟨T43, L43, k43, n43⟩, -, X43, ⟨Lc43, hQ43, l43, y43, z43⟩, st43⟩ := Jvm.LawKit.callS X0 hx (y := (⟨"com/example/tagwire/tagwire/bb/CommandIsAnsweredByPinLaw", "pick", "(I)Lcom/example/tagwire/tagwire/bb/Command;"⟩ : MethodName)) hown (mvT hZ (hw _ (List.mem_of_getElem? (i := 1) rfl))) (mvT hZ (hw _ (List.mem_of_getElem? (i := 2) rfl))) (mvT hZ (hw _ (List.mem_of_getElem? (i := 3) rfl))) (mvT hZ (hw _ (List.mem_of_getElem? (i := 4) rfl))) (by decide) (backOf (W := 0) (rm1 l Z a0 hw [] (5 : Int32) a_MODULE_INFORMATION a_SET_REGION a_GET_REGION a_SELECT_PARAMETER a_SELECT_MODE a_SINGLE_POLLING a_MULTIPLE_POLLING a_STOP_MULTIPLE_POLLING a_READ a_WRITE a_SET_POWER a_GET_POWER h0 n0 Z0 S_MODULE_INFORMATION S_SET_REGION S_GET_REGION S_SELECT_PARAMETER S_SELECT_MODE S_SINGLE_POLLING S_MULTIPLE_POLLING S_STOP_MULTIPLE_POLLING S_READ S_WRITE S_SET_POWER S_GET_POWER) hZ (hw _ (List.mem_of_getElem? (i := 4) rfl)) (hw _ (List.mem_of_getElem? (i := 3) rfl)) (by decide) (by decide)) (g := (mkF m 9 #[.val (.int p0), .val (.int p1), .val (.int p2), .val (.int (5 : Int32)), .unset, .unset, .unset, .unset, .unset] [(.int (5 : Int32))])) rfl (by rw [hml]; rfl) (argsL := [(.int (5 : Int32))]) (rest := []) (lenOf own_pd2 rfl) rfl (by show 2 * 0 + _ ≤ _; exact Nat.le_of_eq rfl) (hb hby at_9) (fun _ _ => ⟨rfl, e0, (by decide : 0 + 0 ≤ _), (by decide : 0 + 0 ≤ _)⟩)
    dsimp only [Pt.U, Pt.locs, Pt.cells, Pt.slots] at X43 l43 y43 z43 st43 hQ43
    subst l43 y43 z43
    obtain ⟨hv43, hr43⟩ := hQ43
    rw [show own_pick1 (5 : Int32) a_MODULE_INFORMATION a_SET_REGION a_GET_REGION a_SELECT_PARAMETER a_SELECT_MODE a_SINGLE_POLLING a_MULTIPLE_POLLING a_STOP_MULTIPLE_POLLING a_READ a_WRITE a_SET_POWER a_GET_POWER = a_SINGLE_POLLING from rfl] at hv43
    have hQ43 := And.intro hv43 hr43
    obtain ⟨rfl, Nq43, eq43⟩ := hQ43
    have N43 := Fr.app N0 Nq43
    refine own_st st43 ?_
    show own_Gl _ _ _ _ _ _ _ _ (T43.setTop (mkF m 12 #[.val (.int p0), .val (.int p1), .val (.int p2), .val (.int (5 : Int32)), .unset, .unset, .unset, .unset, .unset] [(.ref a_SINGLE_POLLING)]))
    refine own_st (A' := T43.setTop (mkF m 15 #[.val (.int p0), .val (.int p1), .val (.int p2), .val (.int (5 : Int32)), .val (.ref a_SINGLE_POLLING), .unset, .unset, .unset, .unset] [(.int (5 : Int32))])) (fun tg kt => ?_) ?_
    · show Steps p.tables e below (T43.setTop (mkF m 12 #[.val (.int p0), .val (.int p1), .val (.int p2), .val (.int (5 : Int32)), .unset, .unset, .unset, .unset, .unset] [(.ref a_SINGLE_POLLING)])) _
      refine XS.astore X43.here hx rfl (hb hby at_12) rfl rfl (l' := #[.val (.int p0), .val (.int p1), .val (.int p2), .val (.int (5 : Int32)), .val (.ref a_SINGLE_POLLING), .unset, .unset, .unset, .unset]) rfl ?_
      show Steps p.tables e below (T43.setTop (mkF m 14 #[.val (.int p0), .val (.int p1), .val (.int p2), .val (.int (5 : Int32)), .val (.ref a_SINGLE_POLLING), .unset, .unset, .unset, .unset] [])) _
      refine XS.iloadN X43.here hx rfl (hb hby at_14) rfl ?_
      exact kt
    obtain ⟨_, _, ⟨T44, L44, k44, n44⟩, -, X44, ⟨Lc44, hQ44, l44, y44, z44⟩, st44⟩ := Jvm.LawKit.callS X43 hx (y := (⟨"com/example/tagwire/tagwire/bb/CommandIsAnsweredByPinLaw", "codeOf", "(I)I"⟩ : MethodName)) hown (mvT hZ (hw _ (List.mem_of_getElem? (i := 8) rfl))) (mvT hZ (hw _ (List.mem_of_getElem? (i := 9) rfl))) (mvT hZ (hw _ (List.mem_of_getElem? (i := 3) rfl))) (mvT hZ (hw _ (List.mem_of_getElem? (i := 10) rfl))) (by decide) (backOf (W := 0) (rm2 l Z a0 hw [] (5 : Int32) h0 n0 Z0) hZ (hw _ (List.mem_of_getElem? (i := 10) rfl)) (hw _ (List.mem_of_getElem? (i := 3) rfl)) (by decide) (by decide)) (g := (mkF m 15 #[.val (.int p0), .val (.int p1), .val (.int p2), .val (.int (5 : Int32)), .val (.ref a_SINGLE_POLLING), .unset, .unset, .unset, .unset] [(.int (5 : Int32))])) rfl (by rw [hml]; rfl) (argsL := [(.int (5 : Int32))]) (rest := []) (lenOf own_pd3 rfl) rfl (by show 2 * 0 + _ ≤ _; exact Nat.le_of_eq rfl) (hb hby at_15) (fun _ _ => ⟨rfl, eq43, (by decide : 0 + 0 ≤ _), (by decide : 0 + 0 ≤ _)⟩)
    dsimp only [Pt.U, Pt.locs, Pt.cells, Pt.slots] at X44 l44 y44 z44 st44 hQ44
    subst l44 y44 z44
    obtain ⟨hv44, hr44⟩ := hQ44
    rw [show own_code (5 : Int32) = (34 : Int32) from rfl] at hv44
    have hQ44 := And.intro hv44 hr44
    obtain ⟨rfl, Nq44, eq44⟩ := hQ44
    have N44 := Fr.app N43 Nq44
    refine own_st st44 ?_
    show own_Gl _ _ _ _ _ _ _ _ (T44.setTop (mkF m 18 #[.val (.int p0), .val (.int p1), .val (.int p2), .val (.int (5 : Int32)), .val (.ref a_SINGLE_POLLING), .unset, .unset, .unset, .unset] [(.int (34 : Int32))]))
    refine own_st (A' := T44.setTop (mkF m 25 #[.val (.int p0), .val (.int p1), .val (.int p2), .val (.int (5 : Int32)), .val (.ref a_SINGLE_POLLING), .val (.int (34 : Int32)), .val (.int (p2 &&& (3 : Int32))), .unset, .unset] [])) (fun tg kt => ?_) ?_
    · show Steps p.tables e below (T44.setTop (mkF m 18 #[.val (.int p0), .val (.int p1), .val (.int p2), .val (.int (5 : Int32)), .val (.ref a_SINGLE_POLLING), .unset, .unset, .unset, .unset] [(.int (34 : Int32))])) _
      refine XS.istore X44.here hx rfl (hb hby at_18) rfl (l' := #[.val (.int p0), .val (.int p1), .val (.int p2), .val (.int (5 : Int32)), .val (.ref a_SINGLE_POLLING), .val (.int (34 : Int32)), .unset, .unset, .unset]) rfl ?_
      show Steps p.tables e below (T44.setTop (mkF m 20 #[.val (.int p0), .val (.int p1), .val (.int p2), .val (.int (5 : Int32)), .val (.ref a_SINGLE_POLLING), .val (.int (34 : Int32)), .unset, .unset, .unset] [])) _
      refine XS.iloadN X44.here hx rfl (hb hby at_20) rfl ?_
      show Steps p.tables e below (T44.setTop (mkF m 21 #[.val (.int p0), .val (.int p1), .val (.int p2), .val (.int (5 : Int32)), .val (.ref a_SINGLE_POLLING), .val (.int (34 : Int32)), .unset, .unset, .unset] [(.int p2)])) _
      refine XS.iconst X44.here hx rfl (hb hby at_21) ?_
      show Steps p.tables e below (T44.setTop (mkF m 22 #[.val (.int p0), .val (.int p1), .val (.int p2), .val (.int (5 : Int32)), .val (.ref a_SINGLE_POLLING), .val (.int (34 : Int32)), .unset, .unset, .unset] [(.int (3 : Int32)), (.int p2)])) _
      refine XS.iand X44.here hx rfl (hb hby at_22) rfl ?_
      show Steps p.tables e below (T44.setTop (mkF m 23 #[.val (.int p0), .val (.int p1), .val (.int p2), .val (.int (5 : Int32)), .val (.ref a_SINGLE_POLLING), .val (.int (34 : Int32)), .unset, .unset, .unset] [(.int (p2 &&& (3 : Int32)))])) _
      refine XS.istore X44.here hx rfl (hb hby at_23) rfl (l' := #[.val (.int p0), .val (.int p1), .val (.int p2), .val (.int (5 : Int32)), .val (.ref a_SINGLE_POLLING), .val (.int (34 : Int32)), .val (.int (p2 &&& (3 : Int32))), .unset, .unset]) rfl ?_
      exact kt
    have tl : ∀ (q : Int32), own_Gl FrameEnd p e below s (Q0 Z p0 p1 p2 a_MODULE_INFORMATION a_SET_REGION a_GET_REGION a_SELECT_PARAMETER a_SELECT_MODE a_SINGLE_POLLING a_MULTIPLE_POLLING a_STOP_MULTIPLE_POLLING a_READ a_WRITE a_SET_POWER a_GET_POWER h0 n0) room_1.cells room_1.slots (T44.setTop (mkF m 82 #[.val (.int p0), .val (.int p1), .val (.int p2), .val (.int (5 : Int32)), .val (.ref a_SINGLE_POLLING), .val (.int (34 : Int32)), .val (.int (p2 &&& (3 : Int32))), .val (.int q), .unset] [])) := by
      intro q
      refine own_st (A' := T44.setTop (mkF m 115 #[.val (.int p0), .val (.int p1), .val (.int p2), .val (.int (5 : Int32)), .val (.ref a_SINGLE_POLLING), .val (.int (34 : Int32)), .val (.int (p2 &&& (3 : Int32))), .val (.int q), .unset] [(.int (34 : Int32)), (.int q)])) (fun tg kt => ?_) ?_
      · show Steps p.tables e below (T44.setTop (mkF m 82 #[.val (.int p0), .val (.int p1), .val (.int p2), .val (.int (5 : Int32)), .val (.ref a_SINGLE_POLLING), .val (.int (34 : Int32)), .val (.int (p2 &&& (3 : Int32))), .val (.int q), .unset] [])) _
        refine XS.iloadN X44.here hx rfl (hb hby at_82) rfl ?_
        show Steps p.tables e below (T44.setTop (mkF m 83 #[.val (.int p0), .val (.int p1), .val (.int p2), .val (.int (5 : Int32)), .val (.ref a_SINGLE_POLLING), .val (.int (34 : Int32)), .val (.int (p2 &&& (3 : Int32))), .val (.int q), .unset] [(.int (5 : Int32))])) _
        refine XS.iconst X44.here hx rfl (hb hby at_83) ?_
        show Steps p.tables e below (T44.setTop (mkF m 84 #[.val (.int p0), .val (.int p1), .val (.int p2), .val (.int (5 : Int32)), .val (.ref a_SINGLE_POLLING), .val (.int (34 : Int32)), .val (.int (p2 &&& (3 : Int32))), .val (.int q), .unset] [(.int (4 : Int32)), (.int (5 : Int32))])) _
        refine XS.icmpYes X44.here hx rfl (pc0 := 84) (pc' := 111) rfl (hb hby at_84) rfl (feq ((by decide) : ¬ ((5 : Int32) = (4 : Int32)))).2 (by decide) (by decide) ?_
        show Steps p.tables e below (T44.setTop (mkF m 111 #[.val (.int p0), .val (.int p1), .val (.int p2), .val (.int (5 : Int32)), .val (.ref a_SINGLE_POLLING), .val (.int (34 : Int32)), .val (.int (p2 &&& (3 : Int32))), .val (.int q), .unset] [])) _
        refine XS.iload X44.here hx rfl (hb hby at_111) rfl ?_
        show Steps p.tables e below (T44.setTop (mkF m 113 #[.val (.int p0), .val (.int p1), .val (.int p2), .val (.int (5 : Int32)), .val (.ref a_SINGLE_POLLING), .val (.int (34 : Int32)), .val (.int (p2 &&& (3 : Int32))), .val (.int q), .unset] [(.int q)])) _
        refine XS.iload X44.here hx rfl (hb hby at_113) rfl ?_
        exact kt
      by_cases hc115_45 : q = (34 : Int32)
      · refine own_st (A' := T44.setTop (mkF m 129 #[.val (.int p0), .val (.int p1), .val (.int p2), .val (.int (5 : Int32)), .val (.ref a_SINGLE_POLLING), .val (.int (34 : Int32)), .val (.int (p2 &&& (3 : Int32))), .val (.int q), .val (.int (1 : Int32))] [(.int q), (.ref a_SINGLE_POLLING)])) (fun tg kt => ?_) ?_
        · show Steps p.tables e below (T44.setTop (mkF m 115 #[.val (.int p0), .val (.int p1), .val (.int p2), .val (.int (5 : Int32)), .val (.ref a_SINGLE_POLLING), .val (.int (34 : Int32)), .val (.int (p2 &&& (3 : Int32))), .val (.int q), .unset] [(.int (34 : Int32)), (.int q)])) _
          refine XS.icmpNo X44.here hx rfl (hb hby at_115) rfl (teq hc115_45).2 ?_
          show Steps p.tables e below (T44.setTop (mkF m 118 #[.val (.int p0), .val (.int p1), .val (.int p2), .val (.int (5 : Int32)), .val (.ref a_SINGLE_POLLING), .val (.int (34 : Int32)), .val (.int (p2 &&& (3 : Int32))), .val (.int q), .unset] [])) _
          refine XS.iconst X44.here hx rfl (hb hby at_118) ?_
          show Steps p.tables e below (T44.setTop (mkF m 119 #[.val (.int p0), .val (.int p1), .val (.int p2), .val (.int (5 : Int32)), .val (.ref a_SINGLE_POLLING), .val (.int (34 : Int32)), .val (.int (p2 &&& (3 : Int32))), .val (.int q), .unset] [(.int (1 : Int32))])) _
          refine XS.goto X44.here hx rfl (pc0 := 119) (pc' := 123) rfl (hb hby at_119) (by decide) (by decide) ?_
          show Steps p.tables e below (T44.setTop (mkF m 123 #[.val (.int p0), .val (.int p1), .val (.int p2), .val (.int (5 : Int32)), .val (.ref a_SINGLE_POLLING), .val (.int (34 : Int32)), .val (.int (p2 &&& (3 : Int32))), .val (.int q), .unset] [(.int (1 : Int32))])) _
          refine XS.istore X44.here hx rfl (hb hby at_123) rfl (l' := #[.val (.int p0), .val (.int p1), .val (.int p2), .val (.int (5 : Int32)), .val (.ref a_SINGLE_POLLING), .val (.int (34 : Int32)), .val (.int (p2 &&& (3 : Int32))), .val (.int q), .val (.int (1 : Int32))]) rfl ?_
          show Steps p.tables e below (T44.setTop (mkF m 125 #[.val (.int p0), .val (.int p1), .val (.int p2), .val (.int (5 : Int32)), .val (.ref a_SINGLE_POLLING), .val (.int (34 : Int32)), .val (.int (p2 &&& (3 : Int32))), .val (.int q), .val (.int (1 : Int32))] [])) _
          refine XS.aload X44.here hx rfl (hb hby at_125) rfl rfl ?_
          show Steps p.tables e below (T44.setTop (mkF m 127 #[.val (.int p0), .val (.int p1), .val (.int p2), .val (.int (5 : Int32)), .val (.ref a_SINGLE_POLLING), .val (.int (34 : Int32)), .val (.int (p2 &&& (3 : Int32))), .val (.int q), .val (.int (1 : Int32))] [(.ref a_SINGLE_POLLING)])) _
          refine XS.iload X44.here hx rfl (hb hby at_127) rfl ?_
          exact kt
        obtain ⟨cq46, kq46, q46a, q46b, q46c⟩ := isOf hZ eq44 E_SINGLE_POLLING
        obtain ⟨_, _, ⟨T46, L46, k46, n46⟩, -, X46, ⟨Lc46, hQ46, l46, y46, z46⟩, st46⟩ := X44.virtualBack hx (y := (⟨"com/example/tagwire/tagwire/bb/Command", "isAnsweredBy", "(I)Z"⟩ : MethodName)) (z := (⟨"com/example/tagwire/tagwire/bb/Command", "isAnsweredBy", "(I)Z"⟩ : MethodName)) hown (mvT hZ (hw _ (List.mem_of_getElem? (i := 11) rfl))) (mvT hZ (hw _ (List.mem_of_getElem? (i := 12) rfl))) (notFace_of_selects (args := #[]) (mvT hZ (hw _ (List.mem_of_getElem? (i := 14) rfl)))) (mvT hZ (hw _ (List.mem_of_getElem? (i := 14) rfl))) (mvT hZ (hw _ (List.mem_of_getElem? (i := 13) rfl))) (by decide) (backOf (W := 0) (rm3 l Z a0 hw [] a_SINGLE_POLLING q (34 : Int32) (34 : Int32) h0 n0 Z0 F_SINGLE_POLLING_code F_SINGLE_POLLING_answerCode) hZ (hw _ (List.mem_of_getElem? (i := 15) rfl)) (hw _ (List.mem_of_getElem? (i := 6) rfl)) (by decide) (by decide)) q46a q46c (g := (mkF m 129 #[.val (.int p0), .val (.int p1), .val (.int p2), .val (.int (5 : Int32)), .val (.ref a_SINGLE_POLLING), .val (.int (34 : Int32)), .val (.int (p2 &&& (3 : Int32))), .val (.int q), .val (.int (1 : Int32))] [(.int q), (.ref a_SINGLE_POLLING)])) rfl (by rw [hml]; rfl) (Steps.refl _) (argsL := [(.int q)]) (rest := []) (lenOf own_pd4 rfl) rfl (by show 2 * 0 + _ ≤ _; exact Nat.le_of_eq rfl) (hb hby at_129) (fun _ _ => ⟨rfl, eq44, (by decide : 0 + 0 ≤ _), (by decide : 0 + 0 ≤ _)⟩)
        dsimp only [Pt.U, Pt.locs, Pt.cells, Pt.slots] at X46 l46 y46 z46 st46 hQ46
        subst l46 y46 z46
        obtain ⟨hv46, hr46⟩ := hQ46
        rw [show own_ans q (34 : Int32) (34 : Int32) = (1 : Int32) from by unfold own_ans; rw [if_pos hc115_45]] at hv46
        have hQ46 := And.intro hv46 hr46
        obtain ⟨rfl, Nq46, eq46⟩ := hQ46
        have N46 := Fr.app N44 Nq46
        refine own_tr st46 ?_
        show own_Gl _ _ _ _ _ _ _ _ (T46.setTop (mkF m 132 #[.val (.int p0), .val (.int p1), .val (.int p2), .val (.int (5 : Int32)), .val (.ref a_SINGLE_POLLING), .val (.int (34 : Int32)), .val (.int (p2 &&& (3 : Int32))), .val (.int q), .val (.int (1 : Int32))] [(.int (1 : Int32))]))
        refine own_st (A' := T46.setTop (mkF m 142 #[.val (.int p0), .val (.int p1), .val (.int p2), .val (.int (5 : Int32)), .val (.ref a_SINGLE_POLLING), .val (.int (34 : Int32)), .val (.int (p2 &&& (3 : Int32))), .val (.int q), .val (.int (1 : Int32))] [(.int (1 : Int32))])) (fun tg kt => ?_) ?_
        · show Steps p.tables e below (T46.setTop (mkF m 132 #[.val (.int p0), .val (.int p1), .val (.int p2), .val (.int (5 : Int32)), .val (.ref a_SINGLE_POLLING), .val (.int (34 : Int32)), .val (.int (p2 &&& (3 : Int32))), .val (.int q), .val (.int (1 : Int32))] [(.int (1 : Int32))])) _
          refine XS.iload X46.here hx rfl (hb hby at_132) rfl ?_
          show Steps p.tables e below (T46.setTop (mkF m 134 #[.val (.int p0), .val (.int p1), .val (.int p2), .val (.int (5 : Int32)), .val (.ref a_SINGLE_POLLING), .val (.int (34 : Int32)), .val (.int (p2 &&& (3 : Int32))), .val (.int q), .val (.int (1 : Int32))] [(.int (1 : Int32)), (.int (1 : Int32))])) _
          refine XS.icmpNo X46.here hx rfl (hb hby at_134) rfl (teq ((by decide) : (1 : Int32) = (1 : Int32))).2 ?_
          show Steps p.tables e below (T46.setTop (mkF m 137 #[.val (.int p0), .val (.int p1), .val (.int p2), .val (.int (5 : Int32)), .val (.ref a_SINGLE_POLLING), .val (.int (34 : Int32)), .val (.int (p2 &&& (3 : Int32))), .val (.int q), .val (.int (1 : Int32))] [])) _
          refine XS.iconst X46.here hx rfl (hb hby at_137) ?_
          show Steps p.tables e below (T46.setTop (mkF m 138 #[.val (.int p0), .val (.int p1), .val (.int p2), .val (.int (5 : Int32)), .val (.ref a_SINGLE_POLLING), .val (.int (34 : Int32)), .val (.int (p2 &&& (3 : Int32))), .val (.int q), .val (.int (1 : Int32))] [(.int (1 : Int32))])) _
          refine XS.goto X46.here hx rfl (pc0 := 138) (pc' := 142) rfl (hb hby at_138) (by decide) (by decide) ?_
          exact kt
        refine own_ret X46 (v := some (.int (1 : Int32))) (fun h => by rw [Bd.returns] at h; cases h) hlk (by decide) (by decide) ?_ (fun fs hr => ?_)
        · show Q0 Z p0 p1 p2 a_MODULE_INFORMATION a_SET_REGION a_GET_REGION a_SELECT_PARAMETER a_SELECT_MODE a_SINGLE_POLLING a_MULTIPLE_POLLING a_STOP_MULTIPLE_POLLING a_READ a_WRITE a_SET_POWER a_GET_POWER h0 n0 (some (.int (1 : Int32))) T46.heap _
          rw [eq46]
          exact ⟨rfl, N46⟩
        · show Steps p.tables e below (T46.setTop (mkF m 142 #[.val (.int p0), .val (.int p1), .val (.int p2), .val (.int (5 : Int32)), .val (.ref a_SINGLE_POLLING), .val (.int (34 : Int32)), .val (.int (p2 &&& (3 : Int32))), .val (.int q), .val (.int (1 : Int32))] [(.int (1 : Int32))])) _
          exact retN X46 hx (t := .boolean) Bd.returns (by simp) (hb hby at_142) hr
      · refine own_st (A' := T44.setTop (mkF m 129 #[.val (.int p0), .val (.int p1), .val (.int p2), .val (.int (5 : Int32)), .val (.ref a_SINGLE_POLLING), .val (.int (34 : Int32)), .val (.int (p2 &&& (3 : Int32))), .val (.int q), .val (.int (0 : Int32))] [(.int q), (.ref a_SINGLE_POLLING)])) (fun tg kt => ?_) ?_
        · show Steps p.tables e below (T44.setTop (mkF m 115 #[.val (.int p0), .val (.int p1), .val (.int p2), .val (.int (5 : Int32)), .val (.ref a_SINGLE_POLLING), .val (.int (34 : Int32)), .val (.int (p2 &&& (3 : Int32))), .val (.int q), .unset] [(.int (34 : Int32)), (.int q)])) _
          refine XS.icmpYes X44.here hx rfl (pc0 := 115) (pc' := 122) rfl (hb hby at_115) rfl (feq hc115_45).2 (by decide) (by decide) ?_
          show Steps p.tables e below (T44.setTop (mkF m 122 #[.val (.int p0), .val (.int p1), .val (.int p2), .val (.int (5 : Int32)), .val (.ref a_SINGLE_POLLING), .val (.int (34 : Int32)), .val (.int (p2 &&& (3 : Int32))), .val (.int q), .unset] [])) _
          refine XS.iconst X44.here hx rfl (hb hby at_122) ?_
          show Steps p.tables e below (T44.setTop (mkF m 123 #[.val (.int p0), .val (.int p1), .val (.int p2), .val (.int (5 : Int32)), .val (.ref a_SINGLE_POLLING), .val (.int (34 : Int32)), .val (.int (p2 &&& (3 : Int32))), .val (.int q), .unset] [(.int (0 : Int32))])) _
          refine XS.istore X44.here hx rfl (hb hby at_123) rfl (l' := #[.val (.int p0), .val (.int p1), .val (.int p2), .val (.int (5 : Int32)), .val (.ref a_SINGLE_POLLING), .val (.int (34 : Int32)), .val (.int (p2 &&& (3 : Int32))), .val (.int q), .val (.int (0 : Int32))]) rfl ?_
          show Steps p.tables e below (T44.setTop (mkF m 125 #[.val (.int p0), .val (.int p1), .val (.int p2), .val (.int (5 : Int32)), .val (.ref a_SINGLE_POLLING), .val (.int (34 : Int32)), .val (.int (p2 &&& (3 : Int32))), .val (.int q), .val (.int (0 : Int32))] [])) _
          refine XS.aload X44.here hx rfl (hb hby at_125) rfl rfl ?_
          show Steps p.tables e below (T44.setTop (mkF m 127 #[.val (.int p0), .val (.int p1), .val (.int p2), .val (.int (5 : Int32)), .val (.ref a_SINGLE_POLLING), .val (.int (34 : Int32)), .val (.int (p2 &&& (3 : Int32))), .val (.int q), .val (.int (0 : Int32))] [(.ref a_SINGLE_POLLING)])) _
          refine XS.iload X44.here hx rfl (hb hby at_127) rfl ?_
          exact kt
        obtain ⟨cq47, kq47, q47a, q47b, q47c⟩ := isOf hZ eq44 E_SINGLE_POLLING
        obtain ⟨_, _, ⟨T47, L47, k47, n47⟩, -, X47, ⟨Lc47, hQ47, l47, y47, z47⟩, st47⟩ := X44.virtualBack hx (y := (⟨"com/example/tagwire/tagwire/bb/Command", "isAnsweredBy", "(I)Z"⟩ : MethodName)) (z := (⟨"com/example/tagwire/tagwire/bb/Command", "isAnsweredBy", "(I)Z"⟩ : MethodName)) hown (mvT hZ (hw _ (List.mem_of_getElem? (i := 11) rfl))) (mvT hZ (hw _ (List.mem_of_getElem? (i := 12) rfl))) (notFace_of_selects (args := #[]) (mvT hZ (hw _ (List.mem_of_getElem? (i := 14) rfl)))) (mvT hZ (hw _ (List.mem_of_getElem? (i := 14) rfl))) (mvT hZ (hw _ (List.mem_of_getElem? (i := 13) rfl))) (by decide) (backOf (W := 0) (rm3 l Z a0 hw [] a_SINGLE_POLLING q (34 : Int32) (34 : Int32) h0 n0 Z0 F_SINGLE_POLLING_code F_SINGLE_POLLING_answerCode) hZ (hw _ (List.mem_of_getElem? (i := 15) rfl)) (hw _ (List.mem_of_getElem? (i := 6) rfl)) (by decide) (by decide)) q47a q47c (g := (mkF m 129 #[.val (.int p0), .val (.int p1), .val (.int p2), .val (.int (5 : Int32)), .val (.ref a_SINGLE_POLLING), .val (.int (34 : Int32)), .val (.int (p2 &&& (3 : Int32))), .val (.int q), .val (.int (0 : Int32))] [(.int q), (.ref a_SINGLE_POLLING)])) rfl (by rw [hml]; rfl) (Steps.refl _) (argsL := [(.int q)]) (rest := []) (lenOf own_pd4 rfl) rfl (by show 2 * 0 + _ ≤ _; exact Nat.le_of_eq rfl) (hb hby at_129) (fun _ _ => ⟨rfl, eq44, (by decide : 0 + 0 ≤ _), (by decide : 0 + 0 ≤ _)⟩)
        dsimp only [Pt.U, Pt.locs, Pt.cells, Pt.slots] at X47 l47 y47 z47 st47 hQ47
        subst l47 y47 z47
        obtain ⟨hv47, hr47⟩ := hQ47
        rw [show own_ans q (34 : Int32) (34 : Int32) = (0 : Int32) from by unfold own_ans; rw [if_neg hc115_45, if_neg hc115_45]] at hv47
        have hQ47 := And.intro hv47 hr47
        obtain ⟨rfl, Nq47, eq47⟩ := hQ47
        have N47 := Fr.app N44 Nq47
        refine own_tr st47 ?_
        show own_Gl _ _ _ _ _ _ _ _ (T47.setTop (mkF m 132 #[.val (.int p0), .val (.int p1), .val (.int p2), .val (.int (5 : Int32)), .val (.ref a_SINGLE_POLLING), .val (.int (34 : Int32)), .val (.int (p2 &&& (3 : Int32))), .val (.int q), .val (.int (0 : Int32))] [(.int (0 : Int32))]))
        refine own_st (A' := T47.setTop (mkF m 142 #[.val (.int p0), .val (.int p1), .val (.int p2), .val (.int (5 : Int32)), .val (.ref a_SINGLE_POLLING), .val (.int (34 : Int32)), .val (.int (p2 &&& (3 : Int32))), .val (.int q), .val (.int (0 : Int32))] [(.int (1 : Int32))])) (fun tg kt => ?_) ?_
        · show Steps p.tables e below (T47.setTop (mkF m 132 #[.val (.int p0), .val (.int p1), .val (.int p2), .val (.int (5 : Int32)), .val (.ref a_SINGLE_POLLING), .val (.int (34 : Int32)), .val (.int (p2 &&& (3 : Int32))), .val (.int q), .val (.int (0 : Int32))] [(.int (0 : Int32))])) _
          refine XS.iload X47.here hx rfl (hb hby at_132) rfl ?_
          show Steps p.tables e below (T47.setTop (mkF m 134 #[.val (.int p0), .val (.int p1), .val (.int p2), .val (.int (5 : Int32)), .val (.ref a_SINGLE_POLLING), .val (.int (34 : Int32)), .val (.int (p2 &&& (3 : Int32))), .val (.int q), .val (.int (0 : Int32))] [(.int (0 : Int32)), (.int (0 : Int32))])) _
          refine XS.icmpNo X47.here hx rfl (hb hby at_134) rfl (teq ((by decide) : (0 : Int32) = (0 : Int32))).2 ?_
          show Steps p.tables e below (T47.setTop (mkF m 137 #[.val (.int p0), .val (.int p1), .val (.int p2), .val (.int (5 : Int32)), .val (.ref a_SINGLE_POLLING), .val (.int (34 : Int32)), .val (.int (p2 &&& (3 : Int32))), .val (.int q), .val (.int (0 : Int32))] [])) _
          refine XS.iconst X47.here hx rfl (hb hby at_137) ?_
          show Steps p.tables e below (T47.setTop (mkF m 138 #[.val (.int p0), .val (.int p1), .val (.int p2), .val (.int (5 : Int32)), .val (.ref a_SINGLE_POLLING), .val (.int (34 : Int32)), .val (.int (p2 &&& (3 : Int32))), .val (.int q), .val (.int (0 : Int32))] [(.int (1 : Int32))])) _
          refine XS.goto X47.here hx rfl (pc0 := 138) (pc' := 142) rfl (hb hby at_138) (by decide) (by decide) ?_
          exact kt
        refine own_ret X47 (v := some (.int (1 : Int32))) (fun h => by rw [Bd.returns] at h; cases h) hlk (by decide) (by decide) ?_ (fun fs hr => ?_)
        · show Q0 Z p0 p1 p2 a_MODULE_INFORMATION a_SET_REGION a_GET_REGION a_SELECT_PARAMETER a_SELECT_MODE a_SINGLE_POLLING a_MULTIPLE_POLLING a_STOP_MULTIPLE_POLLING a_READ a_WRITE a_SET_POWER a_GET_POWER h0 n0 (some (.int (1 : Int32))) T47.heap _
          rw [eq47]
          exact ⟨rfl, N47⟩
        · show Steps p.tables e below (T47.setTop (mkF m 142 #[.val (.int p0), .val (.int p1), .val (.int p2), .val (.int (5 : Int32)), .val (.ref a_SINGLE_POLLING), .val (.int (34 : Int32)), .val (.int (p2 &&& (3 : Int32))), .val (.int q), .val (.int (0 : Int32))] [(.int (1 : Int32))])) _
          exact retN X47 hx (t := .boolean) Bd.returns (by simp) (hb hby at_142) hr
    refine own_st (A' := T44.setTop (mkF m 27 #[.val (.int p0), .val (.int p1), .val (.int p2), .val (.int (5 : Int32)), .val (.ref a_SINGLE_POLLING), .val (.int (34 : Int32)), .val (.int (p2 &&& (3 : Int32))), .unset, .unset] [(.int (p2 &&& (3 : Int32)))])) (fun tg kt => ?_) ?_
    · show Steps p.tables e below (T44.setTop (mkF m 25 #[.val (.int p0), .val (.int p1), .val (.int p2), .val (.int (5 : Int32)), .val (.ref a_SINGLE_POLLING), .val (.int (34 : Int32)), .val (.int (p2 &&& (3 : Int32))), .unset, .unset] [])) _
      refine XS.iload X44.here hx rfl (hb hby at_25) rfl ?_
      exact kt
    by_cases hc27_48 : (p2 &&& (3 : Int32)) = (0 : Int32)
    · refine own_st (A' := T44.setTop (mkF m 82 #[.val (.int p0), .val (.int p1), .val (.int p2), .val (.int (5 : Int32)), .val (.ref a_SINGLE_POLLING), .val (.int (34 : Int32)), .val (.int (p2 &&& (3 : Int32))), .val (.int p1), .unset] [])) (fun tg kt => ?_) ?_
      · show Steps p.tables e below (T44.setTop (mkF m 27 #[.val (.int p0), .val (.int p1), .val (.int p2), .val (.int (5 : Int32)), .val (.ref a_SINGLE_POLLING), .val (.int (34 : Int32)), .val (.int (p2 &&& (3 : Int32))), .unset, .unset] [(.int (p2 &&& (3 : Int32)))])) _
        refine XS.ifNo X44.here hx rfl (hb hby at_27) rfl ((if0 _ _).trans (teq hc27_48).2) ?_
        show Steps p.tables e below (T44.setTop (mkF m 30 #[.val (.int p0), .val (.int p1), .val (.int p2), .val (.int (5 : Int32)), .val (.ref a_SINGLE_POLLING), .val (.int (34 : Int32)), .val (.int (p2 &&& (3 : Int32))), .unset, .unset] [])) _
        refine XS.iloadN X44.here hx rfl (hb hby at_30) rfl ?_
        show Steps p.tables e below (T44.setTop (mkF m 31 #[.val (.int p0), .val (.int p1), .val (.int p2), .val (.int (5 : Int32)), .val (.ref a_SINGLE_POLLING), .val (.int (34 : Int32)), .val (.int (p2 &&& (3 : Int32))), .unset, .unset] [(.int p1)])) _
        refine XS.istore X44.here hx rfl (hb hby at_31) rfl (l' := #[.val (.int p0), .val (.int p1), .val (.int p2), .val (.int (5 : Int32)), .val (.ref a_SINGLE_POLLING), .val (.int (34 : Int32)), .val (.int (p2 &&& (3 : Int32))), .val (.int p1), .unset]) rfl ?_
        show Steps p.tables e below (T44.setTop (mkF m 33 #[.val (.int p0), .val (.int p1), .val (.int p2), .val (.int (5 : Int32)), .val (.ref a_SINGLE_POLLING), .val (.int (34 : Int32)), .val (.int (p2 &&& (3 : Int32))), .val (.int p1), .unset] [])) _
        refine XS.goto X44.here hx rfl (pc0 := 33) (pc' := 82) rfl (hb hby at_33) (by decide) (by decide) ?_
        exact kt
      exact tl p1
    · refine own_st (A' := T44.setTop (mkF m 39 #[.val (.int p0), .val (.int p1), .val (.int p2), .val (.int (5 : Int32)), .val (.ref a_SINGLE_POLLING), .val (.int (34 : Int32)), .val (.int (p2 &&& (3 : Int32))), .unset, .unset] [(.int (1 : Int32)), (.int (p2 &&& (3 : Int32)))])) (fun tg kt => ?_) ?_
      · show Steps p.tables e below (T44.setTop (mkF m 27 #[.val (.int p0), .val (.int p1), .val (.int p2), .val (.int (5 : Int32)), .val (.ref a_SINGLE_POLLING), .val (.int (34 : Int32)), .val (.int (p2 &&& (3 : Int32))), .unset, .unset] [(.int (p2 &&& (3 : Int32)))])) _
        refine XS.ifYes X44.here hx rfl (pc0 := 27) (pc' := 36) rfl (hb hby at_27) rfl ((if0 _ _).trans (feq hc27_48).2) (by decide) (by decide) ?_
        show Steps p.tables e below (T44.setTop (mkF m 36 #[.val (.int p0), .val (.int p1), .val (.int p2), .val (.int (5 : Int32)), .val (.ref a_SINGLE_POLLING), .val (.int (34 : Int32)), .val (.int (p2 &&& (3 : Int32))), .unset, .unset] [])) _
        refine XS.iload X44.here hx rfl (hb hby at_36) rfl ?_
        show Steps p.tables e below (T44.setTop (mkF m 38 #[.val (.int p0), .val (.int p1), .val (.int p2), .val (.int (5 : Int32)), .val (.ref a_SINGLE_POLLING), .val (.int (34 : Int32)), .val (.int (p2 &&& (3 : Int32))), .unset, .unset] [(.int (p2 &&& (3 : Int32)))])) _
        refine XS.iconst X44.here hx rfl (hb hby at_38) ?_
        exact kt
      by_cases hc39_49 : (p2 &&& (3 : Int32)) = (1 : Int32)
      · refine own_st (A' := T44.setTop (mkF m 82 #[.val (.int p0), .val (.int p1), .val (.int p2), .val (.int (5 : Int32)), .val (.ref a_SINGLE_POLLING), .val (.int (34 : Int32)), .val (.int (p2 &&& (3 : Int32))), .val (.int (34 : Int32)), .unset] [])) (fun tg kt => ?_) ?_
        · show Steps p.tables e below (T44.setTop (mkF m 39 #[.val (.int p0), .val (.int p1), .val (.int p2), .val (.int (5 : Int32)), .val (.ref a_SINGLE_POLLING), .val (.int (34 : Int32)), .val (.int (p2 &&& (3 : Int32))), .unset, .unset] [(.int (1 : Int32)), (.int (p2 &&& (3 : Int32)))])) _
          refine XS.icmpNo X44.here hx rfl (hb hby at_39) rfl (teq hc39_49).2 ?_
          show Steps p.tables e below (T44.setTop (mkF m 42 #[.val (.int p0), .val (.int p1), .val (.int p2), .val (.int (5 : Int32)), .val (.ref a_SINGLE_POLLING), .val (.int (34 : Int32)), .val (.int (p2 &&& (3 : Int32))), .unset, .unset] [])) _
          refine XS.iload X44.here hx rfl (hb hby at_42) rfl ?_
          show Steps p.tables e below (T44.setTop (mkF m 44 #[.val (.int p0), .val (.int p1), .val (.int p2), .val (.int (5 : Int32)), .val (.ref a_SINGLE_POLLING), .val (.int (34 : Int32)), .val (.int (p2 &&& (3 : Int32))), .unset, .unset] [(.int (34 : Int32))])) _
          refine XS.istore X44.here hx rfl (hb hby at_44) rfl (l' := #[.val (.int p0), .val (.int p1), .val (.int p2), .val (.int (5 : Int32)), .val (.ref a_SINGLE_POLLING), .val (.int (34 : Int32)), .val (.int (p2 &&& (3 : Int32))), .val (.int (34 : Int32)), .unset]) rfl ?_
          show Steps p.tables e below (T44.setTop (mkF m 46 #[.val (.int p0), .val (.int p1), .val (.int p2), .val (.int (5 : Int32)), .val (.ref a_SINGLE_POLLING), .val (.int (34 : Int32)), .val (.int (p2 &&& (3 : Int32))), .val (.int (34 : Int32)), .unset] [])) _
          refine XS.goto X44.here hx rfl (pc0 := 46) (pc' := 82) rfl (hb hby at_46) (by decide) (by decide) ?_
          exact kt
        exact tl (34 : Int32)
      · refine own_st (A' := T44.setTop (mkF m 52 #[.val (.int p0), .val (.int p1), .val (.int p2), .val (.int (5 : Int32)), .val (.ref a_SINGLE_POLLING), .val (.int (34 : Int32)), .val (.int (p2 &&& (3 : Int32))), .unset, .unset] [(.int (2 : Int32)), (.int (p2 &&& (3 : Int32)))])) (fun tg kt => ?_) ?_
        · show Steps p.tables e below (T44.setTop (mkF m 39 #[.val (.int p0), .val (.int p1), .val (.int p2), .val (.int (5 : Int32)), .val (.ref a_SINGLE_POLLING), .val (.int (34 : Int32)), .val (.int (p2 &&& (3 : Int32))), .unset, .unset] [(.int (1 : Int32)), (.int (p2 &&& (3 : Int32)))])) _
          refine XS.icmpYes X44.here hx rfl (pc0 := 39) (pc' := 49) rfl (hb hby at_39) rfl (feq hc39_49).2 (by decide) (by decide) ?_
          show Steps p.tables e below (T44.setTop (mkF m 49 #[.val (.int p0), .val (.int p1), .val (.int p2), .val (.int (5 : Int32)), .val (.ref a_SINGLE_POLLING), .val (.int (34 : Int32)), .val (.int (p2 &&& (3 : Int32))), .unset, .unset] [])) _
          refine XS.iload X44.here hx rfl (hb hby at_49) rfl ?_
          show Steps p.tables e below (T44.setTop (mkF m 51 #[.val (.int p0), .val (.int p1), .val (.int p2), .val (.int (5 : Int32)), .val (.ref a_SINGLE_POLLING), .val (.int (34 : Int32)), .val (.int (p2 &&& (3 : Int32))), .unset, .unset] [(.int (p2 &&& (3 : Int32)))])) _
          refine XS.iconst X44.here hx rfl (hb hby at_51) ?_
          exact kt
        by_cases hc52_50 : (p2 &&& (3 : Int32)) = (2 : Int32)
        · refine own_st (A' := T44.setTop (mkF m 82 #[.val (.int p0), .val (.int p1), .val (.int p2), .val (.int (5 : Int32)), .val (.ref a_SINGLE_POLLING), .val (.int (34 : Int32)), .val (.int (p2 &&& (3 : Int32))), .val (.int (34 : Int32)), .unset] [])) (fun tg kt => ?_) ?_
          · show Steps p.tables e below (T44.setTop (mkF m 52 #[.val (.int p0), .val (.int p1), .val (.int p2), .val (.int (5 : Int32)), .val (.ref a_SINGLE_POLLING), .val (.int (34 : Int32)), .val (.int (p2 &&& (3 : Int32))), .unset, .unset] [(.int (2 : Int32)), (.int (p2 &&& (3 : Int32)))])) _
            refine XS.icmpNo X44.here hx rfl (hb hby at_52) rfl (teq hc52_50).2 ?_
            show Steps p.tables e below (T44.setTop (mkF m 55 #[.val (.int p0), .val (.int p1), .val (.int p2), .val (.int (5 : Int32)), .val (.ref a_SINGLE_POLLING), .val (.int (34 : Int32)), .val (.int (p2 &&& (3 : Int32))), .unset, .unset] [])) _
            refine XS.iloadN X44.here hx rfl (hb hby at_55) rfl ?_
            show Steps p.tables e below (T44.setTop (mkF m 56 #[.val (.int p0), .val (.int p1), .val (.int p2), .val (.int (5 : Int32)), .val (.ref a_SINGLE_POLLING), .val (.int (34 : Int32)), .val (.int (p2 &&& (3 : Int32))), .unset, .unset] [(.int (5 : Int32))])) _
            refine XS.iconst X44.here hx rfl (hb hby at_56) ?_
            show Steps p.tables e below (T44.setTop (mkF m 57 #[.val (.int p0), .val (.int p1), .val (.int p2), .val (.int (5 : Int32)), .val (.ref a_SINGLE_POLLING), .val (.int (34 : Int32)), .val (.int (p2 &&& (3 : Int32))), .unset, .unset] [(.int (4 : Int32)), (.int (5 : Int32))])) _
            refine XS.icmpYes X44.here hx rfl (pc0 := 57) (pc' := 65) rfl (hb hby at_57) rfl (feq ((by decide) : ¬ ((5 : Int32) = (4 : Int32)))).2 (by decide) (by decide) ?_
            show Steps p.tables e below (T44.setTop (mkF m 65 #[.val (.int p0), .val (.int p1), .val (.int p2), .val (.int (5 : Int32)), .val (.ref a_SINGLE_POLLING), .val (.int (34 : Int32)), .val (.int (p2 &&& (3 : Int32))), .unset, .unset] [])) _
            refine XS.iload X44.here hx rfl (hb hby at_65) rfl ?_
            show Steps p.tables e below (T44.setTop (mkF m 67 #[.val (.int p0), .val (.int p1), .val (.int p2), .val (.int (5 : Int32)), .val (.ref a_SINGLE_POLLING), .val (.int (34 : Int32)), .val (.int (p2 &&& (3 : Int32))), .unset, .unset] [(.int (34 : Int32))])) _
            refine XS.istore X44.here hx rfl (hb hby at_67) rfl (l' := #[.val (.int p0), .val (.int p1), .val (.int p2), .val (.int (5 : Int32)), .val (.ref a_SINGLE_POLLING), .val (.int (34 : Int32)), .val (.int (p2 &&& (3 : Int32))), .val (.int (34 : Int32)), .unset]) rfl ?_
            show Steps p.tables e below (T44.setTop (mkF m 69 #[.val (.int p0), .val (.int p1), .val (.int p2), .val (.int (5 : Int32)), .val (.ref a_SINGLE_POLLING), .val (.int (34 : Int32)), .val (.int (p2 &&& (3 : Int32))), .val (.int (34 : Int32)), .unset] [])) _
            refine XS.goto X44.here hx rfl (pc0 := 69) (pc' := 82) rfl (hb hby at_69) (by decide) (by decide) ?_
            exact kt
          exact tl (34 : Int32)
        · refine own_st (A' := T44.setTop (mkF m 82 #[.val (.int p0), .val (.int p1), .val (.int p2), .val (.int (5 : Int32)), .val (.ref a_SINGLE_POLLING), .val (.int (34 : Int32)), .val (.int (p2 &&& (3 : Int32))), .val (.int ((34 : Int32) + ((p1 &&& (3 : Int32)) - (2 : Int32)))), .unset] [])) (fun tg kt => ?_) ?_
          · show Steps p.tables e below (T44.setTop (mkF m 52 #[.val (.int p0), .val (.int p1), .val (.int p2), .val (.int (5 : Int32)), .val (.ref a_SINGLE_POLLING), .val (.int (34 : Int32)), .val (.int (p2 &&& (3 : Int32))), .unset, .unset] [(.int (2 : Int32)), (.int (p2 &&& (3 : Int32)))])) _
            refine XS.icmpYes X44.here hx rfl (pc0 := 52) (pc' := 72) rfl (hb hby at_52) rfl (feq hc52_50).2 (by decide) (by decide) ?_
            show Steps p.tables e below (T44.setTop (mkF m 72 #[.val (.int p0), .val (.int p1), .val (.int p2), .val (.int (5 : Int32)), .val (.ref a_SINGLE_POLLING), .val (.int (34 : Int32)), .val (.int (p2 &&& (3 : Int32))), .unset, .unset] [])) _
            refine XS.iload X44.here hx rfl (hb hby at_72) rfl ?_
            show Steps p.tables e below (T44.setTop (mkF m 74 #[.val (.int p0), .val (.int p1), .val (.int p2), .val (.int (5 : Int32)), .val (.ref a_SINGLE_POLLING), .val (.int (34 : Int32)), .val (.int (p2 &&& (3 : Int32))), .unset, .unset] [(.int (34 : Int32))])) _
            refine XS.iloadN X44.here hx rfl (hb hby at_74) rfl ?_
            show Steps p.tables e below (T44.setTop (mkF m 75 #[.val (.int p0), .val (.int p1), .val (.int p2), .val (.int (5 : Int32)), .val (.ref a_SINGLE_POLLING), .val (.int (34 : Int32)), .val (.int (p2 &&& (3 : Int32))), .unset, .unset] [(.int p1), (.int (34 : Int32))])) _
            refine XS.iconst X44.here hx rfl (hb hby at_75) ?_
            show Steps p.tables e below (T44.setTop (mkF m 76 #[.val (.int p0), .val (.int p1), .val (.int p2), .val (.int (5 : Int32)), .val (.ref a_SINGLE_POLLING), .val (.int (34 : Int32)), .val (.int (p2 &&& (3 : Int32))), .unset, .unset] [(.int (3 : Int32)), (.int p1), (.int (34 : Int32))])) _
            refine XS.iand X44.here hx rfl (hb hby at_76) rfl ?_
            show Steps p.tables e below (T44.setTop (mkF m 77 #[.val (.int p0), .val (.int p1), .val (.int p2), .val (.int (5 : Int32)), .val (.ref a_SINGLE_POLLING), .val (.int (34 : Int32)), .val (.int (p2 &&& (3 : Int32))), .unset, .unset] [(.int (p1 &&& (3 : Int32))), (.int (34 : Int32))])) _
            refine XS.iconst X44.here hx rfl (hb hby at_77) ?_
            show Steps p.tables e below (T44.setTop (mkF m 78 #[.val (.int p0), .val (.int p1), .val (.int p2), .val (.int (5 : Int32)), .val (.ref a_SINGLE_POLLING), .val (.int (34 : Int32)), .val (.int (p2 &&& (3 : Int32))), .unset, .unset] [(.int (2 : Int32)), (.int (p1 &&& (3 : Int32))), (.int (34 : Int32))])) _
            refine XS.isub X44.here hx rfl (hb hby at_78) rfl ?_
            show Steps p.tables e below (T44.setTop (mkF m 79 #[.val (.int p0), .val (.int p1), .val (.int p2), .val (.int (5 : Int32)), .val (.ref a_SINGLE_POLLING), .val (.int (34 : Int32)), .val (.int (p2 &&& (3 : Int32))), .unset, .unset] [(.int ((p1 &&& (3 : Int32)) - (2 : Int32))), (.int (34 : Int32))])) _
            refine XS.iadd X44.here hx rfl (hb hby at_79) rfl ?_
            show Steps p.tables e below (T44.setTop (mkF m 80 #[.val (.int p0), .val (.int p1), .val (.int p2), .val (.int (5 : Int32)), .val (.ref a_SINGLE_POLLING), .val (.int (34 : Int32)), .val (.int (p2 &&& (3 : Int32))), .unset, .unset] [(.int ((34 : Int32) + ((p1 &&& (3 : Int32)) - (2 : Int32))))])) _
            refine XS.istore X44.here hx rfl (hb hby at_80) rfl (l' := #[.val (.int p0), .val (.int p1), .val (.int p2), .val (.int (5 : Int32)), .val (.ref a_SINGLE_POLLING), .val (.int (34 : Int32)), .val (.int (p2 &&& (3 : Int32))), .val (.int ((34 : Int32) + ((p1 &&& (3 : Int32)) - (2 : Int32)))), .unset]) rfl ?_
            exact kt
          exact tl ((34 : Int32) + ((p1 &&& (3 : Int32)) - (2 : Int32)))
  · show own_Gl _ _ _ _ _ _ _ _ (s₁.setTop (mkF m 7 #[.val (.int p0), .val (.int p1), .val (.int p2), .unset, .unset, .unset, .unset, .unset, .unset] [(.int (6 : Int32))]))
    refine own_st (A' := s₁.setTop (mkF m 9 #[.val (.int p0), .val (.int p1), .val (.int p2), .val (.int (6 : Int32)), .unset, .unset, .unset, .unset, .unset] [(.int (6 : Int32))])) (fun tg kt => ?_) ?_
    · show Steps p.tables e below (s₁.setTop (mkF m 7 #[.val (.int p0), .val (.int p1), .val (.int p2), .unset, .unset, .unset, .unset, .unset, .unset] [(.int (6 : Int32))])) _
      refine XS.istoreN X0.here hx rfl (hb hby at_7) rfl (l' := #[.val (.int p0), .val (.int p1), .val (.int p2), .val (.int (6 : Int32)), .unset, .unset, .unset, .unset, .unset]) rfl ?_
      show Steps p.tables e below (s₁.setTop (mkF m 8 #[.val (.int p0), .val (.int p1), .val (.int p2), .val (.int (6 : Int32)), .unset, .unset, .unset, .unset, .unset] [])) _
      refine XS.iloadN X0.here hx rfl (hb hby at_8) rfl ?_
      exact kt
    obtain ⟨_, _, ⟨T51, L51, k51, n51⟩, -, X51, ⟨Lc51, hQ51, l51, y51, z51⟩, st51⟩ := Jvm.LawKit.callS X0 hx (y := (⟨"com/example/tagwire/tagwire/bb/CommandIsAnsweredByPinLaw", "pick", "(I)Lcom/example/tagwire/tagwire/bb/Command;"⟩ : MethodName)) hown (mvT hZ (hw _ (List.mem_of_getElem? (i := 1) rfl))) (mvT hZ (hw _ (List.mem_of_getElem? (i := 2) rfl))) (mvT hZ (hw _ (List.mem_of_getElem? (i := 3) rfl))) (mvT hZ (hw _ (List.mem_of_getElem? (i := 4) rfl))) (by decide) (backOf (W := 0) (rm1 l Z a0 hw [] (6 : Int32) a_MODULE_INFORMATION a_SET_REGION a_GET_REGION a_SELECT_PARAMETER a_SELECT_MODE a_SINGLE_POLLING a_MULTIPLE_POLLING a_STOP_MULTIPLE_POLLING a_READ a_WRITE a_SET_POWER a_GET_POWER h0 n0 Z0 S_MODULE_INFORMATION S_SET_REGION S_GET_REGION S_SELECT_PARAMETER S_SELECT_MODE S_SINGLE_POLLING S_MULTIPLE_POLLING S_STOP_MULTIPLE_POLLING S_READ S_WRITE S_SET_POWER S_GET_POWER) hZ (hw _ (List.mem_of_getElem? (i := 4) rfl)) (hw _ (List.mem_of_getElem? (i := 3) rfl)) (by decide) (by decide)) (g := (mkF m 9 #[.val (.int p0), .val (.int p1), .val (.int p2), .val (.int (6 : Int32)), .unset, .unset, .unset, .unset, .unset] [(.int (6 : Int32))])) rfl (by rw [hml]; rfl) (argsL := [(.int (6 : Int32))]) (rest := []) (lenOf own_pd2 rfl) rfl (by show 2 * 0 + _ ≤ _; exact Nat.le_of_eq rfl) (hb hby at_9) (fun _ _ => ⟨rfl, e0, (by decide : 0 + 0 ≤ _), (by decide : 0 + 0 ≤ _)⟩)
    dsimp only [Pt.U, Pt.locs, Pt.cells, Pt.slots] at X51 l51 y51 z51 st51 hQ51
    subst l51 y51 z51
    obtain ⟨hv51, hr51⟩ := hQ51
    rw [show own_pick1 (6 : Int32) a_MODULE_INFORMATION a_SET_REGION a_GET_REGION a_SELECT_PARAMETER a_SELECT_MODE a_SINGLE_POLLING a_MULTIPLE_POLLING a_STOP_MULTIPLE_POLLING a_READ a_WRITE a_SET_POWER a_GET_POWER = a_MULTIPLE_POLLING from rfl] at hv51
    have hQ51 := And.intro hv51 hr51
    obtain ⟨rfl, Nq51, eq51⟩ := hQ51
    have N51 := Fr.app N0 Nq51
    refine own_st st51 ?_
    show own_Gl _ _ _ _ _ _ _ _ (T51.setTop (mkF m 12 #[.val (.int p0), .val (.int p1), .val (.int p2), .val (.int (6 : Int32)), .unset, .unset, .unset, .unset, .unset] [(.ref a_MULTIPLE_POLLING)]))
    refine own_st (A' := T51.setTop (mkF m 15 #[.val (.int p0), .val (.int p1), .val (.int p2), .val (.int (6 : Int32)), .val (.ref a_MULTIPLE_POLLING), .unset, .unset, .unset, .unset] [(.int (6 : Int32))])) (fun tg kt => ?_) ?_
    · show Steps p.tables e below (T51.setTop (mkF m 12 #[.val (.int p0), .val (.int p1), .val (.int p2), .val (.int (6 : Int32)), .unset, .unset, .unset, .unset, .unset] [(.ref a_MULTIPLE_POLLING)])) _
      refine XS.astore X51.here hx rfl (hb hby at_12) rfl rfl (l' := #[.val (.int p0), .val (.int p1), .val (.int p2), .val (.int (6 : Int32)), .val (.ref a_MULTIPLE_POLLING), .unset, .unset, .unset, .unset]) rfl ?_
      show Steps p.tables e below (T51.setTop (mkF m 14 #[.val (.int p0), .val (.int p1), .val (.int p2), .val (.int (6 : Int32)), .val (.ref a_MULTIPLE_POLLING), .unset, .unset, .unset, .unset] [])) _
      refine XS.iloadN X51.here hx rfl (hb hby at_14) rfl ?_
      exact kt
    obtain ⟨_, _, ⟨T52, L52, k52, n52⟩, -, X52, ⟨Lc52, hQ52, l52, y52, z52⟩, st52⟩ := Jvm.LawKit.callS X51 hx (y := (⟨"com/example/tagwire/tagwire/bb/CommandIsAnsweredByPinLaw", "codeOf", "(I)I"⟩ : MethodName)) hown (mvT hZ (hw _ (List.mem_of_getElem? (i := 8) rfl))) (mvT hZ (hw _ (List.mem_of_getElem? (i := 9) rfl))) (mvT hZ (hw _ (List.mem_of_getElem? (i := 3) rfl))) (mvT hZ (hw _ (List.mem_of_getElem? (i := 10) rfl))) (by decide) (backOf (W := 0) (rm2 l Z a0 hw [] (6 : Int32) h0 n0 Z0) hZ (hw _ (List.mem_of_getElem? (i := 10) rfl)) (hw _ (List.mem_of_getElem? (i := 3) rfl)) (by decide) (by decide)) (g := (mkF m 15 #[.val (.int p0), .val (.int p1), .val (.int p2), .val (.int (6 : Int32)), .val (.ref a_MULTIPLE_POLLING), .unset, .unset, .unset, .unset] [(.int (6 : Int32))])) rfl (by rw [hml]; rfl) (argsL := [(.int (6 : Int32))]) (rest := []) (lenOf own_pd3 rfl) rfl (by show 2 * 0 + _ ≤ _; exact Nat.le_of_eq rfl) (hb hby at_15) (fun _ _ => ⟨rfl, eq51, (by decide : 0 + 0 ≤ _), (by decide : 0 + 0 ≤ _)⟩)
    dsimp only [Pt.U, Pt.locs, Pt.cells, Pt.slots] at X52 l52 y52 z52 st52 hQ52
    subst l52 y52 z52
    obtain ⟨hv52, hr52⟩ := hQ52
    rw [show own_code (6 : Int32) = (39 : Int32) from rfl] at hv52
    have hQ52 := And.intro hv52 hr52
    obtain ⟨rfl, Nq52, eq52⟩ := hQ52
    have N52 := Fr.app N51 Nq52
    refine own_st st52 ?_
    show own_Gl _ _ _ _ _ _ _ _ (T52.setTop (mkF m 18 #[.val (.int p0), .val (.int p1), .val (.int p2), .val (.int (6 : Int32)), .val (.ref a_MULTIPLE_POLLING), .unset, .unset, .unset, .unset] [(.int (39 : Int32))]))
    refine own_st (A' := T52.setTop (mkF m 25 #[.val (.int p0), .val (.int p1), .val (.int p2), .val (.int (6 : Int32)), .val (.ref a_MULTIPLE_POLLING), .val (.int (39 : Int32)), .val (.int (p2 &&& (3 : Int32))), .unset, .unset] [])) (fun tg kt => ?_) ?_
    · show Steps p.tables e below (T52.setTop (mkF m 18 #[.val (.int p0), .val (.int p1), .val (.int p2), .val (.int (6 : Int32)), .val (.ref a_MULTIPLE_POLLING), .unset, .unset, .unset, .unset] [(.int (39 : Int32))])) _
      refine XS.istore X52.here hx rfl (hb hby at_18) rfl (l' := #[.val (.int p0), .val (.int p1), .val (.int p2), .val (.int (6 : Int32)), .val (.ref a_MULTIPLE_POLLING), .val (.int (39 : Int32)), .unset, .unset, .unset]) rfl ?_
      show Steps p.tables e below (T52.setTop (mkF m 20 #[.val (.int p0), .val (.int p1), .val (.int p2), .val (.int (6 : Int32)), .val (.ref a_MULTIPLE_POLLING), .val (.int (39 : Int32)), .unset, .unset, .unset] [])) _
      refine XS.iloadN X52.here hx rfl (hb hby at_20) rfl ?_
      show Steps p.tables e below (T52.setTop (mkF m 21 #[.val (.int p0), .val (.int p1), .val (.int p2), .val (.int (6 : Int32)), .val (.ref a_MULTIPLE_POLLING), .val (.int (39 : Int32)), .unset, .unset, .unset] [(.int p2)])) _
      refine XS.iconst X52.here hx rfl (hb hby at_21) ?_
      show Steps p.tables e below (T52.setTop (mkF m 22 #[.val (.int p0), .val (.int p1), .val (.int p2), .val (.int (6 : Int32)), .val (.ref a_MULTIPLE_POLLING), .val (.int (39 : Int32)), .unset, .unset, .unset] [(.int (3 : Int32)), (.int p2)])) _
      refine XS.iand X52.here hx rfl (hb hby at_22) rfl ?_
      show Steps p.tables e below (T52.setTop (mkF m 23 #[.val (.int p0), .val (.int p1), .val (.int p2), .val (.int (6 : Int32)), .val (.ref a_MULTIPLE_POLLING), .val (.int (39 : Int32)), .unset, .unset, .unset] [(.int (p2 &&& (3 : Int32)))])) _
      refine XS.istore X52.here hx rfl (hb hby at_23) rfl (l' := #[.val (.int p0), .val (.int p1), .val (.int p2), .val (.int (6 : Int32)), .val (.ref a_MULTIPLE_POLLING), .val (.int (39 : Int32)), .val (.int (p2 &&& (3 : Int32))), .unset, .unset]) rfl ?_
      exact kt
    have tl : ∀ (q : Int32), own_Gl FrameEnd p e below s (Q0 Z p0 p1 p2 a_MODULE_INFORMATION a_SET_REGION a_GET_REGION a_SELECT_PARAMETER a_SELECT_MODE a_SINGLE_POLLING a_MULTIPLE_POLLING a_STOP_MULTIPLE_POLLING a_READ a_WRITE a_SET_POWER a_GET_POWER h0 n0) room_1.cells room_1.slots (T52.setTop (mkF m 82 #[.val (.int p0), .val (.int p1), .val (.int p2), .val (.int (6 : Int32)), .val (.ref a_MULTIPLE_POLLING), .val (.int (39 : Int32)), .val (.int (p2 &&& (3 : Int32))), .val (.int q), .unset] [])) := by
      intro q
      refine own_st (A' := T52.setTop (mkF m 115 #[.val (.int p0), .val (.int p1), .val (.int p2), .val (.int (6 : Int32)), .val (.ref a_MULTIPLE_POLLING), .val (.int (39 : Int32)), .val (.int (p2 &&& (3 : Int32))), .val (.int q), .unset] [(.int (39 : Int32)), (.int q)])) (fun tg kt => ?_) ?_
      · show Steps p.tables e below (T52.setTop (mkF m 82 #[.val (.int p0), .val (.int p1), .val (.int p2), .val (.int (6 : Int32)), .val (.ref a_MULTIPLE_POLLING), .val (.int (39 : Int32)), .val (.int (p2 &&& (3 : Int32))), .val (.int q), .unset] [])) _
        refine XS.iloadN X52.here hx rfl (hb hby at_82) rfl ?_
        show Steps p.tables e below (T52.setTop (mkF m 83 #[.val (.int p0), .val (.int p1), .val (.int p2), .val (.int (6 : Int32)), .val (.ref a_MULTIPLE_POLLING), .val (.int (39 : Int32)), .val (.int (p2 &&& (3 : Int32))), .val (.int q), .unset] [(.int (6 : Int32))])) _
        refine XS.iconst X52.here hx rfl (hb hby at_83) ?_
        show Steps p.tables e below (T52.setTop (mkF m 84 #[.val (.int p0), .val (.int p1), .val (.int p2), .val (.int (6 : Int32)), .val (.ref a_MULTIPLE_POLLING), .val (.int (39 : Int32)), .val (.int (p2 &&& (3 : Int32))), .val (.int q), .unset] [(.int (4 : Int32)), (.int (6 : Int32))])) _
        refine XS.icmpYes X52.here hx rfl (pc0 := 84) (pc' := 111) rfl (hb hby at_84) rfl (feq ((by decide) : ¬ ((6 : Int32) = (4 : Int32)))).2 (by decide) (by decide) ?_
        show Steps p.tables e below (T52.setTop (mkF m 111 #[.val (.int p0), .val (.int p1), .val (.int p2), .val (.int (6 : Int32)), .val (.ref a_MULTIPLE_POLLING), .val (.int (39 : Int32)), .val (.int (p2 &&& (3 : Int32))), .val (.int q), .unset] [])) _
        refine XS.iload X52.here hx rfl (hb hby at_111) rfl ?_
        show Steps p.tables e below (T52.setTop (mkF m 113 #[.val (.int p0), .val (.int p1), .val (.int p2), .val (.int (6 : Int32)), .val (.ref a_MULTIPLE_POLLING), .val (.int (39 : Int32)), .val (.int (p2 &&& (3 : Int32))), .val (.int q), .unset] [(.int q)])) _
        refine XS.iload X52.here hx rfl (hb hby at_113) rfl ?_
        exact kt
      by_cases hc115_53 : q = (39 : Int32)
      · refine own_st (A' := T52.setTop (mkF m 129 #[.val (.int p0), .val (.int p1), .val (.int p2), .val (.int (6 : Int32)), .val (.ref a_MULTIPLE_POLLING), .val (.int (39 : Int32)), .val (.int (p2 &&& (3 : Int32))), .val (.int q), .val (.int (1 : Int32))] [(.int q), (.ref a_MULTIPLE_POLLING)])) (fun tg kt => ?_) ?_
        · show Steps p.tables e below (T52.setTop (mkF m 115 #[.val (.int p0), .val (.int p1), .val (.int p2), .val (.int (6 : Int32)), .val (.ref a_MULTIPLE_POLLING), .val (.int (39 : Int32)), .val (.int (p2 &&& (3 : Int32))), .val (.int q), .unset] [(.int (39 : Int32)), (.int q)])) _
          refine XS.icmpNo X52.here hx rfl (hb hby at_115) rfl (teq hc115_53).2 ?_
          show Steps p.tables e below (T52.setTop (mkF m 118 #[.val (.int p0), .val (.int p1), .val (.int p2), .val (.int (6 : Int32)), .val (.ref a_MULTIPLE_POLLING), .val (.int (39 : Int32)), .val (.int (p2 &&& (3 : Int32))), .val (.int q), .unset] [])) _
          refine XS.iconst X52.here hx rfl (hb hby at_118) ?_
          show Steps p.tables e below (T52.setTop (mkF m 119 #[.val (.int p0), .val (.int p1), .val (.int p2), .val (.int (6 : Int32)), .val (.ref a_MULTIPLE_POLLING), .val (.int (39 : Int32)), .val (.int (p2 &&& (3 : Int32))), .val (.int q), .unset] [(.int (1 : Int32))])) _
          refine XS.goto X52.here hx rfl (pc0 := 119) (pc' := 123) rfl (hb hby at_119) (by decide) (by decide) ?_
          show Steps p.tables e below (T52.setTop (mkF m 123 #[.val (.int p0), .val (.int p1), .val (.int p2), .val (.int (6 : Int32)), .val (.ref a_MULTIPLE_POLLING), .val (.int (39 : Int32)), .val (.int (p2 &&& (3 : Int32))), .val (.int q), .unset] [(.int (1 : Int32))])) _
          refine XS.istore X52.here hx rfl (hb hby at_123) rfl (l' := #[.val (.int p0), .val (.int p1), .val (.int p2), .val (.int (6 : Int32)), .val (.ref a_MULTIPLE_POLLING), .val (.int (39 : Int32)), .val (.int (p2 &&& (3 : Int32))), .val (.int q), .val (.int (1 : Int32))]) rfl ?_
          show Steps p.tables e below (T52.setTop (mkF m 125 #[.val (.int p0), .val (.int p1), .val (.int p2), .val (.int (6 : Int32)), .val (.ref a_MULTIPLE_POLLING), .val (.int (39 : Int32)), .val (.int (p2 &&& (3 : Int32))), .val (.int q), .val (.int (1 : Int32))] [])) _
          refine XS.aload X52.here hx rfl (hb hby at_125) rfl rfl ?_
          show Steps p.tables e below (T52.setTop (mkF m 127 #[.val (.int p0), .val (.int p1), .val (.int p2), .val (.int (6 : Int32)), .val (.ref a_MULTIPLE_POLLING), .val (.int (39 : Int32)), .val (.int (p2 &&& (3 : Int32))), .val (.int q), .val (.int (1 : Int32))] [(.ref a_MULTIPLE_POLLING)])) _
          refine XS.iload X52.here hx rfl (hb hby at_127) rfl ?_
          exact kt
        obtain ⟨cq54, kq54, q54a, q54b, q54c⟩ := isOf hZ eq52 E_MULTIPLE_POLLING
        obtain ⟨_, _, ⟨T54, L54, k54, n54⟩, -, X54, ⟨Lc54, hQ54, l54, y54, z54⟩, st54⟩ := X52.virtualBack hx (y := (⟨"com/example/tagwire/tagwire/bb/Command", "isAnsweredBy", "(I)Z"⟩ : MethodName)) (z := (⟨"com/example/tagwire/tagwire/bb/Command", "isAnsweredBy", "(I)Z"⟩ : MethodName)) hown (mvT hZ (hw _ (List.mem_of_getElem? (i := 11) rfl))) (mvT hZ (hw _ (List.mem_of_getElem? (i := 12) rfl))) (notFace_of_selects (args := #[]) (mvT hZ (hw _ (List.mem_of_getElem? (i := 14) rfl)))) (mvT hZ (hw _ (List.mem_of_getElem? (i := 14) rfl))) (mvT hZ (hw _ (List.mem_of_getElem? (i := 13) rfl))) (by decide) (backOf (W := 0) (rm3 l Z a0 hw [] a_MULTIPLE_POLLING q (39 : Int32) (39 : Int32) h0 n0 Z0 F_MULTIPLE_POLLING_code F_MULTIPLE_POLLING_answerCode) hZ (hw _ (List.mem_of_getElem? (i := 15) rfl)) (hw _ (List.mem_of_getElem? (i := 6) rfl)) (by decide) (by decide)) q54a q54c (g := (mkF m 129 #[.val (.int p0), .val (.int p1), .val (.int p2), .val (.int (6 : Int32)), .val (.ref a_MULTIPLE_POLLING), .val (.int (39 : Int32)), .val (.int (p2 &&& (3 : Int32))), .val (.int q), .val (.int (1 : Int32))] [(.int q), (.ref a_MULTIPLE_POLLING)])) rfl (by rw [hml]; rfl) (Steps.refl _) (argsL := [(.int q)]) (rest := []) (lenOf own_pd4 rfl) rfl (by show 2 * 0 + _ ≤ _; exact Nat.le_of_eq rfl) (hb hby at_129) (fun _ _ => ⟨rfl, eq52, (by decide : 0 + 0 ≤ _), (by decide : 0 + 0 ≤ _)⟩)
        dsimp only [Pt.U, Pt.locs, Pt.cells, Pt.slots] at X54 l54 y54 z54 st54 hQ54
        subst l54 y54 z54
        obtain ⟨hv54, hr54⟩ := hQ54
        rw [show own_ans q (39 : Int32) (39 : Int32) = (1 : Int32) from by unfold own_ans; rw [if_pos hc115_53]] at hv54
        have hQ54 := And.intro hv54 hr54
        obtain ⟨rfl, Nq54, eq54⟩ := hQ54
        have N54 := Fr.app N52 Nq54
        refine own_tr st54 ?_
        show own_Gl _ _ _ _ _ _ _ _ (T54.setTop (mkF m 132 #[.val (.int p0), .val (.int p1), .val (.int p2), .val (.int (6 : Int32)), .val (.ref a_MULTIPLE_POLLING), .val (.int (39 : Int32)), .val (.int (p2 &&& (3 : Int32))), .val (.int q), .val (.int (1 : Int32))] [(.int (1 : Int32))]))
        refine own_st (A' := T54.setTop (mkF m 142 #[.val (.int p0), .val (.int p1), .val (.int p2), .val (.int (6 : Int32)), .val (.ref a_MULTIPLE_POLLING), .val (.int (39 : Int32)), .val (.int (p2 &&& (3 : Int32))), .val (.int q), .val (.int (1 : Int32))] [(.int (1 : Int32))])) (fun tg kt => ?_) ?_
        · show Steps p.tables e below (T54.setTop (mkF m 132 #[.val (.int p0), .val (.int p1), .val (.int p2), .val (.int (6 : Int32)), .val (.ref a_MULTIPLE_POLLING), .val (.int (39 : Int32)), .val (.int (p2 &&& (3 : Int32))), .val (.int q), .val (.int (1 : Int32))] [(.int (1 : Int32))])) _
          refine XS.iload X54.here hx rfl (hb hby at_132) rfl ?_
          show Steps p.tables e below (T54.setTop (mkF m 134 #[.val (.int p0), .val (.int p1), .val (.int p2), .val (.int (6 : Int32)), .val (.ref a_MULTIPLE_POLLING), .val (.int (39 : Int32)), .val (.int (p2 &&& (3 : Int32))), .val (.int q), .val (.int (1 : Int32))] [(.int (1 : Int32)), (.int (1 : Int32))])) _
          refine XS.icmpNo X54.here hx rfl (hb hby at_134) rfl (teq ((by decide) : (1 : Int32) = (1 : Int32))).2 ?_
          show Steps p.tables e below (T54.setTop (mkF m 137 #[.val (.int p0), .val (.int p1), .val (.int p2), .val (.int (6 : Int32)), .val (.ref a_MULTIPLE_POLLING), .val (.int (39 : Int32)), .val (.int (p2 &&& (3 : Int32))), .val (.int q), .val (.int (1 : Int32))] [])) _
          refine XS.iconst X54.here hx rfl (hb hby at_137) ?_
          show Steps p.tables e below (T54.setTop (mkF m 138 #[.val (.int p0), .val (.int p1), .val (.int p2), .val (.int (6 : Int32)), .val (.ref a_MULTIPLE_POLLING), .val (.int (39 : Int32)), .val (.int (p2 &&& (3 : Int32))), .val (.int q), .val (.int (1 : Int32))] [(.int (1 : Int32))])) _
          refine XS.goto X54.here hx rfl (pc0 := 138) (pc' := 142) rfl (hb hby at_138) (by decide) (by decide) ?_
          exact kt
        refine own_ret X54 (v := some (.int (1 : Int32))) (fun h => by rw [Bd.returns] at h; cases h) hlk (by decide) (by decide) ?_ (fun fs hr => ?_)
        · show Q0 Z p0 p1 p2 a_MODULE_INFORMATION a_SET_REGION a_GET_REGION a_SELECT_PARAMETER a_SELECT_MODE a_SINGLE_POLLING a_MULTIPLE_POLLING a_STOP_MULTIPLE_POLLING a_READ a_WRITE a_SET_POWER a_GET_POWER h0 n0 (some (.int (1 : Int32))) T54.heap _
          rw [eq54]
          exact ⟨rfl, N54⟩
        · show Steps p.tables e below (T54.setTop (mkF m 142 #[.val (.int p0), .val (.int p1), .val (.int p2), .val (.int (6 : Int32)), .val (.ref a_MULTIPLE_POLLING), .val (.int (39 : Int32)), .val (.int (p2 &&& (3 : Int32))), .val (.int q), .val (.int (1 : Int32))] [(.int (1 : Int32))])) _
          exact retN X54 hx (t := .boolean) Bd.returns (by simp) (hb hby at_142) hr
      · refine own_st (A' := T52.setTop (mkF m 129 #[.val (.int p0), .val (.int p1), .val (.int p2), .val (.int (6 : Int32)), .val (.ref a_MULTIPLE_POLLING), .val (.int (39 : Int32)), .val (.int (p2 &&& (3 : Int32))), .val (.int q), .val (.int (0 : Int32))] [(.int q), (.ref a_MULTIPLE_POLLING)])) (fun tg kt => ?_) ?_
        · show Steps p.tables e below (T52.setTop (mkF m 115 #[.val (.int p0), .val (.int p1), .val (.int p2), .val (.int (6 : Int32)), .val (.ref a_MULTIPLE_POLLING), .val (.int (39 : Int32)), .val (.int (p2 &&& (3 : Int32))), .val (.int q), .unset] [(.int (39 : Int32)), (.int q)])) _
          refine XS.icmpYes X52.here hx rfl (pc0 := 115) (pc' := 122) rfl (hb hby at_115) rfl (feq hc115_53).2 (by decide) (by decide) ?_
          show Steps p.tables e below (T52.setTop (mkF m 122 #[.val (.int p0), .val (.int p1), .val (.int p2), .val (.int (6 : Int32)), .val (.ref a_MULTIPLE_POLLING), .val (.int (39 : Int32)), .val (.int (p2 &&& (3 : Int32))), .val (.int q), .unset] [])) _
          refine XS.iconst X52.here hx rfl (hb hby at_122) ?_
          show Steps p.tables e below (T52.setTop (mkF m 123 #[.val (.int p0), .val (.int p1), .val (.int p2), .val (.int (6 : Int32)), .val (.ref a_MULTIPLE_POLLING), .val (.int (39 : Int32)), .val (.int (p2 &&& (3 : Int32))), .val (.int q), .unset] [(.int (0 : Int32))])) _
          refine XS.istore X52.here hx rfl (hb hby at_123) rfl (l' := #[.val (.int p0), .val (.int p1), .val (.int p2), .val (.int (6 : Int32)), .val (.ref a_MULTIPLE_POLLING), .val (.int (39 : Int32)), .val (.int (p2 &&& (3 : Int32))), .val (.int q), .val (.int (0 : Int32))]) rfl ?_
          show Steps p.tables e below (T52.setTop (mkF m 125 #[.val (.int p0), .val (.int p1), .val (.int p2), .val (.int (6 : Int32)), .val (.ref a_MULTIPLE_POLLING), .val (.int (39 : Int32)), .val (.int (p2 &&& (3 : Int32))), .val (.int q), .val (.int (0 : Int32))] [])) _
          refine XS.aload X52.here hx rfl (hb hby at_125) rfl rfl ?_
          show Steps p.tables e below (T52.setTop (mkF m 127 #[.val (.int p0), .val (.int p1), .val (.int p2), .val (.int (6 : Int32)), .val (.ref a_MULTIPLE_POLLING), .val (.int (39 : Int32)), .val (.int (p2 &&& (3 : Int32))), .val (.int q), .val (.int (0 : Int32))] [(.ref a_MULTIPLE_POLLING)])) _
          refine XS.iload X52.here hx rfl (hb hby at_127) rfl ?_
          exact kt
        obtain ⟨cq55, kq55, q55a, q55b, q55c⟩ := isOf hZ eq52 E_MULTIPLE_POLLING
        obtain ⟨_, _, ⟨T55, L55, k55, n55⟩, -, X55, ⟨Lc55, hQ55, l55, y55, z55⟩, st55⟩ := X52.virtualBack hx (y := (⟨"com/example/tagwire/tagwire/bb/Command", "isAnsweredBy", "(I)Z"⟩ : MethodName)) (z := (⟨"com/example/tagwire/tagwire/bb/Command", "isAnsweredBy", "(I)Z"⟩ : MethodName)) hown (mvT hZ (hw _ (List.mem_of_getElem? (i := 11) rfl))) (mvT hZ (hw _ (List.mem_of_getElem? (i := 12) rfl))) (notFace_of_selects (args := #[]) (mvT hZ (hw _ (List.mem_of_getElem? (i := 14) rfl)))) (mvT hZ (hw _ (List.mem_of_getElem? (i := 14) rfl))) (mvT hZ (hw _ (List.mem_of_getElem? (i := 13) rfl))) (by decide) (backOf (W := 0) (rm3 l Z a0 hw [] a_MULTIPLE_POLLING q (39 : Int32) (39 : Int32) h0 n0 Z0 F_MULTIPLE_POLLING_code F_MULTIPLE_POLLING_answerCode) hZ (hw _ (List.mem_of_getElem? (i := 15) rfl)) (hw _ (List.mem_of_getElem? (i := 6) rfl)) (by decide) (by decide)) q55a q55c (g := (mkF m 129 #[.val (.int p0), .val (.int p1), .val (.int p2), .val (.int (6 : Int32)), .val (.ref a_MULTIPLE_POLLING), .val (.int (39 : Int32)), .val (.int (p2 &&& (3 : Int32))), .val (.int q), .val (.int (0 : Int32))] [(.int q), (.ref a_MULTIPLE_POLLING)])) rfl (by rw [hml]; rfl) (Steps.refl _) (argsL := [(.int q)]) (rest := []) (lenOf own_pd4 rfl) rfl (by show 2 * 0 + _ ≤ _; exact Nat.le_of_eq rfl) (hb hby at_129) (fun _ _ => ⟨rfl, eq52, (by decide : 0 + 0 ≤ _), (by decide : 0 + 0 ≤ _)⟩)
        dsimp only [Pt.U, Pt.locs, Pt.cells, Pt.slots] at X55 l55 y55 z55 st55 hQ55
        subst l55 y55 z55
        obtain ⟨hv55, hr55⟩ := hQ55
        rw [show own_ans q (39 : Int32) (39 : Int32) = (0 : Int32) from by unfold own_ans; rw [if_neg hc115_53, if_neg hc115_53]] at hv55
        have hQ55 := And.intro hv55 hr55
        obtain ⟨rfl, Nq55, eq55⟩ := hQ55
        have N55 := Fr.app N52 Nq55
        refine own_tr st55 ?_
        show own_Gl _ _ _ _ _ _ _ _ (T55.setTop (mkF m 132 #[.val (.int p0), .val (.int p1), .val (.int p2), .val (.int (6 : Int32)), .val (.ref a_MULTIPLE_POLLING), .val (.int (39 : Int32)), .val (.int (p2 &&& (3 : Int32))), .val (.int q), .val (.int (0 : Int32))] [(.int (0 : Int32))]))
        refine own_st (A' := T55.setTop (mkF m 142 #[.val (.int p0), .val (.int p1), .val (.int p2), .val (.int (6 : Int32)), .val (.ref a_MULTIPLE_POLLING), .val (.int (39 : Int32)), .val (.int (p2 &&& (3 : Int32))), .val (.int q), .val (.int (0 : Int32))] [(.int (1 : Int32))])) (fun tg kt => ?_) ?_
        · show Steps p.tables e below (T55.setTop (mkF m 132 #[.val (.int p0), .val (.int p1), .val (.int p2), .val (.int (6 : Int32)), .val (.ref a_MULTIPLE_POLLING), .val (.int (39 : Int32)), .val (.int (p2 &&& (3 : Int32))), .val (.int q), .val (.int (0 : Int32))] [(.int (0 : Int32))])) _
          refine XS.iload X55.here hx rfl (hb hby at_132) rfl ?_
          show Steps p.tables e below (T55.setTop (mkF m 134 #[.val (.int p0), .val (.int p1), .val (.int p2), .val (.int (6 : Int32)), .val (.ref a_MULTIPLE_POLLING), .val (.int (39 : Int32)), .val (.int (p2 &&& (3 : Int32))), .val (.int q), .val (.int (0 : Int32))] [(.int (0 : Int32)), (.int (0 : Int32))])) _
          refine XS.icmpNo X55.here hx rfl (hb hby at_134) rfl (teq ((by decide) : (0 : Int32) = (0 : Int32))).2 ?_
          show Steps p.tables e below (T55.setTop (mkF m 137 #[.val (.int p0), .val (.int p1), .val (.int p2), .val (.int (6 : Int32)), .val (.ref a_MULTIPLE_POLLING), .val (.int (39 : Int32)), .val (.int (p2 &&& (3 : Int32))), .val (.int q), .val (.int (0 : Int32))] [])) _
          refine XS.iconst X55.here hx rfl (hb hby at_137) ?_
          show Steps p.tables e below (T55.setTop (mkF m 138 #[.val (.int p0), .val (.int p1), .val (.int p2), .val (.int (6 : Int32)), .val (.ref a_MULTIPLE_POLLING), .val (.int (39 : Int32)), .val (.int (p2 &&& (3 : Int32))), .val (.int q), .val (.int (0 : Int32))] [(.int (1 : Int32))])) _
          refine XS.goto X55.here hx rfl (pc0 := 138) (pc' := 142) rfl (hb hby at_138) (by decide) (by decide) ?_
          exact kt
        refine own_ret X55 (v := some (.int (1 : Int32))) (fun h => by rw [Bd.returns] at h; cases h) hlk (by decide) (by decide) ?_ (fun fs hr => ?_)
        · show Q0 Z p0 p1 p2 a_MODULE_INFORMATION a_SET_REGION a_GET_REGION a_SELECT_PARAMETER a_SELECT_MODE a_SINGLE_POLLING a_MULTIPLE_POLLING a_STOP_MULTIPLE_POLLING a_READ a_WRITE a_SET_POWER a_GET_POWER h0 n0 (some (.int (1 : Int32))) T55.heap _
          rw [eq55]
          exact ⟨rfl, N55⟩
        · show Steps p.tables e below (T55.setTop (mkF m 142 #[.val (.int p0), .val (.int p1), .val (.int p2), .val (.int (6 : Int32)), .val (.ref a_MULTIPLE_POLLING), .val (.int (39 : Int32)), .val (.int (p2 &&& (3 : Int32))), .val (.int q), .val (.int (0 : Int32))] [(.int (1 : Int32))])) _
          exact retN X55 hx (t := .boolean) Bd.returns (by simp) (hb hby at_142) hr
    refine own_st (A' := T52.setTop (mkF m 27 #[.val (.int p0), .val (.int p1), .val (.int p2), .val (.int (6 : Int32)), .val (.ref a_MULTIPLE_POLLING), .val (.int (39 : Int32)), .val (.int (p2 &&& (3 : Int32))), .unset, .unset] [(.int (p2 &&& (3 : Int32)))])) (fun tg kt => ?_) ?_
    · show Steps p.tables e below (T52.setTop (mkF m 25 #[.val (.int p0), .val (.int p1), .val (.int p2), .val (.int (6 : Int32)), .val (.ref a_MULTIPLE_POLLING), .val (.int (39 : Int32)), .val (.int (p2 &&& (3 : Int32))), .unset, .unset] [])) _
      refine XS.iload X52.here hx rfl (hb hby at_25) rfl ?_
      exact kt
    by_cases hc27_56 : (p2 &&& (3 : Int32)) = (0 : Int32)
    · refine own_st (A' := T52.setTop (mkF m 82 #[.val (.int p0), .val (.int p1), .val (.int p2), .val (.int (6 : Int32)), .val (.ref a_MULTIPLE_POLLING), .val (.int (39 : Int32)), .val (.int (p2 &&& (3 : Int32))), .val (.int p1), .unset] [])) (fun tg kt => ?_) ?_
      · show Steps p.tables e below (T52.setTop (mkF m 27 #[.val (.int p0), .val (.int p1), .val (.int p2), .val (.int (6 : Int32)), .val (.ref a_MULTIPLE_POLLING), .val (.int (39 : Int32)), .val (.int (p2 &&& (3 : Int32))), .unset, .unset] [(.int (p2 &&& (3 : Int32)))])) _
        refine XS.ifNo X52.here hx rfl (hb hby at_27) rfl ((if0 _ _).trans (teq hc27_56).2) ?_
        show Steps p.tables e below (T52.setTop (mkF m 30 #[.val (.int p0), .val (.int p1), .val (.int p2), .val (.int (6 : Int32)), .val (.ref a_MULTIPLE_POLLING), .val (.int (39 : Int32)), .val (.int (p2 &&& (3 : Int32))), .unset, .unset] [])) _
        refine XS.iloadN X52.here hx rfl (hb hby at_30) rfl ?_
        show Steps p.tables e below (T52.setTop (mkF m 31 #[.val (.int p0), .val (.int p1), .val (.int p2), .val (.int (6 : Int32)), .val (.ref a_MULTIPLE_POLLING), .val (.int (39 : Int32)), .val (.int (p2 &&& (3 : Int32))), .unset, .unset] [(.int p1)])) _
        refine XS.istore X52.here hx rfl (hb hby at_31) rfl (l' := #[.val (.int p0), .val (.int p1), .val (.int p2), .val (.int (6 : Int32)), .val (.ref a_MULTIPLE_POLLING), .val (.int (39 : Int32)), .val (.int (p2 &&& (3 : Int32))), .val (.int p1), .unset]) rfl ?_
        show Steps p.tables e below (T52.setTop (mkF m 33 #[.val (.int p0), .val (.int p1), .val (.int p2), .val (.int (6 : Int32)), .val (.ref a_MULTIPLE_POLLING), .val (.int (39 : Int32)), .val (.int (p2 &&& (3 : Int32))), .val (.int p1), .unset] [])) _
        refine XS.goto X52.here hx rfl (pc0 := 33) (pc' := 82) rfl (hb hby at_33) (by decide) (by decide) ?_
        exact kt
      exact tl p1
    · refine own_st (A' := T52.setTop (mkF m 39 #[.val (.int p0), .val (.int p1), .val (.int p2), .val (.int (6 : Int32)), .val (.ref a_MULTIPLE_POLLING), .val (.int (39 : Int32)), .val (.int (p2 &&& (3 : Int32))), .unset, .unset] [(.int (1 : Int32)), (.int (p2 &&& (3 : Int32)))])) (fun tg kt => ?_) ?_
      · show Steps p.tables e below (T52.setTop (mkF m 27 #[.val (.int p0), .val (.int p1), .val (.int p2), .val (.int (6 : Int32)), .val (.ref a_MULTIPLE_POLLING), .val (.int (39 : Int32)), .val (.int (p2 &&& (3 : Int32))), .unset, .unset] [(.int (p2 &&& (3 : Int32)))])) _
        refine XS.ifYes X52.here hx rfl (pc0 := 27) (pc' := 36) rfl (hb hby at_27) rfl ((if0 _ _).trans (feq hc27_56).2) (by decide) (by decide) ?_
        show Steps p.tables e below (T52.setTop (mkF m 36 #[.val (.int p0), .val (.int p1), .val (.int p2), .val (.int (6 : Int32)), .val (.ref a_MULTIPLE_POLLING), .val (.int (39 : Int32)), .val (.int (p2 &&& (3 : Int32))), .unset, .unset] [])) _
        refine XS.iload X52.here hx rfl (hb hby at_36) rfl ?_
        show Steps p.tables e below (T52.setTop (mkF m 38 #[.val (.int p0), .val (.int p1), .val (.int p2), .val (.int (6 : Int32)), .val (.ref a_MULTIPLE_POLLING), .val (.int (39 : Int32)), .val (.int (p2 &&& (3 : Int32))), .unset, .unset] [(.int (p2 &&& (3 : Int32)))])) _
        refine XS.iconst X52.here hx rfl (hb hby at_38) ?_
        exact kt
      by_cases hc39_57 : (p2 &&& (3 : Int32)) = (1 : Int32)
      · refine own_st (A' := T52.setTop (mkF m 82 #[.val (.int p0), .val (.int p1), .val (.int p2), .val (.int (6 : Int32)), .val (.ref a_MULTIPLE_POLLING), .val (.int (39 : Int32)), .val (.int (p2 &&& (3 : Int32))), .val (.int (39 : Int32)), .unset] [])) (fun tg kt => ?_) ?_
        · show Steps p.tables e below (T52.setTop (mkF m 39 #[.val (.int p0), .val (.int p1), .val (.int p2), .val (.int (6 : Int32)), .val (.ref a_MULTIPLE_POLLING), .val (.int (39 : Int32)), .val (.int (p2 &&& (3 : Int32))), .unset, .unset] [(.int (1 : Int32)), (.int (p2 &&& (3 : Int32)))])) _
          refine XS.icmpNo X52.here hx rfl (hb hby at_39) rfl (teq hc39_57).2 ?_
          show Steps p.tables e below (T52.setTop (mkF m 42 #[.val (.int p0), .val (.int p1), .val (.int p2), .val (.int (6 : Int32)), .val (.ref a_MULTIPLE_POLLING), .val (.int (39 : Int32)), .val (.int (p2 &&& (3 : Int32))), .unset, .unset] [])) _
          refine XS.iload X52.here hx rfl (hb hby at_42) rfl ?_
          show Steps p.tables e below (T52.setTop (mkF m 44 #[.val (.int p0), .val (.int p1), .val (.int p2), .val (.int (6 : Int32)), .val (.ref a_MULTIPLE_POLLING), .val (.int (39 : Int32)), .val (.int (p2 &&& (3 : Int32))), .unset, .unset] [(.int (39 : Int32))])) _
          refine XS.istore X52.here hx rfl (hb hby at_44) rfl (l' := #[.val (.int p0), .val (.int p1), .val (.int p2), .val (.int (6 : Int32)), .val (.ref a_MULTIPLE_POLLING), .val (.int (39 : Int32)), .val (.int (p2 &&& (3 : Int32))), .val (.int (39 : Int32)), .unset]) rfl ?_
          show Steps p.tables e below (T52.setTop (mkF m 46 #[.val (.int p0), .val (.int p1), .val (.int p2), .val (.int (6 : Int32)), .val (.ref a_MULTIPLE_POLLING), .val (.int (39 : Int32)), .val (.int (p2 &&& (3 : Int32))), .val (.int (39 : Int32)), .unset] [])) _
          refine XS.goto X52.here hx rfl (pc0 := 46) (pc' := 82) rfl (hb hby at_46) (by decide) (by decide) ?_
          exact kt
        exact tl (39 : Int32)
      · refine own_st (A' := T52.setTop (mkF m 52 #[.val (.int p0), .val (.int p1), .val (.int p2), .val (.int (6 : Int32)), .val (.ref a_MULTIPLE_POLLING), .val (.int (39 : Int32)), .val (.int (p2 &&& (3 : Int32))), .unset, .unset] [(.int (2 : Int32)), (.int (p2 &&& (3 : Int32)))])) (fun tg kt => ?_) ?_
        · show Steps p.tables e below (T52.setTop (mkF m 39 #[.val (.int p0), .val (.int p1), .val (.int p2), .val (.int (6 : Int32)), .val (.ref a_MULTIPLE_POLLING), .val (.int (39 : Int32)), .val (.int (p2 &&& (3 : Int32))), .unset, .unset] [(.int (1 : Int32)), (.int (p2 &&& (3 : Int32)))])) _
          refine XS.icmpYes X52.here hx rfl (pc0 := 39) (pc' := 49) rfl (hb hby at_39) rfl (feq hc39_57).2 (by decide) (by decide) ?_
          show Steps p.tables e below (T52.setTop (mkF m 49 #[.val (.int p0), .val (.int p1), .val (.int p2), .val (.int (6 : Int32)), .val (.ref a_MULTIPLE_POLLING), .val (.int (39 : Int32)), .val (.int (p2 &&& (3 : Int32))), .unset, .unset] [])) _
          refine XS.iload X52.here hx rfl (hb hby at_49) rfl ?_
          show Steps p.tables e below (T52.setTop (mkF m 51 #[.val (.int p0), .val (.int p1), .val (.int p2), .val (.int (6 : Int32)), .val (.ref a_MULTIPLE_POLLING), .val (.int (39 : Int32)), .val (.int (p2 &&& (3 : Int32))), .unset, .unset] [(.int (p2 &&& (3 : Int32)))])) _
          refine XS.iconst X52.here hx rfl (hb hby at_51) ?_
          exact kt
        by_cases hc52_58 : (p2 &&& (3 : Int32)) = (2 : Int32)
        · refine own_st (A' := T52.setTop (mkF m 82 #[.val (.int p0), .val (.int p1), .val (.int p2), .val (.int (6 : Int32)), .val (.ref a_MULTIPLE_POLLING), .val (.int (39 : Int32)), .val (.int (p2 &&& (3 : Int32))), .val (.int (39 : Int32)), .unset] [])) (fun tg kt => ?_) ?_
          · show Steps p.tables e below (T52.setTop (mkF m 52 #[.val (.int p0), .val (.int p1), .val (.int p2), .val (.int (6 : Int32)), .val (.ref a_MULTIPLE_POLLING), .val (.int (39 : Int32)), .val (.int (p2 &&& (3 : Int32))), .unset, .unset] [(.int (2 : Int32)), (.int (p2 &&& (3 : Int32)))])) _
            refine XS.icmpNo X52.here hx rfl (hb hby at_52) rfl (teq hc52_58).2 ?_
            show Steps p.tables e below (T52.setTop (mkF m 55 #[.val (.int p0), .val (.int p1), .val (.int p2), .val (.int (6 : Int32)), .val (.ref a_MULTIPLE_POLLING), .val (.int (39 : Int32)), .val (.int (p2 &&& (3 : Int32))), .unset, .unset] [])) _
            refine XS.iloadN X52.here hx rfl (hb hby at_55) rfl ?_
            show Steps p.tables e below (T52.setTop (mkF m 56 #[.val (.int p0), .val (.int p1), .val (.int p2), .val (.int (6 : Int32)), .val (.ref a_MULTIPLE_POLLING), .val (.int (39 : Int32)), .val (.int (p2 &&& (3 : Int32))), .unset, .unset] [(.int (6 : Int32))])) _
            refine XS.iconst X52.here hx rfl (hb hby at_56) ?_
            show Steps p.tables e below (T52.setTop (mkF m 57 #[.val (.int p0), .val (.int p1), .val (.int p2), .val (.int (6 : Int32)), .val (.ref a_MULTIPLE_POLLING), .val (.int (39 : Int32)), .val (.int (p2 &&& (3 : Int32))), .unset, .unset] [(.int (4 : Int32)), (.int (6 : Int32))])) _
            refine XS.icmpYes X52.here hx rfl (pc0 := 57) (pc' := 65) rfl (hb hby at_57) rfl (feq ((by decide) : ¬ ((6 : Int32) = (4 : Int32)))).2 (by decide) (by decide) ?_
            show Steps p.tables e below (T52.setTop (mkF m 65 #[.val (.int p0), .val (.int p1), .val (.int p2), .val (.int (6 : Int32)), .val (.ref a_MULTIPLE_POLLING), .val (.int (39 : Int32)), .val (.int (p2 &&& (3 : Int32))), .unset, .unset] [])) _
            refine XS.iload X52.here hx rfl (hb hby at_65) rfl ?_
            show Steps p.tables e below (T52.setTop (mkF m 67 #[.val (.int p0), .val (.int p1), .val (.int p2), .val (.int (6 : Int32)), .val (.ref a_MULTIPLE_POLLING), .val (.int (39 : Int32)), .val (.int (p2 &&& (3 : Int32))), .unset, .unset] [(.int (39 : Int32))])) _
            refine XS.istore X52.here hx rfl (hb hby at_67) rfl (l' := #[.val (.int p0), .val (.int p1), .val (.int p2), .val (.int (6 : Int32)), .val (.ref a_MULTIPLE_POLLING), .val (.int (39 : Int32)), .val (.int (p2 &&& (3 : Int32))), .val (.int (39 : Int32)), .unset]) rfl ?_
            show Steps p.tables e below (T52.setTop (mkF m 69 #[.val (.int p0), .val (.int p1), .val (.int p2), .val (.int (6 : Int32)), .val (.ref a_MULTIPLE_POLLING), .val (.int (39 : Int32)), .val (.int (p2 &&& (3 : Int32))), .val (.int (39 : Int32)), .unset] [])) _
            refine XS.goto X52.here hx rfl (pc0 := 69) (pc' := 82) rfl (hb hby at_69) (by decide) (by decide) ?_
            exact kt
          exact tl (39 : Int32)
        · refine own_st (A' := T52.setTop (mkF m 82 #[.val (.int p0), .val (.int p1), .val (.int p2), .val (.int (6 : Int32)), .val (.ref a_MULTIPLE_POLLING), .val (.int (39 : Int32)), .val (.int (p2 &&& (3 : Int32))), .val (.int ((39 : Int32) + ((p1 &&& (3 : Int32)) - (2 : Int32)))), .unset] [])) (fun tg kt => ?_) ?_
          · show Steps p.tables e below (T52.setTop (mkF m 52 #[.val (.int p0), .val (.int p1), .val (.int p2), .val (.int (6 : Int32)), .val (.ref a_MULTIPLE_POLLING), .val (.int (39 : Int32)), .val (.int (p2 &&& (3 : Int32))), .unset, .unset] [(.int (2 : Int32)), (.int (p2 &&& (3 : Int32)))])) _
            refine XS.icmpYes X52.here hx rfl (pc0 := 52) (pc' := 72) rfl (hb hby at_52) rfl (feq hc52_58).2 (by decide) (by decide) ?_
            show Steps p.tables e below (T52.setTop (mkF m 72 #[.val (.int p0), .val (.int p1), .val (.int p2), .val (.int (6 : Int32)), .val (.ref a_MULTIPLE_POLLING), .val (.int (39 : Int32)), .val (.int (p2 &&& (3 : Int32))), .unset, .unset] [])) _
            refine XS.iload X52.here hx rfl (hb hby at_72) rfl ?_
            show Steps p.tables e below (T52.setTop (mkF m 74 #[.val (.int p0), .val (.int p1), .val (.int p2), .val (.int (6 : Int32)), .val (.ref a_MULTIPLE_POLLING), .val (.int (39 : Int32)), .val (.int (p2 &&& (3 : Int32))), .unset, .unset] [(.int (39 : Int32))])) _
            refine XS.iloadN X52.here hx rfl (hb hby at_74) rfl ?_
            show Steps p.tables e below (T52.setTop (mkF m 75 #[.val (.int p0), .val (.int p1), .val (.int p2), .val (.int (6 : Int32)), .val (.ref a_MULTIPLE_POLLING), .val (.int (39 : Int32)), .val (.int (p2 &&& (3 : Int32))), .unset, .unset] [(.int p1), (.int (39 : Int32))])) _
            refine XS.iconst X52.here hx rfl (hb hby at_75) ?_
            show Steps p.tables e below (T52.setTop (mkF m 76 #[.val (.int p0), .val (.int p1), .val (.int p2), .val (.int (6 : Int32)), .val (.ref a_MULTIPLE_POLLING), .val (.int (39 : Int32)), .val (.int (p2 &&& (3 : Int32))), .unset, .unset] [(.int (3 : Int32)), (.int p1), (.int (39 : Int32))])) _
            refine XS.iand X52.here hx rfl (hb hby at_76) rfl ?_
            show Steps p.tables e below (T52.setTop (mkF m 77 #[.val (.int p0), .val (.int p1), .val (.int p2), .val (.int (6 : Int32)), .val (.ref a_MULTIPLE_POLLING), .val (.int (39 : Int32)), .val (.int (p2 &&& (3 : Int32))), .unset, .unset] [(.int (p1 &&& (3 : Int32))), (.int (39 : Int32))])) _
            refine XS.iconst X52.here hx rfl (hb hby at_77) ?_
            show Steps p.tables e below (T52.setTop (mkF m 78 #[.val (.int p0), .val (.int p1), .val (.int p2), .val (.int (6 : Int32)), .val (.ref a_MULTIPLE_POLLING), .val (.int (39 : Int32)), .val (.int (p2 &&& (3 : Int32))), .unset, .unset] [(.int (2 : Int32)), (.int (p1 &&& (3 : Int32))), (.int (39 : Int32))])) _
            refine XS.isub X52.here hx rfl (hb hby at_78) rfl ?_
            show Steps p.tables e below (T52.setTop (mkF m 79 #[.val (.int p0), .val (.int p1), .val (.int p2), .val (.int (6 : Int32)), .val (.ref a_MULTIPLE_POLLING), .val (.int (39 : Int32)), .val (.int (p2 &&& (3 : Int32))), .unset, .unset] [(.int ((p1 &&& (3 : Int32)) - (2 : Int32))), (.int (39 : Int32))])) _
            refine XS.iadd X52.here hx rfl (hb hby at_79) rfl ?_
            show Steps p.tables e below (T52.setTop (mkF m 80 #[.val (.int p0), .val (.int p1), .val (.int p2), .val (.int (6 : Int32)), .val (.ref a_MULTIPLE_POLLING), .val (.int (39 : Int32)), .val (.int (p2 &&& (3 : Int32))), .unset, .unset] [(.int ((39 : Int32) + ((p1 &&& (3 : Int32)) - (2 : Int32))))])) _
            refine XS.istore X52.here hx rfl (hb hby at_80) rfl (l' := #[.val (.int p0), .val (.int p1), .val (.int p2), .val (.int (6 : Int32)), .val (.ref a_MULTIPLE_POLLING), .val (.int (39 : Int32)), .val (.int (p2 &&& (3 : Int32))), .val (.int ((39 : Int32) + ((p1 &&& (3 : Int32)) - (2 : Int32)))), .unset]) rfl ?_
            exact kt
          exact tl ((39 : Int32) + ((p1 &&& (3 : Int32)) - (2 : Int32)))
  · show own_Gl _ _ _ _ _ _ _ _ (s₁.setTop (mkF m 7 #[.val (.int p0), .val (.int p1), .val (.int p2), .unset, .unset, .unset, .unset, .unset, .unset] [(.int (7 : Int32))]))
    refine own_st (A' := s₁.setTop (mkF m 9 #[.val (.int p0), .val (.int p1), .val (.int p2), .val (.int (7 : Int32)), .unset, .unset, .unset, .unset, .unset] [(.int (7 : Int32))])) (fun tg kt => ?_) ?_
    · show Steps p.tables e below (s₁.setTop (mkF m 7 #[.val (.int p0), .val (.int p1), .val (.int p2), .unset, .unset, .unset, .unset, .unset, .unset] [(.int (7 : Int32))])) _
      refine XS.istoreN X0.here hx rfl (hb hby at_7) rfl (l' := #[.val (.int p0), .val (.int p1), .val (.int p2), .val (.int (7 : Int32)), .unset, .unset, .unset, .unset, .unset]) rfl ?_
      show Steps p.tables e below (s₁.setTop (mkF m 8 #[.val (.int p0), .val (.int p1), .val (.int p2), .val (.int (7 : Int32)), .unset, .unset, .unset, .unset, .unset] [])) _
      refine XS.iloadN X0.here hx rfl (hb hby at_8) rfl ?_
      exact kt
    obtain ⟨_, _, ⟨T59, L59, k59, n59⟩, -, X59, ⟨Lc59, hQ59, l59, y59, z59⟩, st59⟩ := Jvm.LawKit.callS X0 hx (y := (⟨"com/example/tagwire/tagwire/bb/CommandIsAnsweredByPinLaw", "pick", "(I)Lcom/example/tagwire/tagwire/bb/Command;"⟩ : MethodName)) hown (mvT hZ (hw _ (List.mem_of_getElem? (i := 1) rfl))) (mvT hZ (hw _ (List.mem_of_getElem? (i := 2) rfl))) (mvT hZ (hw _ (List.mem_of_getElem? (i := 3) rfl))) (mvT hZ (hw _ (List.mem_of_getElem? (i := 4) rfl))) (by decide) (backOf (W := 0) (rm1 l Z a0 hw [] (7 : Int32) a_MODULE_INFORMATION a_SET_REGION a_GET_REGION a_SELECT_PARAMETER a_SELECT_MODE a_SINGLE_POLLING a_MULTIPLE_POLLING a_STOP_MULTIPLE_POLLING a_READ a_WRITE a_SET_POWER a_GET_POWER h0 n0 Z0 S_MODULE_INFORMATION S_SET_REGION S_GET_REGION S_SELECT_PARAMETER S_SELECT_MODE S_SINGLE_POLLING S_MULTIPLE_POLLING S_STOP_MULTIPLE_POLLING S_READ S_WRITE S_SET_POWER S_GET_POWER) hZ (hw _ (List.mem_of_getElem? (i := 4) rfl)) (hw _ (List.mem_of_getElem? (i := 3) rfl)) (by decide) (by decide)) (g := (mkF m 9 #[.val (.int p0), .val (.int p1), .val (.int p2), .val (.int (7 : Int32)), .unset, .unset, .unset, .unset, .unset] [(.int (7 : Int32))])) rfl (by rw [hml]; rfl) (argsL := [(.int (7 : Int32))]) (rest := []) (lenOf own_pd2 rfl) rfl (by show 2 * 0 + _ ≤ _; exact Nat.le_of_eq rfl) (hb hby at_9) (fun _ _ => ⟨rfl, e0, (by decide : 0 + 0 ≤ _), (by decide : 0 + 0 ≤ _)⟩)
    dsimp only [Pt.U, Pt.locs, Pt.cells, Pt.slots] at X59 l59 y59 z59 st59 hQ59
    subst l59 y59 z59
    obtain ⟨hv59, hr59⟩ := hQ59
    rw [show own_pick1 (7 : Int32) a_MODULE_INFORMATION a_SET_REGION a_GET_REGION a_SELECT_PARAMETER a_SELECT_MODE a_SINGLE_POLLING a_MULTIPLE_POLLING a_STOP_MULTIPLE_POLLING a_READ a_WRITE a_SET_POWER a_GET_POWER = a_STOP_MULTIPLE_POLLING from rfl] at hv59
    have hQ59 := And.intro hv59 hr59
    obtain ⟨rfl, Nq59, eq59⟩ := hQ59
    have N59 := Fr.app N0 Nq59
    refine own_st st59 ?_
    show own_Gl _ _ _ _ _ _ _ _ (T59.setTop (mkF m 12 #[.val (.int p0), .val (.int p1), .val (.int p2), .val (.int (7 : Int32)), .unset, .unset, .unset, .unset, .unset] [(.ref a_STOP_MULTIPLE_POLLING)]))
    refine own_st (A' := T59.setTop (mkF m 15 #[.val (.int p0), .val (.int p1), .val (.int p2), .val (.int (7 : Int32)), .val (.ref a_STOP_MULTIPLE_POLLING), .unset, .unset, .unset, .unset] [(.int (7 : Int32))])) (fun tg kt => ?_) ?_
    · show Steps p.tables e below (T59.setTop (mkF m 12 #[.val (.int p0), .val (.int p1), .val (.int p2), .val (.int (7 : Int32)), .unset, .unset, .unset, .unset, .unset] [(.ref a_STOP_MULTIPLE_POLLING)])) _
      refine XS.astore X59.here hx rfl (hb hby at_12) rfl rfl (l' := #[.val (.int p0), .val (.int p1), .val (.int p2), .val (.int (7 : Int32)), .val (.ref a_STOP_MULTIPLE_POLLING), .unset, .unset, .unset, .unset]) rfl ?_
      show Steps p.tables e below (T59.setTop (mkF m 14 #[.val (.int p0), .val (.int p1), .val (.int p2), .val (.int (7 : Int32)), .val (.ref a_STOP_MULTIPLE_POLLING), .unset, .unset, .unset, .unset] [])) _
      refine XS.iloadN X59.here hx rfl (hb hby at_14) rfl ?_
      exact kt
    obtain ⟨_, _, ⟨T60, L60, k60, n60⟩, -, X60, ⟨Lc60, hQ60, l60, y60, z60⟩, st60⟩ := Jvm.LawKit.callS X59 hx (y := (⟨"com/example/tagwire/tagwire/bb/CommandIsAnsweredByPinLaw", "codeOf", "(I)I"⟩ : MethodName)) hown (mvT hZ (hw _ (List.mem_of_getElem? (i := 8) rfl))) (mvT hZ (hw _ (List.mem_of_getElem? (i := 9) rfl))) (mvT hZ (hw _ (List.mem_of_getElem? (i := 3) rfl))) (mvT hZ (hw _ (List.mem_of_getElem? (i := 10) rfl))) (by decide) (backOf (W := 0) (rm2 l Z a0 hw [] (7 : Int32) h0 n0 Z0) hZ (hw _ (List.mem_of_getElem? (i := 10) rfl)) (hw _ (List.mem_of_getElem? (i := 3) rfl)) (by decide) (by decide)) (g := (mkF m 15 #[.val (.int p0), .val (.int p1), .val (.int p2), .val (.int (7 : Int32)), .val (.ref a_STOP_MULTIPLE_POLLING), .unset, .unset, .unset, .unset] [(.int (7 : Int32))])) rfl (by rw [hml]; rfl) (argsL := [(.int (7 : Int32))]) (rest := []) (lenOf own_pd3 rfl) rfl (by show 2 * 0 + _ ≤ _; exact Nat.le_of_eq rfl) (hb hby at_15) (fun _ _ => ⟨rfl, eq59, (by decide : 0 + 0 ≤ _), (by decide : 0 + 0 ≤ _)⟩)
    dsimp only [Pt.U, Pt.locs, Pt.cells, Pt.slots] at X60 l60 y60 z60 st60 hQ60
    subst l60 y60 z60
    obtain ⟨hv60, hr60⟩ := hQ60
    rw [show own_code (7 : Int32) = (40 : Int32) from rfl] at hv60
    have hQ60 := And.intro hv60 hr60
    obtain ⟨rfl, Nq60, eq60⟩ := hQ60
    have N60 := Fr.app N59 Nq60
    refine own_st st60 ?_
    show own_Gl _ _ _ _ _ _ _ _ (T60.setTop (mkF m 18 #[.val (.int p0), .val (.int p1), .val (.int p2), .val (.int (7 : Int32)), .val (.ref a_STOP_MULTIPLE_POLLING), .unset, .unset, .unset, .unset] [(.int (40 : Int32))]))
    refine own_st (A' := T60.setTop (mkF m 25 #[.val (.int p0), .val (.int p1), .val (.int p2), .val (.int (7 : Int32)), .val (.ref a_STOP_MULTIPLE_POLLING), .val (.int (40 : Int32)), .val (.int (p2 &&& (3 : Int32))), .unset, .unset] [])) (fun tg kt => ?_) ?_
    · show Steps p.tables e below (T60.setTop (mkF m 18 #[.val (.int p0), .val (.int p1), .val (.int p2), .val (.int (7 : Int32)), .val (.ref a_STOP_MULTIPLE_POLLING), .unset, .unset, .unset, .unset] [(.int (40 : Int32))])) _
      refine XS.istore X60.here hx rfl (hb hby at_18) rfl (l' := #[.val (.int p0), .val (.int p1), .val (.int p2), .val (.int (7 : Int32)), .val (.ref a_STOP_MULTIPLE_POLLING), .val (.int (40 : Int32)), .unset, .unset, .unset]) rfl ?_
      show Steps p.tables e below (T60.setTop (mkF m 20 #[.val (.int p0), .val (.int p1), .val (.int p2), .val (.int (7 : Int32)), .val (.ref a_STOP_MULTIPLE_POLLING), .val (.int (40 : Int32)), .unset, .unset, .unset] [])) _
      refine XS.iloadN X60.here hx rfl (hb hby at_20) rfl ?_
      show Steps p.tables e below (T60.setTop (mkF m 21 #[.val (.int p0), .val (.int p1), .val (.int p2), .val (.int (7 : Int32)), .val (.ref a_STOP_MULTIPLE_POLLING), .val (.int (40 : Int32)), .unset, .unset, .unset] [(.int p2)])) _
      refine XS.iconst X60.here hx rfl (hb hby at_21) ?_
      show Steps p.tables e below (T60.setTop (mkF m 22 #[.val (.int p0), .val (.int p1), .val (.int p2), .val (.int (7 : Int32)), .val (.ref a_STOP_MULTIPLE_POLLING), .val (.int (40 : Int32)), .unset, .unset, .unset] [(.int (3 : Int32)), (.int p2)])) _
      refine XS.iand X60.here hx rfl (hb hby at_22) rfl ?_
      show Steps p.tables e below (T60.setTop (mkF m 23 #[.val (.int p0), .val (.int p1), .val (.int p2), .val (.int (7 : Int32)), .val (.ref a_STOP_MULTIPLE_POLLING), .val (.int (40 : Int32)), .unset, .unset, .unset] [(.int (p2 &&& (3 : Int32)))])) _
      refine XS.istore X60.here hx rfl (hb hby at_23) rfl (l' := #[.val (.int p0), .val (.int p1), .val (.int p2), .val (.int (7 : Int32)), .val (.ref a_STOP_MULTIPLE_POLLING), .val (.int (40 : Int32)), .val (.int (p2 &&& (3 : Int32))), .unset, .unset]) rfl ?_
      exact kt
    have tl : ∀ (q : Int32), own_Gl FrameEnd p e below s (Q0 Z p0 p1 p2 a_MODULE_INFORMATION a_SET_REGION a_GET_REGION a_SELECT_PARAMETER a_SELECT_MODE a_SINGLE_POLLING a_MULTIPLE_POLLING a_STOP_MULTIPLE_POLLING a_READ a_WRITE a_SET_POWER a_GET_POWER h0 n0) room_1.cells room_1.slots (T60.setTop (mkF m 82 #[.val (.int p0), .val (.int p1), .val (.int p2), .val (.int (7 : Int32)), .val (.ref a_STOP_MULTIPLE_POLLING), .val (.int (40 : Int32)), .val (.int (p2 &&& (3 : Int32))), .val (.int q), .unset] [])) := by
      intro q
      refine own_st (A' := T60.setTop (mkF m 115 #[.val (.int p0), .val (.int p1), .val (.int p2), .val (.int (7 : Int32)), .val (.ref a_STOP_MULTIPLE_POLLING), .val (.int (40 : Int32)), .val (.int (p2 &&& (3 : Int32))), .val (.int q), .unset] [(.int (40 : Int32)), (.int q)])) (fun tg kt => ?_) ?_
      · show Steps p.tables e below (T60.setTop (mkF m 82 #[.val (.int p0), .val (.int p1), .val (.int p2), .val (.int (7 : Int32)), .val (.ref a_STOP_MULTIPLE_POLLING), .val (.int (40 : Int32)), .val (.int (p2 &&& (3 : Int32))), .val (.int q), .unset] [])) _
        refine XS.iloadN X60.here hx rfl (hb hby at_82) rfl ?_
        show Steps p.tables e below (T60.setTop (mkF m 83 #[.val (.int p0), .val (.int p1), .val (.int p2), .val (.int (7 : Int32)), .val (.ref a_STOP_MULTIPLE_POLLING), .val (.int (40 : Int32)), .val (.int (p2 &&& (3 : Int32))), .val (.int q), .unset] [(.int (7 : Int32))])) _
        refine XS.iconst X60.here hx rfl (hb hby at_83) ?_
        show Steps p.tables e below (T60.setTop (mkF m 84 #[.val (.int p0), .val (.int p1), .val (.int p2), .val (.int (7 : Int32)), .val (.ref a_STOP_MULTIPLE_POLLING), .val (.int (40 : Int32)), .val (.int (p2 &&& (3 : Int32))), .val (.int q), .unset] [(.int (4 : Int32)), (.int (7 : Int32))])) _
        refine XS.icmpYes X60.here hx rfl (pc0 := 84) (pc' := 111) rfl (hb hby at_84) rfl (feq ((by decide) : ¬ ((7 : Int32) = (4 : Int32)))).2 (by decide) (by decide) ?_
        show Steps p.tables e below (T60.setTop (mkF m 111 #[.val (.int p0), .val (.int p1), .val (.int p2), .val (.int (7 : Int32)), .val (.ref a_STOP_MULTIPLE_POLLING), .val (.int (40 : Int32)), .val (.int (p2 &&& (3 : Int32))), .val (.int q), .unset] [])) _
        refine XS.iload X60.here hx rfl (hb hby at_111) rfl ?_
        show Steps p.tables e below (T60.setTop (mkF m 113 #[.val (.int p0), .val (.int p1), .val (.int p2), .val (.int (7 : Int32)), .val (.ref a_STOP_MULTIPLE_POLLING), .val (.int (40 : Int32)), .val (.int (p2 &&& (3 : Int32))), .val (.int q), .unset] [(.int q)])) _
        refine XS.iload X60.here hx rfl (hb hby at_113) rfl ?_
        exact kt
      by_cases hc115_61 : q = (40 : Int32)
      · refine own_st (A' := T60.setTop (mkF m 129 #[.val (.int p0), .val (.int p1), .val (.int p2), .val (.int (7 : Int32)), .val (.ref a_STOP_MULTIPLE_POLLING), .val (.int (40 : Int32)), .val (.int (p2 &&& (3 : Int32))), .val (.int q), .val (.int (1 : Int32))] [(.int q), (.ref a_STOP_MULTIPLE_POLLING)])) (fun tg kt => ?_) ?_
        · show Steps p.tables e below (T60.setTop (mkF m 115 #[.val (.int p0), .val (.int p1), .val (.int p2), .val (.int (7 : Int32)), .val (.ref a_STOP_MULTIPLE_POLLING), .val (.int (40 : Int32)), .val (.int (p2 &&& (3 : Int32))), .val (.int q), .unset] [(.int (40 : Int32)), (.int q)])) _
          refine XS.icmpNo X60.here hx rfl (hb hby at_115) rfl (teq hc115_61).2 ?_
          show Steps p.tables e below (T60.setTop (mkF m 118 #[.val (.int p0), .val (.int p1), .val (.int p2), .val (.int (7 : Int32)), .val (.ref a_STOP_MULTIPLE_POLLING), .val (.int (40 : Int32)), .val (.int (p2 &&& (3 : Int32))), .val (.int q), .unset] [])) _
          refine XS.iconst X60.here hx rfl (hb hby at_118) ?_
          show Steps p.tables e below (T60.setTop (mkF m 119 #[.val (.int p0), .val (.int p1), .val (.int p2), .val (.int (7 : Int32)), .val (.ref a_STOP_MULTIPLE_POLLING), .val (.int (40 : Int32)), .val (.int (p2 &&& (3 : Int32))), .val (.int q), .unset] [(.int (1 : Int32))])) _
          refine XS.goto X60.here hx rfl (pc0 := 119) (pc' := 123) rfl (hb hby at_119) (by decide) (by decide) ?_
          show Steps p.tables e below (T60.setTop (mkF m 123 #[.val (.int p0), .val (.int p1), .val (.int p2), .val (.int (7 : Int32)), .val (.ref a_STOP_MULTIPLE_POLLING), .val (.int (40 : Int32)), .val (.int (p2 &&& (3 : Int32))), .val (.int q), .unset] [(.int (1 : Int32))])) _
          refine XS.istore X60.here hx rfl (hb hby at_123) rfl (l' := #[.val (.int p0), .val (.int p1), .val (.int p2), .val (.int (7 : Int32)), .val (.ref a_STOP_MULTIPLE_POLLING), .val (.int (40 : Int32)), .val (.int (p2 &&& (3 : Int32))), .val (.int q), .val (.int (1 : Int32))]) rfl ?_
          show Steps p.tables e below (T60.setTop (mkF m 125 #[.val (.int p0), .val (.int p1), .val (.int p2), .val (.int (7 : Int32)), .val (.ref a_STOP_MULTIPLE_POLLING), .val (.int (40 : Int32)), .val (.int (p2 &&& (3 : Int32))), .val (.int q), .val (.int (1 : Int32))] [])) _
          refine XS.aload X60.here hx rfl (hb hby at_125) rfl rfl ?_
          show Steps p.tables e below (T60.setTop (mkF m 127 #[.val (.int p0), .val (.int p1), .val (.int p2), .val (.int (7 : Int32)), .val (.ref a_STOP_MULTIPLE_POLLING), .val (.int (40 : Int32)), .val (.int (p2 &&& (3 : Int32))), .val (.int q), .val (.int (1 : Int32))] [(.ref a_STOP_MULTIPLE_POLLING)])) _
          refine XS.iload X60.here hx rfl (hb hby at_127) rfl ?_
          exact kt
        obtain ⟨cq62, kq62, q62a, q62b, q62c⟩ := isOf hZ eq60 E_STOP_MULTIPLE_POLLING
        obtain ⟨_, _, ⟨T62, L62, k62, n62⟩, -, X62, ⟨Lc62, hQ62, l62, y62, z62⟩, st62⟩ := X60.virtualBack hx (y := (⟨"com/example/tagwire/tagwire/bb/Command", "isAnsweredBy", "(I)Z"⟩ : MethodName)) (z := (⟨"com/example/tagwire/tagwire/bb/Command", "isAnsweredBy", "(I)Z"⟩ : MethodName)) hown (mvT hZ (hw _ (List.mem_of_getElem? (i := 11) rfl))) (mvT hZ (hw _ (List.mem_of_getElem? (i := 12) rfl))) (notFace_of_selects (args := #[]) (mvT hZ (hw _ (List.mem_of_getElem? (i := 14) rfl)))) (mvT hZ (hw _ (List.mem_of_getElem? (i := 14) rfl))) (mvT hZ (hw _ (List.mem_of_getElem? (i := 13) rfl))) (by decide) (backOf (W := 0) (rm3 l Z a0 hw [] a_STOP_MULTIPLE_POLLING q (40 : Int32) (40 : Int32) h0 n0 Z0 F_STOP_MULTIPLE_POLLING_code F_STOP_MULTIPLE_POLLING_answerCode) hZ (hw _ (List.mem_of_getElem? (i := 15) rfl)) (hw _ (List.mem_of_getElem? (i := 6) rfl)) (by decide) (by decide)) q62a q62c (g := (mkF m 129 #[.val (.int p0), .val (.int p1), .val (.int p2), .val (.int (7 : Int32)), .val (.ref a_STOP_MULTIPLE_POLLING), .val (.int (40 : Int32)), .val (.int (p2 &&& (3 : Int32))), .val (.int q), .val (.int (1 : Int32))] [(.int q), (.ref a_STOP_MULTIPLE_POLLING)])) rfl (by rw [hml]; rfl) (Steps.refl _) (argsL := [(.int q)]) (rest := []) (lenOf own_pd4 rfl) rfl (by show 2 * 0 + _ ≤ _; exact Nat.le_of_eq rfl) (hb hby at_129) (fun _ _ => ⟨rfl, eq60, (by decide : 0 + 0 ≤ _), (by decide : 0 + 0 ≤ _)⟩)
        dsimp only [Pt.U, Pt.locs, Pt.cells, Pt.slots] at X62 l62 y62 z62 st62 hQ62
        subst l62 y62 z62
        obtain ⟨hv62, hr62⟩ := hQ62
        rw [show own_ans q (40 : Int32) (40 : Int32) = (1 : Int32) from by unfold own_ans; rw [if_pos hc115_61]] at hv62
        have hQ62 := And.intro hv62 hr62
        obtain ⟨rfl, Nq62, eq62⟩ := hQ62
        have N62 := Fr.app N60 Nq62
        refine own_tr st62 ?_
        show own_Gl _ _ _ _ _ _ _ _ (T62.setTop (mkF m 132 #[.val (.int p0), .val (.int p1), .val (.int p2), .val (.int (7 : Int32)), .val (.ref a_STOP_MULTIPLE_POLLING), .val (.int (40 : Int32)), .val (.int (p2 &&& (3 : Int32))), .val (.int q), .val (.int (1 : Int32))] [(.int (1 : Int32))]))
        refine own_st (A' := T62.setTop (mkF m 142 #[.val (.int p0), .val (.int p1), .val (.int p2), .val (.int (7 : Int32)), .val (.ref a_STOP_MULTIPLE_POLLING), .val (.int (40 : Int32)), .val (.int (p2 &&& (3 : Int32))), .val (.int q), .val (.int (1 : Int32))] [(.int (1 : Int32))])) (fun tg kt => ?_) ?_
        · show Steps p.tables e below (T62.setTop (mkF m 132 #[.val (.int p0), .val (.int p1), .val (.int p2), .val (.int (7 : Int32)), .val (.ref a_STOP_MULTIPLE_POLLING), .val (.int (40 : Int32)), .val (.int (p2 &&& (3 : Int32))), .val (.int q), .val (.int (1 : Int32))] [(.int (1 : Int32))])) _
          refine XS.iload X62.here hx rfl (hb hby at_132) rfl ?_
          show Steps p.tables e below (T62.setTop (mkF m 134 #[.val (.int p0), .val (.int p1), .val (.int p2), .val (.int (7 : Int32)), .val (.ref a_STOP_MULTIPLE_POLLING), .val (.int (40 : Int32)), .val (.int (p2 &&& (3 : Int32))), .val (.int q), .val (.int (1 : Int32))] [(.int (1 : Int32)), (.int (1 : Int32))])) _
          refine XS.icmpNo X62.here hx rfl (hb hby at_134) rfl (teq ((by decide) : (1 : Int32) = (1 : Int32))).2 ?_
          show Steps p.tables e below (T62.setTop (mkF m 137 #[.val (.int p0), .val (.int p1), .val (.int p2), .val (.int (7 : Int32)), .val (.ref a_STOP_MULTIPLE_POLLING), .val (.int (40 : Int32)), .val (.int (p2 &&& (3 : Int32))), .val (.int q), .val (.int (1 : Int32))] [])) _
          refine XS.iconst X62.here hx rfl (hb hby at_137) ?_
          show Steps p.tables e below (T62.setTop (mkF m 138 #[.val (.int p0), .val (.int p1), .val (.int p2), .val (.int (7 : Int32)), .val (.ref a_STOP_MULTIPLE_POLLING), .val (.int (40 : Int32)), .val (.int (p2 &&& (3 : Int32))), .val (.int q), .val (.int (1 : Int32))] [(.int (1 : Int32))])) _
          refine XS.goto X62.here hx rfl (pc0 := 138) (pc' := 142) rfl (hb hby at_138) (by decide) (by decide) ?_
          exact kt
        refine own_ret X62 (v := some (.int (1 : Int32))) (fun h => by rw [Bd.returns] at h; cases h) hlk (by decide) (by decide) ?_ (fun fs hr => ?_)
        · show Q0 Z p0 p1 p2 a_MODULE_INFORMATION a_SET_REGION a_GET_REGION a_SELECT_PARAMETER a_SELECT_MODE a_SINGLE_POLLING a_MULTIPLE_POLLING a_STOP_MULTIPLE_POLLING a_READ a_WRITE a_SET_POWER a_GET_POWER h0 n0 (some (.int (1 : Int32))) T62.heap _
          rw [eq62]
          exact ⟨rfl, N62⟩
        · show Steps p.tables e below (T62.setTop (mkF m 142 #[.val (.int p0), .val (.int p1), .val (.int p2), .val (.int (7 : Int32)), .val (.ref a_STOP_MULTIPLE_POLLING), .val (.int (40 : Int32)), .val (.int (p2 &&& (3 : Int32))), .val (.int q), .val (.int (1 : Int32))] [(.int (1 : Int32))])) _
          exact retN X62 hx (t := .boolean) Bd.returns (by simp) (hb hby at_142) hr
      · refine own_st (A' := T60.setTop (mkF m 129 #[.val (.int p0), .val (.int p1), .val (.int p2), .val (.int (7 : Int32)), .val (.ref a_STOP_MULTIPLE_POLLING), .val (.int (40 : Int32)), .val (.int (p2 &&& (3 : Int32))), .val (.int q), .val (.int (0 : Int32))] [(.int q), (.ref a_STOP_MULTIPLE_POLLING)])) (fun tg kt => ?_) ?_
        · show Steps p.tables e below (T60.setTop (mkF m 115 #[.val (.int p0), .val (.int p1), .val (.int p2), .val (.int (7 : Int32)), .val (.ref a_STOP_MULTIPLE_POLLING), .val (.int (40 : Int32)), .val (.int (p2 &&& (3 : Int32))), .val (.int q), .unset] [(.int (40 : Int32)), (.int q)])) _
          refine XS.icmpYes X60.here hx rfl (pc0 := 115) (pc' := 122) rfl (hb hby at_115) rfl (feq hc115_61).2 (by decide) (by decide) ?_
          show Steps p.tables e below (T60.setTop (mkF m 122 #[.val (.int p0), .val (.int p1), .val (.int p2), .val (.int (7 : Int32)), .val (.ref a_STOP_MULTIPLE_POLLING), .val (.int (40 : Int32)), .val (.int (p2 &&& (3 : Int32))), .val (.int q), .unset] [])) _
          refine XS.iconst X60.here hx rfl (hb hby at_122) ?_
          show Steps p.tables e below (T60.setTop (mkF m 123 #[.val (.int p0), .val (.int p1), .val (.int p2), .val (.int (7 : Int32)), .val (.ref a_STOP_MULTIPLE_POLLING), .val (.int (40 : Int32)), .val (.int (p2 &&& (3 : Int32))), .val (.int q), .unset] [(.int (0 : Int32))])) _
          refine XS.istore X60.here hx rfl (hb hby at_123) rfl (l' := #[.val (.int p0), .val (.int p1), .val (.int p2), .val (.int (7 : Int32)), .val (.ref a_STOP_MULTIPLE_POLLING), .val (.int (40 : Int32)), .val (.int (p2 &&& (3 : Int32))), .val (.int q), .val (.int (0 : Int32))]) rfl ?_
          show Steps p.tables e below (T60.setTop (mkF m 125 #[.val (.int p0), .val (.int p1), .val (.int p2), .val (.int (7 : Int32)), .val (.ref a_STOP_MULTIPLE_POLLING), .val (.int (40 : Int32)), .val (.int (p2 &&& (3 : Int32))), .val (.int q), .val (.int (0 : Int32))] [])) _
          refine XS.aload X60.here hx rfl (hb hby at_125) rfl rfl ?_
          show Steps p.tables e below (T60.setTop (mkF m 127 #[.val (.int p0), .val (.int p1), .val (.int p2), .val (.int (7 : Int32)), .val (.ref a_STOP_MULTIPLE_POLLING), .val (.int (40 : Int32)), .val (.int (p2 &&& (3 : Int32))), .val (.int q), .val (.int (0 : Int32))] [(.ref a_STOP_MULTIPLE_POLLING)])) _
          refine XS.iload X60.here hx rfl (hb hby at_127) rfl ?_
          exact kt
        obtain ⟨cq63, kq63, q63a, q63b, q63c⟩ := isOf hZ eq60 E_STOP_MULTIPLE_POLLING
        obtain ⟨_, _, ⟨T63, L63, k63, n63⟩, -, X63, ⟨Lc63, hQ63, l63, y63, z63⟩, st63⟩ := X60.virtualBack hx (y := (⟨"com/example/tagwire/tagwire/bb/Command", "isAnsweredBy", "(I)Z"⟩ : MethodName)) (z := (⟨"com/example/tagwire/tagwire/bb/Command", "isAnsweredBy", "(I)Z"⟩ : MethodName)) hown (mvT hZ (hw _ (List.mem_of_getElem? (i := 11) rfl))) (mvT hZ (hw _ (List.mem_of_getElem? (i := 12) rfl))) (notFace_of_selects (args := #[]) (mvT hZ (hw _ (List.mem_of_getElem? (i := 14) rfl)))) (mvT hZ (hw _ (List.mem_of_getElem? (i := 14) rfl))) (mvT hZ (hw _ (List.mem_of_getElem? (i := 13) rfl))) (by decide) (backOf (W := 0) (rm3 l Z a0 hw [] a_STOP_MULTIPLE_POLLING q (40 : Int32) (40 : Int32) h0 n0 Z0 F_STOP_MULTIPLE_POLLING_code F_STOP_MULTIPLE_POLLING_answerCode) hZ (hw _ (List.mem_of_getElem? (i := 15) rfl)) (hw _ (List.mem_of_getElem? (i := 6) rfl)) (by decide) (by decide)) q63a q63c (g := (mkF m 129 #[.val (.int p0), .val (.int p1), .val (.int p2), .val (.int (7 : Int32)), .val (.ref a_STOP_MULTIPLE_POLLING), .val (.int (40 : Int32)), .val (.int (p2 &&& (3 : Int32))), .val (.int q), .val (.int (0 : Int32))] [(.int q), (.ref a_STOP_MULTIPLE_POLLING)])) rfl (by rw [hml]; rfl) (Steps.refl _) (argsL := [(.int q)]) (rest := []) (lenOf own_pd4 rfl) rfl (by show 2 * 0 + _ ≤ _; exact Nat.le_of_eq rfl) (hb hby at_129) (fun _ _ => ⟨rfl, eq60, (by decide : 0 + 0 ≤ _), (by decide : 0 + 0 ≤ _)⟩)
        dsimp only [Pt.U, Pt.locs, Pt.cells, Pt.slots] at X63 l63 y63 z63 st63 hQ63
        subst l63 y63 z63
        obtain ⟨hv63, hr63⟩ := hQ63
        rw [show own_ans q (40 : Int32) (40 : Int32) = (0 : Int32) from by unfold own_ans; rw [if_neg hc115_61, if_neg hc115_61]] at hv63
        have hQ63 := And.intro hv63 hr63
        obtain ⟨rfl, Nq63, eq63⟩ := hQ63
        have N63 := Fr.app N60 Nq63
        refine own_tr st63 ?_
        show own_Gl _ _ _ _ _ _ _ _ (T63.setTop (mkF m 132 #[.val (.int p0), .val (.int p1), .val (.int p2), .val (.int (7 : Int32)), .val (.ref a_STOP_MULTIPLE_POLLING), .val (.int (40 : Int32)), .val (.int (p2 &&& (3 : Int32))), .val (.int q), .val (.int (0 : Int32))] [(.int (0 : Int32))]))
        refine own_st (A' := T63.setTop (mkF m 142 #[.val (.int p0), .val (.int p1), .val (.int p2), .val (.int (7 : Int32)), .val (.ref a_STOP_MULTIPLE_POLLING), .val (.int (40 : Int32)), .val (.int (p2 &&& (3 : Int32))), .val (.int q), .val (.int (0 : Int32))] [(.int (1 : Int32))])) (fun tg kt => ?_) ?_
        · show Steps p.tables e below (T63.setTop (mkF m 132 #[.val (.int p0), .val (.int p1), .val (.int p2), .val (.int (7 : Int32)), .val (.ref a_STOP_MULTIPLE_POLLING), .val (.int (40 : Int32)), .val (.int (p2 &&& (3 : Int32))), .val (.int q), .val (.int (0 : Int32))] [(.int (0 : Int32))])) _
          refine XS.iload X63.here hx rfl (hb hby at_132) rfl ?_
          show Steps p.tables e below (T63.setTop (mkF m 134 #[.val (.int p0), .val (.int p1), .val (.int p2), .val (.int (7 : Int32)), .val (.ref a_STOP_MULTIPLE_POLLING), .val (.int (40 : Int32)), .val (.int (p2 &&& (3 : Int32))), .val (.int q), .val (.int (0 : Int32))] [(.int (0 : Int32)), (.int (0 : Int32))])) _
          refine XS.icmpNo X63.here hx rfl (hb hby at_134) rfl (teq ((by decide) : (0 : Int32) = (0 : Int32))).2 ?_
          show Steps p.tables e below (T63.setTop (mkF m 137 #[.val (.int p0), .val (.int p1), .val (.int p2), .val (.int (7 : Int32)), .val (.ref a_STOP_MULTIPLE_POLLING), .val (.int (40 : Int32)), .val (.int (p2 &&& (3 : Int32))), .val (.int q), .val (.int (0 : Int32))] [])) _
          refine XS.iconst X63.here hx rfl (hb hby at_137) ?_
          show Steps p.tables e below (T63.setTop (mkF m 138 #[.val (.int p0), .val (.int p1), .val (.int p2), .val (.int (7 : Int32)), .val (.ref a_STOP_MULTIPLE_POLLING), .val (.int (40 : Int32)), .val (.int (p2 &&& (3 : Int32))), .val (.int q), .val (.int (0 : Int32))] [(.int (1 : Int32))])) _
          refine XS.goto X63.here hx rfl (pc0 := 138) (pc' := 142) rfl (hb hby at_138) (by decide) (by decide) ?_
          exact kt
        refine own_ret X63 (v := some (.int (1 : Int32))) (fun h => by rw [Bd.returns] at h; cases h) hlk (by decide) (by decide) ?_ (fun fs hr => ?_)
        · show Q0 Z p0 p1 p2 a_MODULE_INFORMATION a_SET_REGION a_GET_REGION a_SELECT_PARAMETER a_SELECT_MODE a_SINGLE_POLLING a_MULTIPLE_POLLING a_STOP_MULTIPLE_POLLING a_READ a_WRITE a_SET_POWER a_GET_POWER h0 n0 (some (.int (1 : Int32))) T63.heap _
          rw [eq63]
          exact ⟨rfl, N63⟩
        · show Steps p.tables e below (T63.setTop (mkF m 142 #[.val (.int p0), .val (.int p1), .val (.int p2), .val (.int (7 : Int32)), .val (.ref a_STOP_MULTIPLE_POLLING), .val (.int (40 : Int32)), .val (.int (p2 &&& (3 : Int32))), .val (.int q), .val (.int (0 : Int32))] [(.int (1 : Int32))])) _
          exact retN X63 hx (t := .boolean) Bd.returns (by simp) (hb hby at_142) hr
    refine own_st (A' := T60.setTop (mkF m 27 #[.val (.int p0), .val (.int p1), .val (.int p2), .val (.int (7 : Int32)), .val (.ref a_STOP_MULTIPLE_POLLING), .val (.int (40 : Int32)), .val (.int (p2 &&& (3 : Int32))), .unset, .unset] [(.int (p2 &&& (3 : Int32)))])) (fun tg kt => ?_) ?_
    · show Steps p.tables e below (T60.setTop (mkF m 25 #[.val (.int p0), .val (.int p1), .val (.int p2), .val (.int (7 : Int32)), .val (.ref a_STOP_MULTIPLE_POLLING), .val (.int (40 : Int32)), .val (.int (p2 &&& (3 : Int32))), .unset, .unset] [])) _
      refine XS.iload X60.here hx rfl (hb hby at_25) rfl ?_
      exact kt
    by_cases hc27_64 : (p2 &&& (3 : Int32)) = (0 : Int32)
    · refine own_st (A' := T60.setTop (mkF m 82 #[.val (.int p0), .val (.int p1), .val (.int p2), .val (.int (7 : Int32)), .val (.ref a_STOP_MULTIPLE_POLLING), .val (.int (40 : Int32)), .val (.int (p2 &&& (3 : Int32))), .val (.int p1), .unset] [])) (fun tg kt => ?_) ?_
      · show Steps p.tables e below (T60.setTop (mkF m 27 #[.val (.int p0), .val (.int p1), .val (.int p2), .val (.int (7 : Int32)), .val (.ref a_STOP_MULTIPLE_POLLING), .val (.int (40 : Int32)), .val (.int (p2 &&& (3 : Int32))), .unset, .unset] [(.int (p2 &&& (3 : Int32)))])) _
        refine XS.ifNo X60.here hx rfl (hb hby at_27) rfl ((if0 _ _).trans (teq hc27_64).2) ?_
        show Steps p.tables e below (T60.setTop (mkF m 30 #[.val (.int p0), .val (.int p1), .val (.int p2), .val (.int (7 : Int32)), .val (.ref a_STOP_MULTIPLE_POLLING), .val (.int (40 : Int32)), .val (.int (p2 &&& (3 : Int32))), .unset, .unset] [])) _
        refine XS.iloadN X60.here hx rfl (hb hby at_30) rfl ?_
        show Steps p.tables e below (T60.setTop (mkF m 31 #[.val (.int p0), .val (.int p1), .val (.int p2), .val (.int (7 : Int32)), .val (.ref a_STOP_MULTIPLE_POLLING), .val (.int (40 : Int32)), .val (.int (p2 &&& (3 : Int32))), .unset, .unset] [(.int p1)])) _
        refine XS.istore X60.here hx rfl (hb hby at_31) rfl (l' := #[.val (.int p0), .val (.int p1), .val (.int p2), .val (.int (7 : Int32)), .val (.ref a_STOP_MULTIPLE_POLLING), .val (.int (40 : Int32)), .val (.int (p2 &&& (3 : Int32))), .val (.int p1), .unset]) rfl ?_
        show Steps p.tables e below (T60.setTop (mkF m 33 #[.val (.int p0), .val (.int p1), .val (.int p2), .val (.int (7 : Int32)), .val (.ref a_STOP_MULTIPLE_POLLING), .val (.int (40 : Int32)), .val (.int (p2 &&& (3 : Int32))), .val (.int p1), .unset] [])) _
        refine XS.goto X60.here hx rfl (pc0 := 33) (pc' := 82) rfl (hb hby at_33) (by decide) (by decide) ?_
        exact kt
      exact tl p1
    · refine own_st (A' := T60.setTop (mkF m 39 #[.val (.int p0), .val (.int p1), .val (.int p2), .val (.int (7 : Int32)), .val (.ref a_STOP_MULTIPLE_POLLING), .val (.int (40 : Int32)), .val (.int (p2 &&& (3 : Int32))), .unset, .unset] [(.int (1 : Int32)), (.int (p2 &&& (3 : Int32)))])) (fun tg kt => ?_) ?_
      · show Steps p.tables e below (T60.setTop (mkF m 27 #[.val (.int p0), .val (.int p1), .val (.int p2), .val (.int (7 : Int32)), .val (.ref a_STOP_MULTIPLE_POLLING), .val (.int (40 : Int32)), .val (.int (p2 &&& (3 : Int32))), .unset, .unset] [(.int (p2 &&& (3 : Int32)))])) _
        refine XS.ifYes X60.here hx rfl (pc0 := 27) (pc' := 36) rfl (hb hby at_27) rfl ((if0 _ _).trans (feq hc27_64).2) (by decide) (by decide) ?_
        show Steps p.tables e below (T60.setTop (mkF m 36 #[.val (.int p0), .val (.int p1), .val (.int p2), .val (.int (7 : Int32)), .val (.ref a_STOP_MULTIPLE_POLLING), .val (.int (40 : Int32)), .val (.int (p2 &&& (3 : Int32))), .unset, .unset] [])) _
        refine XS.iload X60.here hx rfl (hb hby at_36) rfl ?_
        show Steps p.tables e below (T60.setTop (mkF m 38 #[.val (.int p0), .val (.int p1), .val (.int p2), .val (.int (7 : Int32)), .val (.ref a_STOP_MULTIPLE_POLLING), .val (.int (40 : Int32)), .val (.int (p2 &&& (3 : Int32))), .unset, .unset] [(.int (p2 &&& (3 : Int32)))])) _
        refine XS.iconst X60.here hx rfl (hb hby at_38) ?_
        exact kt
      by_cases hc39_65 : (p2 &&& (3 : Int32)) = (1 : Int32)
      · refine own_st (A' := T60.setTop (mkF m 82 #[.val (.int p0), .val (.int p1), .val (.int p2), .val (.int (7 : Int32)), .val (.ref a_STOP_MULTIPLE_POLLING), .val (.int (40 : Int32)), .val (.int (p2 &&& (3 : Int32))), .val (.int (40 : Int32)), .unset] [])) (fun tg kt => ?_) ?_
        · show Steps p.tables e below (T60.setTop (mkF m 39 #[.val (.int p0), .val (.int p1), .val (.int p2), .val (.int (7 : Int32)), .val (.ref a_STOP_MULTIPLE_POLLING), .val (.int (40 : Int32)), .val (.int (p2 &&& (3 : Int32))), .unset, .unset] [(.int (1 : Int32)), (.int (p2 &&& (3 : Int32)))])) _
          refine XS.icmpNo X60.here hx rfl (hb hby at_39) rfl (teq hc39_65).2 ?_
          show Steps p.tables e below (T60.setTop (mkF m 42 #[.val (.int p0), .val (.int p1), .val (.int p2), .val (.int (7 : Int32)), .val (.ref a_STOP_MULTIPLE_POLLING), .val (.int (40 : Int32)), .val (.int (p2 &&& (3 : Int32))), .unset, .unset] [])) _
          refine XS.iload X60.here hx rfl (hb hby at_42) rfl ?_
          show Steps p.tables e below (T60.setTop (mkF m 44 #[.val (.int p0), .val (.int p1), .val (.int p2), .val (.int (7 : Int32)), .val (.ref a_STOP_MULTIPLE_POLLING), .val (.int (40 : Int32)), .val (.int (p2 &&& (3 : Int32))), .unset, .unset] [(.int (40 : Int32))])) _
          refine XS.istore X60.here hx rfl (hb hby at_44) rfl (l' := #[.val (.int p0), .val (.int p1), .val (.int p2), .val (.int (7 : Int32)), .val (.ref a_STOP_MULTIPLE_POLLING), .val (.int (40 : Int32)), .val (.int (p2 &&& (3 : Int32))), .val (.int (40 : Int32)), .unset]) rfl ?_
          show Steps p.tables e below (T60.setTop (mkF m 46 #[.val (.int p0), .val (.int p1), .val (.int p2), .val (.int (7 : Int32)), .val (.ref a_STOP_MULTIPLE_POLLING), .val (.int (40 : Int32)), .val (.int (p2 &&& (3 : Int32))), .val (.int (40 : Int32)), .unset] [])) _
          refine XS.goto X60.here hx rfl (pc0 := 46) (pc' := 82) rfl (hb hby at_46) (by decide) (by decide) ?_
          exact kt
        exact tl (40 : Int32)
      · refine own_st (A' := T60.setTop (mkF m 52 #[.val (.int p0), .val (.int p1), .val (.int p2), .val (.int (7 : Int32)), .val (.ref a_STOP_MULTIPLE_POLLING), .val (.int (40 : Int32)), .val (.int (p2 &&& (3 : Int32))), .unset, .unset] [(.int (2 : Int32)), (.int (p2 &&& (3 : Int32)))])) (fun tg kt => ?_) ?_
        · show Steps p.tables e below (T60.setTop (mkF m 39 #[.val (.int p0), .val (.int p1), .val (.int p2), .val (.int (7 : Int32)), .val (.ref a_STOP_MULTIPLE_POLLING), .val (.int (40 : Int32)), .val (.int (p2 &&& (3 : Int32))), .unset, .unset] [(.int (1 : Int32)), (.int (p2 &&& (3 : Int32)))])) _
          refine XS.icmpYes X60.here hx rfl (pc0 := 39) (pc' := 49) rfl (hb hby at_39) rfl (feq hc39_65).2 (by decide) (by decide) ?_
          show Steps p.tables e below (T60.setTop (mkF m 49 #[.val (.int p0), .val (.int p1), .val (.int p2), .val (.int (7 : Int32)), .val (.ref a_STOP_MULTIPLE_POLLING), .val (.int (40 : Int32)), .val (.int (p2 &&& (3 : Int32))), .unset, .unset] [])) _
          refine XS.iload X60.here hx rfl (hb hby at_49) rfl ?_
          show Steps p.tables e below (T60.setTop (mkF m 51 #[.val (.int p0), .val (.int p1), .val (.int p2), .val (.int (7 : Int32)), .val (.ref a_STOP_MULTIPLE_POLLING), .val (.int (40 : Int32)), .val (.int (p2 &&& (3 : Int32))), .unset, .unset] [(.int (p2 &&& (3 : Int32)))])) _
          refine XS.iconst X60.here hx rfl (hb hby at_51) ?_
          exact kt
        by_cases hc52_66 : (p2 &&& (3 : Int32)) = (2 : Int32)
        · refine own_st (A' := T60.setTop (mkF m 82 #[.val (.int p0), .val (.int p1), .val (.int p2), .val (.int (7 : Int32)), .val (.ref a_STOP_MULTIPLE_POLLING), .val (.int (40 : Int32)), .val (.int (p2 &&& (3 : Int32))), .val (.int (40 : Int32)), .unset] [])) (fun tg kt => ?_) ?_
          · show Steps p.tables e below (T60.setTop (mkF m 52 #[.val (.int p0), .val (.int p1), .val (.int p2), .val (.int (7 : Int32)), .val (.ref a_STOP_MULTIPLE_POLLING), .val (.int (40 : Int32)), .val (.int (p2 &&& (3 : Int32))), .unset, .unset] [(.int (2 : Int32)), (.int (p2 &&& (3 : Int32)))])) _
            refine XS.icmpNo X60.here hx rfl (hb hby at_52) rfl (teq hc52_66).2 ?_
            show Steps p.tables e below (T60.setTop (mkF m 55 #[.val (.int p0), .val (.int p1), .val (.int p2), .val (.int (7 : Int32)), .val (.ref a_STOP_MULTIPLE_POLLING), .val (.int (40 : Int32)), .val (.int (p2 &&& (3 : Int32))), .unset, .unset] [])) _
            refine XS.iloadN X60.here hx rfl (hb hby at_55) rfl ?_
            show Steps p.tables e below (T60.setTop (mkF m 56 #[.val (.int p0), .val (.int p1), .val (.int p2), .val (.int (7 : Int32)), .val (.ref a_STOP_MULTIPLE_POLLING), .val (.int (40 : Int32)), .val (.int (p2 &&& (3 : Int32))), .unset, .unset] [(.int (7 : Int32))])) _
            refine XS.iconst X60.here hx rfl (hb hby at_56) ?_
            show Steps p.tables e below (T60.setTop (mkF m 57 #[.val (.int p0), .val (.int p1), .val (.int p2), .val (.int (7 : Int32)), .val (.ref a_STOP_MULTIPLE_POLLING), .val (.int (40 : Int32)), .val (.int (p2 &&& (3 : Int32))), .unset, .unset] [(.int (4 : Int32)), (.int (7 : Int32))])) _
            refine XS.icmpYes X60.here hx rfl (pc0 := 57) (pc' := 65) rfl (hb hby at_57) rfl (feq ((by decide) : ¬ ((7 : Int32) = (4 : Int32)))).2 (by decide) (by decide) ?_
            show Steps p.tables e below (T60.setTop (mkF m 65 #[.val (.int p0), .val (.int p1), .val (.int p2), .val (.int (7 : Int32)), .val (.ref a_STOP_MULTIPLE_POLLING), .val (.int (40 : Int32)), .val (.int (p2 &&& (3 : Int32))), .unset, .unset] [])) _
            refine XS.iload X60.here hx rfl (hb hby at_65) rfl ?_
            show Steps p.tables e below (T60.setTop (mkF m 67 #[.val (.int p0), .val (.int p1), .val (.int p2), .val (.int (7 : Int32)), .val (.ref a_STOP_MULTIPLE_POLLING), .val (.int (40 : Int32)), .val (.int (p2 &&& (3 : Int32))), .unset, .unset] [(.int (40 : Int32))])) _
            refine XS.istore X60.here hx rfl (hb hby at_67) rfl (l' := #[.val (.int p0), .val (.int p1), .val (.int p2), .val (.int (7 : Int32)), .val (.ref a_STOP_MULTIPLE_POLLING), .val (.int (40 : Int32)), .val (.int (p2 &&& (3 : Int32))), .val (.int (40 : Int32)), .unset]) rfl ?_
            show Steps p.tables e below (T60.setTop (mkF m 69 #[.val (.int p0), .val (.int p1), .val (.int p2), .val (.int (7 : Int32)), .val (.ref a_STOP_MULTIPLE_POLLING), .val (.int (40 : Int32)), .val (.int (p2 &&& (3 : Int32))), .val (.int (40 : Int32)), .unset] [])) _
            refine XS.goto X60.here hx rfl (pc0 := 69) (pc' := 82) rfl (hb hby at_69) (by decide) (by decide) ?_
            exact kt
          exact tl (40 : Int32)
        · refine own_st (A' := T60.setTop (mkF m 82 #[.val (.int p0), .val (.int p1), .val (.int p2), .val (.int (7 : Int32)), .val (.ref a_STOP_MULTIPLE_POLLING), .val (.int (40 : Int32)), .val (.int (p2 &&& (3 : Int32))), .val (.int ((40 : Int32) + ((p1 &&& (3 : Int32)) - (2 : Int32)))), .unset] [])) (fun tg kt => ?_) ?_
          · show Steps p.tables e below (T60.setTop (mkF m 52 #[.val (.int p0), .val (.int p1), .val (.int p2), .val (.int (7 : Int32)), .val (.ref a_STOP_MULTIPLE_POLLING), .val (.int (40 : Int32)), .val (.int (p2 &&& (3 : Int32))), .unset, .unset] [(.int (2 : Int32)), (.int (p2 &&& (3 : Int32)))])) _
            refine XS.icmpYes X60.here hx rfl (pc0 := 52) (pc' := 72) rfl (hb hby at_52) rfl (feq hc52_66).2 (by decide) (by decide) ?_
            show Steps p.tables e below (T60.setTop (mkF m 72 #[.val (.int p0), .val (.int p1), .val (.int p2), .val (.int (7 : Int32)), .val (.ref a_STOP_MULTIPLE_POLLING), .val (.int (40 : Int32)), .val (.int (p2 &&& (3 : Int32))), .unset, .unset] [])) _
            refine XS.iload X60.here hx rfl (hb hby at_72) rfl ?_
            show Steps p.tables e below (T60.setTop (mkF m 74 #[.val (.int p0), .val (.int p1), .val (.int p2), .val (.int (7 : Int32)), .val (.ref a_STOP_MULTIPLE_POLLING), .val (.int (40 : Int32)), .val (.int (p2 &&& (3 : Int32))), .unset, .unset] [(.int (40 : Int32))])) _
            refine XS.iloadN X60.here hx rfl (hb hby at_74) rfl ?_
            show Steps p.tables e below (T60.setTop (mkF m 75 #[.val (.int p0), .val (.int p1), .val (.int p2), .val (.int (7 : Int32)), .val (.ref a_STOP_MULTIPLE_POLLING), .val (.int (40 : Int32)), .val (.int (p2 &&& (3 : Int32))), .unset, .unset] [(.int p1), (.int (40 : Int32))])) _
            refine XS.iconst X60.here hx rfl (hb hby at_75) ?_
            show Steps p.tables e below (T60.setTop (mkF m 76 #[.val (.int p0), .val (.int p1), .val (.int p2), .val (.int (7 : Int32)), .val (.ref a_STOP_MULTIPLE_POLLING), .val (.int (40 : Int32)), .val (.int (p2 &&& (3 : Int32))), .unset, .unset] [(.int (3 : Int32)), (.int p1), (.int (40 : Int32))])) _
            refine XS.iand X60.here hx rfl (hb hby at_76) rfl ?_
            show Steps p.tables e below (T60.setTop (mkF m 77 #[.val (.int p0), .val (.int p1), .val (.int p2), .val (.int (7 : Int32)), .val (.ref a_STOP_MULTIPLE_POLLING), .val (.int (40 : Int32)), .val (.int (p2 &&& (3 : Int32))), .unset, .unset] [(.int (p1 &&& (3 : Int32))), (.int (40 : Int32))])) _
            refine XS.iconst X60.here hx rfl (hb hby at_77) ?_
            show Steps p.tables e below (T60.setTop (mkF m 78 #[.val (.int p0), .val (.int p1), .val (.int p2), .val (.int (7 : Int32)), .val (.ref a_STOP_MULTIPLE_POLLING), .val (.int (40 : Int32)), .val (.int (p2 &&& (3 : Int32))), .unset, .unset] [(.int (2 : Int32)), (.int (p1 &&& (3 : Int32))), (.int (40 : Int32))])) _
            refine XS.isub X60.here hx rfl (hb hby at_78) rfl ?_
            show Steps p.tables e below (T60.setTop (mkF m 79 #[.val (.int p0), .val (.int p1), .val (.int p2), .val (.int (7 : Int32)), .val (.ref a_STOP_MULTIPLE_POLLING), .val (.int (40 : Int32)), .val (.int (p2 &&& (3 : Int32))), .unset, .unset] [(.int ((p1 &&& (3 : Int32)) - (2 : Int32))), (.int (40 : Int32))])) _
            refine XS.iadd X60.here hx rfl (hb hby at_79) rfl ?_
            show Steps p.tables e below (T60.setTop (mkF m 80 #[.val (.int p0), .val (.int p1), .val (.int p2), .val (.int (7 : Int32)), .val (.ref a_STOP_MULTIPLE_POLLING), .val (.int (40 : Int32)), .val (.int (p2 &&& (3 : Int32))), .unset, .unset] [(.int ((40 : Int32) + ((p1 &&& (3 : Int32)) - (2 : Int32))))])) _
            refine XS.istore X60.here hx rfl (hb hby at_80) rfl (l' := #[.val (.int p0), .val (.int p1), .val (.int p2), .val (.int (7 : Int32)), .val (.ref a_STOP_MULTIPLE_POLLING), .val (.int (40 : Int32)), .val (.int (p2 &&& (3 : Int32))), .val (.int ((40 : Int32) + ((p1 &&& (3 : Int32)) - (2 : Int32)))), .unset]) rfl ?_
            exact kt
          exact tl ((40 : Int32) + ((p1 &&& (3 : Int32)) - (2 : Int32)))
  · show own_Gl _ _ _ _ _ _ _ _ (s₁.setTop (mkF m 7 #[.val (.int p0), .val (.int p1), .val (.int p2), .unset, .unset, .unset, .unset, .unset, .unset] [(.int (8 : Int32))]))
    refine own_st (A' := s₁.setTop (mkF m 9 #[.val (.int p0), .val (.int p1), .val (.int p2), .val (.int (8 : Int32)), .unset, .unset, .unset, .unset, .unset] [(.int (8 : Int32))])) (fun tg kt => ?_) ?_
    · show Steps p.tables e below (s₁.setTop (mkF m 7 #[.val (.int p0), .val (.int p1), .val (.int p2), .unset, .unset, .unset, .unset, .unset, .unset] [(.int (8 : Int32))])) _
      refine XS.istoreN X0.here hx rfl (hb hby at_7) rfl (l' := #[.val (.int p0), .val (.int p1), .val (.int p2), .val (.int (8 : Int32)), .unset, .unset, .unset, .unset, .unset]) rfl ?_
      show Steps p.tables e below (s₁.setTop (mkF m 8 #[.val (.int p0), .val (.int p1), .val (.int p2), .val (.int (8 : Int32)), .unset, .unset, .unset, .unset, .unset] [])) _
      refine XS.iloadN X0.here hx rfl (hb hby at_8) rfl ?_
      exact kt
    obtain ⟨_, _, ⟨T67, L67, k67, n67⟩, -, X67, ⟨Lc67, hQ67, l67, y67, z67⟩, st67⟩ := Jvm.LawKit.callS X0 hx (y := (⟨"com/example/tagwire/tagwire/bb/CommandIsAnsweredByPinLaw", "pick", "(I)Lcom/example/tagwire/tagwire/bb/Command;"⟩ : MethodName)) hown (mvT hZ (hw _ (List.mem_of_getElem? (i := 1) rfl))) (mvT hZ (hw _ (List.mem_of_getElem? (i := 2) rfl))) (mvT hZ (hw _ (List.mem_of_getElem? (i := 3) rfl))) (mvT hZ (hw _ (List.mem_of_getElem? (i := 4) rfl))) (by decide) (backOf (W := 0) (rm1 l Z a0 hw [] (8 : Int32) a_MODULE_INFORMATION a_SET_REGION a_GET_REGION a_SELECT_PARAMETER a_SELECT_MODE a_SINGLE_POLLING a_MULTIPLE_POLLING a_STOP_MULTIPLE_POLLING a_READ a_WRITE a_SET_POWER a_GET_POWER h0 n0 Z0 S_MODULE_INFORMATION S_SET_REGION S_GET_REGION S_SELECT_PARAMETER S_SELECT_MODE S_SINGLE_POLLING S_MULTIPLE_POLLING S_STOP_MULTIPLE_POLLING S_READ S_WRITE S_SET_POWER S_GET_POWER) hZ (hw _ (List.mem_of_getElem? (i := 4) rfl)) (hw _ (List.mem_of_getElem? (i := 3) rfl)) (by decide) (by decide)) (g := (mkF m 9 #[.val (.int p0), .val (.int p1), .val (.int p2), .val (.int (8 : Int32)), .unset, .unset, .unset, .unset, .unset] [(.int (8 : Int32))])) rfl (by rw [hml]; rfl) (argsL := [(.int (8 : Int32))]) (rest := []) (lenOf own_pd2 rfl) rfl (by show 2 * 0 + _ ≤ _; exact Nat.le_of_eq rfl) (hb hby at_9) (fun _ _ => ⟨rfl, e0, (by decide : 0 + 0 ≤ _), (by decide : 0 + 0 ≤ _)⟩)
    dsimp only [Pt.U, Pt.locs, Pt.cells, Pt.slots] at X67 l67 y67 z67 st67 hQ67
    subst l67 y67 z67
    obtain ⟨hv67, hr67⟩ := hQ67
    rw [show own_pick1 (8 : Int32) a_MODULE_INFORMATION a_SET_REGION a_GET_REGION a_SELECT_PARAMETER a_SELECT_MODE a_SINGLE_POLLING a_MULTIPLE_POLLING a_STOP_MULTIPLE_POLLING a_READ a_WRITE a_SET_POWER a_GET_POWER = a_READ from rfl] at hv67
    have hQ67 := And.intro hv67 hr67
    obtain ⟨rfl, Nq67, eq67⟩ := hQ67
    have N67 := Fr.app N0 Nq67
    refine own_st st67 ?_
    show own_Gl _ _ _ _ _ _ _ _ (T67.setTop (mkF m 12 #[.val (.int p0), .val (.int p1), .val (.int p2), .val (.int (8 : Int32)), .unset, .unset, .unset, .unset, .unset] [(.ref a_READ)]))
    refine own_st (A' := T67.setTop (mkF m 15 #[.val (.int p0), .val (.int p1), .val (.int p2), .val (.int (8 : Int32)), .val (.ref a_READ), .unset, .unset, .unset, .unset] [(.int (8 : Int32))])) (fun tg kt => ?_) ?_
    · show Steps p.tables e below (T67.setTop (mkF m 12 #[.val (.int p0), .val (.int p1), .val (.int p2), .val (.int (8 : Int32)), .unset, .unset, .unset, .unset, .unset] [(.ref a_READ)])) _
      refine XS.astore X67.here hx rfl (hb hby at_12) rfl rfl (l' := #[.val (.int p0), .val (.int p1), .val (.int p2), .val (.int (8 : Int32)), .val (.ref a_READ), .unset, .unset, .unset, .unset]) rfl ?_
      show Steps p.tables e below (T67.setTop (mkF m 14 #[.val (.int p0), .val (.int p1), .val (.int p2), .val (.int (8 : Int32)), .val (.ref a_READ), .unset, .unset, .unset, .unset] [])) _
      refine XS.iloadN X67.here hx rfl (hb hby at_14) rfl ?_
      exact kt
    obtain ⟨_, _, ⟨T68, L68, k68, n68⟩, -, X68, ⟨Lc68, hQ68, l68, y68, z68⟩, st68⟩ := Jvm.LawKit.callS X67 hx (y := (⟨"com/example/tagwire/tagwire/bb/CommandIsAnsweredByPinLaw", "codeOf", "(I)I"⟩ : MethodName)) hown (mvT hZ (hw _ (List.mem_of_getElem? (i := 8) rfl))) (mvT hZ (hw _ (List.mem_of_getElem? (i := 9) rfl))) (mvT hZ (hw _ (List.mem_of_getElem? (i := 3) rfl))) (mvT hZ (hw _ (List.mem_of_getElem? (i := 10) rfl))) (by decide) (backOf (W := 0) (rm2 l Z a0 hw [] (8 : Int32) h0 n0 Z0) hZ (hw _ (List.mem_of_getElem? (i := 10) rfl)) (hw _ (List.mem_of_getElem? (i := 3) rfl)) (by decide) (by decide)) (g := (mkF m 15 #[.val (.int p0), .val (.int p1), .val (.int p2), .val (.int (8 : Int32)), .val (.ref a_READ), .unset, .unset, .unset, .unset] [(.int (8 : Int32))])) rfl (by rw [hml]; rfl) (argsL := [(.int (8 : Int32))]) (rest := []) (lenOf own_pd3 rfl) rfl (by show 2 * 0 + _ ≤ _; exact Nat.le_of_eq rfl) (hb hby at_15) (fun _ _ => ⟨rfl, eq67, (by decide : 0 + 0 ≤ _), (by decide : 0 + 0 ≤ _)⟩)
    dsimp only [Pt.U, Pt.locs, Pt.cells, Pt.slots] at X68 l68 y68 z68 st68 hQ68
    subst l68 y68 z68
    obtain ⟨hv68, hr68⟩ := hQ68
    rw [show own_code (8 : Int32) = (57 : Int32) from rfl] at hv68
    have hQ68 := And.intro hv68 hr68
    obtain ⟨rfl, Nq68, eq68⟩ := hQ68
    have N68 := Fr.app N67 Nq68
    refine own_st st68 ?_
    show own_Gl _ _ _ _ _ _ _ _ (T68.setTop (mkF m 18 #[.val (.int p0), .val (.int p1), .val (.int p2), .val (.int (8 : Int32)), .val (.ref a_READ), .unset, .unset, .unset, .unset] [(.int (57 : Int32))]))
    refine own_st (A' := T68.setTop (mkF m 25 #[.val (.int p0), .val (.int p1), .val (.int p2), .val (.int (8 : Int32)), .val (.ref a_READ), .val (.int (57 : Int32)), .val (.int (p2 &&& (3 : Int32))), .unset, .unset] [])) (fun tg kt => ?_) ?_
    · show Steps p.tables e below (T68.setTop (mkF m 18 #[.val (.int p0), .val (.int p1), .val (.int p2), .val (.int (8 : Int32)), .val (.ref a_READ), .unset, .unset, .unset, .unset] [(.int (57 : Int32))])) _
      refine XS.istore X68.here hx rfl (hb hby at_18) rfl (l' := #[.val (.int p0), .val (.int p1), .val (.int p2), .val (.int (8 : Int32)), .val (.ref a_READ), .val (.int (57 : Int32)), .unset, .unset, .unset]) rfl ?_
      show Steps p.tables e below (T68.setTop (mkF m 20 #[.val (.int p0), .val (.int p1), .val (.int p2), .val (.int (8 : Int32)), .val (.ref a_READ), .val (.int (57 : Int32)), .unset, .unset, .unset] [])) _
      refine XS.iloadN X68.here hx rfl (hb hby at_20) rfl ?_
      show Steps p.tables e below (T68.setTop (mkF m 21 #[.val (.int p0), .val (.int p1), .val (.int p2), .val (.int (8 : Int32)), .val (.ref a_READ), .val (.int (57 : Int32)), .unset, .unset, .unset] [(.int p2)])) _
      refine XS.iconst X68.here hx rfl (hb hby at_21) ?_
      show Steps p.tables e below (T68.setTop (mkF m 22 #[.val (.int p0), .val (.int p1), .val (.int p2), .val (.int (8 : Int32)), .val (.ref a_READ), .val (.int (57 : Int32)), .unset, .unset, .unset] [(.int (3 : Int32)), (.int p2)])) _
      refine XS.iand X68.here hx rfl (hb hby at_22) rfl ?_
      show Steps p.tables e below (T68.setTop (mkF m 23 #[.val (.int p0), .val (.int p1), .val (.int p2), .val (.int (8 : Int32)), .val (.ref a_READ), .val (.int (57 : Int32)), .unset, .unset, .unset] [(.int (p2 &&& (3 : Int32)))])) _
      refine XS.istore X68.here hx rfl (hb hby at_23) rfl (l' := #[.val (.int p0), .val (.int p1), .val (.int p2), .val (.int (8 : Int32)), .val (.ref a_READ), .val (.int (57 : Int32)), .val (.int (p2 &&& (3 : Int32))), .unset, .unset]) rfl ?_
      exact kt
    have tl : ∀ (q : Int32), own_Gl FrameEnd p e below s (Q0 Z p0 p1 p2 a_MODULE_INFORMATION a_SET_REGION a_GET_REGION a_SELECT_PARAMETER a_SELECT_MODE a_SINGLE_POLLING a_MULTIPLE_POLLING a_STOP_MULTIPLE_POLLING a_READ a_WRITE a_SET_POWER a_GET_POWER h0 n0) room_1.cells room_1.slots (T68.setTop (mkF m 82 #[.val (.int p0), .val (.int p1), .val (.int p2), .val (.int (8 : Int32)), .val (.ref a_READ), .val (.int (57 : Int32)), .val (.int (p2 &&& (3 : Int32))), .val (.int q), .unset] [])) := by
      intro q
      refine own_st (A' := T68.setTop (mkF m 115 #[.val (.int p0), .val (.int p1), .val (.int p2), .val (.int (8 : Int32)), .val (.ref a_READ), .val (.int (57 : Int32)), .val (.int (p2 &&& (3 : Int32))), .val (.int q), .unset] [(.int (57 : Int32)), (.int q)])) (fun tg kt => ?_) ?_
      · show Steps p.tables e below (T68.setTop (mkF m 82 #[.val (.int p0), .val (.int p1), .val (.int p2), .val (.int (8 : Int32)), .val (.ref a_READ), .val (.int (57 : Int32)), .val (.int (p2 &&& (3 : Int32))), .val (.int q), .unset] [])) _
        refine XS.iloadN X68.here hx rfl (hb hby at_82) rfl ?_
        show Steps p.tables e below (T68.setTop (mkF m 83 #[.val (.int p0), .val (.int p1), .val (.int p2), .val (.int (8 : Int32)), .val (.ref a_READ), .val (.int (57 : Int32)), .val (.int (p2 &&& (3 : Int32))), .val (.int q), .unset] [(.int (8 : Int32))])) _
        refine XS.iconst X68.here hx rfl (hb hby at_83) ?_
        show Steps p.tables e below (T68.setTop (mkF m 84 #[.val (.int p0), .val (.int p1), .val (.int p2), .val (.int (8 : Int32)), .val (.ref a_READ), .val (.int (57 : Int32)), .val (.int (p2 &&& (3 : Int32))), .val (.int q), .unset] [(.int (4 : Int32)), (.int (8 : Int32))])) _
        refine XS.icmpYes X68.here hx rfl (pc0 := 84) (pc' := 111) rfl (hb hby at_84) rfl (feq ((by decide) : ¬ ((8 : Int32) = (4 : Int32)))).2 (by decide) (by decide) ?_
        show Steps p.tables e below (T68.setTop (mkF m 111 #[.val (.int p0), .val (.int p1), .val (.int p2), .val (.int (8 : Int32)), .val (.ref a_READ), .val (.int (57 : Int32)), .val (.int (p2 &&& (3 : Int32))), .val (.int q), .unset] [])) _
        refine XS.iload X68.here hx rfl (hb hby at_111) rfl ?_
        show Steps p.tables e below (T68.setTop (mkF m 113 #[.val (.int p0), .val (.int p1), .val (.int p2), .val (.int (8 : Int32)), .val (.ref a_READ), .val (.int (57 : Int32)), .val (.int (p2 &&& (3 : Int32))), .val (.int q), .unset] [(.int q)])) _
        refine XS.iload X68.here hx rfl (hb hby at_113) rfl ?_
        exact kt
      by_cases hc115_69 : q = (57 : Int32)
      · refine own_st (A' := T68.setTop (mkF m 129 #[.val (.int p0), .val (.int p1), .val (.int p2), .val (.int (8 : Int32)), .val (.ref a_READ), .val (.int (57 : Int32)), .val (.int (p2 &&& (3 : Int32))), .val (.int q), .val (.int (1 : Int32))] [(.int q), (.ref a_READ)])) (fun tg kt => ?_) ?_
        · show Steps p.tables e below (T68.setTop (mkF m 115 #[.val (.int p0), .val (.int p1), .val (.int p2), .val (.int (8 : Int32)), .val (.ref a_READ), .val (.int (57 : Int32)), .val (.int (p2 &&& (3 : Int32))), .val (.int q), .unset] [(.int (57 : Int32)), (.int q)])) _
          refine XS.icmpNo X68.here hx rfl (hb hby at_115) rfl (teq hc115_69).2 ?_
          show Steps p.tables e below (T68.setTop (mkF m 118 #[.val (.int p0), .val (.int p1), .val (.int p2), .val (.int (8 : Int32)), .val (.ref a_READ), .val (.int (57 : Int32)), .val (.int (p2 &&& (3 : Int32))), .val (.int q), .unset] [])) _
          refine XS.iconst X68.here hx rfl (hb hby at_118) ?_
          show Steps p.tables e below (T68.setTop (mkF m 119 #[.val (.int p0), .val (.int p1), .val (.int p2), .val (.int (8 : Int32)), .val (.ref a_READ), .val (.int (57 : Int32)), .val (.int (p2 &&& (3 : Int32))), .val (.int q), .unset] [(.int (1 : Int32))])) _
          refine XS.goto X68.here hx rfl (pc0 := 119) (pc' := 123) rfl (hb hby at_119) (by decide) (by decide) ?_
          show Steps p.tables e below (T68.setTop (mkF m 123 #[.val (.int p0), .val (.int p1), .val (.int p2), .val (.int (8 : Int32)), .val (.ref a_READ), .val (.int (57 : Int32)), .val (.int (p2 &&& (3 : Int32))), .val (.int q), .unset] [(.int (1 : Int32))])) _
          refine XS.istore X68.here hx rfl (hb hby at_123) rfl (l' := #[.val (.int p0), .val (.int p1), .val (.int p2), .val (.int (8 : Int32)), .val (.ref a_READ), .val (.int (57 : Int32)), .val (.int (p2 &&& (3 : Int32))), .val (.int q), .val (.int (1 : Int32))]) rfl ?_
          show Steps p.tables e below (T68.setTop (mkF m 125 #[.val (.int p0), .val (.int p1), .val (.int p2), .val (.int (8 : Int32)), .val (.ref a_READ), .val (.int (57 : Int32)), .val (.int (p2 &&& (3 : Int32))), .val (.int q), .val (.int (1 : Int32))] [])) _
          refine XS.aload X68.here hx rfl (hb hby at_125) rfl rfl ?_
          show Steps p.tables e below (T68.setTop (mkF m 127 #[.val (.int p0), .val (.int p1), .val (.int p2), .val (.int (8 : Int32)), .val (.ref a_READ), .val (.int (57 : Int32)), .val (.int (p2 &&& (3 : Int32))), .val (.int q), .val (.int (1 : Int32))] [(.ref a_READ)])) _
          refine XS.iload X68.here hx rfl (hb hby at_127) rfl ?_
          exact kt
        obtain ⟨cq70, kq70, q70a, q70b, q70c⟩ := isOf hZ eq68 E_READ
        obtain ⟨_, _, ⟨T70, L70, k70, n70⟩, -, X70, ⟨Lc70, hQ70, l70, y70, z70⟩, st70⟩ := X68.virtualBack hx (y := (⟨"com/example/tagwire/tagwire/bb/Command", "isAnsweredBy", "(I)Z"⟩ : MethodName)) (z := (⟨"com/example/tagwire/tagwire/bb/Command", "isAnsweredBy", "(I)Z"⟩ : MethodName)) hown (mvT hZ (hw _ (List.mem_of_getElem? (i := 11) rfl))) (mvT hZ (hw _ (List.mem_of_getElem? (i := 12) rfl))) (notFace_of_selects (args := #[]) (mvT hZ (hw _ (List.mem_of_getElem? (i := 14) rfl)))) (mvT hZ (hw _ (List.mem_of_getElem? (i := 14) rfl))) (mvT hZ (hw _ (List.mem_of_getElem? (i := 13) rfl))) (by decide) (backOf (W := 0) (rm3 l Z a0 hw [] a_READ q (57 : Int32) (57 : Int32) h0 n0 Z0 F_READ_code F_READ_answerCode) hZ (hw _ (List.mem_of_getElem? (i := 15) rfl)) (hw _ (List.mem_of_getElem? (i := 6) rfl)) (by decide) (by decide)) q70a q70c (g := (mkF m 129 #[.val (.int p0), .val (.int p1), .val (.int p2), .val (.int (8 : Int32)), .val (.ref a_READ), .val (.int (57 : Int32)), .val (.int (p2 &&& (3 : Int32))), .val (.int q), .val (.int (1 : Int32))] [(.int q), (.ref a_READ)])) rfl (by rw [hml]; rfl) (Steps.refl _) (argsL := [(.int q)]) (rest := []) (lenOf own_pd4 rfl) rfl (by show 2 * 0 + _ ≤ _; exact Nat.le_of_eq rfl) (hb hby at_129) (fun _ _ => ⟨rfl, eq68, (by decide : 0 + 0 ≤ _), (by decide : 0 + 0 ≤ _)⟩)
        dsimp only [Pt.U, Pt.locs, Pt.cells, Pt.slots] at X70 l70 y70 z70 st70 hQ70
        subst l70 y70 z70
        obtain ⟨hv70, hr70⟩ := hQ70
        rw [show own_ans q (57 : Int32) (57 : Int32) = (1 : Int32) from by unfold own_ans; rw [if_pos hc115_69]] at hv70
        have hQ70 := And.intro hv70 hr70
        obtain ⟨rfl, Nq70, eq70⟩ := hQ70
        have N70 := Fr.app N68 Nq70
        refine own_tr st70 ?_
        show own_Gl _ _ _ _ _ _ _ _ (T70.setTop (mkF m 132 #[.val (.int p0), .val (.int p1), .val (.int p2), .val (.int (8 : Int32)), .val (.ref a_READ), .val (.int (57 : Int32)), .val (.int (p2 &&& (3 : Int32))), .val (.int q), .val (.int (1 : Int32))] [(.int (1 : Int32))]))
        refine own_st (A' := T70.setTop (mkF m 142 #[.val (.int p0), .val (.int p1), .val (.int p2), .val (.int (8 : Int32)), .val (.ref a_READ), .val (.int (57 : Int32)), .val (.int (p2 &&& (3 : Int32))), .val (.int q), .val (.int (1 : Int32))] [(.int (1 : Int32))])) (fun tg kt => ?_) ?_
        · show Steps p.tables e below (T70.setTop (mkF m 132 #[.val (.int p0), .val (.int p1), .val (.int p2), .val (.int (8 : Int32)), .val (.ref a_READ), .val (.int (57 : Int32)), .val (.int (p2 &&& (3 : Int32))), .val (.int q), .val (.int (1 : Int32))] [(.int (1 : Int32))])) _
          refine XS.iload X70.here hx rfl (hb hby at_132) rfl ?_
          show Steps p.tables e below (T70.setTop (mkF m 134 #[.val (.int p0), .val (.int p1), .val (.int p2), .val (.int (8 : Int32)), .val (.ref a_READ), .val (.int (57 : Int32)), .val (.int (p2 &&& (3 : Int32))), .val (.int q), .val (.int (1 : Int32))] [(.int (1 : Int32)), (.int (1 : Int32))])) _
          refine XS.icmpNo X70.here hx rfl (hb hby at_134) rfl (teq ((by decide) : (1 : Int32) = (1 : Int32))).2 ?_
          show Steps p.tables e below (T70.setTop (mkF m 137 #[.val (.int p0), .val (.int p1), .val (.int p2), .val (.int (8 : Int32)), .val (.ref a_READ), .val (.int (57 : Int32)), .val (.int (p2 &&& (3 : Int32))), .val (.int q), .val (.int (1 : Int32))] [])) _
          refine XS.iconst X70.here hx rfl (hb hby at_137) ?_
          show Steps p.tables e below (T70.setTop (mkF m 138 #[.val (.int p0), .val (.int p1), .val (.int p2), .val (.int (8 : Int32)), .val (.ref a_READ), .val (.int (57 : Int32)), .val (.int (p2 &&& (3 : Int32))), .val (.int q), .val (.int (1 : Int32))] [(.int (1 : Int32))])) _
          refine XS.goto X70.here hx rfl (pc0 := 138) (pc' := 142) rfl (hb hby at_138) (by decide) (by decide) ?_
          exact kt
        refine own_ret X70 (v := some (.int (1 : Int32))) (fun h => by rw [Bd.returns] at h; cases h) hlk (by decide) (by decide) ?_ (fun fs hr => ?_)
        · show Q0 Z p0 p1 p2 a_MODULE_INFORMATION a_SET_REGION a_GET_REGION a_SELECT_PARAMETER a_SELECT_MODE a_SINGLE_POLLING a_MULTIPLE_POLLING a_STOP_MULTIPLE_POLLING a_READ a_WRITE a_SET_POWER a_GET_POWER h0 n0 (some (.int (1 : Int32))) T70.heap _
          rw [eq70]
          exact ⟨rfl, N70⟩
        · show Steps p.tables e below (T70.setTop (mkF m 142 #[.val (.int p0), .val (.int p1), .val (.int p2), .val (.int (8 : Int32)), .val (.ref a_READ), .val (.int (57 : Int32)), .val (.int (p2 &&& (3 : Int32))), .val (.int q), .val (.int (1 : Int32))] [(.int (1 : Int32))])) _
          exact retN X70 hx (t := .boolean) Bd.returns (by simp) (hb hby at_142) hr
      · refine own_st (A' := T68.setTop (mkF m 129 #[.val (.int p0), .val (.int p1), .val (.int p2), .val (.int (8 : Int32)), .val (.ref a_READ), .val (.int (57 : Int32)), .val (.int (p2 &&& (3 : Int32))), .val (.int q), .val (.int (0 : Int32))] [(.int q), (.ref a_READ)])) (fun tg kt => ?_) ?_
        · show Steps p.tables e below (T68.setTop (mkF m 115 #[.val (.int p0), .val (.int p1), .val (.int p2), .val (.int (8 : Int32)), .val (.ref a_READ), .val (.int (57 : Int32)), .val (.int (p2 &&& (3 : Int32))), .val (.int q), .unset] [(.int (57 : Int32)), (.int q)])) _
          refine XS.icmpYes X68.here hx rfl (pc0 := 115) (pc' := 122) rfl (hb hby at_115) rfl (feq hc115_69).2 (by decide) (by decide) ?_
          show Steps p.tables e below (T68.setTop (mkF m 122 #[.val (.int p0), .val (.int p1), .val (.int p2), .val (.int (8 : Int32)), .val (.ref a_READ), .val (.int (57 : Int32)), .val (.int (p2 &&& (3 : Int32))), .val (.int q), .unset] [])) _
          refine XS.iconst X68.here hx rfl (hb hby at_122) ?_
          show Steps p.tables e below (T68.setTop (mkF m 123 #[.val (.int p0), .val (.int p1), .val (.int p2), .val (.int (8 : Int32)), .val (.ref a_READ), .val (.int (57 : Int32)), .val (.int (p2 &&& (3 : Int32))), .val (.int q), .unset] [(.int (0 : Int32))])) _
          refine XS.istore X68.here hx rfl (hb hby at_123) rfl (l' := #[.val (.int p0), .val (.int p1), .val (.int p2), .val (.int (8 : Int32)), .val (.ref a_READ), .val (.int (57 : Int32)), .val (.int (p2 &&& (3 : Int32))), .val (.int q), .val (.int (0 : Int32))]) rfl ?_
          show Steps p.tables e below (T68.setTop (mkF m 125 #[.val (.int p0), .val (.int p1), .val (.int p2), .val (.int (8 : Int32)), .val (.ref a_READ), .val (.int (57 : Int32)), .val (.int (p2 &&& (3 : Int32))), .val (.int q), .val (.int (0 : Int32))] [])) _
          refine XS.aload X68.here hx rfl (hb hby at_125) rfl rfl ?_
          show Steps p.tables e below (T68.setTop (mkF m 127 #[.val (.int p0), .val (.int p1), .val (.int p2), .val (.int (8 : Int32)), .val (.ref a_READ), .val (.int (57 : Int32)), .val (.int (p2 &&& (3 : Int32))), .val (.int q), .val (.int (0 : Int32))] [(.ref a_READ)])) _
          refine XS.iload X68.here hx rfl (hb hby at_127) rfl ?_
          exact kt
        obtain ⟨cq71, kq71, q71a, q71b, q71c⟩ := isOf hZ eq68 E_READ
        obtain ⟨_, _, ⟨T71, L71, k71, n71⟩, -, X71, ⟨Lc71, hQ71, l71, y71, z71⟩, st71⟩ := X68.virtualBack hx (y := (⟨"com/example/tagwire/tagwire/bb/Command", "isAnsweredBy", "(I)Z"⟩ : MethodName)) (z := (⟨"com/example/tagwire/tagwire/bb/Command", "isAnsweredBy", "(I)Z"⟩ : MethodName)) hown (mvT hZ (hw _ (List.mem_of_getElem? (i := 11) rfl))) (mvT hZ (hw _ (List.mem_of_getElem? (i := 12) rfl))) (notFace_of_selects (args := #[]) (mvT hZ (hw _ (List.mem_of_getElem? (i := 14) rfl)))) (mvT hZ (hw _ (List.mem_of_getElem? (i := 14) rfl))) (mvT hZ (hw _ (List.mem_of_getElem? (i := 13) rfl))) (by decide) (backOf (W := 0) (rm3 l Z a0 hw [] a_READ q (57 : Int32) (57 : Int32) h0 n0 Z0 F_READ_code F_READ_answerCode) hZ (hw _ (List.mem_of_getElem? (i := 15) rfl)) (hw _ (List.mem_of_getElem? (i := 6) rfl)) (by decide) (by decide)) q71a q71c (g := (mkF m 129 #[.val (.int p0), .val (.int p1), .val (.int p2), .val (.int (8 : Int32)), .val (.ref a_READ), .val (.int (57 : Int32)), .val (.int (p2 &&& (3 : Int32))), .val (.int q), .val (.int (0 : Int32))] [(.int q), (.ref a_READ)])) rfl (by rw [hml]; rfl) (Steps.refl _) (argsL := [(.int q)]) (rest := []) (lenOf own_pd4 rfl) rfl (by show 2 * 0 + _ ≤ _; exact Nat.le_of_eq rfl) (hb hby at_129) (fun _ _ => ⟨rfl, eq68, (by decide : 0 + 0 ≤ _), (by decide : 0 + 0 ≤ _)⟩)
        dsimp only [Pt.U, Pt.locs, Pt.cells, Pt.slots] at X71 l71 y71 z71 st71 hQ71
        subst l71 y71 z71
        obtain ⟨hv71, hr71⟩ := hQ71
        rw [show own_ans q (57 : Int32) (57 : Int32) = (0 : Int32) from by unfold own_ans; rw [if_neg hc115_69, if_neg hc115_69]] at hv71
        have hQ71 := And.intro hv71 hr71
        obtain ⟨rfl, Nq71, eq71⟩ := hQ71
        have N71 := Fr.app N68 Nq71
        refine own_tr st71 ?_
        show own_Gl _ _ _ _ _ _ _ _ (T71.setTop (mkF m 132 #[.val (.int p0), .val (.int p1), .val (.int p2), .val (.int (8 : Int32)), .val (.ref a_READ), .val (.int (57 : Int32)), .val (.int (p2 &&& (3 : Int32))), .val (.int q), .val (.int (0 : Int32))] [(.int (0 : Int32))]))
        refine own_st (A' := T71.setTop (mkF m 142 #[.val (.int p0), .val (.int p1), .val (.int p2), .val (.int (8 : Int32)), .val (.ref a_READ), .val (.int (57 : Int32)), .val (.int (p2 &&& (3 : Int32))), .val (.int q), .val (.int (0 : Int32))] [(.int (1 : Int32))])) (fun tg kt => ?_) ?_
        · show Steps p.tables e below (T71.setTop (mkF m 132 #[.val (.int p0), .val (.int p1), .val (.int p2), .val (.int (8 : Int32)), .val (.ref a_READ), .val (.int (57 : Int32)), .val (.int (p2 &&& (3 : Int32))), .val (.int q), .val (.int (0 : Int32))] [(.int (0 : Int32))])) _
          refine XS.iload X71.here hx rfl (hb hby at_132) rfl ?_
          show Steps p.tables e below (T71.setTop (mkF m 134 #[.val (.int p0), .val (.int p1), .val (.int p2), .val (.int (8 : Int32)), .val (.ref a_READ), .val (.int (57 : Int32)), .val (.int (p2 &&& (3 : Int32))), .val (.int q), .val (.int (0 : Int32))] [(.int (0 : Int32)), (.int (0 : Int32))])) _
          refine XS.icmpNo X71.here hx rfl (hb hby at_134) rfl (teq ((by decide) : (0 : Int32) = (0 : Int32))).2 ?_
          show Steps p.tables e below (T71.setTop (mkF m 137 #[.val (.int p0), .val (.int p1), .val (.int p2), .val (.int (8 : Int32)), .val (.ref a_READ), .val (.int (57 : Int32)), .val (.int (p2 &&& (3 : Int32))), .val (.int q), .val (.int (0 : Int32))] [])) _
          refine XS.iconst X71.here hx rfl (hb hby at_137) ?_
          show Steps p.tables e below (T71.setTop (mkF m 138 #[.val (.int p0), .val (.int p1), .val (.int p2), .val (.int (8 : Int32)), .val (.ref a_READ), .val (.int (57 : Int32)), .val (.int (p2 &&& (3 : Int32))), .val (.int q), .val (.int (0 : Int32))] [(.int (1 : Int32))])) _
          refine XS.goto X71.here hx rfl (pc0 := 138) (pc' := 142) rfl (hb hby at_138) (by decide) (by decide) ?_
          exact kt
        refine own_ret X71 (v := some (.int (1 : Int32))) (fun h => by rw [Bd.returns] at h; cases h) hlk (by decide) (by decide) ?_ (fun fs hr => ?_)
        · show Q0 Z p0 p1 p2 a_MODULE_INFORMATION a_SET_REGION a_GET_REGION a_SELECT_PARAMETER a_SELECT_MODE a_SINGLE_POLLING a_MULTIPLE_POLLING a_STOP_MULTIPLE_POLLING a_READ a_WRITE a_SET_POWER a_GET_POWER h0 n0 (some (.int (1 : Int32))) T71.heap _
          rw [eq71]
          exact ⟨rfl, N71⟩
        · show Steps p.tables e below (T71.setTop (mkF m 142 #[.val (.int p0), .val (.int p1), .val (.int p2), .val (.int (8 : Int32)), .val (.ref a_READ), .val (.int (57 : Int32)), .val (.int (p2 &&& (3 : Int32))), .val (.int q), .val (.int (0 : Int32))] [(.int (1 : Int32))])) _
          exact retN X71 hx (t := .boolean) Bd.returns (by simp) (hb hby at_142) hr
    refine own_st (A' := T68.setTop (mkF m 27 #[.val (.int p0), .val (.int p1), .val (.int p2), .val (.int (8 : Int32)), .val (.ref a_READ), .val (.int (57 : Int32)), .val (.int (p2 &&& (3 : Int32))), .unset, .unset] [(.int (p2 &&& (3 : Int32)))])) (fun tg kt => ?_) ?_
    · show Steps p.tables e below (T68.setTop (mkF m 25 #[.val (.int p0), .val (.int p1), .val (.int p2), .val (.int (8 : Int32)), .val (.ref a_READ), .val (.int (57 : Int32)), .val (.int (p2 &&& (3 : Int32))), .unset, .unset] [])) _
      refine XS.iload X68.here hx rfl (hb hby at_25) rfl ?_
      exact kt
    by_cases hc27_72 : (p2 &&& (3 : Int32)) = (0 : Int32)
    · refine own_st (A' := T68.setTop (mkF m 82 #[.val (.int p0), .val (.int p1), .val (.int p2), .val (.int (8 : Int32)), .val (.ref a_READ), .val (.int (57 : Int32)), .val (.int (p2 &&& (3 : Int32))), .val (.int p1), .unset] [])) (fun tg kt => ?_) ?_
      · show Steps p.tables e below (T68.setTop (mkF m 27 #[.val (.int p0), .val (.int p1), .val (.int p2), .val (.int (8 : Int32)), .val (.ref a_READ), .val (.int (57 : Int32)), .val (.int (p2 &&& (3 : Int32))), .unset, .unset] [(.int (p2 &&& (3 : Int32)))])) _
        refine XS.ifNo X68.here hx rfl (hb hby at_27) rfl ((if0 _ _).trans (teq hc27_72).2) ?_
        show Steps p.tables e below (T68.setTop (mkF m 30 #[.val (.int p0), .val (.int p1), .val (.int p2), .val (.int (8 : Int32)), .val (.ref a_READ), .val (.int (57 : Int32)), .val (.int (p2 &&& (3 : Int32))), .unset, .unset] [])) _
        refine XS.iloadN X68.here hx rfl (hb hby at_30) rfl ?_
        show Steps p.tables e below (T68.setTop (mkF m 31 #[.val (.int p0), .val (.int p1), .val (.int p2), .val (.int (8 : Int32)), .val (.ref a_READ), .val (.int (57 : Int32)), .val (.int (p2 &&& (3 : Int32))), .unset, .unset] [(.int p1)])) _
        refine XS.istore X68.here hx rfl (hb hby at_31) rfl (l' := #[.val (.int p0), .val (.int p1), .val (.int p2), .val (.int (8 : Int32)), .val (.ref a_READ), .val (.int (57 : Int32)), .val (.int (p2 &&& (3 : Int32))), .val (.int p1), .unset]) rfl ?_
        show Steps p.tables e below (T68.setTop (mkF m 33 #[.val (.int p0), .val (.int p1), .val (.int p2), .val (.int (8 : Int32)), .val (.ref a_READ), .val (.int (57 : Int32)), .val (.int (p2 &&& (3 : Int32))), .val (.int p1), .unset] [])) _
        refine XS.goto X68.here hx rfl (pc0 := 33) (pc' := 82) rfl (hb hby at_33) (by decide) (by decide) ?_
        exact kt
      exact tl p1
    · refine own_st (A' := T68.setTop (mkF m 39 #[.val (.int p0), .val (.int p1), .val (.int p2), .val (.int (8 : Int32)), .val (.ref a_READ), .val (.int (57 : Int32)), .val (.int (p2 &&& (3 : Int32))), .unset, .unset] [(.int (1 : Int32)), (.int (p2 &&& (3 : Int32)))])) (fun tg kt => ?_) ?_
      · show Steps p.tables e below (T68.setTop (mkF m 27 #[.val (.int p0), .val (.int p1), .val (.int p2), .val (.int (8 : Int32)), .val (.ref a_READ), .val (.int (57 : Int32)), .val (.int (p2 &&& (3 : Int32))), .unset, .unset] [(.int (p2 &&& (3 : Int32)))])) _
        refine XS.ifYes X68.here hx rfl (pc0 := 27) (pc' := 36) rfl (hb hby at_27) rfl ((if0 _ _).trans (feq hc27_72).2) (by decide) (by decide) ?_
        show Steps p.tables e below (T68.setTop (mkF m 36 #[.val (.int p0), .val (.int p1), .val (.int p2), .val (.int (8 : Int32)), .val (.ref a_READ), .val (.int (57 : Int32)), .val (.int (p2 &&& (3 : Int32))), .unset, .unset] [])) _
        refine XS.iload X68.here hx rfl (hb hby at_36) rfl ?_
        show Steps p.tables e below (T68.setTop (mkF m 38 #[.val (.int p0), .val (.int p1), .val (.int p2), .val (.int (8 : Int32)), .val (.ref a_READ), .val (.int (57 : Int32)), .val (.int (p2 &&& (3 : Int32))), .unset, .unset] [(.int (p2 &&& (3 : Int32)))])) _
        refine XS.iconst X68.here hx rfl (hb hby at_38) ?_
        exact kt
      by_cases hc39_73 : (p2 &&& (3 : Int32)) = (1 : Int32)
      · refine own_st (A' := T68.setTop (mkF m 82 #[.val (.int p0), .val (.int p1), .val (.int p2), .val (.int (8 : Int32)), .val (.ref a_READ), .val (.int (57 : Int32)), .val (.int (p2 &&& (3 : Int32))), .val (.int (57 : Int32)), .unset] [])) (fun tg kt => ?_) ?_
        · show Steps p.tables e below (T68.setTop (mkF m 39 #[.val (.int p0), .val (.int p1), .val (.int p2), .val (.int (8 : Int32)), .val (.ref a_READ), .val (.int (57 : Int32)), .val (.int (p2 &&& (3 : Int32))), .unset, .unset] [(.int (1 : Int32)), (.int (p2 &&& (3 : Int32)))])) _
          refine XS.icmpNo X68.here hx rfl (hb hby at_39) rfl (teq hc39_73).2 ?_
          show Steps p.tables e below (T68.setTop (mkF m 42 #[.val (.int p0), .val (.int p1), .val (.int p2), .val (.int (8 : Int32)), .val (.ref a_READ), .val (.int (57 : Int32)), .val (.int (p2 &&& (3 : Int32))), .unset, .unset] [])) _
          refine XS.iload X68.here hx rfl (hb hby at_42) rfl ?_
          show Steps p.tables e below (T68.setTop (mkF m 44 #[.val (.int p0), .val (.int p1), .val (.int p2), .val (.int (8 : Int32)), .val (.ref a_READ), .val (.int (57 : Int32)), .val (.int (p2 &&& (3 : Int32))), .unset, .unset] [(.int (57 : Int32))])) _
          refine XS.istore X68.here hx rfl (hb hby at_44) rfl (l' := #[.val (.int p0), .val (.int p1), .val (.int p2), .val (.int (8 : Int32)), .val (.ref a_READ), .val (.int (57 : Int32)), .val (.int (p2 &&& (3 : Int32))), .val (.int (57 : Int32)), .unset]) rfl ?_
          show Steps p.tables e below (T68.setTop (mkF m 46 #[.val (.int p0), .val (.int p1), .val (.int p2), .val (.int (8 : Int32)), .val (.ref a_READ), .val (.int (57 : Int32)), .val (.int (p2 &&& (3 : Int32))), .val (.int (57 : Int32)), .unset] [])) _
          refine XS.goto X68.here hx rfl (pc0 := 46) (pc' := 82) rfl (hb hby at_46) (by decide) (by decide) ?_
          exact kt
        exact tl (57 : Int32)
      · refine own_st (A' := T68.setTop (mkF m 52 #[.val (.int p0), .val (.int p1), .val (.int p2), .val (.int (8 : Int32)), .val (.ref a_READ), .val (.int (57 : Int32)), .val (.int (p2 &&& (3 : Int32))), .unset, .unset] [(.int (2 : Int32)), (.int (p2 &&& (3 : Int32)))])) (fun tg kt => ?_) ?_
        · show Steps p.tables e below (T68.setTop (mkF m 39 #[.val (.int p0), .val (.int p1), .val (.int p2), .val (.int (8 : Int32)), .val (.ref a_READ), .val (.int (57 : Int32)), .val (.int (p2 &&& (3 : Int32))), .unset, .unset] [(.int (1 : Int32)), (.int (p2 &&& (3 : Int32)))])) _
          refine XS.icmpYes X68.here hx rfl (pc0 := 39) (pc' := 49) rfl (hb hby at_39) rfl (feq hc39_73).2 (by decide) (by decide) ?_
          show Steps p.tables e below (T68.setTop (mkF m 49 #[.val (.int p0), .val (.int p1), .val (.int p2), .val (.int (8 : Int32)), .val (.ref a_READ), .val (.int (57 : Int32)), .val (.int (p2 &&& (3 : Int32))), .unset, .unset] [])) _
          refine XS.iload X68.here hx rfl (hb hby at_49) rfl ?_
          show Steps p.tables e below (T68.setTop (mkF m 51 #[.val (.int p0), .val (.int p1), .val (.int p2), .val (.int (8 : Int32)), .val (.ref a_READ), .val (.int (57 : Int32)), .val (.int (p2 &&& (3 : Int32))), .unset, .unset] [(.int (p2 &&& (3 : Int32)))])) _
          refine XS.iconst X68.here hx rfl (hb hby at_51) ?_
          exact kt
        by_cases hc52_74 : (p2 &&& (3 : Int32)) = (2 : Int32)
        · refine own_st (A' := T68.setTop (mkF m 82 #[.val (.int p0), .val (.int p1), .val (.int p2), .val (.int (8 : Int32)), .val (.ref a_READ), .val (.int (57 : Int32)), .val (.int (p2 &&& (3 : Int32))), .val (.int (57 : Int32)), .unset] [])) (fun tg kt => ?_) ?_
          · show Steps p.tables e below (T68.setTop (mkF m 52 #[.val (.int p0), .val (.int p1), .val (.int p2), .val (.int (8 : Int32)), .val (.ref a_READ), .val (.int (57 : Int32)), .val (.int (p2 &&& (3 : Int32))), .unset, .unset] [(.int (2 : Int32)), (.int (p2 &&& (3 : Int32)))])) _
            refine XS.icmpNo X68.here hx rfl (hb hby at_52) rfl (teq hc52_74).2 ?_
            show Steps p.tables e below (T68.setTop (mkF m 55 #[.val (.int p0), .val (.int p1), .val (.int p2), .val (.int (8 : Int32)), .val (.ref a_READ), .val (.int (57 : Int32)), .val (.int (p2 &&& (3 : Int32))), .unset, .unset] [])) _
            refine XS.iloadN X68.here hx rfl (hb hby at_55) rfl ?_
            show Steps p.tables e below (T68.setTop (mkF m 56 #[.val (.int p0), .val (.int p1), .val (.int p2), .val (.int (8 : Int32)), .val (.ref a_READ), .val (.int (57 : Int32)), .val (.int (p2 &&& (3 : Int32))), .unset, .unset] [(.int (8 : Int32))])) _
            refine XS.iconst X68.here hx rfl (hb hby at_56) ?_
            show Steps p.tables e below (T68.setTop (mkF m 57 #[.val (.int p0), .val (.int p1), .val (.int p2), .val (.int (8 : Int32)), .val (.ref a_READ), .val (.int (57 : Int32)), .val (.int (p2 &&& (3 : Int32))), .unset, .unset] [(.int (4 : Int32)), (.int (8 : Int32))])) _
            refine XS.icmpYes X68.here hx rfl (pc0 := 57) (pc' := 65) rfl (hb hby at_57) rfl (feq ((by decide) : ¬ ((8 : Int32) = (4 : Int32)))).2 (by decide) (by decide) ?_
            show Steps p.tables e below (T68.setTop (mkF m 65 #[.val (.int p0), .val (.int p1), .val (.int p2), .val (.int (8 : Int32)), .val (.ref a_READ), .val (.int (57 : Int32)), .val (.int (p2 &&& (3 : Int32))), .unset, .unset] [])) _
            refine XS.iload X68.here hx rfl (hb hby at_65) rfl ?_
            show Steps p.tables e below (T68.setTop (mkF m 67 #[.val (.int p0), .val (.int p1), .val (.int p2), .val (.int (8 : Int32)), .val (.ref a_READ), .val (.int (57 : Int32)), .val (.int (p2 &&& (3 : Int32))), .unset, .unset] [(.int (57 : Int32))])) _
            refine XS.istore X68.here hx rfl (hb hby at_67) rfl (l' := #[.val (.int p0), .val (.int p1), .val (.int p2), .val (.int (8 : Int32)), .val (.ref a_READ), .val (.int (57 : Int32)), .val (.int (p2 &&& (3 : Int32))), .val (.int (57 : Int32)), .unset]) rfl ?_
            show Steps p.tables e below (T68.setTop (mkF m 69 #[.val (.int p0), .val (.int p1), .val (.int p2), .val (.int (8 : Int32)), .val (.ref a_READ), .val (.int (57 : Int32)), .val (.int (p2 &&& (3 : Int32))), .val (.int (57 : Int32)), .unset] [])) _
            refine XS.goto X68.here hx rfl (pc0 := 69) (pc' := 82) rfl (hb hby at_69) (by decide) (by decide) ?_
            exact kt
          exact tl (57 : Int32)
        · refine own_st (A' := T68.setTop (mkF m 82 #[.val (.int p0), .val (.int p1), .val (.int p2), .val (.int (8 : Int32)), .val (.ref a_READ), .val (.int (57 : Int32)), .val (.int (p2 &&& (3 : Int32))), .val (.int ((57 : Int32) + ((p1 &&& (3 : Int32)) - (2 : Int32)))), .unset] [])) (fun tg kt => ?_) ?_
          · show Steps p.tables e below (T68.setTop (mkF m 52 #[.val (.int p0), .val (.int p1), .val (.int p2), .val (.int (8 : Int32)), .val (.ref a_READ), .val (.int (57 : Int32)), .val (.int (p2 &&& (3 : Int32))), .unset, .unset] [(.int (2 : Int32)), (.int (p2 &&& (3 : Int32)))])) _
            refine XS.icmpYes X68.here hx rfl (pc0 := 52) (pc' := 72) rfl (hb hby at_52) rfl (feq hc52_74).2 (by decide) (by decide) ?_
            show Steps p.tables e below (T68.setTop (mkF m 72 #[.val (.int p0), .val (.int p1), .val (.int p2), .val (.int (8 : Int32)), .val (.ref a_READ), .val (.int (57 : Int32)), .val (.int (p2 &&& (3 : Int32))), .unset, .unset] [])) _
            refine XS.iload X68.here hx rfl (hb hby at_72) rfl ?_
            show Steps p.tables e below (T68.setTop (mkF m 74 #[.val (.int p0), .val (.int p1), .val (.int p2), .val (.int (8 : Int32)), .val (.ref a_READ), .val (.int (57 : Int32)), .val (.int (p2 &&& (3 : Int32))), .unset, .unset] [(.int (57 : Int32))])) _
            refine XS.iloadN X68.here hx rfl (hb hby at_74) rfl ?_
            show Steps p.tables e below (T68.setTop (mkF m 75 #[.val (.int p0), .val (.int p1), .val (.int p2), .val (.int (8 : Int32)), .val (.ref a_READ), .val (.int (57 : Int32)), .val (.int (p2 &&& (3 : Int32))), .unset, .unset] [(.int p1), (.int (57 : Int32))])) _
            refine XS.iconst X68.here hx rfl (hb hby at_75) ?_
            show Steps p.tables e below (T68.setTop (mkF m 76 #[.val (.int p0), .val (.int p1), .val (.int p2), .val (.int (8 : Int32)), .val (.ref a_READ), .val (.int (57 : Int32)), .val (.int (p2 &&& (3 : Int32))), .unset, .unset] [(.int (3 : Int32)), (.int p1), (.int (57 : Int32))])) _
            refine XS.iand X68.here hx rfl (hb hby at_76) rfl ?_
            show Steps p.tables e below (T68.setTop (mkF m 77 #[.val (.int p0), .val (.int p1), .val (.int p2), .val (.int (8 : Int32)), .val (.ref a_READ), .val (.int (57 : Int32)), .val (.int (p2 &&& (3 : Int32))), .unset, .unset] [(.int (p1 &&& (3 : Int32))), (.int (57 : Int32))])) _
            refine XS.iconst X68.here hx rfl (hb hby at_77) ?_
            show Steps p.tables e below (T68.setTop (mkF m 78 #[.val (.int p0), .val (.int p1), .val (.int p2), .val (.int (8 : Int32)), .val (.ref a_READ), .val (.int (57 : Int32)), .val (.int (p2 &&& (3 : Int32))), .unset, .unset] [(.int (2 : Int32)), (.int (p1 &&& (3 : Int32))), (.int (57 : Int32))])) _
            refine XS.isub X68.here hx rfl (hb hby at_78) rfl ?_
            show Steps p.tables e below (T68.setTop (mkF m 79 #[.val (.int p0), .val (.int p1), .val (.int p2), .val (.int (8 : Int32)), .val (.ref a_READ), .val (.int (57 : Int32)), .val (.int (p2 &&& (3 : Int32))), .unset, .unset] [(.int ((p1 &&& (3 : Int32)) - (2 : Int32))), (.int (57 : Int32))])) _
            refine XS.iadd X68.here hx rfl (hb hby at_79) rfl ?_
            show Steps p.tables e below (T68.setTop (mkF m 80 #[.val (.int p0), .val (.int p1), .val (.int p2), .val (.int (8 : Int32)), .val (.ref a_READ), .val (.int (57 : Int32)), .val (.int (p2 &&& (3 : Int32))), .unset, .unset] [(.int ((57 : Int32) + ((p1 &&& (3 : Int32)) - (2 : Int32))))])) _
            refine XS.istore X68.here hx rfl (hb hby at_80) rfl (l' := #[.val (.int p0), .val (.int p1), .val (.int p2), .val (.int (8 : Int32)), .val (.ref a_READ), .val (.int (57 : Int32)), .val (.int (p2 &&& (3 : Int32))), .val (.int ((57 : Int32) + ((p1 &&& (3 : Int32)) - (2 : Int32)))), .unset]) rfl ?_
            exact kt
          exact tl ((57 : Int32) + ((p1 &&& (3 : Int32)) - (2 : Int32)))
  · show own_Gl _ _ _ _ _ _ _ _ (s₁.setTop (mkF m 7 #[.val (.int p0), .val (.int p1), .val (.int p2), .unset, .unset, .unset, .unset, .unset, .unset] [(.int (9 : Int32))]))
    refine own_st (A' := s₁.setTop (mkF m 9 #[.val (.int p0), .val (.int p1), .val (.int p2), .val (.int (9 : Int32)), .unset, .unset, .unset, .unset, .unset] [(.int (9 : Int32))])) (fun tg kt => ?_) ?_
    · show Steps p.tables e below (s₁.setTop (mkF m 7 #[.val (.int p0), .val (.int p1), .val (.int p2), .unset, .unset, .unset, .unset, .unset, .unset] [(.int (9 : Int32))])) _
      refine XS.istoreN X0.here hx rfl (hb hby at_7) rfl (l' := #[.val (.int p0), .val (.int p1), .val (.int p2), .val (.int (9 : Int32)), .unset, .unset, .unset, .unset, .unset]) rfl ?_
      show Steps p.tables e below (s₁.setTop (mkF m 8 #[.val (.int p0), .val (.int p1), .val (.int p2), .val (.int (9 : Int32)), .unset, .unset, .unset, .unset, .unset] [])) _
      refine XS.iloadN X0.here hx rfl (hb hby at_8) rfl ?_
      exact kt
    obtain ⟨_, _, ⟨T75, L75, k75, n75⟩, -, X75, ⟨Lc75, hQ75, l75, y75, z75⟩, st75⟩ := Jvm.LawKit.callS X0 hx (y := (⟨"com/example/tagwire/tagwire/bb/CommandIsAnsweredByPinLaw", "pick", "(I)Lcom/example/tagwire/tagwire/bb/Command;"⟩ : MethodName)) hown (mvT hZ (hw _ (List.mem_of_getElem? (i := 1) rfl))) (mvT hZ (hw _ (List.mem_of_getElem? (i := 2) rfl))) (mvT hZ (hw _ (List.mem_of_getElem? (i := 3) rfl))) (mvT hZ (hw _ (List.mem_of_getElem? (i := 4) rfl))) (by decide) (backOf (W := 0) (rm1 l Z a0 hw [] (9 : Int32) a_MODULE_INFORMATION a_SET_REGION a_GET_REGION a_SELECT_PARAMETER a_SELECT_MODE a_SINGLE_POLLING a_MULTIPLE_POLLING a_STOP_MULTIPLE_POLLING a_READ a_WRITE a_SET_POWER a_GET_POWER h0 n0 Z0 S_MODULE_INFORMATION S_SET_REGION S_GET_REGION S_SELECT_PARAMETER S_SELECT_MODE S_SINGLE_POLLING S_MULTIPLE_POLLING S_STOP_MULTIPLE_POLLING S_READ S_WRITE S_SET_POWER S_GET_POWER) hZ (hw _ (List.mem_of_getElem? (i := 4) rfl)) (hw _ (List.mem_of_getElem? (i := 3) rfl)) (by decide) (by decide)) (g := (mkF m 9 #[.val (.int p0), .val (.int p1), .val (.int p2), .val (.int (9 : Int32)), .unset, .unset, .unset, .unset, .unset] [(.int (9 : Int32))])) rfl (by rw [hml]; rfl) (argsL := [(.int (9 : Int32))]) (rest := []) (lenOf own_pd2 rfl) rfl (by show 2 * 0 + _ ≤ _; exact Nat.le_of_eq rfl) (hb hby at_9) (fun _ _ => ⟨rfl, e0, (by decide : 0 + 0 ≤ _), (by decide : 0 + 0 ≤ _)⟩)
    dsimp only [Pt.U, Pt.locs, Pt.cells, Pt.slots] at X75 l75 y75 z75 st75 hQ75
    subst l75 y75 z75
    obtain ⟨hv75, hr75⟩ := hQ75
    rw [show own_pick1 (9 : Int32) a_MODULE_INFORMATION a_SET_REGION a_GET_REGION a_SELECT_PARAMETER a_SELECT_MODE a_SINGLE_POLLING a_MULTIPLE_POLLING a_STOP_MULTIPLE_POLLING a_READ a_WRITE a_SET_POWER a_GET_POWER = a_WRITE from rfl] at hv75
    have hQ75 := And.intro hv75 hr75
    obtain ⟨rfl, Nq75, eq75⟩ := hQ75
    have N75 := Fr.app N0 Nq75
    refine own_st st75 ?_
    show own_Gl _ _ _ _ _ _ _ _ (T75.setTop (mkF m 12 #[.val (.int p0), .val (.int p1), .val (.int p2), .val (.int (9 : Int32)), .unset, .unset, .unset, .unset, .unset] [(.ref a_WRITE)]))
    refine own_st (A' := T75.setTop (mkF m 15 #[.val (.int p0), .val (.int p1), .val (.int p2), .val (.int (9 : Int32)), .val (.ref a_WRITE), .unset, .unset, .unset, .unset] [(.int (9 : Int32))])) (fun tg kt => ?_) ?_
    · show Steps p.tables e below (T75.setTop (mkF m 12 #[.val (.int p0), .val (.int p1), .val (.int p2), .val (.int (9 : Int32)), .unset, .unset, .unset, .unset, .unset] [(.ref a_WRITE)])) _
      refine XS.astore X75.here hx rfl (hb hby at_12) rfl rfl (l' := #[.val (.int p0), .val (.int p1), .val (.int p2), .val (.int (9 : Int32)), .val (.ref a_WRITE), .unset, .unset, .unset, .unset]) rfl ?_
      show Steps p.tables e below (T75.setTop (mkF m 14 #[.val (.int p0), .val (.int p1), .val (.int p2), .val (.int (9 : Int32)), .val (.ref a_WRITE), .unset, .unset, .unset, .unset] [])) _
      refine XS.iloadN X75.here hx rfl (hb hby at_14) rfl ?_
      exact kt
    obtain ⟨_, _, ⟨T76, L76, k76, n76⟩, -, X76, ⟨Lc76, hQ76, l76, y76, z76⟩, st76⟩ := Jvm.LawKit.callS X75 hx (y := (⟨"com/example/tagwire/tagwire/bb/CommandIsAnsweredByPinLaw", "codeOf", "(I)I"⟩ : MethodName)) hown (mvT hZ (hw _ (List.mem_of_getElem? (i := 8) rfl))) (mvT hZ (hw _ (List.mem_of_getElem? (i := 9) rfl))) (mvT hZ (hw _ (List.mem_of_getElem? (i := 3) rfl))) (mvT hZ (hw _ (List.mem_of_getElem? (i := 10) rfl))) (by decide) (backOf (W := 0) (rm2 l Z a0 hw [] (9 : Int32) h0 n0 Z0) hZ (hw _ (List.mem_of_getElem? (i := 10) rfl)) (hw _ (List.mem_of_getElem? (i := 3) rfl)) (by decide) (by decide)) (g := (mkF m 15 #[.val (.int p0), .val (.int p1), .val (.int p2), .val (.int (9 : Int32)), .val (.ref a_WRITE), .unset, .unset, .unset, .unset] [(.int (9 : Int32))])) rfl (by rw [hml]; rfl) (argsL := [(.int (9 : Int32))]) (rest := []) (lenOf own_pd3 rfl) rfl (by show 2 * 0 + _ ≤ _; exact Nat.le_of_eq rfl) (hb hby at_15) (fun _ _ => ⟨rfl, eq75, (by decide : 0 + 0 ≤ _), (by decide : 0 + 0 ≤ _)⟩)
    dsimp only [Pt.U, Pt.locs, Pt.cells, Pt.slots] at X76 l76 y76 z76 st76 hQ76
    subst l76 y76 z76
    obtain ⟨hv76, hr76⟩ := hQ76
    rw [show own_code (9 : Int32) = (73 : Int32) from rfl] at hv76
    have hQ76 := And.intro hv76 hr76
    obtain ⟨rfl, Nq76, eq76⟩ := hQ76
    have N76 := Fr.app N75 Nq76
    refine own_st st76 ?_
    show own_Gl _ _ _ _ _ _ _ _ (T76.setTop (mkF m 18 #[.val (.int p0), .val (.int p1), .val (.int p2), .val (.int (9 : Int32)), .val (.ref a_WRITE), .unset, .unset, .unset, .unset] [(.int (73 : Int32))]))
    refine own_st (A' := T76.setTop (mkF m 25 #[.val (.int p0), .val (.int p1), .val (.int p2), .val (.int (9 : Int32)), .val (.ref a_WRITE), .val (.int (73 : Int32)), .val (.int (p2 &&& (3 : Int32))), .unset, .unset] [])) (fun tg kt => ?_) ?_
    · show Steps p.tables e below (T76.setTop (mkF m 18 #[.val (.int p0), .val (.int p1), .val (.int p2), .val (.int (9 : Int32)), .val (.ref a_WRITE), .unset, .unset, .unset, .unset] [(.int (73 : Int32))])) _
      refine XS.istore X76.here hx rfl (hb hby at_18) rfl (l' := #[.val (.int p0), .val (.int p1), .val (.int p2), .val (.int (9 : Int32)), .val (.ref a_WRITE), .val (.int (73 : Int32)), .unset, .unset, .unset]) rfl ?_
      show Steps p.tables e below (T76.setTop (mkF m 20 #[.val (.int p0), .val (.int p1), .val (.int p2), .val (.int (9 : Int32)), .val (.ref a_WRITE), .val (.int (73 : Int32)), .unset, .unset, .unset] [])) _
      refine XS.iloadN X76.here hx rfl (hb hby at_20) rfl ?_
      show Steps p.tables e below (T76.setTop (mkF m 21 #[.val (.int p0), .val (.int p1), .val (.int p2), .val (.int (9 : Int32)), .val (.ref a_WRITE), .val (.int (73 : Int32)), .unset, .unset, .unset] [(.int p2)])) _
      refine XS.iconst X76.here hx rfl (hb hby at_21) ?_
      show Steps p.tables e below (T76.setTop (mkF m 22 #[.val (.int p0), .val (.int p1), .val (.int p2), .val (.int (9 : Int32)), .val (.ref a_WRITE), .val (.int (73 : Int32)), .unset, .unset, .unset] [(.int (3 : Int32)), (.int p2)])) _
      refine XS.iand X76.here hx rfl (hb hby at_22) rfl ?_
      show Steps p.tables e below (T76.setTop (mkF m 23 #[.val (.int p0), .val (.int p1), .val (.int p2), .val (.int (9 : Int32)), .val (.ref a_WRITE), .val (.int (73 : Int32)), .unset, .unset, .unset] [(.int (p2 &&& (3 : Int32)))])) _
      refine XS.istore X76.here hx rfl (hb hby at_23) rfl (l' := #[.val (.int p0), .val (.int p1), .val (.int p2), .val (.int (9 : Int32)), .val (.ref a_WRITE), .val (.int (73 : Int32)), .val (.int (p2 &&& (3 : Int32))), .unset, .unset]) rfl ?_
      exact kt
    have tl : ∀ (q : Int32), own_Gl FrameEnd p e below s (Q0 Z p0 p1 p2 a_MODULE_INFORMATION a_SET_REGION a_GET_REGION a_SELECT_PARAMETER a_SELECT_MODE a_SINGLE_POLLING a_MULTIPLE_POLLING a_STOP_MULTIPLE_POLLING a_READ a_WRITE a_SET_POWER a_GET_POWER h0 n0) room_1.cells room_1.slots (T76.setTop (mkF m 82 #[.val (.int p0), .val (.int p1), .val (.int p2), .val (.int (9 : Int32)), .val (.ref a_WRITE), .val (.int (73 : Int32)), .val (.int (p2 &&& (3 : Int32))), .val (.int q), .unset] [])) := by
      intro q
      refine own_st (A' := T76.setTop (mkF m 115 #[.val (.int p0), .val (.int p1), .val (.int p2), .val (.int (9 : Int32)), .val (.ref a_WRITE), .val (.int (73 : Int32)), .val (.int (p2 &&& (3 : Int32))), .val (.int q), .unset] [(.int (73 : Int32)), (.int q)])) (fun tg kt => ?_) ?_
      · show Steps p.tables e below (T76.setTop (mkF m 82 #[.val (.int p0), .val (.int p1), .val (.int p2), .val (.int (9 : Int32)), .val (.ref a_WRITE), .val (.int (73 : Int32)), .val (.int (p2 &&& (3 : Int32))), .val (.int q), .unset] [])) _
        refine XS.iloadN X76.here hx rfl (hb hby at_82) rfl ?_
        show Steps p.tables e below (T76.setTop (mkF m 83 #[.val (.int p0), .val (.int p1), .val (.int p2), .val (.int (9 : Int32)), .val (.ref a_WRITE), .val (.int (73 : Int32)), .val (.int (p2 &&& (3 : Int32))), .val (.int q), .unset] [(.int (9 : Int32))])) _
        refine XS.iconst X76.here hx rfl (hb hby at_83) ?_
        show Steps p.tables e below (T76.setTop (mkF m 84 #[.val (.int p0), .val (.int p1), .val (.int p2), .val (.int (9 : Int32)), .val (.ref a_WRITE), .val (.int (73 : Int32)), .val (.int (p2 &&& (3 : Int32))), .val (.int q), .unset] [(.int (4 : Int32)), (.int (9 : Int32))])) _
        refine XS.icmpYes X76.here hx rfl (pc0 := 84) (pc' := 111) rfl (hb hby at_84) rfl (feq ((by decide) : ¬ ((9 : Int32) = (4 : Int32)))).2 (by decide) (by decide) ?_
        show Steps p.tables e below (T76.setTop (mkF m 111 #[.val (.int p0), .val (.int p1), .val (.int p2), .val (.int (9 : Int32)), .val (.ref a_WRITE), .val (.int (73 : Int32)), .val (.int (p2 &&& (3 : Int32))), .val (.int q), .unset] [])) _
        refine XS.iload X76.here hx rfl (hb hby at_111) rfl ?_
        show Steps p.tables e below (T76.setTop (mkF m 113 #[.val (.int p0), .val (.int p1), .val (.int p2), .val (.int (9 : Int32)), .val (.ref a_WRITE), .val (.int (73 : Int32)), .val (.int (p2 &&& (3 : Int32))), .val (.int q), .unset] [(.int q)])) _
        refine XS.iload X76.here hx rfl (hb hby at_113) rfl ?_
        exact kt
      by_cases hc115_77 : q = (73 : Int32)
      · refine own_st (A' := T76.setTop (mkF m 129 #[.val (.int p0), .val (.int p1), .val (.int p2), .val (.int (9 : Int32)), .val (.ref a_WRITE), .val (.int (73 : Int32)), .val (.int (p2 &&& (3 : Int32))), .val (.int q), .val (.int (1 : Int32))] [(.int q), (.ref a_WRITE)])) (fun tg kt => ?_) ?_
        · show Steps p.tables e below (T76.setTop (mkF m 115 #[.val (.int p0), .val (.int p1), .val (.int p2), .val (.int (9 : Int32)), .val (.ref a_WRITE), .val (.int (73 : Int32)), .val (.int (p2 &&& (3 : Int32))), .val (.int q), .unset] [(.int (73 : Int32)), (.int q)])) _
          refine XS.icmpNo X76.here hx rfl (hb hby at_115) rfl (teq hc115_77).2 ?_
          show Steps p.tables e below (T76.setTop (mkF m 118 #[.val (.int p0), .val (.int p1), .val (.int p2), .val (.int (9 : Int32)), .val (.ref a_WRITE), .val (.int (73 : Int32)), .val (.int (p2 &&& (3 : Int32))), .val (.int q), .unset] [])) _
          refine XS.iconst X76.here hx rfl (hb hby at_118) ?_
          show Steps p.tables e below (T76.setTop (mkF m 119 #[.val (.int p0), .val (.int p1), .val (.int p2), .val (.int (9 : Int32)), .val (.ref a_WRITE), .val (.int (73 : Int32)), .val (.int (p2 &&& (3 : Int32))), .val (.int q), .unset] [(.int (1 : Int32))])) _
          refine XS.goto X76.here hx rfl (pc0 := 119) (pc' := 123) rfl (hb hby at_119) (by decide) (by decide) ?_
          show Steps p.tables e below (T76.setTop (mkF m 123 #[.val (.int p0), .val (.int p1), .val (.int p2), .val (.int (9 : Int32)), .val (.ref a_WRITE), .val (.int (73 : Int32)), .val (.int (p2 &&& (3 : Int32))), .val (.int q), .unset] [(.int (1 : Int32))])) _
          refine XS.istore X76.here hx rfl (hb hby at_123) rfl (l' := #[.val (.int p0), .val (.int p1), .val (.int p2), .val (.int (9 : Int32)), .val (.ref a_WRITE), .val (.int (73 : Int32)), .val (.int (p2 &&& (3 : Int32))), .val (.int q), .val (.int (1 : Int32))]) rfl ?_
          show Steps p.tables e below (T76.setTop (mkF m 125 #[.val (.int p0), .val (.int p1), .val (.int p2), .val (.int (9 : Int32)), .val (.ref a_WRITE), .val (.int (73 : Int32)), .val (.int (p2 &&& (3 : Int32))), .val (.int q), .val (.int (1 : Int32))] [])) _
          refine XS.aload X76.here hx rfl (hb hby at_125) rfl rfl ?_
          show Steps p.tables e below (T76.setTop (mkF m 127 #[.val (.int p0), .val (.int p1), .val (.int p2), .val (.int (9 : Int32)), .val (.ref a_WRITE), .val (.int (73 : Int32)), .val (.int (p2 &&& (3 : Int32))), .val (.int q), .val (.int (1 : Int32))] [(.ref a_WRITE)])) _
          refine XS.iload X76.here hx rfl (hb hby at_127) rfl ?_
          exact kt
        obtain ⟨cq78, kq78, q78a, q78b, q78c⟩ := isOf hZ eq76 E_WRITE
        obtain ⟨_, _, ⟨T78, L78, k78, n78⟩, -, X78, ⟨Lc78, hQ78, l78, y78, z78⟩, st78⟩ := X76.virtualBack hx (y := (⟨"com/example/tagwire/tagwire/bb/Command", "isAnsweredBy", "(I)Z"⟩ : MethodName)) (z := (⟨"com/example/tagwire/tagwire/bb/Command", "isAnsweredBy", "(I)Z"⟩ : MethodName)) hown (mvT hZ (hw _ (List.mem_of_getElem? (i := 11) rfl))) (mvT hZ (hw _ (List.mem_of_getElem? (i := 12) rfl))) (notFace_of_selects (args := #[]) (mvT hZ (hw _ (List.mem_of_getElem? (i := 14) rfl)))) (mvT hZ (hw _ (List.mem_of_getElem? (i := 14) rfl))) (mvT hZ (hw _ (List.mem_of_getElem? (i := 13) rfl))) (by decide) (backOf (W := 0) (rm3 l Z a0 hw [] a_WRITE q (73 : Int32) (73 : Int32) h0 n0 Z0 F_WRITE_code F_WRITE_answerCode) hZ (hw _ (List.mem_of_getElem? (i := 15) rfl)) (hw _ (List.mem_of_getElem? (i := 6) rfl)) (by decide) (by decide)) q78a q78c (g := (mkF m 129 #[.val (.int p0), .val (.int p1), .val (.int p2), .val (.int (9 : Int32)), .val (.ref a_WRITE), .val (.int (73 : Int32)), .val (.int (p2 &&& (3 : Int32))), .val (.int q), .val (.int (1 : Int32))] [(.int q), (.ref a_WRITE)])) rfl (by rw [hml]; rfl) (Steps.refl _) (argsL := [(.int q)]) (rest := []) (lenOf own_pd4 rfl) rfl (by show 2 * 0 + _ ≤ _; exact Nat.le_of_eq rfl) (hb hby at_129) (fun _ _ => ⟨rfl, eq76, (by decide : 0 + 0 ≤ _), (by decide : 0 + 0 ≤ _)⟩)
        dsimp only [Pt.U, Pt.locs, Pt.cells, Pt.slots] at X78 l78 y78 z78 st78 hQ78
        subst l78 y78 z78
        obtain ⟨hv78, hr78⟩ := hQ78
        rw [show own_ans q (73 : Int32) (73 : Int32) = (1 : Int32) from by unfold own_ans; rw [if_pos hc115_77]] at hv78
        have hQ78 := And.intro hv78 hr78
        obtain ⟨rfl, Nq78, eq78⟩ := hQ78
        have N78 := Fr.app N76 Nq78
        refine own_tr st78 ?_
        show own_Gl _ _ _ _ _ _ _ _ (T78.setTop (mkF m 132 #[.val (.int p0), .val (.int p1), .val (.int p2), .val (.int (9 : Int32)), .val (.ref a_WRITE), .val (.int (73 : Int32)), .val (.int (p2 &&& (3 : Int32))), .val (.int q), .val (.int (1 : Int32))] [(.int (1 : Int32))]))
        refine own_st (A' := T78.setTop (mkF m 142 #[.val (.int p0), .val (.int p1), .val (.int p2), .val (.int (9 : Int32)), .val (.ref a_WRITE), .val (.int (73 : Int32)), .val (.int (p2 &&& (3 : Int32))), .val (.int q), .val (.int (1 : Int32))] [(.int (1 : Int32))])) (fun tg kt => ?_) ?_
        · show Steps p.tables e below (T78.setTop (mkF m 132 #[.val (.int p0), .val (.int p1), .val (.int p2), .val (.int (9 : Int32)), .val (.ref a_WRITE), .val (.int (73 : Int32)), .val (.int (p2 &&& (3 : Int32))), .val (.int q), .val (.int (1 : Int32))] [(.int (1 : Int32))])) _
          refine XS.iload X78.here hx rfl (hb hby at_132) rfl ?_
          show Steps p.tables e below (T78.setTop (mkF m 134 #[.val (.int p0), .val (.int p1), .val (.int p2), .val (.int (9 : Int32)), .val (.ref a_WRITE), .val (.int (73 : Int32)), .val (.int (p2 &&& (3 : Int32))), .val (.int q), .val (.int (1 : Int32))] [(.int (1 : Int32)), (.int (1 : Int32))])) _
          refine XS.icmpNo X78.here hx rfl (hb hby at_134) rfl (teq ((by decide) : (1 : Int32) = (1 : Int32))).2 ?_
          show Steps p.tables e below (T78.setTop (mkF m 137 #[.val (.int p0), .val (.int p1), .val (.int p2), .val (.int (9 : Int32)), .val (.ref a_WRITE), .val (.int (73 : Int32)), .val (.int (p2 &&& (3 : Int32))), .val (.int q), .val (.int (1 : Int32))] [])) _
          refine XS.iconst X78.here hx rfl (hb hby at_137) ?_
          show Steps p.tables e below (T78.setTop (mkF m 138 #[.val (.int p0), .val (.int p1), .val (.int p2), .val (.int (9 : Int32)), .val (.ref a_WRITE), .val (.int (73 : Int32)), .val (.int (p2 &&& (3 : Int32))), .val (.int q), .val (.int (1 : Int32))] [(.int (1 : Int32))])) _
          refine XS.goto X78.here hx rfl (pc0 := 138) (pc' := 142) rfl (hb hby at_138) (by decide) (by decide) ?_
          exact kt
        refine own_ret X78 (v := some (.int (1 : Int32))) (fun h => by rw [Bd.returns] at h; cases h) hlk (by decide) (by decide) ?_ (fun fs hr => ?_)
        · show Q0 Z p0 p1 p2 a_MODULE_INFORMATION a_SET_REGION a_GET_REGION a_SELECT_PARAMETER a_SELECT_MODE a_SINGLE_POLLING a_MULTIPLE_POLLING a_STOP_MULTIPLE_POLLING a_READ a_WRITE a_SET_POWER a_GET_POWER h0 n0 (some (.int (1 : Int32))) T78.heap _
          rw [eq78]
          exact ⟨rfl, N78⟩
        · show Steps p.tables e below (T78.setTop (mkF m 142 #[.val (.int p0), .val (.int p1), .val (.int p2), .val (.int (9 : Int32)), .val (.ref a_WRITE), .val (.int (73 : Int32)), .val (.int (p2 &&& (3 : Int32))), .val (.int q), .val (.int (1 : Int32))] [(.int (1 : Int32))])) _
          exact retN X78 hx (t := .boolean) Bd.returns (by simp) (hb hby at_142) hr
      · refine own_st (A' := T76.setTop (mkF m 129 #[.val (.int p0), .val (.int p1), .val (.int p2), .val (.int (9 : Int32)), .val (.ref a_WRITE), .val (.int (73 : Int32)), .val (.int (p2 &&& (3 : Int32))), .val (.int q), .val (.int (0 : Int32))] [(.int q), (.ref a_WRITE)])) (fun tg kt => ?_) ?_
        · show Steps p.tables e below (T76.setTop (mkF m 115 #[.val (.int p0), .val (.int p1), .val (.int p2), .val (.int (9 : Int32)), .val (.ref a_WRITE), .val (.int (73 : Int32)), .val (.int (p2 &&& (3 : Int32))), .val (.int q), .unset] [(.int (73 : Int32)), (.int q)])) _
          refine XS.icmpYes X76.here hx rfl (pc0 := 115) (pc' := 122) rfl (hb hby at_115) rfl (feq hc115_77).2 (by decide) (by decide) ?_
          show Steps p.tables e below (T76.setTop (mkF m 122 #[.val (.int p0), .val (.int p1), .val (.int p2), .val (.int (9 : Int32)), .val (.ref a_WRITE), .val (.int (73 : Int32)), .val (.int (p2 &&& (3 : Int32))), .val (.int q), .unset] [])) _
          refine XS.iconst X76.here hx rfl (hb hby at_122) ?_
          show Steps p.tables e below (T76.setTop (mkF m 123 #[.val (.int p0), .val (.int p1), .val (.int p2), .val (.int (9 : Int32)), .val (.ref a_WRITE), .val (.int (73 : Int32)), .val (.int (p2 &&& (3 : Int32))), .val (.int q), .unset] [(.int (0 : Int32))])) _
          refine XS.istore X76.here hx rfl (hb hby at_123) rfl (l' := #[.val (.int p0), .val (.int p1), .val (.int p2), .val (.int (9 : Int32)), .val (.ref a_WRITE), .val (.int (73 : Int32)), .val (.int (p2 &&& (3 : Int32))), .val (.int q), .val (.int (0 : Int32))]) rfl ?_
          show Steps p.tables e below (T76.setTop (mkF m 125 #[.val (.int p0), .val (.int p1), .val (.int p2), .val (.int (9 : Int32)), .val (.ref a_WRITE), .val (.int (73 : Int32)), .val (.int (p2 &&& (3 : Int32))), .val (.int q), .val (.int (0 : Int32))] [])) _
          refine XS.aload X76.here hx rfl (hb hby at_125) rfl rfl ?_
          show Steps p.tables e below (T76.setTop (mkF m 127 #[.val (.int p0), .val (.int p1), .val (.int p2), .val (.int (9 : Int32)), .val (.ref a_WRITE), .val (.int (73 : Int32)), .val (.int (p2 &&& (3 : Int32))), .val (.int q), .val (.int (0 : Int32))] [(.ref a_WRITE)])) _
          refine XS.iload X76.here hx rfl (hb hby at_127) rfl ?_
          exact kt
        obtain ⟨cq79, kq79, q79a, q79b, q79c⟩ := isOf hZ eq76 E_WRITE
        obtain ⟨_, _, ⟨T79, L79, k79, n79⟩, -, X79, ⟨Lc79, hQ79, l79, y79, z79⟩, st79⟩ := X76.virtualBack hx (y := (⟨"com/example/tagwire/tagwire/bb/Command", "isAnsweredBy", "(I)Z"⟩ : MethodName)) (z := (⟨"com/example/tagwire/tagwire/bb/Command", "isAnsweredBy", "(I)Z"⟩ : MethodName)) hown (mvT hZ (hw _ (List.mem_of_getElem? (i := 11) rfl))) (mvT hZ (hw _ (List.mem_of_getElem? (i := 12) rfl))) (notFace_of_selects (args := #[]) (mvT hZ (hw _ (List.mem_of_getElem? (i := 14) rfl)))) (mvT hZ (hw _ (List.mem_of_getElem? (i := 14) rfl))) (mvT hZ (hw _ (List.mem_of_getElem? (i := 13) rfl))) (by decide) (backOf (W := 0) (rm3 l Z a0 hw [] a_WRITE q (73 : Int32) (73 : Int32) h0 n0 Z0 F_WRITE_code F_WRITE_answerCode) hZ (hw _ (List.mem_of_getElem? (i := 15) rfl)) (hw _ (List.mem_of_getElem? (i := 6) rfl)) (by decide) (by decide)) q79a q79c (g := (mkF m 129 #[.val (.int p0), .val (.int p1), .val (.int p2), .val (.int (9 : Int32)), .val (.ref a_WRITE), .val (.int (73 : Int32)), .val (.int (p2 &&& (3 : Int32))), .val (.int q), .val (.int (0 : Int32))] [(.int q), (.ref a_WRITE)])) rfl (by rw [hml]; rfl) (Steps.refl _) (argsL := [(.int q)]) (rest := []) (lenOf own_pd4 rfl) rfl (by show 2 * 0 + _ ≤ _; exact Nat.le_of_eq rfl) (hb hby at_129) (fun _ _ => ⟨rfl, eq76, (by decide : 0 + 0 ≤ _), (by decide : 0 + 0 ≤ _)⟩)
        dsimp only [Pt.U, Pt.locs, Pt.cells, Pt.slots] at X79 l79 y79 z79 st79 hQ79
        subst l79 y79 z79
        obtain ⟨hv79, hr79⟩ := hQ79
        rw [show own_ans q (73 : Int32) (73 : Int32) = (0 : Int32) from by unfold own_ans; rw [if_neg hc115_77, if_neg hc115_77]] at hv79
        have hQ79 := And.intro hv79 hr79
        obtain ⟨rfl, Nq79, eq79⟩ := hQ79
        have N79 := Fr.app N76 Nq79
        refine own_tr st79 ?_
        show own_Gl _ _ _ _ _ _ _ _ (T79.setTop (mkF m 132 #[.val (.int p0), .val (.int p1), .val (.int p2), .val (.int (9 : Int32)), .val (.ref a_WRITE), .val (.int (73 : Int32)), .val (.int (p2 &&& (3 : Int32))), .val (.int q), .val (.int (0 : Int32))] [(.int (0 : Int32))]))
        refine own_st (A' := T79.setTop (mkF m 142 #[.val (.int p0), .val (.int p1), .val (.int p2), .val (.int (9 : Int32)), .val (.ref a_WRITE), .val (.int (73 : Int32)), .val (.int (p2 &&& (3 : Int32))), .val (.int q), .val (.int (0 : Int32))] [(.int (1 : Int32))])) (fun tg kt => ?_) ?_
        · show Steps p.tables e below (T79.setTop (mkF m 132 #[.val (.int p0), .val (.int p1), .val (.int p2), .val (.int (9 : Int32)), .val (.ref a_WRITE), .val (.int (73 : Int32)), .val (.int (p2 &&& (3 : Int32))), .val (.int q), .val (.int (0 : Int32))] [(.int (0 : Int32))])) _
          refine XS.iload X79.here hx rfl (hb hby at_132) rfl ?_
          show Steps p.tables e below (T79.setTop (mkF m 134 #[.val (.int p0), .val (.int p1), .val (.int p2), .val (.int (9 : Int32)), .val (.ref a_WRITE), .val (.int (73 : Int32)), .val (.int (p2 &&& (3 : Int32))), .val (.int q), .val (.int (0 : Int32))] [(.int (0 : Int32)), (.int (0 : Int32))])) _
          refine XS.icmpNo X79.here hx rfl (hb hby at_134) rfl (teq ((by decide) : (0 : Int32) = (0 : Int32))).2 ?_
          show Steps p.tables e below (T79.setTop (mkF m 137 #[.val (.int p0), .val (.int p1), .val (.int p2), .val (.int (9 : Int32)), .val (.ref a_WRITE), .val (.int (73 : Int32)), .val (.int (p2 &&& (3 : Int32))), .val (.int q), .val (.int (0 : Int32))] [])) _
          refine XS.iconst X79.here hx rfl (hb hby at_137) ?_
          show Steps p.tables e below (T79.setTop (mkF m 138 #[.val (.int p0), .val (.int p1), .val (.int p2), .val (.int (9 : Int32)), .val (.ref a_WRITE), .val (.int (73 : Int32)), .val (.int (p2 &&& (3 : Int32))), .val (.int q), .val (.int (0 : Int32))] [(.int (1 : Int32))])) _
          refine XS.goto X79.here hx rfl (pc0 := 138) (pc' := 142) rfl (hb hby at_138) (by decide) (by decide) ?_
          exact kt
        refine own_ret X79 (v := some (.int (1 : Int32))) (fun h => by rw [Bd.returns] at h; cases h) hlk (by decide) (by decide) ?_ (fun fs hr => ?_)
        · show Q0 Z p0 p1 p2 a_MODULE_INFORMATION a_SET_REGION a_GET_REGION a_SELECT_PARAMETER a_SELECT_MODE a_SINGLE_POLLING a_MULTIPLE_POLLING a_STOP_MULTIPLE_POLLING a_READ a_WRITE a_SET_POWER a_GET_POWER h0 n0 (some (.int (1 : Int32))) T79.heap _
          rw [eq79]
          exact ⟨rfl, N79⟩
        · show Steps p.tables e below (T79.setTop (mkF m 142 #[.val (.int p0), .val (.int p1), .val (.int p2), .val (.int (9 : Int32)), .val (.ref a_WRITE), .val (.int (73 : Int32)), .val (.int (p2 &&& (3 : Int32))), .val (.int q), .val (.int (0 : Int32))] [(.int (1 : Int32))])) _
          exact retN X79 hx (t := .boolean) Bd.returns (by simp) (hb hby at_142) hr
    refine own_st (A' := T76.setTop (mkF m 27 #[.val (.int p0), .val (.int p1), .val (.int p2), .val (.int (9 : Int32)), .val (.ref a_WRITE), .val (.int (73 : Int32)), .val (.int (p2 &&& (3 : Int32))), .unset, .unset] [(.int (p2 &&& (3 : Int32)))])) (fun tg kt => ?_) ?_
    · show Steps p.tables e below (T76.setTop (mkF m 25 #[.val (.int p0), .val (.int p1), .val (.int p2), .val (.int (9 : Int32)), .val (.ref a_WRITE), .val (.int (73 : Int32)), .val (.int (p2 &&& (3 : Int32))), .unset, .unset] [])) _
      refine XS.iload X76.here hx rfl (hb hby at_25) rfl ?_
      exact kt
    by_cases hc27_80 : (p2 &&& (3 : Int32)) = (0 : Int32)
    · refine own_st (A' := T76.setTop (mkF m 82 #[.val (.int p0), .val (.int p1), .val (.int p2), .val (.int (9 : Int32)), .val (.ref a_WRITE), .val (.int (73 : Int32)), .val (.int (p2 &&& (3 : Int32))), .val (.int p1), .unset] [])) (fun tg kt => ?_) ?_
      · show Steps p.tables e below (T76.setTop (mkF m 27 #[.val (.int p0), .val (.int p1), .val (.int p2), .val (.int (9 : Int32)), .val (.ref a_WRITE), .val (.int (73 : Int32)), .val (.int (p2 &&& (3 : Int32))), .unset, .unset] [(.int (p2 &&& (3 : Int32)))])) _
        refine XS.ifNo X76.here hx rfl (hb hby at_27) rfl ((if0 _ _).trans (teq hc27_80).2) ?_
        show Steps p.tables e below (T76.setTop (mkF m 30 #[.val (.int p0), .val (.int p1), .val (.int p2), .val (.int (9 : Int32)), .val (.ref a_WRITE), .val (.int (73 : Int32)), .val (.int (p2 &&& (3 : Int32))), .unset, .unset] [])) _
        refine XS.iloadN X76.here hx rfl (hb hby at_30) rfl ?_
        show Steps p.tables e below (T76.setTop (mkF m 31 #[.val (.int p0), .val (.int p1), .val (.int p2), .val (.int (9 : Int32)), .val (.ref a_WRITE), .val (.int (73 : Int32)), .val (.int (p2 &&& (3 : Int32))), .unset, .unset] [(.int p1)])) _
        refine XS.istore X76.here hx rfl (hb hby at_31) rfl (l' := #[.val (.int p0), .val (.int p1), .val (.int p2), .val (.int (9 : Int32)), .val (.ref a_WRITE), .val (.int (73 : Int32)), .val (.int (p2 &&& (3 : Int32))), .val (.int p1), .unset]) rfl ?_
        show Steps p.tables e below (T76.setTop (mkF m 33 #[.val (.int p0), .val (.int p1), .val (.int p2), .val (.int (9 : Int32)), .val (.ref a_WRITE), .val (.int (73 : Int32)), .val (.int (p2 &&& (3 : Int32))), .val (.int p1), .unset] [])) _
        refine XS.goto X76.here hx rfl (pc0 := 33) (pc' := 82) rfl (hb hby at_33) (by decide) (by decide) ?_
        exact kt
      exact tl p1
    · refine own_st (A' := T76.setTop (mkF m 39 #[.val (.int p0), .val (.int p1), .val (.int p2), .val (.int (9 : Int32)), .val (.ref a_WRITE), .val (.int (73 : Int32)), .val (.int (p2 &&& (3 : Int32))), .unset, .unset] [(.int (1 : Int32)), (.int (p2 &&& (3 : Int32)))])) (fun tg kt => ?_) ?_
      · show Steps p.tables e below (T76.setTop (mkF m 27 #[.val (.int p0), .val (.int p1), .val (.int p2), .val (.int (9 : Int32)), .val (.ref a_WRITE), .val (.int (73 : Int32)), .val (.int (p2 &&& (3 : Int32))), .unset, .unset] [(.int (p2 &&& (3 : Int32)))])) _
        refine XS.ifYes X76.here hx rfl (pc0 := 27) (pc' := 36) rfl (hb hby at_27) rfl ((if0 _ _).trans (feq hc27_80).2) (by decide) (by decide) ?_
        show Steps p.tables e below (T76.setTop (mkF m 36 #[.val (.int p0), .val (.int p1), .val (.int p2), .val (.int (9 : Int32)), .val (.ref a_WRITE), .val (.int (73 : Int32)), .val (.int (p2 &&& (3 : Int32))), .unset, .unset] [])) _
        refine XS.iload X76.here hx rfl (hb hby at_36) rfl ?_
        show Steps p.tables e below (T76.setTop (mkF m 38 #[.val (.int p0), .val (.int p1), .val (.int p2), .val (.int (9 : Int32)), .val (.ref a_WRITE), .val (.int (73 : Int32)), .val (.int (p2 &&& (3 : Int32))), .unset, .unset] [(.int (p2 &&& (3 : Int32)))])) _
        refine XS.iconst X76.here hx rfl (hb hby at_38) ?_
        exact kt
      by_cases hc39_81 : (p2 &&& (3 : Int32)) = (1 : Int32)
      · refine own_st (A' := T76.setTop (mkF m 82 #[.val (.int p0), .val (.int p1), .val (.int p2), .val (.int (9 : Int32)), .val (.ref a_WRITE), .val (.int (73 : Int32)), .val (.int (p2 &&& (3 : Int32))), .val (.int (73 : Int32)), .unset] [])) (fun tg kt => ?_) ?_
        · show Steps p.tables e below (T76.setTop (mkF m 39 #[.val (.int p0), .val (.int p1), .val (.int p2), .val (.int (9 : Int32)), .val (.ref a_WRITE), .val (.int (73 : Int32)), .val (.int (p2 &&& (3 : Int32))), .unset, .unset] [(.int (1 : Int32)), (.int (p2 &&& (3 : Int32)))])) _
          refine XS.icmpNo X76.here hx rfl (hb hby at_39) rfl (teq hc39_81).2 ?_
          show Steps p.tables e below (T76.setTop (mkF m 42 #[.val (.int p0), .val (.int p1), .val (.int p2), .val (.int (9 : Int32)), .val (.ref a_WRITE), .val (.int (73 : Int32)), .val (.int (p2 &&& (3 : Int32))), .unset, .unset] [])) _
          refine XS.iload X76.here hx rfl (hb hby at_42) rfl ?_
          show Steps p.tables e below (T76.setTop (mkF m 44 #[.val (.int p0), .val (.int p1), .val (.int p2), .val (.int (9 : Int32)), .val (.ref a_WRITE), .val (.int (73 : Int32)), .val (.int (p2 &&& (3 : Int32))), .unset, .unset] [(.int (73 : Int32))])) _
          refine XS.istore X76.here hx rfl (hb hby at_44) rfl (l' := #[.val (.int p0), .val (.int p1), .val (.int p2), .val (.int (9 : Int32)), .val (.ref a_WRITE), .val (.int (73 : Int32)), .val (.int (p2 &&& (3 : Int32))), .val (.int (73 : Int32)), .unset]) rfl ?_
          show Steps p.tables e below (T76.setTop (mkF m 46 #[.val (.int p0), .val (.int p1), .val (.int p2), .val (.int (9 : Int32)), .val (.ref a_WRITE), .val (.int (73 : Int32)), .val (.int (p2 &&& (3 : Int32))), .val (.int (73 : Int32)), .unset] [])) _
          refine XS.goto X76.here hx rfl (pc0 := 46) (pc' := 82) rfl (hb hby at_46) (by decide) (by decide) ?_
          exact kt
        exact tl (73 : Int32)
      · refine own_st (A' := T76.setTop (mkF m 52 #[.val (.int p0), .val (.int p1), .val (.int p2), .val (.int (9 : Int32)), .val (.ref a_WRITE), .val (.int (73 : Int32)), .val (.int (p2 &&& (3 : Int32))), .unset, .unset] [(.int (2 : Int32)), (.int (p2 &&& (3 : Int32)))])) (fun tg kt => ?_) ?_
        · show Steps p.tables e below (T76.setTop (mkF m 39 #[.val (.int p0), .val (.int p1), .val (.int p2), .val (.int (9 : Int32)), .val (.ref a_WRITE), .val (.int (73 : Int32)), .val (.int (p2 &&& (3 : Int32))), .unset, .unset] [(.int (1 : Int32)), (.int (p2 &&& (3 : Int32)))])) _
          refine XS.icmpYes X76.here hx rfl (pc0 := 39) (pc' := 49) rfl (hb hby at_39) rfl (feq hc39_81).2 (by decide) (by decide) ?_
          show Steps p.tables e below (T76.setTop (mkF m 49 #[.val (.int p0), .val (.int p1), .val (.int p2), .val (.int (9 : Int32)), .val (.ref a_WRITE), .val (.int (73 : Int32)), .val (.int (p2 &&& (3 : Int32))), .unset, .unset] [])) _
          refine XS.iload X76.here hx rfl (hb hby at_49) rfl ?_
          show Steps p.tables e below (T76.setTop (mkF m 51 #[.val (.int p0), .val (.int p1), .val (.int p2), .val (.int (9 : Int32)), .val (.ref a_WRITE), .val (.int (73 : Int32)), .val (.int (p2 &&& (3 : Int32))), .unset, .unset] [(.int (p2 &&& (3 : Int32)))])) _
          refine XS.iconst X76.here hx rfl (hb hby at_51) ?_
          exact kt
        by_cases hc52_82 : (p2 &&& (3 : Int32)) = (2 : Int32)
        · refine own_st (A' := T76.setTop (mkF m 82 #[.val (.int p0), .val (.int p1), .val (.int p2), .val (.int (9 : Int32)), .val (.ref a_WRITE), .val (.int (73 : Int32)), .val (.int (p2 &&& (3 : Int32))), .val (.int (73 : Int32)), .unset] [])) (fun tg kt => ?_) ?_
          · show Steps p.tables e below (T76.setTop (mkF m 52 #[.val (.int p0), .val (.int p1), .val (.int p2), .val (.int (9 : Int32)), .val (.ref a_WRITE), .val (.int (73 : Int32)), .val (.int (p2 &&& (3 : Int32))), .unset, .unset] [(.int (2 : Int32)), (.int (p2 &&& (3 : Int32)))])) _
            refine XS.icmpNo X76.here hx rfl (hb hby at_52) rfl (teq hc52_82).2 ?_
            show Steps p.tables e below (T76.setTop (mkF m 55 #[.val (.int p0), .val (.int p1), .val (.int p2), .val (.int (9 : Int32)), .val (.ref a_WRITE), .val (.int (73 : Int32)), .val (.int (p2 &&& (3 : Int32))), .unset, .unset] [])) _
            refine XS.iloadN X76.here hx rfl (hb hby at_55) rfl ?_
            show Steps p.tables e below (T76.setTop (mkF m 56 #[.val (.int p0), .val (.int p1), .val (.int p2), .val (.int (9 : Int32)), .val (.ref a_WRITE), .val (.int (73 : Int32)), .val (.int (p2 &&& (3 : Int32))), .unset, .unset] [(.int (9 : Int32))])) _
            refine XS.iconst X76.here hx rfl (hb hby at_56) ?_
            show Steps p.tables e below (T76.setTop (mkF m 57 #[.val (.int p0), .val (.int p1), .val (.int p2), .val (.int (9 : Int32)), .val (.ref a_WRITE), .val (.int (73 : Int32)), .val (.int (p2 &&& (3 : Int32))), .unset, .unset] [(.int (4 : Int32)), (.int (9 : Int32))])) _
            refine XS.icmpYes X76.here hx rfl (pc0 := 57) (pc' := 65) rfl (hb hby at_57) rfl (feq ((by decide) : ¬ ((9 : Int32) = (4 : Int32)))).2 (by decide) (by decide) ?_
            show Steps p.tables e below (T76.setTop (mkF m 65 #[.val (.int p0), .val (.int p1), .val (.int p2), .val (.int (9 : Int32)), .val (.ref a_WRITE), .val (.int (73 : Int32)), .val (.int (p2 &&& (3 : Int32))), .unset, .unset] [])) _
            refine XS.iload X76.here hx rfl (hb hby at_65) rfl ?_
            show Steps p.tables e below (T76.setTop (mkF m 67 #[.val (.int p0), .val (.int p1), .val (.int p2), .val (.int (9 : Int32)), .val (.ref a_WRITE), .val (.int (73 : Int32)), .val (.int (p2 &&& (3 : Int32))), .unset, .unset] [(.int (73 : Int32))])) _
            refine XS.istore X76.here hx rfl (hb hby at_67) rfl (l' := #[.val (.int p0), .val (.int p1), .val (.int p2), .val (.int (9 : Int32)), .val (.ref a_WRITE), .val (.int (73 : Int32)), .val (.int (p2 &&& (3 : Int32))), .val (.int (73 : Int32)), .unset]) rfl ?_
            show Steps p.tables e below (T76.setTop (mkF m 69 #[.val (.int p0), .val (.int p1), .val (.int p2), .val (.int (9 : Int32)), .val (.ref a_WRITE), .val (.int (73 : Int32)), .val (.int (p2 &&& (3 : Int32))), .val (.int (73 : Int32)), .unset] [])) _
            refine XS.goto X76.here hx rfl (pc0 := 69) (pc' := 82) rfl (hb hby at_69) (by decide) (by decide) ?_
            exact kt
          exact tl (73 : Int32)
        · refine own_st (A' := T76.setTop (mkF m 82 #[.val (.int p0), .val (.int p1), .val (.int p2), .val (.int (9 : Int32)), .val (.ref a_WRITE), .val (.int (73 : Int32)), .val (.int (p2 &&& (3 : Int32))), .val (.int ((73 : Int32) + ((p1 &&& (3 : Int32)) - (2 : Int32)))), .unset] [])) (fun tg kt => ?_) ?_
          · show Steps p.tables e below (T76.setTop (mkF m 52 #[.val (.int p0), .val (.int p1), .val (.int p2), .val (.int (9 : Int32)), .val (.ref a_WRITE), .val (.int (73 : Int32)), .val (.int (p2 &&& (3 : Int32))), .unset, .unset] [(.int (2 : Int32)), (.int (p2 &&& (3 : Int32)))])) _
            refine XS.icmpYes X76.here hx rfl (pc0 := 52) (pc' := 72) rfl (hb hby at_52) rfl (feq hc52_82).2 (by decide) (by decide) ?_
            show Steps p.tables e below (T76.setTop (mkF m 72 #[.val (.int p0), .val (.int p1), .val (.int p2), .val (.int (9 : Int32)), .val (.ref a_WRITE), .val (.int (73 : Int32)), .val (.int (p2 &&& (3 : Int32))), .unset, .unset] [])) _
            refine XS.iload X76.here hx rfl (hb hby at_72) rfl ?_
            show Steps p.tables e below (T76.setTop (mkF m 74 #[.val (.int p0), .val (.int p1), .val (.int p2), .val (.int (9 : Int32)), .val (.ref a_WRITE), .val (.int (73 : Int32)), .val (.int (p2 &&& (3 : Int32))), .unset, .unset] [(.int (73 : Int32))])) _
            refine XS.iloadN X76.here hx rfl (hb hby at_74) rfl ?_
            show Steps p.tables e below (T76.setTop (mkF m 75 #[.val (.int p0), .val (.int p1), .val (.int p2), .val (.int (9 : Int32)), .val (.ref a_WRITE), .val (.int (73 : Int32)), .val (.int (p2 &&& (3 : Int32))), .unset, .unset] [(.int p1), (.int (73 : Int32))])) _
            refine XS.iconst X76.here hx rfl (hb hby at_75) ?_
            show Steps p.tables e below (T76.setTop (mkF m 76 #[.val (.int p0), .val (.int p1), .val (.int p2), .val (.int (9 : Int32)), .val (.ref a_WRITE), .val (.int (73 : Int32)), .val (.int (p2 &&& (3 : Int32))), .unset, .unset] [(.int (3 : Int32)), (.int p1), (.int (73 : Int32))])) _
            refine XS.iand X76.here hx rfl (hb hby at_76) rfl ?_
            show Steps p.tables e below (T76.setTop (mkF m 77 #[.val (.int p0), .val (.int p1), .val (.int p2), .val (.int (9 : Int32)), .val (.ref a_WRITE), .val (.int (73 : Int32)), .val (.int (p2 &&& (3 : Int32))), .unset, .unset] [(.int (p1 &&& (3 : Int32))), (.int (73 : Int32))])) _
            refine XS.iconst X76.here hx rfl (hb hby at_77) ?_
            show Steps p.tables e below (T76.setTop (mkF m 78 #[.val (.int p0), .val (.int p1), .val (.int p2), .val (.int (9 : Int32)), .val (.ref a_WRITE), .val (.int (73 : Int32)), .val (.int (p2 &&& (3 : Int32))), .unset, .unset] [(.int (2 : Int32)), (.int (p1 &&& (3 : Int32))), (.int (73 : Int32))])) _
            refine XS.isub X76.here hx rfl (hb hby at_78) rfl ?_
            show Steps p.tables e below (T76.setTop (mkF m 79 #[.val (.int p0), .val (.int p1), .val (.int p2), .val (.int (9 : Int32)), .val (.ref a_WRITE), .val (.int (73 : Int32)), .val (.int (p2 &&& (3 : Int32))), .unset, .unset] [(.int ((p1 &&& (3 : Int32)) - (2 : Int32))), (.int (73 : Int32))])) _
            refine XS.iadd X76.here hx rfl (hb hby at_79) rfl ?_
            show Steps p.tables e below (T76.setTop (mkF m 80 #[.val (.int p0), .val (.int p1), .val (.int p2), .val (.int (9 : Int32)), .val (.ref a_WRITE), .val (.int (73 : Int32)), .val (.int (p2 &&& (3 : Int32))), .unset, .unset] [(.int ((73 : Int32) + ((p1 &&& (3 : Int32)) - (2 : Int32))))])) _
            refine XS.istore X76.here hx rfl (hb hby at_80) rfl (l' := #[.val (.int p0), .val (.int p1), .val (.int p2), .val (.int (9 : Int32)), .val (.ref a_WRITE), .val (.int (73 : Int32)), .val (.int (p2 &&& (3 : Int32))), .val (.int ((73 : Int32) + ((p1 &&& (3 : Int32)) - (2 : Int32)))), .unset]) rfl ?_
            exact kt
          exact tl ((73 : Int32) + ((p1 &&& (3 : Int32)) - (2 : Int32)))
  · show own_Gl _ _ _ _ _ _ _ _ (s₁.setTop (mkF m 7 #[.val (.int p0), .val (.int p1), .val (.int p2), .unset, .unset, .unset, .unset, .unset, .unset] [(.int (10 : Int32))]))
    refine own_st (A' := s₁.setTop (mkF m 9 #[.val (.int p0), .val (.int p1), .val (.int p2), .val (.int (10 : Int32)), .unset, .unset, .unset, .unset, .unset] [(.int (10 : Int32))])) (fun tg kt => ?_) ?_
    · show Steps p.tables e below (s₁.setTop (mkF m 7 #[.val (.int p0), .val (.int p1), .val (.int p2), .unset, .unset, .unset, .unset, .unset, .unset] [(.int (10 : Int32))])) _
      refine XS.istoreN X0.here hx rfl (hb hby at_7) rfl (l' := #[.val (.int p0), .val (.int p1), .val (.int p2), .val (.int (10 : Int32)), .unset, .unset, .unset, .unset, .unset]) rfl ?_
      show Steps p.tables e below (s₁.setTop (mkF m 8 #[.val (.int p0), .val (.int p1), .val (.int p2), .val (.int (10 : Int32)), .unset, .unset, .unset, .unset, .unset] [])) _
      refine XS.iloadN X0.here hx rfl (hb hby at_8) rfl ?_
      exact kt
    obtain ⟨_, _, ⟨T83, L83, k83, n83⟩, -, X83, ⟨Lc83, hQ83, l83, y83, z83⟩, st83⟩ := Jvm.LawKit.callS X0 hx (y := (⟨"com/example/tagwire/tagwire/bb/CommandIsAnsweredByPinLaw", "pick", "(I)Lcom/example/tagwire/tagwire/bb/Command;"⟩ : MethodName)) hown (mvT hZ (hw _ (List.mem_of_getElem? (i := 1) rfl))) (mvT hZ (hw _ (List.mem_of_getElem? (i := 2) rfl))) (mvT hZ (hw _ (List.mem_of_getElem? (i := 3) rfl))) (mvT hZ (hw _ (List.mem_of_getElem? (i := 4) rfl))) (by decide) (backOf (W := 0) (rm1 l Z a0 hw [] (10 : Int32) a_MODULE_INFORMATION a_SET_REGION a_GET_REGION a_SELECT_PARAMETER a_SELECT_MODE a_SINGLE_POLLING a_MULTIPLE_POLLING a_STOP_MULTIPLE_POLLING a_READ a_WRITE a_SET_POWER a_GET_POWER h0 n0 Z0 S_MODULE_INFORMATION S_SET_REGION S_GET_REGION S_SELECT_PARAMETER S_SELECT_MODE S_SINGLE_POLLING S_MULTIPLE_POLLING S_STOP_MULTIPLE_POLLING S_READ S_WRITE S_SET_POWER S_GET_POWER) hZ (hw _ (List.mem_of_getElem? (i := 4) rfl)) (hw _ (List.mem_of_getElem? (i := 3) rfl)) (by decide) (by decide)) (g := (mkF m 9 #[.val (.int p0), .val (.int p1), .val (.int p2), .val (.int (10 : Int32)), .unset, .unset, .unset, .unset, .unset] [(.int (10 : Int32))])) rfl (by rw [hml]; rfl) (argsL := [(.int (10 : Int32))]) (rest := []) (lenOf own_pd2 rfl) rfl (by show 2 * 0 + _ ≤ _; exact Nat.le_of_eq rfl) (hb hby at_9) (fun _ _ => ⟨rfl, e0, (by decide : 0 + 0 ≤ _), (by decide : 0 + 0 ≤ _)⟩)
    dsimp only [Pt.U, Pt.locs, Pt.cells, Pt.slots] at X83 l83 y83 z83 st83 hQ83
    subst l83 y83 z83
    obtain ⟨hv83, hr83⟩ := hQ83
    rw [show own_pick1 (10 : Int32) a_MODULE_INFORMATION a_SET_REGION a_GET_REGION a_SELECT_PARAMETER a_SELECT_MODE a_SINGLE_POLLING a_MULTIPLE_POLLING a_STOP_MULTIPLE_POLLING a_READ a_WRITE a_SET_POWER a_GET_POWER = a_SET_POWER from rfl] at hv83
    have hQ83 := And.intro hv83 hr83
    obtain ⟨rfl, Nq83, eq83⟩ := hQ83
    have N83 := Fr.app N0 Nq83
    refine own_st st83 ?_
    show own_Gl _ _ _ _ _ _ _ _ (T83.setTop (mkF m 12 #[.val (.int p0), .val (.int p1), .val (.int p2), .val (.int (10 : Int32)), .unset, .unset, .unset, .unset, .unset] [(.ref a_SET_POWER)]))
    refine own_st (A' := T83.setTop (mkF m 15 #[.val (.int p0), .val (.int p1), .val (.int p2), .val (.int (10 : Int32)), .val (.ref a_SET_POWER), .unset, .unset, .unset, .unset] [(.int (10 : Int32))])) (fun tg kt => ?_) ?_
    · show Steps p.tables e below (T83.setTop (mkF m 12 #[.val (.int p0), .val (.int p1), .val (.int p2), .val (.int (10 : Int32)), .unset, .unset, .unset, .unset, .unset] [(.ref a_SET_POWER)])) _
      refine XS.astore X83.here hx rfl (hb hby at_12) rfl rfl (l' := #[.val (.int p0), .val (.int p1), .val (.int p2), .val (.int (10 : Int32)), .val (.ref a_SET_POWER), .unset, .unset, .unset, .unset]) rfl ?_
      show Steps p.tables e below (T83.setTop (mkF m 14 #[.val (.int p0), .val (.int p1), .val (.int p2), .val (.int (10 : Int32)), .val (.ref a_SET_POWER), .unset, .unset, .unset, .unset] [])) _
      refine XS.iloadN X83.here hx rfl (hb hby at_14) rfl ?_
      exact kt
    obtain ⟨_, _, ⟨T84, L84, k84, n84⟩, -, X84, ⟨Lc84, hQ84, l84, y84, z84⟩, st84⟩ := Jvm.LawKit.callS X83 hx (y := (⟨"com/example/tagwire/tagwire/bb/CommandIsAnsweredByPinLaw", "codeOf", "(I)I"⟩ : MethodName)) hown (mvT hZ (hw _ (List.mem_of_getElem? (i := 8) rfl))) (mvT hZ (hw _ (List.mem_of_getElem? (i := 9) rfl))) (mvT hZ (hw _ (List.mem_of_getElem? (i := 3) rfl))) (mvT hZ (hw _ (List.mem_of_getElem? (i := 10) rfl))) (by decide) (backOf (W := 0) (rm2 l Z a0 hw [] (10 : Int32) h0 n0 Z0) hZ (hw _ (List.mem_of_getElem? (i := 10) rfl)) (hw _ (List.mem_of_getElem? (i := 3) rfl)) (by decide) (by decide)) (g := (mkF m 15 #[.val (.int p0), .val (.int p1), .val (.int p2), .val (.int (10 : Int32)), .val (.ref a_SET_POWER), .unset, .unset, .unset, .unset] [(.int (10 : Int32))])) rfl (by rw [hml]; rfl) (argsL := [(.int (10 : Int32))]) (rest := []) (lenOf own_pd3 rfl) rfl (by show 2 * 0 + _ ≤ _; exact Nat.le_of_eq rfl) (hb hby at_15) (fun _ _ => ⟨rfl, eq83, (by decide : 0 + 0 ≤ _), (by decide : 0 + 0 ≤ _)⟩)
    dsimp only [Pt.U, Pt.locs, Pt.cells, Pt.slots] at X84 l84 y84 z84 st84 hQ84
    subst l84 y84 z84
    obtain ⟨hv84, hr84⟩ := hQ84
    rw [show own_code (10 : Int32) = (182 : Int32) from rfl] at hv84
    have hQ84 := And.intro hv84 hr84
    obtain ⟨rfl, Nq84, eq84⟩ := hQ84
    have N84 := Fr.app N83 Nq84
    refine own_st st84 ?_
    show own_Gl _ _ _ _ _ _ _ _ (T84.setTop (mkF m 18 #[.val (.int p0), .val (.int p1), .val (.int p2), .val (.int (10 : Int32)), .val (.ref a_SET_POWER), .unset, .unset, .unset, .unset] [(.int (182 : Int32))]))
    refine own_st (A' := T84.setTop (mkF m 25 #[.val (.int p0), .val (.int p1), .val (.int p2), .val (.int (10 : Int32)), .val (.ref a_SET_POWER), .val (.int (182 : Int32)), .val (.int (p2 &&& (3 : Int32))), .unset, .unset] [])) (fun tg kt => ?_) ?_
    · show Steps p.tables e below (T84.setTop (mkF m 18 #[.val (.int p0), .val (.int p1), .val (.int p2), .val (.int (10 : Int32)), .val (.ref a_SET_POWER), .unset, .unset, .unset, .unset] [(.int (182 : Int32))])) _
      refine XS.istore X84.here hx rfl (hb hby at_18) rfl (l' := #[.val (.int p0), .val (.int p1), .val (.int p2), .val (.int (10 : Int32)), .val (.ref a_SET_POWER), .val (.int (182 : Int32)), .unset, .unset, .unset]) rfl ?_
      show Steps p.tables e below (T84.setTop (mkF m 20 #[.val (.int p0), .val (.int p1), .val (.int p2), .val (.int (10 : Int32)), .val (.ref a_SET_POWER), .val (.int (182 : Int32)), .unset, .unset, .unset] [])) _
      refine XS.iloadN X84.here hx rfl (hb hby at_20) rfl ?_
      show Steps p.tables e below (T84.setTop (mkF m 21 #[.val (.int p0), .val (.int p1), .val (.int p2), .val (.int (10 : Int32)), .val (.ref a_SET_POWER), .val (.int (182 : Int32)), .unset, .unset, .unset] [(.int p2)])) _
      refine XS.iconst X84.here hx rfl (hb hby at_21) ?_
      show Steps p.tables e below (T84.setTop (mkF m 22 #[.val (.int p0), .val (.int p1), .val (.int p2), .val (.int (10 : Int32)), .val (.ref a_SET_POWER), .val (.int (182 : Int32)), .unset, .unset, .unset] [(.int (3 : Int32)), (.int p2)])) _
      refine XS.iand X84.here hx rfl (hb hby at_22) rfl ?_
      show Steps p.tables e below (T84.setTop (mkF m 23 #[.val (.int p0), .val (.int p1), .val (.int p2), .val (.int (10 : Int32)), .val (.ref a_SET_POWER), .val (.int (182 : Int32)), .unset, .unset, .unset] [(.int (p2 &&& (3 : Int32)))])) _
      refine XS.istore X84.here hx rfl (hb hby at_23) rfl (l' := #[.val (.int p0), .val (.int p1), .val (.int p2), .val (.int (10 : Int32)), .val (.ref a_SET_POWER), .val (.int (182 : Int32)), .val (.int (p2 &&& (3 : Int32))), .unset, .unset]) rfl ?_
      exact kt
    have tl : ∀ (q : Int32), own_Gl FrameEnd p e below s (Q0 Z p0 p1 p2 a_MODULE_INFORMATION a_SET_REGION a_GET_REGION a_SELECT_PARAMETER a_SELECT_MODE a_SINGLE_POLLING a_MULTIPLE_POLLING a_STOP_MULTIPLE_POLLING a_READ a_WRITE a_SET_POWER a_GET_POWER h0 n0) room_1.cells room_1.slots (T84.setTop (mkF m 82 #[.val (.int p0), .val (.int p1), .val (.int p2), .val (.int (10 : Int32)), .val (.ref a_SET_POWER), .val (.int (182 : Int32)), .val (.int (p2 &&& (3 : Int32))), .val (.int q), .unset] [])) := by
      intro q
      refine own_st (A' := T84.setTop (mkF m 115 #[.val (.int p0), .val (.int p1), .val (.int p2), .val (.int (10 : Int32)), .val (.ref a_SET_POWER), .val (.int (182 : Int32)), .val (.int (p2 &&& (3 : Int32))), .val (.int q), .unset] [(.int (182 : Int32)), (.int q)])) (fun tg kt => ?_) ?_
      · show Steps p.tables e below (T84.setTop (mkF m 82 #[.val (.int p0), .val (.int p1), .val (.int p2), .val (.int (10 : Int32)), .val (.ref a_SET_POWER), .val (.int (182 : Int32)), .val (.int (p2 &&& (3 : Int32))), .val (.int q), .unset] [])) _
        refine XS.iloadN X84.here hx rfl (hb hby at_82) rfl ?_
        show Steps p.tables e below (T84.setTop (mkF m 83 #[.val (.int p0), .val (.int p1), .val (.int p2), .val (.int (10 : Int32)), .val (.ref a_SET_POWER), .val (.int (182 : Int32)), .val (.int (p2 &&& (3 : Int32))), .val (.int q), .unset] [(.int (10 : Int32))])) _
        refine XS.iconst X84.here hx rfl (hb hby at_83) ?_
        show Steps p.tables e below (T84.setTop (mkF m 84 #[.val (.int p0), .val (.int p1), .val (.int p2), .val (.int (10 : Int32)), .val (.ref a_SET_POWER), .val (.int (182 : Int32)), .val (.int (p2 &&& (3 : Int32))), .val (.int q), .unset] [(.int (4 : Int32)), (.int (10 : Int32))])) _
        refine XS.icmpYes X84.here hx rfl (pc0 := 84) (pc' := 111) rfl (hb hby at_84) rfl (feq ((by decide) : ¬ ((10 : Int32) = (4 : Int32)))).2 (by decide) (by decide) ?_
        show Steps p.tables e below (T84.setTop (mkF m 111 #[.val (.int p0), .val (.int p1), .val (.int p2), .val (.int (10 : Int32)), .val (.ref a_SET_POWER), .val (.int (182 : Int32)), .val (.int (p2 &&& (3 : Int32))), .val (.int q), .unset] [])) _
        refine XS.iload X84.here hx rfl (hb hby at_111) rfl ?_
        show Steps p.tables e below (T84.setTop (mkF m 113 #[.val (.int p0), .val (.int p1), .val (.int p2), .val (.int (10 : Int32)), .val (.ref a_SET_POWER), .val (.int (182 : Int32)), .val (.int (p2 &&& (3 : Int32))), .val (.int q), .unset] [(.int q)])) _
        refine XS.iload X84.here hx rfl (hb hby at_113) rfl ?_
        exact kt
      by_cases hc115_85 : q = (182 : Int32)
      · refine own_st (A' := T84.setTop (mkF m 129 #[.val (.int p0), .val (.int p1), .val (.int p2), .val (.int (10 : Int32)), .val (.ref a_SET_POWER), .val (.int (182 : Int32)), .val (.int (p2 &&& (3 : Int32))), .val (.int q), .val (.int (1 : Int32))] [(.int q), (.ref a_SET_POWER)])) (fun tg kt => ?_) ?_
        · show Steps p.tables e below (T84.setTop (mkF m 115 #[.val (.int p0), .val (.int p1), .val (.int p2), .val (.int (10 : Int32)), .val (.ref a_SET_POWER), .val (.int (182 : Int32)), .val (.int (p2 &&& (3 : Int32))), .val (.int q), .unset] [(.int (182 : Int32)), (.int q)])) _
          refine XS.icmpNo X84.here hx rfl (hb hby at_115) rfl (teq hc115_85).2 ?_
          show Steps p.tables e below (T84.setTop (mkF m 118 #[.val (.int p0), .val (.int p1), .val (.int p2), .val (.int (10 : Int32)), .val (.ref a_SET_POWER), .val (.int (182 : Int32)), .val (.int (p2 &&& (3 : Int32))), .val (.int q), .unset] [])) _
          refine XS.iconst X84.here hx rfl (hb hby at_118) ?_
          show Steps p.tables e below (T84.setTop (mkF m 119 #[.val (.int p0), .val (.int p1), .val (.int p2), .val (.int (10 : Int32)), .val (.ref a_SET_POWER), .val (.int (182 : Int32)), .val (.int (p2 &&& (3 : Int32))), .val (.int q), .unset] [(.int (1 : Int32))])) _
          refine XS.goto X84.here hx rfl (pc0 := 119) (pc' := 123) rfl (hb hby at_119) (by decide) (by decide) ?_
          show Steps p.tables e below (T84.setTop (mkF m 123 #[.val (.int p0), .val (.int p1), .val (.int p2), .val (.int (10 : Int32)), .val (.ref a_SET_POWER), .val (.int (182 : Int32)), .val (.int (p2 &&& (3 : Int32))), .val (.int q), .unset] [(.int (1 : Int32))])) _
          refine XS.istore X84.here hx rfl (hb hby at_123) rfl (l' := #[.val (.int p0), .val (.int p1), .val (.int p2), .val (.int (10 : Int32)), .val (.ref a_SET_POWER), .val (.int (182 : Int32)), .val (.int (p2 &&& (3 : Int32))), .val (.int q), .val (.int (1 : Int32))]) rfl ?_
          show Steps p.tables e below (T84.setTop (mkF m 125 #[.val (.int p0), .val (.int p1), .val (.int p2), .val (.int (10 : Int32)), .val (.ref a_SET_POWER), .val (.int (182 : Int32)), .val (.int (p2 &&& (3 : Int32))), .val (.int q), .val (.int (1 : Int32))] [])) _
          refine XS.aload X84.here hx rfl (hb hby at_125) rfl rfl ?_
          show Steps p.tables e below (T84.setTop (mkF m 127 #[.val (.int p0), .val (.int p1), .val (.int p2), .val (.int (10 : Int32)), .val (.ref a_SET_POWER), .val (.int (182 : Int32)), .val (.int (p2 &&& (3 : Int32))), .val (.int q), .val (.int (1 : Int32))] [(.ref a_SET_POWER)])) _
          refine XS.iload X84.here hx rfl (hb hby at_127) rfl ?_
          exact kt
        obtain ⟨cq86, kq86, q86a, q86b, q86c⟩ := isOf hZ eq84 E_SET_POWER
        obtain ⟨_, _, ⟨T86, L86, k86, n86⟩, -, X86, ⟨Lc86, hQ86, l86, y86, z86⟩, st86⟩ := X84.virtualBack hx (y := (⟨"com/example/tagwire/tagwire/bb/Command", "isAnsweredBy", "(I)Z"⟩ : MethodName)) (z := (⟨"com/example/tagwire/tagwire/bb/Command", "isAnsweredBy", "(I)Z"⟩ : MethodName)) hown (mvT hZ (hw _ (List.mem_of_getElem? (i := 11) rfl))) (mvT hZ (hw _ (List.mem_of_getElem? (i := 12) rfl))) (notFace_of_selects (args := #[]) (mvT hZ (hw _ (List.mem_of_getElem? (i := 14) rfl)))) (mvT hZ (hw _ (List.mem_of_getElem? (i := 14) rfl))) (mvT hZ (hw _ (List.mem_of_getElem? (i := 13) rfl))) (by decide) (backOf (W := 0) (rm3 l Z a0 hw [] a_SET_POWER q (182 : Int32) (182 : Int32) h0 n0 Z0 F_SET_POWER_code F_SET_POWER_answerCode) hZ (hw _ (List.mem_of_getElem? (i := 15) rfl)) (hw _ (List.mem_of_getElem? (i := 6) rfl)) (by decide) (by decide)) q86a q86c (g := (mkF m 129 #[.val (.int p0), .val (.int p1), .val (.int p2), .val (.int (10 : Int32)), .val (.ref a_SET_POWER), .val (.int (182 : Int32)), .val (.int (p2 &&& (3 : Int32))), .val (.int q), .val (.int (1 : Int32))] [(.int q), (.ref a_SET_POWER)])) rfl (by rw [hml]; rfl) (Steps.refl _) (argsL := [(.int q)]) (rest := []) (lenOf own_pd4 rfl) rfl (by show 2 * 0 + _ ≤ _; exact Nat.le_of_eq rfl) (hb hby at_129) (fun _ _ => ⟨rfl, eq84, (by decide : 0 + 0 ≤ _), (by decide : 0 + 0 ≤ _)⟩)
        dsimp only [Pt.U, Pt.locs, Pt.cells, Pt.slots] at X86 l86 y86 z86 st86 hQ86
        subst l86 y86 z86
        obtain ⟨hv86, hr86⟩ := hQ86
        rw [show own_ans q (182 : Int32) (182 : Int32) = (1 : Int32) from by unfold own_ans; rw [if_pos hc115_85]] at hv86
        have hQ86 := And.intro hv86 hr86
        obtain ⟨rfl, Nq86, eq86⟩ := hQ86
        have N86 := Fr.app N84 Nq86
        refine own_tr st86 ?_
        show own_Gl _ _ _ _ _ _ _ _ (T86.setTop (mkF m 132 #[.val (.int p0), .val (.int p1), .val (.int p2), .val (.int (10 : Int32)), .val (.ref a_SET_POWER), .val (.int (182 : Int32)), .val (.int (p2 &&& (3 : Int32))), .val (.int q), .val (.int (1 : Int32))] [(.int (1 : Int32))]))
        refine own_st (A' := T86.setTop (mkF m 142 #[.val (.int p0), .val (.int p1), .val (.int p2), .val (.int (10 : Int32)), .val (.ref a_SET_POWER), .val (.int (182 : Int32)), .val (.int (p2 &&& (3 : Int32))), .val (.int q), .val (.int (1 : Int32))] [(.int (1 : Int32))])) (fun tg kt => ?_) ?_
        · show Steps p.tables e below (T86.setTop (mkF m 132 #[.val (.int p0), .val (.int p1), .val (.int p2), .val (.int (10 : Int32)), .val (.ref a_SET_POWER), .val (.int (182 : Int32)), .val (.int (p2 &&& (3 : Int32))), .val (.int q), .val (.int (1 : Int32))] [(.int (1 : Int32))])) _
          refine XS.iload X86.here hx rfl (hb hby at_132) rfl ?_
          show Steps p.tables e below (T86.setTop (mkF m 134 #[.val (.int p0), .val (.int p1), .val (.int p2), .val (.int (10 : Int32)), .val (.ref a_SET_POWER), .val (.int (182 : Int32)), .val (.int (p2 &&& (3 : Int32))), .val (.int q), .val (.int (1 : Int32))] [(.int (1 : Int32)), (.int (1 : Int32))])) _
          refine XS.icmpNo X86.here hx rfl (hb hby at_134) rfl (teq ((by decide) : (1 : Int32) = (1 : Int32))).2 ?_
          show Steps p.tables e below (T86.setTop (mkF m 137 #[.val (.int p0), .val (.int p1), .val (.int p2), .val (.int (10 : Int32)), .val (.ref a_SET_POWER), .val (.int (182 : Int32)), .val (.int (p2 &&& (3 : Int32))), .val (.int q), .val (.int (1 : Int32))] [])) _
          refine XS.iconst X86.here hx rfl (hb hby at_137) ?_
          show Steps p.tables e below (T86.setTop (mkF m 138 #[.val (.int p0), .val (.int p1), .val (.int p2), .val (.int (10 : Int32)), .val (.ref a_SET_POWER), .val (.int (182 : Int32)), .val (.int (p2 &&& (3 : Int32))), .val (.int q), .val (.int (1 : Int32))] [(.int (1 : Int32))])) _
          refine XS.goto X86.here hx rfl (pc0 := 138) (pc' := 142) rfl (hb hby at_138) (by decide) (by decide) ?_
          exact kt
        refine own_ret X86 (v := some (.int (1 : Int32))) (fun h => by rw [Bd.returns] at h; cases h) hlk (by decide) (by decide) ?_ (fun fs hr => ?_)
        · show Q0 Z p0 p1 p2 a_MODULE_INFORMATION a_SET_REGION a_GET_REGION a_SELECT_PARAMETER a_SELECT_MODE a_SINGLE_POLLING a_MULTIPLE_POLLING a_STOP_MULTIPLE_POLLING a_READ a_WRITE a_SET_POWER a_GET_POWER h0 n0 (some (.int (1 : Int32))) T86.heap _
          rw [eq86]
          exact ⟨rfl, N86⟩
        · show Steps p.tables e below (T86.setTop (mkF m 142 #[.val (.int p0), .val (.int p1), .val (.int p2), .val (.int (10 : Int32)), .val (.ref a_SET_POWER), .val (.int (182 : Int32)), .val (.int (p2 &&& (3 : Int32))), .val (.int q), .val (.int (1 : Int32))] [(.int (1 : Int32))])) _
          exact retN X86 hx (t := .boolean) Bd.returns (by simp) (hb hby at_142) hr
      · refine own_st (A' := T84.setTop (mkF m 129 #[.val (.int p0), .val (.int p1), .val (.int p2), .val (.int (10 : Int32)), .val (.ref a_SET_POWER), .val (.int (182 : Int32)), .val (.int (p2 &&& (3 : Int32))), .val (.int q), .val (.int (0 : Int32))] [(.int q), (.ref a_SET_POWER)])) (fun tg kt => ?_) ?_
        · show Steps p.tables e below (T84.setTop (mkF m 115 #[.val (.int p0), .val (.int p1), .val (.int p2), .val (.int (10 : Int32)), .val (.ref a_SET_POWER), .val (.int (182 : Int32)), .val (.int (p2 &&& (3 : Int32))), .val (.int q), .unset] [(.int (182 : Int32)), (.int q)])) _
          refine XS.icmpYes X84.here hx rfl (pc0 := 115) (pc' := 122) rfl (hb hby at_115) rfl (feq hc115_85).2 (by decide) (by decide) ?_
          show Steps p.tables e below (T84.setTop (mkF m 122 #[.val (.int p0), .val (.int p1), .val (.int p2), .val (.int (10 : Int32)), .val (.ref a_SET_POWER), .val (.int (182 : Int32)), .val (.int (p2 &&& (3 : Int32))), .val (.int q), .unset] [])) _
          refine XS.iconst X84.here hx rfl (hb hby at_122) ?_
          show Steps p.tables e below (T84.setTop (mkF m 123 #[.val (.int p0), .val (.int p1), .val (.int p2), .val (.int (10 : Int32)), .val (.ref a_SET_POWER), .val (.int (182 : Int32)), .val (.int (p2 &&& (3 : Int32))), .val (.int q), .unset] [(.int (0 : Int32))])) _
          refine XS.istore X84.here hx rfl (hb hby at_123) rfl (l' := #[.val (.int p0), .val (.int p1), .val (.int p2), .val (.int (10 : Int32)), .val (.ref a_SET_POWER), .val (.int (182 : Int32)), .val (.int (p2 &&& (3 : Int32))), .val (.int q), .val (.int (0 : Int32))]) rfl ?_
          show Steps p.tables e below (T84.setTop (mkF m 125 #[.val (.int p0), .val (.int p1), .val (.int p2), .val (.int (10 : Int32)), .val (.ref a_SET_POWER), .val (.int (182 : Int32)), .val (.int (p2 &&& (3 : Int32))), .val (.int q), .val (.int (0 : Int32))] [])) _
          refine XS.aload X84.here hx rfl (hb hby at_125) rfl rfl ?_
          show Steps p.tables e below (T84.setTop (mkF m 127 #[.val (.int p0), .val (.int p1), .val (.int p2), .val (.int (10 : Int32)), .val (.ref a_SET_POWER), .val (.int (182 : Int32)), .val (.int (p2 &&& (3 : Int32))), .val (.int q), .val (.int (0 : Int32))] [(.ref a_SET_POWER)])) _
          refine XS.iload X84.here hx rfl (hb hby at_127) rfl ?_
          exact kt
        obtain ⟨cq87, kq87, q87a, q87b, q87c⟩ := isOf hZ eq84 E_SET_POWER
        obtain ⟨_, _, ⟨T87, L87, k87, n87⟩, -, X87, ⟨Lc87, hQ87, l87, y87, z87⟩, st87⟩ := X84.virtualBack hx (y := (⟨"com/example/tagwire/tagwire/bb/Command", "isAnsweredBy", "(I)Z"⟩ : MethodName)) (z := (⟨"com/example/tagwire/tagwire/bb/Command", "isAnsweredBy", "(I)Z"⟩ : MethodName)) hown (mvT hZ (hw _ (List.mem_of_getElem? (i := 11) rfl))) (mvT hZ (hw _ (List.mem_of_getElem? (i := 12) rfl))) (notFace_of_selects (args := #[]) (mvT hZ (hw _ (List.mem_of_getElem? (i := 14) rfl)))) (mvT hZ (hw _ (List.mem_of_getElem? (i := 14) rfl))) (mvT hZ (hw _ (List.mem_of_getElem? (i := 13) rfl))) (by decide) (backOf (W := 0) (rm3 l Z a0 hw [] a_SET_POWER q (182 : Int32) (182 : Int32) h0 n0 Z0 F_SET_POWER_code F_SET_POWER_answerCode) hZ (hw _ (List.mem_of_getElem? (i := 15) rfl)) (hw _ (List.mem_of_getElem? (i := 6) rfl)) (by decide) (by decide)) q87a q87c (g := (mkF m 129 #[.val (.int p0), .val (.int p1), .val (.int p2), .val (.int (10 : Int32)), .val (.ref a_SET_POWER), .val (.int (182 : Int32)), .val (.int (p2 &&& (3 : Int32))), .val (.int q), .val (.int (0 : Int32))] [(.int q), (.ref a_SET_POWER)])) rfl (by rw [hml]; rfl) (Steps.refl _) (argsL := [(.int q)]) (rest := []) (lenOf own_pd4 rfl) rfl (by show 2 * 0 + _ ≤ _; exact Nat.le_of_eq rfl) (hb hby at_129) (fun _ _ => ⟨rfl, eq84, (by decide : 0 + 0 ≤ _), (by decide : 0 + 0 ≤ _)⟩)
        dsimp only [Pt.U, Pt.locs, Pt.cells, Pt.slots] at X87 l87 y87 z87 st87 hQ87
        subst l87 y87 z87
        obtain ⟨hv87, hr87⟩ := hQ87
        rw [show own_ans q (182 : Int32) (182 : Int32) = (0 : Int32) from by unfold own_ans; rw [if_neg hc115_85, if_neg hc115_85]] at hv87
        have hQ87 := And.intro hv87 hr87
        obtain ⟨rfl, Nq87, eq87⟩ := hQ87
        have N87 := Fr.app N84 Nq87
        refine own_tr st87 ?_
        show own_Gl _ _ _ _ _ _ _ _ (T87.setTop (mkF m 132 #[.val (.int p0), .val (.int p1), .val (.int p2), .val (.int (10 : Int32)), .val (.ref a_SET_POWER), .val (.int (182 : Int32)), .val (.int (p2 &&& (3 : Int32))), .val (.int q), .val (.int (0 : Int32))] [(.int (0 : Int32))]))
        refine own_st (A' := T87.setTop (mkF m 142 #[.val (.int p0), .val (.int p1), .val (.int p2), .val (.int (10 : Int32)), .val (.ref a_SET_POWER), .val (.int (182 : Int32)), .val (.int (p2 &&& (3 : Int32))), .val (.int q), .val (.int (0 : Int32))] [(.int (1 : Int32))])) (fun tg kt => ?_) ?_
        · show Steps p.tables e below (T87.setTop (mkF m 132 #[.val (.int p0), .val (.int p1), .val (.int p2), .val (.int (10 : Int32)), .val (.ref a_SET_POWER), .val (.int (182 : Int32)), .val (.int (p2 &&& (3 : Int32))), .val (.int q), .val (.int (0 : Int32))] [(.int (0 : Int32))])) _
          refine XS.iload X87.here hx rfl (hb hby at_132) rfl ?_
          show Steps p.tables e below (T87.setTop (mkF m 134 #[.val (.int p0), .val (.int p1), .val (.int p2), .val (.int (10 : Int32)), .val (.ref a_SET_POWER), .val (.int (182 : Int32)), .val (.int (p2 &&& (3 : Int32))), .val (.int q), .val (.int (0 : Int32))] [(.int (0 : Int32)), (.int (0 : Int32))])) _
          refine XS.icmpNo X87.here hx rfl (hb hby at_134) rfl (teq ((by decide) : (0 : Int32) = (0 : Int32))).2 ?_
          show Steps p.tables e below (T87.setTop (mkF m 137 #[.val (.int p0), .val (.int p1), .val (.int p2), .val (.int (10 : Int32)), .val (.ref a_SET_POWER), .val (.int (182 : Int32)), .val (.int (p2 &&& (3 : Int32))), .val (.int q), .val (.int (0 : Int32))] [])) _
          refine XS.iconst X87.here hx rfl (hb hby at_137) ?_
          show Steps p.tables e below (T87.setTop (mkF m 138 #[.val (.int p0), .val (.int p1), .val (.int p2), .val (.int (10 : Int32)), .val (.ref a_SET_POWER), .val (.int (182 : Int32)), .val (.int (p2 &&& (3 : Int32))), .val (.int q), .val (.int (0 : Int32))] [(.int (1 : Int32))])) _
          refine XS.goto X87.here hx rfl (pc0 := 138) (pc' := 142) rfl (hb hby at_138) (by decide) (by decide) ?_
          exact kt
        refine own_ret X87 (v := some (.int (1 : Int32))) (fun h => by rw [Bd.returns] at h; cases h) hlk (by decide) (by decide) ?_ (fun fs hr => ?_)
        · show Q0 Z p0 p1 p2 a_MODULE_INFORMATION a_SET_REGION a_GET_REGION a_SELECT_PARAMETER a_SELECT_MODE a_SINGLE_POLLING a_MULTIPLE_POLLING a_STOP_MULTIPLE_POLLING a_READ a_WRITE a_SET_POWER a_GET_POWER h0 n0 (some (.int (1 : Int32))) T87.heap _
          rw [eq87]
          exact ⟨rfl, N87⟩
        · show Steps p.tables e below (T87.setTop (mkF m 142 #[.val (.int p0), .val (.int p1), .val (.int p2), .val (.int (10 : Int32)), .val (.ref a_SET_POWER), .val (.int (182 : Int32)), .val (.int (p2 &&& (3 : Int32))), .val (.int q), .val (.int (0 : Int32))] [(.int (1 : Int32))])) _
          exact retN X87 hx (t := .boolean) Bd.returns (by simp) (hb hby at_142) hr
    refine own_st (A' := T84.setTop (mkF m 27 #[.val (.int p0), .val (.int p1), .val (.int p2), .val (.int (10 : Int32)), .val (.ref a_SET_POWER), .val (.int (182 : Int32)), .val (.int (p2 &&& (3 : Int32))), .unset, .unset] [(.int (p2 &&& (3 : Int32)))])) (fun tg kt => ?_) ?_
    · show Steps p.tables e below (T84.setTop (mkF m 25 #[.val (.int p0), .val (.int p1), .val (.int p2), .val (.int (10 : Int32)), .val (.ref a_SET_POWER), .val (.int (182 : Int32)), .val (.int (p2 &&& (3 : Int32))), .unset, .unset] [])) _
      refine XS.iload X84.here hx rfl (hb hby at_25) rfl ?_
      exact kt
    by_cases hc27_88 : (p2 &&& (3 : Int32)) = (0 : Int32)
    · refine own_st (A' := T84.setTop (mkF m 82 #[.val (.int p0), .val (.int p1), .val (.int p2), .val (.int (10 : Int32)), .val (.ref a_SET_POWER), .val (.int (182 : Int32)), .val (.int (p2 &&& (3 : Int32))), .val (.int p1), .unset] [])) (fun tg kt => ?_) ?_
      · show Steps p.tables e below (T84.setTop (mkF m 27 #[.val (.int p0), .val (.int p1), .val (.int p2), .val (.int (10 : Int32)), .val (.ref a_SET_POWER), .val (.int (182 : Int32)), .val (.int (p2 &&& (3 : Int32))), .unset, .unset] [(.int (p2 &&& (3 : Int32)))])) _
        refine XS.ifNo X84.here hx rfl (hb hby at_27) rfl ((if0 _ _).trans (teq hc27_88).2) ?_
        show Steps p.tables e below (T84.setTop (mkF m 30 #[.val (.int p0), .val (.int p1), .val (.int p2), .val (.int (10 : Int32)), .val (.ref a_SET_POWER), .val (.int (182 : Int32)), .val (.int (p2 &&& (3 : Int32))), .unset, .unset] [])) _
        refine XS.iloadN X84.here hx rfl (hb hby at_30) rfl ?_
        show Steps p.tables e below (T84.setTop (mkF m 31 #[.val (.int p0), .val (.int p1), .val (.int p2), .val (.int (10 : Int32)), .val (.ref a_SET_POWER), .val (.int (182 : Int32)), .val (.int (p2 &&& (3 : Int32))), .unset, .unset] [(.int p1)])) _
        refine XS.istore X84.here hx rfl (hb hby at_31) rfl (l' := #[.val (.int p0), .val (.int p1), .val (.int p2), .val (.int (10 : Int32)), .val (.ref a_SET_POWER), .val (.int (182 : Int32)), .val (.int (p2 &&& (3 : Int32))), .val (.int p1), .unset]) rfl ?_
        show Steps p.tables e below (T84.setTop (mkF m 33 #[.val (.int p0), .val (.int p1), .val (.int p2), .val (.int (10 : Int32)), .val (.ref a_SET_POWER), .val (.int (182 : Int32)), .val (.int (p2 &&& (3 : Int32))), .val (.int p1), .unset] [])) _
        refine XS.goto X84.here hx rfl (pc0 := 33) (pc' := 82) rfl (hb hby at_33) (by decide) (by decide) ?_
        exact kt
      exact tl p1
    · refine own_st (A' := T84.setTop (mkF m 39 #[.val (.int p0), .val (.int p1), .val (.int p2), .val (.int (10 : Int32)), .val (.ref a_SET_POWER), .val (.int (182 : Int32)), .val (.int (p2 &&& (3 : Int32))), .unset, .unset] [(.int (1 : Int32)), (.int (p2 &&& (3 : Int32)))])) (fun tg kt => ?_) ?_
      · show Steps p.tables e below (T84.setTop (mkF m 27 #[.val (.int p0), .val (.int p1), .val (.int p2), .val (.int (10 : Int32)), .val (.ref a_SET_POWER), .val (.int (182 : Int32)), .val (.int (p2 &&& (3 : Int32))), .unset, .unset] [(.int (p2 &&& (3 : Int32)))])) _
        refine XS.ifYes X84.here hx rfl (pc0 := 27) (pc' := 36) rfl (hb hby at_27) rfl ((if0 _ _).trans (feq hc27_88).2) (by decide) (by decide) ?_
        show Steps p.tables e below (T84.setTop (mkF m 36 #[.val (.int p0), .val (.int p1), .val (.int p2), .val (.int (10 : Int32)), .val (.ref a_SET_POWER), .val (.int (182 : Int32)), .val (.int (p2 &&& (3 : Int32))), .unset, .unset] [])) _
        refine XS.iload X84.here hx rfl (hb hby at_36) rfl ?_
        show Steps p.tables e below (T84.setTop (mkF m 38 #[.val (.int p0), .val (.int p1), .val (.int p2), .val (.int (10 : Int32)), .val (.ref a_SET_POWER), .val (.int (182 : Int32)), .val (.int (p2 &&& (3 : Int32))), .unset, .unset] [(.int (p2 &&& (3 : Int32)))])) _
        refine XS.iconst X84.here hx rfl (hb hby at_38) ?_
        exact kt
      by_cases hc39_89 : (p2 &&& (3 : Int32)) = (1 : Int32)
      · refine own_st (A' := T84.setTop (mkF m 82 #[.val (.int p0), .val (.int p1), .val (.int p2), .val (.int (10 : Int32)), .val (.ref a_SET_POWER), .val (.int (182 : Int32)), .val (.int (p2 &&& (3 : Int32))), .val (.int (182 : Int32)), .unset] [])) (fun tg kt => ?_) ?_
        · show Steps p.tables e below (T84.setTop (mkF m 39 #[.val (.int p0), .val (.int p1), .val (.int p2), .val (.int (10 : Int32)), .val (.ref a_SET_POWER), .val (.int (182 : Int32)), .val (.int (p2 &&& (3 : Int32))), .unset, .unset] [(.int (1 : Int32)), (.int (p2 &&& (3 : Int32)))])) _
          refine XS.icmpNo X84.here hx rfl (hb hby at_39) rfl (teq hc39_89).2 ?_
          show Steps p.tables e below (T84.setTop (mkF m 42 #[.val (.int p0), .val (.int p1), .val (.int p2), .val (.int (10 : Int32)), .val (.ref a_SET_POWER), .val (.int (182 : Int32)), .val (.int (p2 &&& (3 : Int32))), .unset, .unset] [])) _
          refine XS.iload X84.here hx rfl (hb hby at_42) rfl ?_
          show Steps p.tables e below (T84.setTop (mkF m 44 #[.val (.int p0), .val (.int p1), .val (.int p2), .val (.int (10 : Int32)), .val (.ref a_SET_POWER), .val (.int (182 : Int32)), .val (.int (p2 &&& (3 : Int32))), .unset, .unset] [(.int (182 : Int32))])) _
          refine XS.istore X84.here hx rfl (hb hby at_44) rfl (l' := #[.val (.int p0), .val (.int p1), .val (.int p2), .val (.int (10 : Int32)), .val (.ref a_SET_POWER), .val (.int (182 : Int32)), .val (.int (p2 &&& (3 : Int32))), .val (.int (182 : Int32)), .unset]) rfl ?_
          show Steps p.tables e below (T84.setTop (mkF m 46 #[.val (.int p0), .val (.int p1), .val (.int p2), .val (.int (10 : Int32)), .val (.ref a_SET_POWER), .val (.int (182 : Int32)), .val (.int (p2 &&& (3 : Int32))), .val (.int (182 : Int32)), .unset] [])) _
          refine XS.goto X84.here hx rfl (pc0 := 46) (pc' := 82) rfl (hb hby at_46) (by decide) (by decide) ?_
          exact kt
        exact tl (182 : Int32)
      · refine own_st (A' := T84.setTop (mkF m 52 #[.val (.int p0), .val (.int p1), .val (.int p2), .val (.int (10 : Int32)), .val (.ref a_SET_POWER), .val (.int (182 : Int32)), .val (.int (p2 &&& (3 : Int32))), .unset, .unset] [(.int (2 : Int32)), (.int (p2 &&& (3 : Int32)))])) (fun tg kt => ?_) ?_
        · show Steps p.tables e below (T84.setTop (mkF m 39 #[.val (.int p0), .val (.int p1), .val (.int p2), .val (.int (10 : Int32)), .val (.ref a_SET_POWER), .val (.int (182 : Int32)), .val (.int (p2 &&& (3 : Int32))), .unset, .unset] [(.int (1 : Int32)), (.int (p2 &&& (3 : Int32)))])) _
          refine XS.icmpYes X84.here hx rfl (pc0 := 39) (pc' := 49) rfl (hb hby at_39) rfl (feq hc39_89).2 (by decide) (by decide) ?_
          show Steps p.tables e below (T84.setTop (mkF m 49 #[.val (.int p0), .val (.int p1), .val (.int p2), .val (.int (10 : Int32)), .val (.ref a_SET_POWER), .val (.int (182 : Int32)), .val (.int (p2 &&& (3 : Int32))), .unset, .unset] [])) _
          refine XS.iload X84.here hx rfl (hb hby at_49) rfl ?_
          show Steps p.tables e below (T84.setTop (mkF m 51 #[.val (.int p0), .val (.int p1), .val (.int p2), .val (.int (10 : Int32)), .val (.ref a_SET_POWER), .val (.int (182 : Int32)), .val (.int (p2 &&& (3 : Int32))), .unset, .unset] [(.int (p2 &&& (3 : Int32)))])) _
          refine XS.iconst X84.here hx rfl (hb hby at_51) ?_
          exact kt
        by_cases hc52_90 : (p2 &&& (3 : Int32)) = (2 : Int32)
        · refine own_st (A' := T84.setTop (mkF m 82 #[.val (.int p0), .val (.int p1), .val (.int p2), .val (.int (10 : Int32)), .val (.ref a_SET_POWER), .val (.int (182 : Int32)), .val (.int (p2 &&& (3 : Int32))), .val (.int (182 : Int32)), .unset] [])) (fun tg kt => ?_) ?_
          · show Steps p.tables e below (T84.setTop (mkF m 52 #[.val (.int p0), .val (.int p1), .val (.int p2), .val (.int (10 : Int32)), .val (.ref a_SET_POWER), .val (.int (182 : Int32)), .val (.int (p2 &&& (3 : Int32))), .unset, .unset] [(.int (2 : Int32)), (.int (p2 &&& (3 : Int32)))])) _
            refine XS.icmpNo X84.here hx rfl (hb hby at_52) rfl (teq hc52_90).2 ?_
            show Steps p.tables e below (T84.setTop (mkF m 55 #[.val (.int p0), .val (.int p1), .val (.int p2), .val (.int (10 : Int32)), .val (.ref a_SET_POWER), .val (.int (182 : Int32)), .val (.int (p2 &&& (3 : Int32))), .unset, .unset] [])) _
            refine XS.iloadN X84.here hx rfl (hb hby at_55) rfl ?_
            show Steps p.tables e below (T84.setTop (mkF m 56 #[.val (.int p0), .val (.int p1), .val (.int p2), .val (.int (10 : Int32)), .val (.ref a_SET_POWER), .val (.int (182 : Int32)), .val (.int (p2 &&& (3 : Int32))), .unset, .unset] [(.int (10 : Int32))])) _
            refine XS.iconst X84.here hx rfl (hb hby at_56) ?_
            show Steps p.tables e below (T84.setTop (mkF m 57 #[.val (.int p0), .val (.int p1), .val (.int p2), .val (.int (10 : Int32)), .val (.ref a_SET_POWER), .val (.int (182 : Int32)), .val (.int (p2 &&& (3 : Int32))), .unset, .unset] [(.int (4 : Int32)), (.int (10 : Int32))])) _
            refine XS.icmpYes X84.here hx rfl (pc0 := 57) (pc' := 65) rfl (hb hby at_57) rfl (feq ((by decide) : ¬ ((10 : Int32) = (4 : Int32)))).2 (by decide) (by decide) ?_
            show Steps p.tables e below (T84.setTop (mkF m 65 #[.val (.int p0), .val (.int p1), .val (.int p2), .val (.int (10 : Int32)), .val (.ref a_SET_POWER), .val (.int (182 : Int32)), .val (.int (p2 &&& (3 : Int32))), .unset, .unset] [])) _
            refine XS.iload X84.here hx rfl (hb hby at_65) rfl ?_
            show Steps p.tables e below (T84.setTop (mkF m 67 #[.val (.int p0), .val (.int p1), .val (.int p2), .val (.int (10 : Int32)), .val (.ref a_SET_POWER), .val (.int (182 : Int32)), .val (.int (p2 &&& (3 : Int32))), .unset, .unset] [(.int (182 : Int32))])) _
            refine XS.istore X84.here hx rfl (hb hby at_67) rfl (l' := #[.val (.int p0), .val (.int p1), .val (.int p2), .val (.int (10 : Int32)), .val (.ref a_SET_POWER), .val (.int (182 : Int32)), .val (.int (p2 &&& (3 : Int32))), .val (.int (182 : Int32)), .unset]) rfl ?_
            show Steps p.tables e below (T84.setTop (mkF m 69 #[.val (.int p0), .val (.int p1), .val (.int p2), .val (.int (10 : Int32)), .val (.ref a_SET_POWER), .val (.int (182 : Int32)), .val (.int (p2 &&& (3 : Int32))), .val (.int (182 : Int32)), .unset] [])) _
            refine XS.goto X84.here hx rfl (pc0 := 69) (pc' := 82) rfl (hb hby at_69) (by decide) (by decide) ?_
            exact kt
          exact tl (182 : Int32)
        · refine own_st (A' := T84.setTop (mkF m 82 #[.val (.int p0), .val (.int p1), .val (.int p2), .val (.int (10 : Int32)), .val (.ref a_SET_POWER), .val (.int (182 : Int32)), .val (.int (p2 &&& (3 : Int32))), .val (.int ((182 : Int32) + ((p1 &&& (3 : Int32)) - (2 : Int32)))), .unset] [])) (fun tg kt => ?_) ?_
          · show Steps p.tables e below (T84.setTop (mkF m 52 #[.val (.int p0), .val (.int p1), .val (.int p2), .val (.int (10 : Int32)), .val (.ref a_SET_POWER), .val (.int (182 : Int32)), .val (.int (p2 &&& (3 : Int32))), .unset, .unset] [(.int (2 : Int32)), (.int (p2 &&& (3 : Int32)))])) _
            refine XS.icmpYes X84.here hx rfl (pc0 := 52) (pc' := 72) rfl (hb hby at_52) rfl (feq hc52_90).2 (by decide) (by decide) ?_
            show Steps p.tables e below (T84.setTop (mkF m 72 #[.val (.int p0), .val (.int p1), .val (.int p2), .val (.int (10 : Int32)), .val (.ref a_SET_POWER), .val (.int (182 : Int32)), .val (.int (p2 &&& (3 : Int32))), .unset, .unset] [])) _
            refine XS.iload X84.here hx rfl (hb hby at_72) rfl ?_
            show Steps p.tables e below (T84.setTop (mkF m 74 #[.val (.int p0), .val (.int p1), .val (.int p2), .val (.int (10 : Int32)), .val (.ref a_SET_POWER), .val (.int (182 : Int32)), .val (.int (p2 &&& (3 : Int32))), .unset, .unset] [(.int (182 : Int32))])) _
            refine XS.iloadN X84.here hx rfl (hb hby at_74) rfl ?_
            show Steps p.tables e below (T84.setTop (mkF m 75 #[.val (.int p0), .val (.int p1), .val (.int p2), .val (.int (10 : Int32)), .val (.ref a_SET_POWER), .val (.int (182 : Int32)), .val (.int (p2 &&& (3 : Int32))), .unset, .unset] [(.int p1), (.int (182 : Int32))])) _
            refine XS.iconst X84.here hx rfl (hb hby at_75) ?_
            show Steps p.tables e below (T84.setTop (mkF m 76 #[.val (.int p0), .val (.int p1), .val (.int p2), .val (.int (10 : Int32)), .val (.ref a_SET_POWER), .val (.int (182 : Int32)), .val (.int (p2 &&& (3 : Int32))), .unset, .unset] [(.int (3 : Int32)), (.int p1), (.int (182 : Int32))])) _
            refine XS.iand X84.here hx rfl (hb hby at_76) rfl ?_
            show Steps p.tables e below (T84.setTop (mkF m 77 #[.val (.int p0), .val (.int p1), .val (.int p2), .val (.int (10 : Int32)), .val (.ref a_SET_POWER), .val (.int (182 : Int32)), .val (.int (p2 &&& (3 : Int32))), .unset, .unset] [(.int (p1 &&& (3 : Int32))), (.int (182 : Int32))])) _
            refine XS.iconst X84.here hx rfl (hb hby at_77) ?_
            show Steps p.tables e below (T84.setTop (mkF m 78 #[.val (.int p0), .val (.int p1), .val (.int p2), .val (.int (10 : Int32)), .val (.ref a_SET_POWER), .val (.int (182 : Int32)), .val (.int (p2 &&& (3 : Int32))), .unset, .unset] [(.int (2 : Int32)), (.int (p1 &&& (3 : Int32))), (.int (182 : Int32))])) _
            refine XS.isub X84.here hx rfl (hb hby at_78) rfl ?_
            show Steps p.tables e below (T84.setTop (mkF m 79 #[.val (.int p0), .val (.int p1), .val (.int p2), .val (.int (10 : Int32)), .val (.ref a_SET_POWER), .val (.int (182 : Int32)), .val (.int (p2 &&& (3 : Int32))), .unset, .unset] [(.int ((p1 &&& (3 : Int32)) - (2 : Int32))), (.int (182 : Int32))])) _
            refine XS.iadd X84.here hx rfl (hb hby at_79) rfl ?_
            show Steps p.tables e below (T84.setTop (mkF m 80 #[.val (.int p0), .val (.int p1), .val (.int p2), .val (.int (10 : Int32)), .val (.ref a_SET_POWER), .val (.int (182 : Int32)), .val (.int (p2 &&& (3 : Int32))), .unset, .unset] [(.int ((182 : Int32) + ((p1 &&& (3 : Int32)) - (2 : Int32))))])) _
            refine XS.istore X84.here hx rfl (hb hby at_80) rfl (l' := #[.val (.int p0), .val (.int p1), .val (.int p2), .val (.int (10 : Int32)), .val (.ref a_SET_POWER), .val (.int (182 : Int32)), .val (.int (p2 &&& (3 : Int32))), .val (.int ((182 : Int32) + ((p1 &&& (3 : Int32)) - (2 : Int32)))), .unset]) rfl ?_
            exact kt
          exact tl ((182 : Int32) + ((p1 &&& (3 : Int32)) - (2 : Int32)))
  · show own_Gl _ _ _ _ _ _ _ _ (s₁.setTop (mkF m 7 #[.val (.int p0), .val (.int p1), .val (.int p2), .unset, .unset, .unset, .unset, .unset, .unset] [(.int (11 : Int32))]))
    refine own_st (A' := s₁.setTop (mkF m 9 #[.val (.int p0), .val (.int p1), .val (.int p2), .val (.int (11 : Int32)), .unset, .unset, .unset, .unset, .unset] [(.int (11 : Int32))])) (fun tg kt => ?_) ?_
    · show Steps p.tables e below (s₁.setTop (mkF m 7 #[.val (.int p0), .val (.int p1), .val (.int p2), .unset, .unset, .unset, .unset, .unset, .unset] [(.int (11 : Int32))])) _
      refine XS.istoreN X0.here hx rfl (hb hby at_7) rfl (l' := #[.val (.int p0), .val (.int p1), .val (.int p2), .val (.int (11 : Int32)), .unset, .unset, .unset, .unset, .unset]) rfl ?_
      show Steps p.tables e below (s₁.setTop (mkF m 8 #[.val (.int p0), .val (.int p1), .val (.int p2), .val (.int (11 : Int32)), .unset, .unset, .unset, .unset, .unset] [])) _
      refine XS.iloadN X0.here hx rfl (hb hby at_8) rfl ?_
      exact kt
    obtain ⟨_, _, ⟨T91, L91, k91, n91⟩, -, X91, ⟨Lc91, hQ91, l91, y91, z91⟩, st91⟩ := Jvm.LawKit.callS X0 hx (y := (⟨"com/example/tagwire/tagwire/bb/CommandIsAnsweredByPinLaw", "pick", "(I)Lcom/example/tagwire/tagwire/bb/Command;"⟩ : MethodName)) hown (mvT hZ (hw _ (List.mem_of_getElem? (i := 1) rfl))) (mvT hZ (hw _ (List.mem_of_getElem? (i := 2) rfl))) (mvT hZ (hw _ (List.mem_of_getElem? (i := 3) rfl))) (mvT hZ (hw _ (List.mem_of_getElem? (i := 4) rfl))) (by decide) (backOf (W := 0) (rm1 l Z a0 hw [] (11 : Int32) a_MODULE_INFORMATION a_SET_REGION a_GET_REGION a_SELECT_PARAMETER a_SELECT_MODE a_SINGLE_POLLING a_MULTIPLE_POLLING a_STOP_MULTIPLE_POLLING a_READ a_WRITE a_SET_POWER a_GET_POWER h0 n0 Z0 S_MODULE_INFORMATION S_SET_REGION S_GET_REGION S_SELECT_PARAMETER S_SELECT_MODE S_SINGLE_POLLING S_MULTIPLE_POLLING S_STOP_MULTIPLE_POLLING S_READ S_WRITE S_SET_POWER S_GET_POWER) hZ (hw _ (List.mem_of_getElem? (i := 4) rfl)) (hw _ (List.mem_of_getElem? (i := 3) rfl)) (by decide) (by decide)) (g := (mkF m 9 #[.val (.int p0), .val (.int p1), .val (.int p2), .val (.int (11 : Int32)), .unset, .unset, .unset, .unset, .unset] [(.int (11 : Int32))])) rfl (by rw [hml]; rfl) (argsL := [(.int (11 : Int32))]) (rest := []) (lenOf own_pd2 rfl) rfl (by show 2 * 0 + _ ≤ _; exact Nat.le_of_eq rfl) (hb hby at_9) (fun _ _ => ⟨rfl, e0, (by decide : 0 + 0 ≤ _), (by decide : 0 + 0 ≤ _)⟩)
    dsimp only [Pt.U, Pt.locs, Pt.cells, Pt.slots] at X91 l91 y91 z91 st91 hQ91
    subst l91 y91 z91
    obtain ⟨hv91, hr91⟩ := hQ91
    rw [show own_pick1 (11 : Int32) a_MODULE_INFORMATION a_SET_REGION a_GET_REGION a_SELECT_PARAMETER a_SELECT_MODE a_SINGLE_POLLING a_MULTIPLE_POLLING a_STOP_MULTIPLE_POLLING a_READ a_WRITE a_SET_POWER a_GET_POWER = a_GET_POWER from rfl] at hv91
    have hQ91 := And.intro hv91 hr91
    obtain ⟨rfl, Nq91, eq91⟩ := hQ91
    have N91 := Fr.app N0 Nq91
    refine own_st st91 ?_
    show own_Gl _ _ _ _ _ _ _ _ (T91.setTop (mkF m 12 #[.val (.int p0), .val (.int p1), .val (.int p2), .val (.int (11 : Int32)), .unset, .unset, .unset, .unset, .unset] [(.ref a_GET_POWER)]))
    refine own_st (A' := T91.setTop (mkF m 15 #[.val (.int p0), .val (.int p1), .val (.int p2), .val (.int (11 : Int32)), .val (.ref a_GET_POWER), .unset, .unset, .unset, .unset] [(.int (11 : Int32))])) (fun tg kt => ?_) ?_
    · show Steps p.tables e below (T91.setTop (mkF m 12 #[.val (.int p0), .val (.int p1), .val (.int p2), .val (.int (11 : Int32)), .unset, .unset, .unset, .unset, .unset] [(.ref a_GET_POWER)])) _
      refine XS.astore X91.here hx rfl (hb hby at_12) rfl rfl (l' := #[.val (.int p0), .val (.int p1), .val (.int p2), .val (.int (11 : Int32)), .val (.ref a_GET_POWER), .unset, .unset, .unset, .unset]) rfl ?_
      show Steps p.tables e below (T91.setTop (mkF m 14 #[.val (.int p0), .val (.int p1), .val (.int p2), .val (.int (11 : Int32)), .val (.ref a_GET_POWER), .unset, .unset, .unset, .unset] [])) _
      refine XS.iloadN X91.here hx rfl (hb hby at_14) rfl ?_
      exact kt
    obtain ⟨_, _, ⟨T92, L92, k92, n92⟩, -, X92, ⟨Lc92, hQ92, l92, y92, z92⟩, st92⟩ := Jvm.LawKit.callS X91 hx (y := (⟨"com/example/tagwire/tagwire/bb/CommandIsAnsweredByPinLaw", "codeOf", "(I)I"⟩ : MethodName)) hown (mvT hZ (hw _ (List.mem_of_getElem? (i := 8) rfl))) (mvT hZ (hw _ (List.mem_of_getElem? (i := 9) rfl))) (mvT hZ (hw _ (List.mem_of_getElem? (i := 3) rfl))) (mvT hZ (hw _ (List.mem_of_getElem? (i := 10) rfl))) (by decide) (backOf (W := 0) (rm2 l Z a0 hw [] (11 : Int32) h0 n0 Z0) hZ (hw _ (List.mem_of_getElem? (i := 10) rfl)) (hw _ (List.mem_of_getElem? (i := 3) rfl)) (by decide) (by decide)) (g := (mkF m 15 #[.val (.int p0), .val (.int p1), .val (.int p2), .val (.int (11 : Int32)), .val (.ref a_GET_POWER), .unset, .unset, .unset, .unset] [(.int (11 : Int32))])) rfl (by rw [hml]; rfl) (argsL := [(.int (11 : Int32))]) (rest := []) (lenOf own_pd3 rfl) rfl (by show 2 * 0 + _ ≤ _; exact Nat.le_of_eq rfl) (hb hby at_15) (fun _ _ => ⟨rfl, eq91, (by decide : 0 + 0 ≤ _), (by decide : 0 + 0 ≤ _)⟩)
    dsimp only [Pt.U, Pt.locs, Pt.cells, Pt.slots] at X92 l92 y92 z92 st92 hQ92
    subst l92 y92 z92
    obtain ⟨hv92, hr92⟩ := hQ92
    rw [show own_code (11 : Int32) = (183 : Int32) from rfl] at hv92
    have hQ92 := And.intro hv92 hr92
    obtain ⟨rfl, Nq92, eq92⟩ := hQ92
    have N92 := Fr.app N91 Nq92
    refine own_st st92 ?_
    show own_Gl _ _ _ _ _ _ _ _ (T92.setTop (mkF m 18 #[.val (.int p0), .val (.int p1), .val (.int p2), .val (.int (11 : Int32)), .val (.ref a_GET_POWER), .unset, .unset, .unset, .unset] [(.int (183 : Int32))]))
    refine own_st (A' := T92.setTop (mkF m 25 #[.val (.int p0), .val (.int p1), .val (.int p2), .val (.int (11 : Int32)), .val (.ref a_GET_POWER), .val (.int (183 : Int32)), .val (.int (p2 &&& (3 : Int32))), .unset, .unset] [])) (fun tg kt => ?_) ?_
    · show Steps p.tables e below (T92.setTop (mkF m 18 #[.val (.int p0), .val (.int p1), .val (.int p2), .val (.int (11 : Int32)), .val (.ref a_GET_POWER), .unset, .unset, .unset, .unset] [(.int (183 : Int32))])) _
      refine XS.istore X92.here hx rfl (hb hby at_18) rfl (l' := #[.val (.int p0), .val (.int p1), .val (.int p2), .val (.int (11 : Int32)), .val (.ref a_GET_POWER), .val (.int (183 : Int32)), .unset, .unset, .unset]) rfl ?_
      show Steps p.tables e below (T92.setTop (mkF m 20 #[.val (.int p0), .val (.int p1), .val (.int p2), .val (.int (11 : Int32)), .val (.ref a_GET_POWER), .val (.int (183 : Int32)), .unset, .unset, .unset] [])) _
      refine XS.iloadN X92.here hx rfl (hb hby at_20) rfl ?_
      show Steps p.tables e below (T92.setTop (mkF m 21 #[.val (.int p0), .val (.int p1), .val (.int p2), .val (.int (11 : Int32)), .val (.ref a_GET_POWER), .val (.int (183 : Int32)), .unset, .unset, .unset] [(.int p2)])) _
      refine XS.iconst X92.here hx rfl (hb hby at_21) ?_
      show Steps p.tables e below (T92.setTop (mkF m 22 #[.val (.int p0), .val (.int p1), .val (.int p2), .val (.int (11 : Int32)), .val (.ref a_GET_POWER), .val (.int (183 : Int32)), .unset, .unset, .unset] [(.int (3 : Int32)), (.int p2)])) _
      refine XS.iand X92.here hx rfl (hb hby at_22) rfl ?_
      show Steps p.tables e below (T92.setTop (mkF m 23 #[.val (.int p0), .val (.int p1), .val (.int p2), .val (.int (11 : Int32)), .val (.ref a_GET_POWER), .val (.int (183 : Int32)), .unset, .unset, .unset] [(.int (p2 &&& (3 : Int32)))])) _
      refine XS.istore X92.here hx rfl (hb hby at_23) rfl (l' := #[.val (.int p0), .val (.int p1), .val (.int p2), .val (.int (11 : Int32)), .val (.ref a_GET_POWER), .val (.int (183 : Int32)), .val (.int (p2 &&& (3 : Int32))), .unset, .unset]) rfl ?_
      exact kt
    have tl : ∀ (q : Int32), own_Gl FrameEnd p e below s (Q0 Z p0 p1 p2 a_MODULE_INFORMATION a_SET_REGION a_GET_REGION a_SELECT_PARAMETER a_SELECT_MODE a_SINGLE_POLLING a_MULTIPLE_POLLING a_STOP_MULTIPLE_POLLING a_READ a_WRITE a_SET_POWER a_GET_POWER h0 n0) room_1.cells room_1.slots (T92.setTop (mkF m 82 #[.val (.int p0), .val (.int p1), .val (.int p2), .val (.int (11 : Int32)), .val (.ref a_GET_POWER), .val (.int (183 : Int32)), .val (.int (p2 &&& (3 : Int32))), .val (.int q), .unset] [])) := by
      intro q
      refine own_st (A' := T92.setTop (mkF m 115 #[.val (.int p0), .val (.int p1), .val (.int p2), .val (.int (11 : Int32)), .val (.ref a_GET_POWER), .val (.int (183 : Int32)), .val (.int (p2 &&& (3 : Int32))), .val (.int q), .unset] [(.int (183 : Int32)), (.int q)])) (fun tg kt => ?_) ?_
      · show Steps p.tables e below (T92.setTop (mkF m 82 #[.val (.int p0), .val (.int p1), .val (.int p2), .val (.int (11 : Int32)), .val (.ref a_GET_POWER), .val (.int (183 : Int32)), .val (.int (p2 &&& (3 : Int32))), .val (.int q), .unset] [])) _
        refine XS.iloadN X92.here hx rfl (hb hby at_82) rfl ?_
        show Steps p.tables e below (T92.setTop (mkF m 83 #[.val (.int p0), .val (.int p1), .val (.int p2), .val (.int (11 : Int32)), .val (.ref a_GET_POWER), .val (.int (183 : Int32)), .val (.int (p2 &&& (3 : Int32))), .val (.int q), .unset] [(.int (11 : Int32))])) _
        refine XS.iconst X92.here hx rfl (hb hby at_83) ?_
        show Steps p.tables e below (T92.setTop (mkF m 84 #[.val (.int p0), .val (.int p1), .val (.int p2), .val (.int (11 : Int32)), .val (.ref a_GET_POWER), .val (.int (183 : Int32)), .val (.int (p2 &&& (3 : Int32))), .val (.int q), .unset] [(.int (4 : Int32)), (.int (11 : Int32))])) _
        refine XS.icmpYes X92.here hx rfl (pc0 := 84) (pc' := 111) rfl (hb hby at_84) rfl (feq ((by decide) : ¬ ((11 : Int32) = (4 : Int32)))).2 (by decide) (by decide) ?_
        show Steps p.tables e below (T92.setTop (mkF m 111 #[.val (.int p0), .val (.int p1), .val (.int p2), .val (.int (11 : Int32)), .val (.ref a_GET_POWER), .val (.int (183 : Int32)), .val (.int (p2 &&& (3 : Int32))), .val (.int q), .unset] [])) _
        refine XS.iload X92.here hx rfl (hb hby at_111) rfl ?_
        show Steps p.tables e below (T92.setTop (mkF m 113 #[.val (.int p0), .val (.int p1), .val (.int p2), .val (.int (11 : Int32)), .val (.ref a_GET_POWER), .val (.int (183 : Int32)), .val (.int (p2 &&& (3 : Int32))), .val (.int q), .unset] [(.int q)])) _
        refine XS.iload X92.here hx rfl (hb hby at_113) rfl ?_
        exact kt
      by_cases hc115_93 : q = (183 : Int32)
      · refine own_st (A' := T92.setTop (mkF m 129 #[.val (.int p0), .val (.int p1), .val (.int p2), .val (.int (11 : Int32)), .val (.ref a_GET_POWER), .val (.int (183 : Int32)), .val (.int (p2 &&& (3 : Int32))), .val (.int q), .val (.int (1 : Int32))] [(.int q), (.ref a_GET_POWER)])) (fun tg kt => ?_) ?_
        · show Steps p.tables e below (T92.setTop (mkF m 115 #[.val (.int p0), .val (.int p1), .val (.int p2), .val (.int (11 : Int32)), .val (.ref a_GET_POWER), .val (.int (183 : Int32)), .val (.int (p2 &&& (3 : Int32))), .val (.int q), .unset] [(.int (183 : Int32)), (.int q)])) _
          refine XS.icmpNo X92.here hx rfl (hb hby at_115) rfl (teq hc115_93).2 ?_
          show Steps p.tables e below (T92.setTop (mkF m 118 #[.val (.int p0), .val (.int p1), .val (.int p2), .val (.int (11 : Int32)), .val (.ref a_GET_POWER), .val (.int (183 : Int32)), .val (.int (p2 &&& (3 : Int32))), .val (.int q), .unset] [])) _
          refine XS.iconst X92.here hx rfl (hb hby at_118) ?_
          show Steps p.tables e below (T92.setTop (mkF m 119 #[.val (.int p0), .val (.int p1), .val (.int p2), .val (.int (11 : Int32)), .val (.ref a_GET_POWER), .val (.int (183 : Int32)), .val (.int (p2 &&& (3 : Int32))), .val (.int q), .unset] [(.int (1 : Int32))])) _
          refine XS.goto X92.here hx rfl (pc0 := 119) (pc' := 123) rfl (hb hby at_119) (by decide) (by decide) ?_
          show Steps p.tables e below (T92.setTop (mkF m 123 #[.val (.int p0), .val (.int p1), .val (.int p2), .val (.int (11 : Int32)), .val (.ref a_GET_POWER), .val (.int (183 : Int32)), .val (.int (p2 &&& (3 : Int32))), .val (.int q), .unset] [(.int (1 : Int32))])) _
          refine XS.istore X92.here hx rfl (hb hby at_123) rfl (l' := #[.val (.int p0), .val (.int p1), .val (.int p2), .val (.int (11 : Int32)), .val (.ref a_GET_POWER), .val (.int (183 : Int32)), .val (.int (p2 &&& (3 : Int32))), .val (.int q), .val (.int (1 : Int32))]) rfl ?_
          show Steps p.tables e below (T92.setTop (mkF m 125 #[.val (.int p0), .val (.int p1), .val (.int p2), .val (.int (11 : Int32)), .val (.ref a_GET_POWER), .val (.int (183 : Int32)), .val (.int (p2 &&& (3 : Int32))), .val (.int q), .val (.int (1 : Int32))] [])) _
          refine XS.aload X92.here hx rfl (hb hby at_125) rfl rfl ?_
          show Steps p.tables e below (T92.setTop (mkF m 127 #[.val (.int p0), .val (.int p1), .val (.int p2), .val (.int (11 : Int32)), .val (.ref a_GET_POWER), .val (.int (183 : Int32)), .val (.int (p2 &&& (3 : Int32))), .val (.int q), .val (.int (1 : Int32))] [(.ref a_GET_POWER)])) _
          refine XS.iload X92.here hx rfl (hb hby at_127) rfl ?_
          exact kt
        obtain ⟨cq94, kq94, q94a, q94b, q94c⟩ := isOf hZ eq92 E_GET_POWER
        obtain ⟨_, _, ⟨T94, L94, k94, n94⟩, -, X94, ⟨Lc94, hQ94, l94, y94, z94⟩, st94⟩ := X92.virtualBack hx (y := (⟨"com/example/tagwire/tagwire/bb/Command", "isAnsweredBy", "(I)Z"⟩ : MethodName)) (z := (⟨"com/example/tagwire/tagwire/bb/Command", "isAnsweredBy", "(I)Z"⟩ : MethodName)) hown (mvT hZ (hw _ (List.mem_of_getElem? (i := 11) rfl))) (mvT hZ (hw _ (List.mem_of_getElem? (i := 12) rfl))) (notFace_of_selects (args := #[]) (mvT hZ (hw _ (List.mem_of_getElem? (i := 14) rfl)))) (mvT hZ (hw _ (List.mem_of_getElem? (i := 14) rfl))) (mvT hZ (hw _ (List.mem_of_getElem? (i := 13) rfl))) (by decide) (backOf (W := 0) (rm3 l Z a0 hw [] a_GET_POWER q (183 : Int32) (183 : Int32) h0 n0 Z0 F_GET_POWER_code F_GET_POWER_answerCode) hZ (hw _ (List.mem_of_getElem? (i := 15) rfl)) (hw _ (List.mem_of_getElem? (i := 6) rfl)) (by decide) (by decide)) q94a q94c (g := (mkF m 129 #[.val (.int p0), .val (.int p1), .val (.int p2), .val (.int (11 : Int32)), .val (.ref a_GET_POWER), .val (.int (183 : Int32)), .val (.int (p2 &&& (3 : Int32))), .val (.int q), .val (.int (1 : Int32))] [(.int q), (.ref a_GET_POWER)])) rfl (by rw [hml]; rfl) (Steps.refl _) (argsL := [(.int q)]) (rest := []) (lenOf own_pd4 rfl) rfl (by show 2 * 0 + _ ≤ _; exact Nat.le_of_eq rfl) (hb hby at_129) (fun _ _ => ⟨rfl, eq92, (by decide : 0 + 0 ≤ _), (by decide : 0 + 0 ≤ _)⟩)
        dsimp only [Pt.U, Pt.locs, Pt.cells, Pt.slots] at X94 l94 y94 z94 st94 hQ94
        subst l94 y94 z94
        obtain ⟨hv94, hr94⟩ := hQ94
        rw [show own_ans q (183 : Int32) (183 : Int32) = (1 : Int32) from by unfold own_ans; rw [if_pos hc115_93]] at hv94
        have hQ94 := And.intro hv94 hr94
        obtain ⟨rfl, Nq94, eq94⟩ := hQ94
        have N94 := Fr.app N92 Nq94
        refine own_tr st94 ?_
        show own_Gl _ _ _ _ _ _ _ _ (T94.setTop (mkF m 132 #[.val (.int p0), .val (.int p1), .val (.int p2), .val (.int (11 : Int32)), .val (.ref a_GET_POWER), .val (.int (183 : Int32)), .val (.int (p2 &&& (3 : Int32))), .val (.int q), .val (.int (1 : Int32))] [(.int (1 : Int32))]))
        refine own_st (A' := T94.setTop (mkF m 142 #[.val (.int p0), .val (.int p1), .val (.int p2), .val (.int (11 : Int32)), .val (.ref a_GET_POWER), .val (.int (183 : Int32)), .val (.int (p2 &&& (3 : Int32))), .val (.int q), .val (.int (1 : Int32))] [(.int (1 : Int32))])) (fun tg kt => ?_) ?_
        · show Steps p.tables e below (T94.setTop (mkF m 132 #[.val (.int p0), .val (.int p1), .val (.int p2), .val (.int (11 : Int32)), .val (.ref a_GET_POWER), .val (.int (183 : Int32)), .val (.int (p2 &&& (3 : Int32))), .val (.int q), .val (.int (1 : Int32))] [(.int (1 : Int32))])) _
          refine XS.iload X94.here hx rfl (hb hby at_132) rfl ?_
          show Steps p.tables e below (T94.setTop (mkF m 134 #[.val (.int p0), .val (.int p1), .val (.int p2), .val (.int (11 : Int32)), .val (.ref a_GET_POWER), .val (.int (183 : Int32)), .val (.int (p2 &&& (3 : Int32))), .val (.int q), .val (.int (1 : Int32))] [(.int (1 : Int32)), (.int (1 : Int32))])) _
          refine XS.icmpNo X94.here hx rfl (hb hby at_134) rfl (teq ((by decide) : (1 : Int32) = (1 : Int32))).2 ?_
          show Steps p.tables e below (T94.setTop (mkF m 137 #[.val (.int p0), .val (.int p1), .val (.int p2), .val (.int (11 : Int32)), .val (.ref a_GET_POWER), .val (.int (183 : Int32)), .val (.int (p2 &&& (3 : Int32))), .val (.int q), .val (.int (1 : Int32))] [])) _
          refine XS.iconst X94.here hx rfl (hb hby at_137) ?_
          show Steps p.tables e below (T94.setTop (mkF m 138 #[.val (.int p0), .val (.int p1), .val (.int p2), .val (.int (11 : Int32)), .val (.ref a_GET_POWER), .val (.int (183 : Int32)), .val (.int (p2 &&& (3 : Int32))), .val (.int q), .val (.int (1 : Int32))] [(.int (1 : Int32))])) _
          refine XS.goto X94.here hx rfl (pc0 := 138) (pc' := 142) rfl (hb hby at_138) (by decide) (by decide) ?_
          exact kt
        refine own_ret X94 (v := some (.int (1 : Int32))) (fun h => by rw [Bd.returns] at h; cases h) hlk (by decide) (by decide) ?_ (fun fs hr => ?_)
        · show Q0 Z p0 p1 p2 a_MODULE_INFORMATION a_SET_REGION a_GET_REGION a_SELECT_PARAMETER a_SELECT_MODE a_SINGLE_POLLING a_MULTIPLE_POLLING a_STOP_MULTIPLE_POLLING a_READ a_WRITE a_SET_POWER a_GET_POWER h0 n0 (some (.int (1 : Int32))) T94.heap _
          rw [eq94]
          exact ⟨rfl, N94⟩
        · show Steps p.tables e below (T94.setTop (mkF m 142 #[.val (.int p0), .val (.int p1), .val (.int p2), .val (.int (11 : Int32)), .val (.ref a_GET_POWER), .val (.int (183 : Int32)), .val (.int (p2 &&& (3 : Int32))), .val (.int q), .val (.int (1 : Int32))] [(.int (1 : Int32))])) _
          exact retN X94 hx (t := .boolean) Bd.returns (by simp) (hb hby at_142) hr
      · refine own_st (A' := T92.setTop (mkF m 129 #[.val (.int p0), .val (.int p1), .val (.int p2), .val (.int (11 : Int32)), .val (.ref a_GET_POWER), .val (.int (183 : Int32)), .val (.int (p2 &&& (3 : Int32))), .val (.int q), .val (.int (0 : Int32))] [(.int q), (.ref a_GET_POWER)])) (fun tg kt => ?_) ?_
        · show Steps p.tables e below (T92.setTop (mkF m 115 #[.val (.int p0), .val (.int p1), .val (.int p2), .val (.int (11 : Int32)), .val (.ref a_GET_POWER), .val (.int (183 : Int32)), .val (.int (p2 &&& (3 : Int32))), .val (.int q), .unset] [(.int (183 : Int32)), (.int q)])) _
          refine XS.icmpYes X92.here hx rfl (pc0 := 115) (pc' := 122) rfl (hb hby at_115) rfl (feq hc115_93).2 (by decide) (by decide) ?_
          show Steps p.tables e below (T92.setTop (mkF m 122 #[.val (.int p0), .val (.int p1), .val (.int p2), .val (.int (11 : Int32)), .val (.ref a_GET_POWER), .val (.int (183 : Int32)), .val (.int (p2 &&& (3 : Int32))), .val (.int q), .unset] [])) _
          refine XS.iconst X92.here hx rfl (hb hby at_122) ?_
          show Steps p.tables e below (T92.setTop (mkF m 123 #[.val (.int p0), .val (.int p1), .val (.int p2), .val (.int (11 : Int32)), .val (.ref a_GET_POWER), .val (.int (183 : Int32)), .val (.int (p2 &&& (3 : Int32))), .val (.int q), .unset] [(.int (0 : Int32))])) _
          refine XS.istore X92.here hx rfl (hb hby at_123) rfl (l' := #[.val (.int p0), .val (.int p1), .val (.int p2), .val (.int (11 : Int32)), .val (.ref a_GET_POWER), .val (.int (183 : Int32)), .val (.int (p2 &&& (3 : Int32))), .val (.int q), .val (.int (0 : Int32))]) rfl ?_
          show Steps p.tables e below (T92.setTop (mkF m 125 #[.val (.int p0), .val (.int p1), .val (.int p2), .val (.int (11 : Int32)), .val (.ref a_GET_POWER), .val (.int (183 : Int32)), .val (.int (p2 &&& (3 : Int32))), .val (.int q), .val (.int (0 : Int32))] [])) _
          refine XS.aload X92.here hx rfl (hb hby at_125) rfl rfl ?_
          show Steps p.tables e below (T92.setTop (mkF m 127 #[.val (.int p0), .val (.int p1), .val (.int p2), .val (.int (11 : Int32)), .val (.ref a_GET_POWER), .val (.int (183 : Int32)), .val (.int (p2 &&& (3 : Int32))), .val (.int q), .val (.int (0 : Int32))] [(.ref a_GET_POWER)])) _
          refine XS.iload X92.here hx rfl (hb hby at_127) rfl ?_
          exact kt
        obtain ⟨cq95, kq95, q95a, q95b, q95c⟩ := isOf hZ eq92 E_GET_POWER
        obtain ⟨_, _, ⟨T95, L95, k95, n95⟩, -, X95, ⟨Lc95, hQ95, l95, y95, z95⟩, st95⟩ := X92.virtualBack hx (y := (⟨"com/example/tagwire/tagwire/bb/Command", "isAnsweredBy", "(I)Z"⟩ : MethodName)) (z := (⟨"com/example/tagwire/tagwire/bb/Command", "isAnsweredBy", "(I)Z"⟩ : MethodName)) hown (mvT hZ (hw _ (List.mem_of_getElem? (i := 11) rfl))) (mvT hZ (hw _ (List.mem_of_getElem? (i := 12) rfl))) (notFace_of_selects (args := #[]) (mvT hZ (hw _ (List.mem_of_getElem? (i := 14) rfl)))) (mvT hZ (hw _ (List.mem_of_getElem? (i := 14) rfl))) (mvT hZ (hw _ (List.mem_of_getElem? (i := 13) rfl))) (by decide) (backOf (W := 0) (rm3 l Z a0 hw [] a_GET_POWER q (183 : Int32) (183 : Int32) h0 n0 Z0 F_GET_POWER_code F_GET_POWER_answerCode) hZ (hw _ (List.mem_of_getElem? (i := 15) rfl)) (hw _ (List.mem_of_getElem? (i := 6) rfl)) (by decide) (by decide)) q95a q95c (g := (mkF m 129 #[.val (.int p0), .val (.int p1), .val (.int p2), .val (.int (11 : Int32)), .val (.ref a_GET_POWER), .val (.int (183 : Int32)), .val (.int (p2 &&& (3 : Int32))), .val (.int q), .val (.int (0 : Int32))] [(.int q), (.ref a_GET_POWER)])) rfl (by rw [hml]; rfl) (Steps.refl _) (argsL := [(.int q)]) (rest := []) (lenOf own_pd4 rfl) rfl (by show 2 * 0 + _ ≤ _; exact Nat.le_of_eq rfl) (hb hby at_129) (fun _ _ => ⟨rfl, eq92, (by decide : 0 + 0 ≤ _), (by decide : 0 + 0 ≤ _)⟩)
        dsimp only [Pt.U, Pt.locs, Pt.cells, Pt.slots] at X95 l95 y95 z95 st95 hQ95
        subst l95 y95 z95
        obtain ⟨hv95, hr95⟩ := hQ95
        rw [show own_ans q (183 : Int32) (183 : Int32) = (0 : Int32) from by unfold own_ans; rw [if_neg hc115_93, if_neg hc115_93]] at hv95
        have hQ95 := And.intro hv95 hr95
        obtain ⟨rfl, Nq95, eq95⟩ := hQ95
        have N95 := Fr.app N92 Nq95
        refine own_tr st95 ?_
        show own_Gl _ _ _ _ _ _ _ _ (T95.setTop (mkF m 132 #[.val (.int p0), .val (.int p1), .val (.int p2), .val (.int (11 : Int32)), .val (.ref a_GET_POWER), .val (.int (183 : Int32)), .val (.int (p2 &&& (3 : Int32))), .val (.int q), .val (.int (0 : Int32))] [(.int (0 : Int32))]))
        refine own_st (A' := T95.setTop (mkF m 142 #[.val (.int p0), .val (.int p1), .val (.int p2), .val (.int (11 : Int32)), .val (.ref a_GET_POWER), .val (.int (183 : Int32)), .val (.int (p2 &&& (3 : Int32))), .val (.int q), .val (.int (0 : Int32))] [(.int (1 : Int32))])) (fun tg kt => ?_) ?_
        · show Steps p.tables e below (T95.setTop (mkF m 132 #[.val (.int p0), .val (.int p1), .val (.int p2), .val (.int (11 : Int32)), .val (.ref a_GET_POWER), .val (.int (183 : Int32)), .val (.int (p2 &&& (3 : Int32))), .val (.int q), .val (.int (0 : Int32))] [(.int (0 : Int32))])) _
          refine XS.iload X95.here hx rfl (hb hby at_132) rfl ?_
          show Steps p.tables e below (T95.setTop (mkF m 134 #[.val (.int p0), .val (.int p1), .val (.int p2), .val (.int (11 : Int32)), .val (.ref a_GET_POWER), .val (.int (183 : Int32)), .val (.int (p2 &&& (3 : Int32))), .val (.int q), .val (.int (0 : Int32))] [(.int (0 : Int32)), (.int (0 : Int32))])) _
          refine XS.icmpNo X95.here hx rfl (hb hby at_134) rfl (teq ((by decide) : (0 : Int32) = (0 : Int32))).2 ?_
          show Steps p.tables e below (T95.setTop (mkF m 137 #[.val (.int p0), .val (.int p1), .val (.int p2), .val (.int (11 : Int32)), .val (.ref a_GET_POWER), .val (.int (183 : Int32)), .val (.int (p2 &&& (3 : Int32))), .val (.int q), .val (.int (0 : Int32))] [])) _
          refine XS.iconst X95.here hx rfl (hb hby at_137) ?_
          show Steps p.tables e below (T95.setTop (mkF m 138 #[.val (.int p0), .val (.int p1), .val (.int p2), .val (.int (11 : Int32)), .val (.ref a_GET_POWER), .val (.int (183 : Int32)), .val (.int (p2 &&& (3 : Int32))), .val (.int q), .val (.int (0 : Int32))] [(.int (1 : Int32))])) _
          refine XS.goto X95.here hx rfl (pc0 := 138) (pc' := 142) rfl (hb hby at_138) (by decide) (by decide) ?_
          exact kt
        refine own_ret X95 (v := some (.int (1 : Int32))) (fun h => by rw [Bd.returns] at h; cases h) hlk (by decide) (by decide) ?_ (fun fs hr => ?_)
        · show Q0 Z p0 p1 p2 a_MODULE_INFORMATION a_SET_REGION a_GET_REGION a_SELECT_PARAMETER a_SELECT_MODE a_SINGLE_POLLING a_MULTIPLE_POLLING a_STOP_MULTIPLE_POLLING a_READ a_WRITE a_SET_POWER a_GET_POWER h0 n0 (some (.int (1 : Int32))) T95.heap _
          rw [eq95]
          exact ⟨rfl, N95⟩
        · show Steps p.tables e below (T95.setTop (mkF m 142 #[.val (.int p0), .val (.int p1), .val (.int p2), .val (.int (11 : Int32)), .val (.ref a_GET_POWER), .val (.int (183 : Int32)), .val (.int (p2 &&& (3 : Int32))), .val (.int q), .val (.int (0 : Int32))] [(.int (1 : Int32))])) _
          exact retN X95 hx (t := .boolean) Bd.returns (by simp) (hb hby at_142) hr
    refine own_st (A' := T92.setTop (mkF m 27 #[.val (.int p0), .val (.int p1), .val (.int p2), .val (.int (11 : Int32)), .val (.ref a_GET_POWER), .val (.int (183 : Int32)), .val (.int (p2 &&& (3 : Int32))), .unset, .unset] [(.int (p2 &&& (3 : Int32)))])) (fun tg kt => ?_) ?_
    · show Steps p.tables e below (T92.setTop (mkF m 25 #[.val (.int p0), .val (.int p1), .val (.int p2), .val (.int (11 : Int32)), .val (.ref a_GET_POWER), .val (.int (183 : Int32)), .val (.int (p2 &&& (3 : Int32))), .unset, .unset] [])) _
      refine XS.iload X92.here hx rfl (hb hby at_25) rfl ?_
      exact kt
    by_cases hc27_96 : (p2 &&& (3 : Int32)) = (0 : Int32)
    · refine own_st (A' := T92.setTop (mkF m 82 #[.val (.int p0), .val (.int p1), .val (.int p2), .val (.int (11 : Int32)), .val (.ref a_GET_POWER), .val (.int (183 : Int32)), .val (.int (p2 &&& (3 : Int32))), .val (.int p1), .unset] [])) (fun tg kt => ?_) ?_
      · show Steps p.tables e below (T92.setTop (mkF m 27 #[.val (.int p0), .val (.int p1), .val (.int p2), .val (.int (11 : Int32)), .val (.ref a_GET_POWER), .val (.int (183 : Int32)), .val (.int (p2 &&& (3 : Int32))), .unset, .unset] [(.int (p2 &&& (3 : Int32)))])) _
        refine XS.ifNo X92.here hx rfl (hb hby at_27) rfl ((if0 _ _).trans (teq hc27_96).2) ?_
        show Steps p.tables e below (T92.setTop (mkF m 30 #[.val (.int p0), .val (.int p1), .val (.int p2), .val (.int (11 : Int32)), .val (.ref a_GET_POWER), .val (.int (183 : Int32)), .val (.int (p2 &&& (3 : Int32))), .unset, .unset] [])) _
        refine XS.iloadN X92.here hx rfl (hb hby at_30) rfl ?_
        show Steps p.tables e below (T92.setTop (mkF m 31 #[.val (.int p0), .val (.int p1), .val (.int p2), .val (.int (11 : Int32)), .val (.ref a_GET_POWER), .val (.int (183 : Int32)), .val (.int (p2 &&& (3 : Int32))), .unset, .unset] [(.int p1)])) _
        refine XS.istore X92.here hx rfl (hb hby at_31) rfl (l' := #[.val (.int p0), .val (.int p1), .val (.int p2), .val (.int (11 : Int32)), .val (.ref a_GET_POWER), .val (.int (183 : Int32)), .val (.int (p2 &&& (3 : Int32))), .val (.int p1), .unset]) rfl ?_
        show Steps p.tables e below (T92.setTop (mkF m 33 #[.val (.int p0), .val (.int p1), .val (.int p2), .val (.int (11 : Int32)), .val (.ref a_GET_POWER), .val (.int (183 : Int32)), .val (.int (p2 &&& (3 : Int32))), .val (.int p1), .unset] [])) _
        refine XS.goto X92.here hx rfl (pc0 := 33) (pc' := 82) rfl (hb hby at_33) (by decide) (by decide) ?_
        exact kt
      exact tl p1
    · refine own_st (A' := T92.setTop (mkF m 39 #[.val (.int p0), .val (.int p1), .val (.int p2), .val (.int (11 : Int32)), .val (.ref a_GET_POWER), .val (.int (183 : Int32)), .val (.int (p2 &&& (3 : Int32))), .unset, .unset] [(.int (1 : Int32)), (.int (p2 &&& (3 : Int32)))])) (fun tg kt => ?_) ?_
      · show Steps p.tables e below (T92.setTop (mkF m 27 #[.val (.int p0), .val (.int p1), .val (.int p2), .val (.int (11 : Int32)), .val (.ref a_GET_POWER), .val (.int (183 : Int32)), .val (.int (p2 &&& (3 : Int32))), .unset, .unset] [(.int (p2 &&& (3 : Int32)))])) _
        refine XS.ifYes X92.here hx rfl (pc0 := 27) (pc' := 36) rfl (hb hby at_27) rfl ((if0 _ _).trans (feq hc27_96).2) (by decide) (by decide) ?_
        show Steps p.tables e below (T92.setTop (mkF m 36 #[.val (.int p0), .val (.int p1), .val (.int p2), .val (.int (11 : Int32)), .val (.ref a_GET_POWER), .val (.int (183 : Int32)), .val (.int (p2 &&& (3 : Int32))), .unset, .unset] [])) _
        refine XS.iload X92.here hx rfl (hb hby at_36) rfl ?_
        show Steps p.tables e below (T92.setTop (mkF m 38 #[.val (.int p0), .val (.int p1), .val (.int p2), .val (.int (11 : Int32)), .val (.ref a_GET_POWER), .val (.int (183 : Int32)), .val (.int (p2 &&& (3 : Int32))), .unset, .unset] [(.int (p2 &&& (3 : Int32)))])) _
        refine XS.iconst X92.here hx rfl (hb hby at_38) ?_
        exact kt
      by_cases hc39_97 : (p2 &&& (3 : Int32)) = (1 : Int32)
      · refine own_st (A' := T92.setTop (mkF m 82 #[.val (.int p0), .val (.int p1), .val (.int p2), .val (.int (11 : Int32)), .val (.ref a_GET_POWER), .val (.int (183 : Int32)), .val (.int (p2 &&& (3 : Int32))), .val (.int (183 : Int32)), .unset] [])) (fun tg kt => ?_) ?_
        · show Steps p.tables e below (T92.setTop (mkF m 39 #[.val (.int p0), .val (.int p1), .val (.int p2), .val (.int (11 : Int32)), .val (.ref a_GET_POWER), .val (.int (183 : Int32)), .val (.int (p2 &&& (3 : Int32))), .unset, .unset] [(.int (1 : Int32)), (.int (p2 &&& (3 : Int32)))])) _
          refine XS.icmpNo X92.here hx rfl (hb hby at_39) rfl (teq hc39_97).2 ?_
          show Steps p.tables e below (T92.setTop (mkF m 42 #[.val (.int p0), .val (.int p1), .val (.int p2), .val (.int (11 : Int32)), .val (.ref a_GET_POWER), .val (.int (183 : Int32)), .val (.int (p2 &&& (3 : Int32))), .unset, .unset] [])) _
          refine XS.iload X92.here hx rfl (hb hby at_42) rfl ?_
          show Steps p.tables e below (T92.setTop (mkF m 44 #[.val (.int p0), .val (.int p1), .val (.int p2), .val (.int (11 : Int32)), .val (.ref a_GET_POWER), .val (.int (183 : Int32)), .val (.int (p2 &&& (3 : Int32))), .unset, .unset] [(.int (183 : Int32))])) _
          refine XS.istore X92.here hx rfl (hb hby at_44) rfl (l' := #[.val (.int p0), .val (.int p1), .val (.int p2), .val (.int (11 : Int32)), .val (.ref a_GET_POWER), .val (.int (183 : Int32)), .val (.int (p2 &&& (3 : Int32))), .val (.int (183 : Int32)), .unset]) rfl ?_
          show Steps p.tables e below (T92.setTop (mkF m 46 #[.val (.int p0), .val (.int p1), .val (.int p2), .val (.int (11 : Int32)), .val (.ref a_GET_POWER), .val (.int (183 : Int32)), .val (.int (p2 &&& (3 : Int32))), .val (.int (183 : Int32)), .unset] [])) _
          refine XS.goto X92.here hx rfl (pc0 := 46) (pc' := 82) rfl (hb hby at_46) (by decide) (by decide) ?_
          exact kt
        exact tl (183 : Int32)
      · refine own_st (A' := T92.setTop (mkF m 52 #[.val (.int p0), .val (.int p1), .val (.int p2), .val (.int (11 : Int32)), .val (.ref a_GET_POWER), .val (.int (183 : Int32)), .val (.int (p2 &&& (3 : Int32))), .unset, .unset] [(.int (2 : Int32)), (.int (p2 &&& (3 : Int32)))])) (fun tg kt => ?_) ?_
        · show Steps p.tables e below (T92.setTop (mkF m 39 #[.val (.int p0), .val (.int p1), .val (.int p2), .val (.int (11 : Int32)), .val (.ref a_GET_POWER), .val (.int (183 : Int32)), .val (.int (p2 &&& (3 : Int32))), .unset, .unset] [(.int (1 : Int32)), (.int (p2 &&& (3 : Int32)))])) _
          refine XS.icmpYes X92.here hx rfl (pc0 := 39) (pc' := 49) rfl (hb hby at_39) rfl (feq hc39_97).2 (by decide) (by decide) ?_
          show Steps p.tables e below (T92.setTop (mkF m 49 #[.val (.int p0), .val (.int p1), .val (.int p2), .val (.int (11 : Int32)), .val (.ref a_GET_POWER), .val (.int (183 : Int32)), .val (.int (p2 &&& (3 : Int32))), .unset, .unset] [])) _
          refine XS.iload X92.here hx rfl (hb hby at_49) rfl ?_
          show Steps p.tables e below (T92.setTop (mkF m 51 #[.val (.int p0), .val (.int p1), .val (.int p2), .val (.int (11 : Int32)), .val (.ref a_GET_POWER), .val (.int (183 : Int32)), .val (.int (p2 &&& (3 : Int32))), .unset, .unset] [(.int (p2 &&& (3 : Int32)))])) _
          refine XS.iconst X92.here hx rfl (hb hby at_51) ?_
          exact kt
        by_cases hc52_98 : (p2 &&& (3 : Int32)) = (2 : Int32)
        · refine own_st (A' := T92.setTop (mkF m 82 #[.val (.int p0), .val (.int p1), .val (.int p2), .val (.int (11 : Int32)), .val (.ref a_GET_POWER), .val (.int (183 : Int32)), .val (.int (p2 &&& (3 : Int32))), .val (.int (183 : Int32)), .unset] [])) (fun tg kt => ?_) ?_
          · show Steps p.tables e below (T92.setTop (mkF m 52 #[.val (.int p0), .val (.int p1), .val (.int p2), .val (.int (11 : Int32)), .val (.ref a_GET_POWER), .val (.int (183 : Int32)), .val (.int (p2 &&& (3 : Int32))), .unset, .unset] [(.int (2 : Int32)), (.int (p2 &&& (3 : Int32)))])) _
            refine XS.icmpNo X92.here hx rfl (hb hby at_52) rfl (teq hc52_98).2 ?_
            show Steps p.tables e below (T92.setTop (mkF m 55 #[.val (.int p0), .val (.int p1), .val (.int p2), .val (.int (11 : Int32)), .val (.ref a_GET_POWER), .val (.int (183 : Int32)), .val (.int (p2 &&& (3 : Int32))), .unset, .unset] [])) _
            refine XS.iloadN X92.here hx rfl (hb hby at_55) rfl ?_
            show Steps p.tables e below (T92.setTop (mkF m 56 #[.val (.int p0), .val (.int p1), .val (.int p2), .val (.int (11 : Int32)), .val (.ref a_GET_POWER), .val (.int (183 : Int32)), .val (.int (p2 &&& (3 : Int32))), .unset, .unset] [(.int (11 : Int32))])) _
            refine XS.iconst X92.here hx rfl (hb hby at_56) ?_
            show Steps p.tables e below (T92.setTop (mkF m 57 #[.val (.int p0), .val (.int p1), .val (.int p2), .val (.int (11 : Int32)), .val (.ref a_GET_POWER), .val (.int (183 : Int32)), .val (.int (p2 &&& (3 : Int32))), .unset, .unset] [(.int (4 : Int32)), (.int (11 : Int32))])) _
            refine XS.icmpYes X92.here hx rfl (pc0 := 57) (pc' := 65) rfl (hb hby at_57) rfl (feq ((by decide) : ¬ ((11 : Int32) = (4 : Int32)))).2 (by decide) (by decide) ?_
            show Steps p.tables e below (T92.setTop (mkF m 65 #[.val (.int p0), .val (.int p1), .val (.int p2), .val (.int (11 : Int32)), .val (.ref a_GET_POWER), .val (.int (183 : Int32)), .val (.int (p2 &&& (3 : Int32))), .unset, .unset] [])) _
            refine XS.iload X92.here hx rfl (hb hby at_65) rfl ?_
            show Steps p.tables e below (T92.setTop (mkF m 67 #[.val (.int p0), .val (.int p1), .val (.int p2), .val (.int (11 : Int32)), .val (.ref a_GET_POWER), .val (.int (183 : Int32)), .val (.int (p2 &&& (3 : Int32))), .unset, .unset] [(.int (183 : Int32))])) _
            refine XS.istore X92.here hx rfl (hb hby at_67) rfl (l' := #[.val (.int p0), .val (.int p1), .val (.int p2), .val (.int (11 : Int32)), .val (.ref a_GET_POWER), .val (.int (183 : Int32)), .val (.int (p2 &&& (3 : Int32))), .val (.int (183 : Int32)), .unset]) rfl ?_
            show Steps p.tables e below (T92.setTop (mkF m 69 #[.val (.int p0), .val (.int p1), .val (.int p2), .val (.int (11 : Int32)), .val (.ref a_GET_POWER), .val (.int (183 : Int32)), .val (.int (p2 &&& (3 : Int32))), .val (.int (183 : Int32)), .unset] [])) _
            refine XS.goto X92.here hx rfl (pc0 := 69) (pc' := 82) rfl (hb hby at_69) (by decide) (by decide) ?_
            exact kt
          exact tl (183 : Int32)
        · refine own_st (A' := T92.setTop (mkF m 82 #[.val (.int p0), .val (.int p1), .val (.int p2), .val (.int (11 : Int32)), .val (.ref a_GET_POWER), .val (.int (183 : Int32)), .val (.int (p2 &&& (3 : Int32))), .val (.int ((183 : Int32) + ((p1 &&& (3 : Int32)) - (2 : Int32)))), .unset] [])) (fun tg kt => ?_) ?_
          · show Steps p.tables e below (T92.setTop (mkF m 52 #[.val (.int p0), .val (.int p1), .val (.int p2), .val (.int (11 : Int32)), .val (.ref a_GET_POWER), .val (.int (183 : Int32)), .val (.int (p2 &&& (3 : Int32))), .unset, .unset] [(.int (2 : Int32)), (.int (p2 &&& (3 : Int32)))])) _
            refine XS.icmpYes X92.here hx rfl (pc0 := 52) (pc' := 72) rfl (hb hby at_52) rfl (feq hc52_98).2 (by decide) (by decide) ?_
            show Steps p.tables e below (T92.setTop (mkF m 72 #[.val (.int p0), .val (.int p1), .val (.int p2), .val (.int (11 : Int32)), .val (.ref a_GET_POWER), .val (.int (183 : Int32)), .val (.int (p2 &&& (3 : Int32))), .unset, .unset] [])) _
            refine XS.iload X92.here hx rfl (hb hby at_72) rfl ?_
            show Steps p.tables e below (T92.setTop (mkF m 74 #[.val (.int p0), .val (.int p1), .val (.int p2), .val (.int (11 : Int32)), .val (.ref a_GET_POWER), .val (.int (183 : Int32)), .val (.int (p2 &&& (3 : Int32))), .unset, .unset] [(.int (183 : Int32))])) _
            refine XS.iloadN X92.here hx rfl (hb hby at_74) rfl ?_
            show Steps p.tables e below (T92.setTop (mkF m 75 #[.val (.int p0), .val (.int p1), .val (.int p2), .val (.int (11 : Int32)), .val (.ref a_GET_POWER), .val (.int (183 : Int32)), .val (.int (p2 &&& (3 : Int32))), .unset, .unset] [(.int p1), (.int (183 : Int32))])) _
            refine XS.iconst X92.here hx rfl (hb hby at_75) ?_
            show Steps p.tables e below (T92.setTop (mkF m 76 #[.val (.int p0), .val (.int p1), .val (.int p2), .val (.int (11 : Int32)), .val (.ref a_GET_POWER), .val (.int (183 : Int32)), .val (.int (p2 &&& (3 : Int32))), .unset, .unset] [(.int (3 : Int32)), (.int p1), (.int (183 : Int32))])) _
            refine XS.iand X92.here hx rfl (hb hby at_76) rfl ?_
            show Steps p.tables e below (T92.setTop (mkF m 77 #[.val (.int p0), .val (.int p1), .val (.int p2), .val (.int (11 : Int32)), .val (.ref a_GET_POWER), .val (.int (183 : Int32)), .val (.int (p2 &&& (3 : Int32))), .unset, .unset] [(.int (p1 &&& (3 : Int32))), (.int (183 : Int32))])) _
            refine XS.iconst X92.here hx rfl (hb hby at_77) ?_
            show Steps p.tables e below (T92.setTop (mkF m 78 #[.val (.int p0), .val (.int p1), .val (.int p2), .val (.int (11 : Int32)), .val (.ref a_GET_POWER), .val (.int (183 : Int32)), .val (.int (p2 &&& (3 : Int32))), .unset, .unset] [(.int (2 : Int32)), (.int (p1 &&& (3 : Int32))), (.int (183 : Int32))])) _
            refine XS.isub X92.here hx rfl (hb hby at_78) rfl ?_
            show Steps p.tables e below (T92.setTop (mkF m 79 #[.val (.int p0), .val (.int p1), .val (.int p2), .val (.int (11 : Int32)), .val (.ref a_GET_POWER), .val (.int (183 : Int32)), .val (.int (p2 &&& (3 : Int32))), .unset, .unset] [(.int ((p1 &&& (3 : Int32)) - (2 : Int32))), (.int (183 : Int32))])) _
            refine XS.iadd X92.here hx rfl (hb hby at_79) rfl ?_
            show Steps p.tables e below (T92.setTop (mkF m 80 #[.val (.int p0), .val (.int p1), .val (.int p2), .val (.int (11 : Int32)), .val (.ref a_GET_POWER), .val (.int (183 : Int32)), .val (.int (p2 &&& (3 : Int32))), .unset, .unset] [(.int ((183 : Int32) + ((p1 &&& (3 : Int32)) - (2 : Int32))))])) _
            refine XS.istore X92.here hx rfl (hb hby at_80) rfl (l' := #[.val (.int p0), .val (.int p1), .val (.int p2), .val (.int (11 : Int32)), .val (.ref a_GET_POWER), .val (.int (183 : Int32)), .val (.int (p2 &&& (3 : Int32))), .val (.int ((183 : Int32) + ((p1 &&& (3 : Int32)) - (2 : Int32)))), .unset]) rfl ?_
            exact kt
          exact tl ((183 : Int32) + ((p1 &&& (3 : Int32)) - (2 : Int32)))
set_option maxRecDepth 65536 in
set_option maxHeartbeats 40000000 in
theorem comes_1 {Post : Tables → Env → Array Value → State → Outcome → State → Prop} (hpost : ∀ tb e args s v u, (limb_1_1.after args s (.returned v) u = true ∧ limb_1_2.after args s (.returned v) u = true ∧ True) → FrameEnd s (.returned v) u (Jvm.fieldLocs frame_1_writes args s ++ Jvm.arrayLocs frame_1_arrays args s ++ Jvm.staticLocs frame_1_statics s) 0 0 → Post tb e args s (.returned v) u) :
    ArmFor flags0 classFile x code maxLocals ret World_1 tables_1 room_1 Calls_1 rest_1 Pre_1 Post := by
  intro l hfl _ _ p e ha hc hk s m args below hf hA hF happ hP
  obtain ⟨hcalls, hrest, hpre⟩ := hP
  obtain ⟨-, -, -, hnamed, -, -, -, hat⟩ := (Spec.applies_iff hf).mp happ
  obtain ⟨hg, hn⟩ := and_e (Cond.before_iff.mp (show (Jvm.Cond.and given_1 narrow_1).before args s = true from hpre))
  obtain ⟨gg1, gg2⟩ := and_e hg
  obtain ⟨gg3, gg4⟩ := and_e gg2
  obtain ⟨gg5, gg6⟩ := and_e gg4
  obtain ⟨w0, w1, w2, rfl⟩ : ∃ w0 w1 w2 : Value, args = #[w0, w1, w2] := by
    have hs : args.size = 3 := by simpa [Cond.value, given_1] using gg1
    obtain ⟨L⟩ := args
    match L, hs with
    | [w0, w1, w2], _ => exact ⟨w0, w1, w2, rfl⟩
  have hw := fun d (hd : d ∈ tables_1) => atoms_spec (ws := Jvm.Cond.code x code maxLocals ret :: tables_1) hat d (List.mem_cons_of_mem _ hd)
  have hfit : Fit s := fun {y c} hc i hi => by
    obtain ⟨ha, rfl⟩ := Array.getElem?_eq_some_iff.mp hc
    have q := List.all_eq_true.mp ((Array.all_eq_true_iff_forall_mem.mp hF) _ (Array.getElem_mem ha)) i (List.mem_range.mpr hi)
    simpa [Array.getElem?_eq_getElem hi] using q
  obtain ⟨i0, ei0⟩ := is_v gg3
  obtain rfl : w0 = (.int i0) := Option.some.inj ei0
  obtain ⟨i1, ei1⟩ := is_v gg5
  obtain rfl : w1 = (.int i1) := Option.some.inj ei1
  obtain ⟨i2, ei2⟩ := is_v gg6
  obtain rfl : w2 = (.int i2) := Option.some.inj ei2
  obtain ⟨nn1, nn2⟩ := and_e hn
  obtain ⟨nn3, nn4⟩ := and_e nn2
  obtain ⟨nn5, nn6⟩ := and_e nn4
  obtain ⟨nn7, nn8⟩ := and_e nn6
  obtain ⟨nn9, nn10⟩ := and_e nn8
  obtain ⟨nn11, nn12⟩ := and_e nn10
  obtain ⟨nn13, nn14⟩ := and_e nn12
  obtain ⟨nn15, nn16⟩ := and_e nn14
  obtain ⟨nn17, nn18⟩ := and_e nn16
  obtain ⟨nn19, nn20⟩ := and_e nn18
  obtain ⟨nn21, nn22⟩ := and_e nn20
  obtain ⟨nn23, nn24⟩ := and_e nn22
  obtain ⟨nn25, nn26⟩ := and_e nn24
  obtain ⟨nn27, nn28⟩ := and_e nn26
  obtain ⟨nn29, nn30⟩ := and_e nn28
  obtain ⟨nn31, nn32⟩ := and_e nn30
  obtain ⟨nn33, nn34⟩ := and_e nn32
  obtain ⟨nn35, nn36⟩ := and_e nn34
  obtain ⟨nn37, nn38⟩ := and_e nn36
  obtain ⟨nn39, nn40⟩ := and_e nn38
  obtain ⟨nn41, nn42⟩ := and_e nn40
  obtain ⟨nn43, nn44⟩ := and_e nn42
  obtain ⟨nn45, nn46⟩ := and_e nn44
  obtain ⟨nn47, nn48⟩ := and_e nn46
  obtain ⟨nn49, nn50⟩ := and_e nn48
  obtain ⟨nn51, nn52⟩ := and_e nn50
  obtain ⟨nn53, nn54⟩ := and_e nn52
  obtain ⟨nn55, nn56⟩ := and_e nn54
  obtain ⟨nn57, nn58⟩ := and_e nn56
  obtain ⟨nn59, nn60⟩ := and_e nn58
  obtain ⟨nn61, nn62⟩ := and_e nn60
  obtain ⟨nn63, nn64⟩ := and_e nn62
  obtain ⟨nn65, nn66⟩ := and_e nn64
  obtain ⟨nn67, nn68⟩ := and_e nn66
  obtain ⟨nn69, nn70⟩ := and_e nn68
  obtain ⟨a_MODULE_INFORMATION, ev_MODULE_INFORMATION⟩ := exa_v nn1
  have S_MODULE_INFORMATION : Sta s s.heap "com/example/tagwire/tagwire/bb/Command" "MODULE_INFORMATION" "Lcom/example/tagwire/tagwire/bb/Command;" (.ref a_MODULE_INFORMATION) := Sta.start ev_MODULE_INFORMATION (Or.inr ⟨(hw _ (List.mem_of_getElem? (i := 6) rfl)), (hw _ (List.mem_of_getElem? (i := 7) rfl))⟩)
  have E_MODULE_INFORMATION : Exa s s.heap a_MODULE_INFORMATION "com/example/tagwire/tagwire/bb/Command" := Exa.start ev_MODULE_INFORMATION nn1
  obtain ⟨a_SET_REGION, ev_SET_REGION⟩ := exa_v nn5
  have S_SET_REGION : Sta s s.heap "com/example/tagwire/tagwire/bb/Command" "SET_REGION" "Lcom/example/tagwire/tagwire/bb/Command;" (.ref a_SET_REGION) := Sta.start ev_SET_REGION (Or.inr ⟨(hw _ (List.mem_of_getElem? (i := 6) rfl)), (hw _ (List.mem_of_getElem? (i := 19) rfl))⟩)
  have E_SET_REGION : Exa s s.heap a_SET_REGION "com/example/tagwire/tagwire/bb/Command" := Exa.start ev_SET_REGION nn5
  obtain ⟨a_READ, ev_READ⟩ := exa_v nn11
  have S_READ : Sta s s.heap "com/example/tagwire/tagwire/bb/Command" "READ" "Lcom/example/tagwire/tagwire/bb/Command;" (.ref a_READ) := Sta.start ev_READ (Or.inr ⟨(hw _ (List.mem_of_getElem? (i := 6) rfl)), (hw _ (List.mem_of_getElem? (i := 23) rfl))⟩)
  have E_READ : Exa s s.heap a_READ "com/example/tagwire/tagwire/bb/Command" := Exa.start ev_READ nn11
  obtain ⟨a_GET_POWER, ev_GET_POWER⟩ := exa_v nn15
  have S_GET_POWER : Sta s s.heap "com/example/tagwire/tagwire/bb/Command" "GET_POWER" "Lcom/example/tagwire/tagwire/bb/Command;" (.ref a_GET_POWER) := Sta.start ev_GET_POWER (Or.inr ⟨(hw _ (List.mem_of_getElem? (i := 6) rfl)), (hw _ (List.mem_of_getElem? (i := 25) rfl))⟩)
  have E_GET_POWER : Exa s s.heap a_GET_POWER "com/example/tagwire/tagwire/bb/Command" := Exa.start ev_GET_POWER nn15
  obtain ⟨a_MULTIPLE_POLLING, ev_MULTIPLE_POLLING⟩ := exa_v nn21
  have S_MULTIPLE_POLLING : Sta s s.heap "com/example/tagwire/tagwire/bb/Command" "MULTIPLE_POLLING" "Lcom/example/tagwire/tagwire/bb/Command;" (.ref a_MULTIPLE_POLLING) := Sta.start ev_MULTIPLE_POLLING (Or.inr ⟨(hw _ (List.mem_of_getElem? (i := 6) rfl)), (hw _ (List.mem_of_getElem? (i := 27) rfl))⟩)
  have E_MULTIPLE_POLLING : Exa s s.heap a_MULTIPLE_POLLING "com/example/tagwire/tagwire/bb/Command" := Exa.start ev_MULTIPLE_POLLING nn21
  obtain ⟨a_STOP_MULTIPLE_POLLING, ev_STOP_MULTIPLE_POLLING⟩ := exa_v nn25
  have S_STOP_MULTIPLE_POLLING : Sta s s.heap "com/example/tagwire/tagwire/bb/Command" "STOP_MULTIPLE_POLLING" "Lcom/example/tagwire/tagwire/bb/Command;" (.ref a_STOP_MULTIPLE_POLLING) := Sta.start ev_STOP_MULTIPLE_POLLING (Or.inr ⟨(hw _ (List.mem_of_getElem? (i := 6) rfl)), (hw _ (List.mem_of_getElem? (i := 29) rfl))⟩)
  have E_STOP_MULTIPLE_POLLING : Exa s s.heap a_STOP_MULTIPLE_POLLING "com/example/tagwire/tagwire/bb/Command" := Exa.start ev_STOP_MULTIPLE_POLLING nn25
  obtain ⟨a_SELECT_PARAMETER, ev_SELECT_PARAMETER⟩ := exa_v nn29
  have S_SELECT_PARAMETER : Sta s s.heap "com/example/tagwire/tagwire/bb/Command" "SELECT_PARAMETER" "Lcom/example/tagwire/tagwire/bb/Command;" (.ref a_SELECT_PARAMETER) := Sta.start ev_SELECT_PARAMETER (Or.inr ⟨(hw _ (List.mem_of_getElem? (i := 6) rfl)), (hw _ (List.mem_of_getElem? (i := 31) rfl))⟩)
  have E_SELECT_PARAMETER : Exa s s.heap a_SELECT_PARAMETER "com/example/tagwire/tagwire/bb/Command" := Exa.start ev_SELECT_PARAMETER nn29
  obtain ⟨a_SET_POWER, ev_SET_POWER⟩ := exa_v nn33
  have S_SET_POWER : Sta s s.heap "com/example/tagwire/tagwire/bb/Command" "SET_POWER" "Lcom/example/tagwire/tagwire/bb/Command;" (.ref a_SET_POWER) := Sta.start ev_SET_POWER (Or.inr ⟨(hw _ (List.mem_of_getElem? (i := 6) rfl)), (hw _ (List.mem_of_getElem? (i := 33) rfl))⟩)
  have E_SET_POWER : Exa s s.heap a_SET_POWER "com/example/tagwire/tagwire/bb/Command" := Exa.start ev_SET_POWER nn33
  obtain ⟨a_SELECT_MODE, ev_SELECT_MODE⟩ := exa_v nn37
  have S_SELECT_MODE : Sta s s.heap "com/example/tagwire/tagwire/bb/Command" "SELECT_MODE" "Lcom/example/tagwire/tagwire/bb/Command;" (.ref a_SELECT_MODE) := Sta.start ev_SELECT_MODE (Or.inr ⟨(hw _ (List.mem_of_getElem? (i := 6) rfl)), (hw _ (List.mem_of_getElem? (i := 35) rfl))⟩)
  have E_SELECT_MODE : Exa s s.heap a_SELECT_MODE "com/example/tagwire/tagwire/bb/Command" := Exa.start ev_SELECT_MODE nn37
  obtain ⟨a_SINGLE_POLLING, ev_SINGLE_POLLING⟩ := exa_v nn43
  have S_SINGLE_POLLING : Sta s s.heap "com/example/tagwire/tagwire/bb/Command" "SINGLE_POLLING" "Lcom/example/tagwire/tagwire/bb/Command;" (.ref a_SINGLE_POLLING) := Sta.start ev_SINGLE_POLLING (Or.inr ⟨(hw _ (List.mem_of_getElem? (i := 6) rfl)), (hw _ (List.mem_of_getElem? (i := 37) rfl))⟩)
  have E_SINGLE_POLLING : Exa s s.heap a_SINGLE_POLLING "com/example/tagwire/tagwire/bb/Command" := Exa.start ev_SINGLE_POLLING nn43
  obtain ⟨a_GET_REGION, ev_GET_REGION⟩ := exa_v nn49
  have S_GET_REGION : Sta s s.heap "com/example/tagwire/tagwire/bb/Command" "GET_REGION" "Lcom/example/tagwire/tagwire/bb/Command;" (.ref a_GET_REGION) := Sta.start ev_GET_REGION (Or.inr ⟨(hw _ (List.mem_of_getElem? (i := 6) rfl)), (hw _ (List.mem_of_getElem? (i := 39) rfl))⟩)
  have E_GET_REGION : Exa s s.heap a_GET_REGION "com/example/tagwire/tagwire/bb/Command" := Exa.start ev_GET_REGION nn49
  obtain ⟨a_WRITE, ev_WRITE⟩ := exa_v nn63
  have S_WRITE : Sta s s.heap "com/example/tagwire/tagwire/bb/Command" "WRITE" "Lcom/example/tagwire/tagwire/bb/Command;" (.ref a_WRITE) := Sta.start ev_WRITE (Or.inr ⟨(hw _ (List.mem_of_getElem? (i := 6) rfl)), (hw _ (List.mem_of_getElem? (i := 41) rfl))⟩)
  have E_WRITE : Exa s s.heap a_WRITE "com/example/tagwire/tagwire/bb/Command" := Exa.start ev_WRITE nn63
  have F_MODULE_INFORMATION_code : Fld s s.heap a_MODULE_INFORMATION "com/example/tagwire/tagwire/bb/Command" "code" "I" (.int (3 : Int32)) := Fld.start ((fld_at ev_MODULE_INFORMATION).symm.trans (own_eqi nn3))
  have F_SET_REGION_code : Fld s s.heap a_SET_REGION "com/example/tagwire/tagwire/bb/Command" "code" "I" (.int (7 : Int32)) := Fld.start ((fld_at ev_SET_REGION).symm.trans (own_eqi nn7))
  have F_SET_REGION_answerCode : Fld s s.heap a_SET_REGION "com/example/tagwire/tagwire/bb/Command" "answerCode" "I" (.int (7 : Int32)) := Fld.start ((fld_at ev_SET_REGION).symm.trans (own_eqi nn9))
  have F_READ_code : Fld s s.heap a_READ "com/example/tagwire/tagwire/bb/Command" "code" "I" (.int (57 : Int32)) := Fld.start ((fld_at ev_READ).symm.trans (own_eqi nn13))
  have F_GET_POWER_code : Fld s s.heap a_GET_POWER "com/example/tagwire/tagwire/bb/Command" "code" "I" (.int (183 : Int32)) := Fld.start ((fld_at ev_GET_POWER).symm.trans (own_eqi nn17))
  have F_READ_answerCode : Fld s s.heap a_READ "com/example/tagwire/tagwire/bb/Command" "answerCode" "I" (.int (57 : Int32)) := Fld.start ((fld_at ev_READ).symm.trans (own_eqi nn19))
  have F_MULTIPLE_POLLING_code : Fld s s.heap a_MULTIPLE_POLLING "com/example/tagwire/tagwire/bb/Command" "code" "I" (.int (39 : Int32)) := Fld.start ((fld_at ev_MULTIPLE_POLLING).symm.trans (own_eqi nn23))
  have F_STOP_MULTIPLE_POLLING_code : Fld s s.heap a_STOP_MULTIPLE_POLLING "com/example/tagwire/tagwire/bb/Command" "code" "I" (.int (40 : Int32)) := Fld.start ((fld_at ev_STOP_MULTIPLE_POLLING).symm.trans (own_eqi nn27))
  have F_SELECT_PARAMETER_code : Fld s s.heap a_SELECT_PARAMETER "com/example/tagwire/tagwire/bb/Command" "code" "I" (.int (12 : Int32)) := Fld.start ((fld_at ev_SELECT_PARAMETER).symm.trans (own_eqi nn31))
  have F_SET_POWER_code : Fld s s.heap a_SET_POWER "com/example/tagwire/tagwire/bb/Command" "code" "I" (.int (182 : Int32)) := Fld.start ((fld_at ev_SET_POWER).symm.trans (own_eqi nn35))
  have F_SELECT_MODE_code : Fld s s.heap a_SELECT_MODE "com/example/tagwire/tagwire/bb/Command" "code" "I" (.int (18 : Int32)) := Fld.start ((fld_at ev_SELECT_MODE).symm.trans (own_eqi nn39))
  have F_SELECT_MODE_answerCode : Fld s s.heap a_SELECT_MODE "com/example/tagwire/tagwire/bb/Command" "answerCode" "I" (.int (12 : Int32)) := Fld.start ((fld_at ev_SELECT_MODE).symm.trans (own_eqi nn41))
  have F_SINGLE_POLLING_code : Fld s s.heap a_SINGLE_POLLING "com/example/tagwire/tagwire/bb/Command" "code" "I" (.int (34 : Int32)) := Fld.start ((fld_at ev_SINGLE_POLLING).symm.trans (own_eqi nn45))
  have F_SINGLE_POLLING_answerCode : Fld s s.heap a_SINGLE_POLLING "com/example/tagwire/tagwire/bb/Command" "answerCode" "I" (.int (34 : Int32)) := Fld.start ((fld_at ev_SINGLE_POLLING).symm.trans (own_eqi nn47))
  have F_GET_REGION_code : Fld s s.heap a_GET_REGION "com/example/tagwire/tagwire/bb/Command" "code" "I" (.int (8 : Int32)) := Fld.start ((fld_at ev_GET_REGION).symm.trans (own_eqi nn51))
  have F_GET_REGION_answerCode : Fld s s.heap a_GET_REGION "com/example/tagwire/tagwire/bb/Command" "answerCode" "I" (.int (8 : Int32)) := Fld.start ((fld_at ev_GET_REGION).symm.trans (own_eqi nn53))
  have F_GET_POWER_answerCode : Fld s s.heap a_GET_POWER "com/example/tagwire/tagwire/bb/Command" "answerCode" "I" (.int (183 : Int32)) := Fld.start ((fld_at ev_GET_POWER).symm.trans (own_eqi nn55))
  have F_MODULE_INFORMATION_answerCode : Fld s s.heap a_MODULE_INFORMATION "com/example/tagwire/tagwire/bb/Command" "answerCode" "I" (.int (3 : Int32)) := Fld.start ((fld_at ev_MODULE_INFORMATION).symm.trans (own_eqi nn57))
  have F_SELECT_PARAMETER_answerCode : Fld s s.heap a_SELECT_PARAMETER "com/example/tagwire/tagwire/bb/Command" "answerCode" "I" (.int (12 : Int32)) := Fld.start ((fld_at ev_SELECT_PARAMETER).symm.trans (own_eqi nn59))
  have F_SET_POWER_answerCode : Fld s s.heap a_SET_POWER "com/example/tagwire/tagwire/bb/Command" "answerCode" "I" (.int (182 : Int32)) := Fld.start ((fld_at ev_SET_POWER).symm.trans (own_eqi nn61))
  have F_WRITE_code : Fld s s.heap a_WRITE "com/example/tagwire/tagwire/bb/Command" "code" "I" (.int (73 : Int32)) := Fld.start ((fld_at ev_WRITE).symm.trans (own_eqi nn65))
  have F_WRITE_answerCode : Fld s s.heap a_WRITE "com/example/tagwire/tagwire/bb/Command" "answerCode" "I" (.int (73 : Int32)) := Fld.start ((fld_at ev_WRITE).symm.trans (own_eqi nn67))
  have F_MULTIPLE_POLLING_answerCode : Fld s s.heap a_MULTIPLE_POLLING "com/example/tagwire/tagwire/bb/Command" "answerCode" "I" (.int (39 : Int32)) := Fld.start ((fld_at ev_MULTIPLE_POLLING).symm.trans (own_eqi nn69))
  have F_STOP_MULTIPLE_POLLING_answerCode : Fld s s.heap a_STOP_MULTIPLE_POLLING "com/example/tagwire/tagwire/bb/Command" "answerCode" "I" (.int (40 : Int32)) := Fld.start ((fld_at ev_STOP_MULTIPLE_POLLING).symm.trans (own_eqi nn70))
  obtain ⟨n, o, h1, h2, h3, _, L, rfl, ⟨rfl, N⟩, hq⟩ := rm0 l s _ hw tables_1 i0 i1 i2 a_MODULE_INFORMATION a_SET_REGION a_GET_REGION a_SELECT_PARAMETER a_SELECT_MODE a_SINGLE_POLLING a_MULTIPLE_POLLING a_STOP_MULTIPLE_POLLING a_READ a_WRITE a_SET_POWER a_GET_POWER s.heap s.heap.size (Nat.le_refl _) S_MODULE_INFORMATION S_SET_REGION S_GET_REGION S_SELECT_PARAMETER S_SELECT_MODE S_SINGLE_POLLING S_MULTIPLE_POLLING S_STOP_MULTIPLE_POLLING S_READ S_WRITE S_SET_POWER S_GET_POWER E_MODULE_INFORMATION E_SET_REGION E_GET_REGION E_SELECT_PARAMETER E_SELECT_MODE E_SINGLE_POLLING E_MULTIPLE_POLLING E_STOP_MULTIPLE_POLLING E_READ E_WRITE E_SET_POWER E_GET_POWER F_MODULE_INFORMATION_code F_MODULE_INFORMATION_answerCode F_SET_REGION_code F_SET_REGION_answerCode F_GET_REGION_code F_GET_REGION_answerCode F_SELECT_PARAMETER_code F_SELECT_PARAMETER_answerCode F_SELECT_MODE_code F_SELECT_MODE_answerCode F_SINGLE_POLLING_code F_SINGLE_POLLING_answerCode F_MULTIPLE_POLLING_code F_MULTIPLE_POLLING_answerCode F_STOP_MULTIPLE_POLLING_code F_STOP_MULTIPLE_POLLING_answerCode F_READ_code F_READ_answerCode F_WRITE_code F_WRITE_answerCode F_SET_POWER_code F_SET_POWER_answerCode F_GET_POWER_code F_GET_POWER_answerCode p e ha hc hk s m _ below hf ((Spec.applies_iff_loose hf).mp happ).1 ⟨rfl, State.Warmed39.refl s, rfl⟩ trivial
  refine ⟨n, _, h1, h2, h3, hpost _ _ _ _ _ _ ⟨Cond.after_iff.mpr rfl, Cond.after_iff.mpr (eq_i res_at (Term.int_eval (1)) rfl), trivial⟩ ⟨hq.1, hq.2.1, (hq.2.2.sift fun y hy => Or.inr (N y hy)).mono (by decide) (by decide)⟩⟩
theorem main_1_1 : Claimed_1_1 := comes_1 fun _ _ _ _ _ _ h hF => ⟨h.1, hF⟩
theorem main_1_2 : Claimed_1_2 := comes_1 fun _ _ _ _ _ _ h hF => ⟨h.2.1, hF⟩
end Jvm.Pilot.@@N@@
namespace Jvm.Pilot.@@N@@
open Jvm Jvm.ClassFile Sem Op Lib Jvm.Free Jvm.Stand Jvm.Pilot.@@N@@.Jvm.D
/-! MADE BY PROGRAM (witnessworld.py) out of the Statement's table words and the real class files: 12 classes; the members and pool entries that the words name. The judged class is class 1, her method 3. -/
namespace start1
open Jvm.ClassFile
def u (s : String) : CpInfo := .utf8 (stringToUtf16 s)
/-- a pool by its gaps: so many unusable entries, then the entry; so many at the end -/
def gap : Nat → List CpInfo → List CpInfo
  | 0, r => r
  | n + 1, r => .unusable :: gap n r
def poolList (es : List (Nat × CpInfo)) (last : Nat) : List CpInfo := es.foldr (fun e r => gap e.1 (e.2 :: r)) (gap last [])
def pool (es : List (Nat × CpInfo)) (last : Nat) : Array CpInfo := ⟨poolList es last⟩
def fileOf (pool : Array CpInfo) (this : Nat) (attrs : Array Attribute := #[]) (ms : Array MethodInfo := #[]) (fl : Nat := 33) (sup : Nat := 0) (ifs : Array Nat := #[]) (fds : Array FieldInfo := #[]) : ClassFile where
  minorVersion := 0
  majorVersion := 65
  constantPool := pool
  accessFlags := fl
  thisClass := this
  superClass := sup
  interfaces := ifs
  fields := fds
  methods := ms
  attributes := attrs
def plain (name : String) (sup : Option ClassId) : Class where
  name := name
  kind := .ordinary
  loader := none
  accessFlags := 33
  super := sup
  interfaces := #[]
  cf := none
  fields := #[]
  methods := #[]
  instanceTypes := #[]
  staticTypes := #[]
  resolved := #[]
  callSites := []
  init := .initialized
  statics := none
  mirror := none

def pool0 : Array CpInfo := pool [(5, u "<init>"), (0, u "()V"), (1, .class_ 10), (1, u "java/lang/Object")] 113

def k0m0 : Method := { name := "<init>", desc := "()V", sig := { parameters := [], returnType := none }, accessFlags := 1, code := none }
/-- java/lang/Object -/
def k0 : Class := { plain "java/lang/Object" none with
  accessFlags := 33
  interfaces := #[]
  cf := some (fileOf pool0 8 #[] #[{ accessFlags := 1, nameIndex := 5, descriptorIndex := 6, attributes := #[] }] 33 0 #[] #[])
  fields := #[]
  methods := #[k0m0]
  instanceTypes := #[]
  staticTypes := #[]
  resolved := Array.replicate 124 none
  statics := none }

def pool1 : Array CpInfo := pool [(2, .class_ 4), (1, u "java/lang/Object"), (0, u "<init>"), (0, u "()V"), (0, .fieldref 8 9), (0, .class_ 10), (0, .nameAndType 11 12), (0, u "com/example/tagwire/tagwire/bb/Command"), (0, u "MODULE_INFORMATION"), (0, u "Lcom/example/tagwire/tagwire/bb/Command;"), (0, .fieldref 8 14), (0, .nameAndType 15 12), (0, u "SET_REGION"), (0, .fieldref 8 17), (0, .nameAndType 18 12), (0, u "GET_REGION"), (0, .fieldref 8 20), (0, .nameAndType 21 12), (0, u "SELECT_PARAMETER"), (0, .fieldref 8 23), (0, .nameAndType 24 12), (0, u "SELECT_MODE"), (0, .fieldref 8 26), (0, .nameAndType 27 12), (0, u "SINGLE_POLLING"), (0, .fieldref 8 29), (0, .nameAndType 30 12), (0, u "MULTIPLE_POLLING"), (0, .fieldref 8 32), (0, .nameAndType 33 12), (0, u "STOP_MULTIPLE_POLLING"), (0, .fieldref 8 35), (0, .nameAndType 36 12), (0, u "READ"), (0, .fieldref 8 38), (0, .nameAndType 39 12), (0, u "WRITE"), (0, .fieldref 8 41), (0, .nameAndType 42 12), (0, u "SET_POWER"), (0, .fieldref 8 44), (0, .nameAndType 45 12), (0, u "GET_POWER"), (0, .integer 2147483647), (0, .methodref 48 49), (0, .class_ 50), (0, .nameAndType 51 52), (0, u "com/example/tagwire/tagwire/bb/CommandIsAnsweredByPinLaw"), (0, u "pick"), (0, u "(I)Lcom/example/tagwire/tagwire/bb/Command;"), (0, .methodref 48 54), (0, .nameAndType 55 56), (0, u "codeOf"), (0, u "(I)I"), (0, .methodref 8 58), (0, .nameAndType 59 60), (0, u "isAnsweredBy"), (0, u "(I)Z"), (3, u "law"), (0, u "(III)Z")] 2

def k1m0 : Method := { name := "<init>", desc := "()V", sig := { parameters := [], returnType := none }, accessFlags := 1, code := none }
def k1c1 : Code := { maxStack := 2, maxLocals := 1, code := method_2_code, exceptionTable := #[], attributes := #[] }
def k1m1 : Method := { name := "pick", desc := "(I)Lcom/example/tagwire/tagwire/bb/Command;", sig := { parameters := [.int], returnType := some (.object "com/example/tagwire/tagwire/bb/Command") }, accessFlags := 10, code := some k1c1 }
def k1c2 : Code := { maxStack := 2, maxLocals := 1, code := method_3_code, exceptionTable := #[], attributes := #[] }
def k1m2 : Method := { name := "codeOf", desc := "(I)I", sig := { parameters := [.int], returnType := some .int }, accessFlags := 10, code := some k1c2 }
def k1c3 : Code := { maxStack := 3, maxLocals := 9, code := code, exceptionTable := #[], attributes := #[] }
def k1m3 : Method := { name := "law", desc := "(III)Z", sig := { parameters := [.int, .int, .int], returnType := some .boolean }, accessFlags := 9, code := some k1c3 }
/-- com/example/tagwire/tagwire/bb/CommandIsAnsweredByPinLaw -/
def k1 : Class := { plain "com/example/tagwire/tagwire/bb/CommandIsAnsweredByPinLaw" (some 0) with
  accessFlags := 49
  interfaces := #[]
  cf := some (fileOf pool1 48 #[] #[{ accessFlags := 1, nameIndex := 5, descriptorIndex := 6, attributes := #[] }, { accessFlags := 10, nameIndex := 51, descriptorIndex := 52, attributes := #[] }, { accessFlags := 10, nameIndex := 55, descriptorIndex := 56, attributes := #[] }, { accessFlags := 9, nameIndex := 64, descriptorIndex := 65, attributes := #[] }] 49 2 #[] #[])
  fields := #[]
  methods := #[k1m0, k1m1, k1m2, k1m3]
  instanceTypes := #[]
  staticTypes := #[]
  resolved := Array.replicate 68 none
  statics := none }

def pool2 : Array CpInfo := pool [(1, .class_ 2), (0, u "java/lang/constant/Constable"), (0, .class_ 4), (0, u "java/lang/Object")] 6

/-- java/lang/constant/Constable -/
def k2 : Class := { plain "java/lang/constant/Constable" (some 0) with
  accessFlags := 1537
  interfaces := #[]
  cf := some (fileOf pool2 1 #[] #[] 1537 3 #[] #[])
  fields := #[]
  methods := #[]
  instanceTypes := #[]
  staticTypes := #[]
  resolved := Array.replicate 11 none
  statics := none }

def pool3 : Array CpInfo := pool [(1, .class_ 2), (0, u "java/lang/Comparable"), (0, .class_ 4), (0, u "java/lang/Object")] 7

/-- java/lang/Comparable -/
def k3 : Class := { plain "java/lang/Comparable" (some 0) with
  accessFlags := 1537
  interfaces := #[]
  cf := some (fileOf pool3 1 #[] #[] 1537 3 #[] #[])
  fields := #[]
  methods := #[]
  instanceTypes := #[]
  staticTypes := #[]
  resolved := Array.replicate 12 none
  statics := none }

def pool4 : Array CpInfo := pool [(1, .class_ 2), (0, u "java/io/Serializable"), (0, .class_ 4), (0, u "java/lang/Object")] 2

/-- java/io/Serializable -/
def k4 : Class := { plain "java/io/Serializable" (some 0) with
  accessFlags := 1537
  interfaces := #[]
  cf := some (fileOf pool4 1 #[] #[] 1537 3 #[] #[])
  fields := #[]
  methods := #[]
  instanceTypes := #[]
  staticTypes := #[]
  resolved := Array.replicate 7 none
  statics := none }

def pool5 : Array CpInfo := pool [(2, .class_ 4), (1, u "java/lang/Enum"), (0, u "name"), (0, u "Ljava/lang/String;"), (2, u "ordinal"), (0, u "I"), (1, .class_ 14), (1, u "java/lang/Object"), (4, u "hash"), (86, .class_ 108), (1, u "java/lang/Enum$EnumDesc"), (2, .class_ 112), (0, u "java/lang/constant/Constable"), (0, .class_ 114), (0, u "java/lang/Comparable"), (0, .class_ 116), (0, u "java/io/Serializable")] 87

/-- java/lang/Enum -/
def k5 : Class := { plain "java/lang/Enum" (some 0) with
  accessFlags := 1057
  interfaces := #[2, 3, 4]
  cf := some (fileOf pool5 2 #[.nestMembers #[106]] #[] 1057 12 #[111, 113, 115] #[{ accessFlags := 18, nameIndex := 5, descriptorIndex := 6, attributes := #[] }, { accessFlags := 18, nameIndex := 9, descriptorIndex := 10, attributes := #[] }, { accessFlags := 2, nameIndex := 19, descriptorIndex := 10, attributes := #[] }])
  fields := #[{ name := "name", type := (.object "java/lang/String"), accessFlags := 18, slot := 0, constantValue := 0 }, { name := "ordinal", type := .int, accessFlags := 18, slot := 1, constantValue := 0 }, { name := "hash", type := .int, accessFlags := 2, slot := 2, constantValue := 0 }]
  methods := #[]
  instanceTypes := #[(.object "java/lang/String"), .int, .int]
  staticTypes := #[]
  resolved := Array.replicate 204 none
  statics := none }

def pool6 : Array CpInfo := pool [(1, .class_ 2), (0, u "com/example/tagwire/tagwire/bb/Command"), (2, u "MODULE_INFORMATION"), (0, u "Lcom/example/tagwire/tagwire/bb/Command;"), (2, u "SET_REGION"), (2, u "GET_REGION"), (2, u "SELECT_PARAMETER"), (2, u "SELECT_MODE"), (2, u "SINGLE_POLLING"), (2, u "MULTIPLE_POLLING"), (2, u "STOP_MULTIPLE_POLLING"), (2, u "READ"), (2, u "WRITE"), (2, u "SET_POWER"), (2, u "GET_POWER"), (2, u "$VALUES"), (0, u "[Lcom/example/tagwire/tagwire/bb/Command;"), (6, .class_ 52), (1, u "java/lang/Enum"), (9, .fieldref 1 63), (0, .nameAndType 64 65), (0, u "code"), (0, u "I"), (0, .fieldref 1 67), (0, .nameAndType 68 65), (0, u "answerCode"), (33, u "isAnsweredBy"), (0, u "(I)Z")] 5

def k6c0 : Code := { maxStack := 2, maxLocals := 2, code := prog_1_method_8_code, exceptionTable := #[], attributes := #[] }
def k6m0 : Method := { name := "isAnsweredBy", desc := "(I)Z", sig := { parameters := [.int], returnType := some .boolean }, accessFlags := 0, code := some k6c0 }
/-- com/example/tagwire/tagwire/bb/Command -/
def k6 : Class := { plain "com/example/tagwire/tagwire/bb/Command" (some 5) with
  accessFlags := 16432
  interfaces := #[]
  cf := some (fileOf pool6 1 #[] #[{ accessFlags := 0, nameIndex := 102, descriptorIndex := 103, attributes := #[] }] 16432 50 #[] #[{ accessFlags := 16409, nameIndex := 5, descriptorIndex := 6, attributes := #[] }, { accessFlags := 16409, nameIndex := 9, descriptorIndex := 6, attributes := #[] }, { accessFlags := 16409, nameIndex := 12, descriptorIndex := 6, attributes := #[] }, { accessFlags := 16409, nameIndex := 15, descriptorIndex := 6, attributes := #[] }, { accessFlags := 16409, nameIndex := 18, descriptorIndex := 6, attributes := #[] }, { accessFlags := 16409, nameIndex := 21, descriptorIndex := 6, attributes := #[] }, { accessFlags := 16409, nameIndex := 24, descriptorIndex := 6, attributes := #[] }, { accessFlags := 16409, nameIndex := 27, descriptorIndex := 6, attributes := #[] }, { accessFlags := 16409, nameIndex := 30, descriptorIndex := 6, attributes := #[] }, { accessFlags := 16409, nameIndex := 33, descriptorIndex := 6, attributes := #[] }, { accessFlags := 16409, nameIndex := 36, descriptorIndex := 6, attributes := #[] }, { accessFlags := 16409, nameIndex := 39, descriptorIndex := 6, attributes := #[] }, { accessFlags := 18, nameIndex := 64, descriptorIndex := 65, attributes := #[] }, { accessFlags := 18, nameIndex := 68, descriptorIndex := 65, attributes := #[] }, { accessFlags := 4122, nameIndex := 42, descriptorIndex := 43, attributes := #[] }])
  fields := #[{ name := "MODULE_INFORMATION", type := (.object "com/example/tagwire/tagwire/bb/Command"), accessFlags := 16409, slot := 0, constantValue := 0 }, { name := "SET_REGION", type := (.object "com/example/tagwire/tagwire/bb/Command"), accessFlags := 16409, slot := 1, constantValue := 0 }, { name := "GET_REGION", type := (.object "com/example/tagwire/tagwire/bb/Command"), accessFlags := 16409, slot := 2, constantValue := 0 }, { name := "SELECT_PARAMETER", type := (.object "com/example/tagwire/tagwire/bb/Command"), accessFlags := 16409, slot := 3, constantValue := 0 }, { name := "SELECT_MODE", type := (.object "com/example/tagwire/tagwire/bb/Command"), accessFlags := 16409, slot := 4, constantValue := 0 }, { name := "SINGLE_POLLING", type := (.object "com/example/tagwire/tagwire/bb/Command"), accessFlags := 16409, slot := 5, constantValue := 0 }, { name := "MULTIPLE_POLLING", type := (.object "com/example/tagwire/tagwire/bb/Command"), accessFlags := 16409, slot := 6, constantValue := 0 }, { name := "STOP_MULTIPLE_POLLING", type := (.object "com/example/tagwire/tagwire/bb/Command"), accessFlags := 16409, slot := 7, constantValue := 0 }, { name := "READ", type := (.object "com/example/tagwire/tagwire/bb/Command"), accessFlags := 16409, slot := 8, constantValue := 0 }, { name := "WRITE", type := (.object "com/example/tagwire/tagwire/bb/Command"), accessFlags := 16409, slot := 9, constantValue := 0 }, { name := "SET_POWER", type := (.object "com/example/tagwire/tagwire/bb/Command"), accessFlags := 16409, slot := 10, constantValue := 0 }, { name := "GET_POWER", type := (.object "com/example/tagwire/tagwire/bb/Command"), accessFlags := 16409, slot := 11, constantValue := 0 }, { name := "code", type := .int, accessFlags := 18, slot := 3, constantValue := 0 }, { name := "answerCode", type := .int, accessFlags := 18, slot := 4, constantValue := 0 }, { name := "$VALUES", type := (.array (.object "com/example/tagwire/tagwire/bb/Command")), accessFlags := 4122, slot := 12, constantValue := 0 }]
  methods := #[k6m0]
  instanceTypes := #[(.object "java/lang/String"), .int, .int, .int, .int]
  staticTypes := #[(.object "com/example/tagwire/tagwire/bb/Command"), (.object "com/example/tagwire/tagwire/bb/Command"), (.object "com/example/tagwire/tagwire/bb/Command"), (.object "com/example/tagwire/tagwire/bb/Command"), (.object "com/example/tagwire/tagwire/bb/Command"), (.object "com/example/tagwire/tagwire/bb/Command"), (.object "com/example/tagwire/tagwire/bb/Command"), (.object "com/example/tagwire/tagwire/bb/Command"), (.object "com/example/tagwire/tagwire/bb/Command"), (.object "com/example/tagwire/tagwire/bb/Command"), (.object "com/example/tagwire/tagwire/bb/Command"), (.object "com/example/tagwire/tagwire/bb/Command"), (.array (.object "com/example/tagwire/tagwire/bb/Command"))]
  resolved := Array.replicate 109 none
  statics := some 0 }

def pool7 : Array CpInfo := pool [(1, u "java/lang/Cloneable"), (0, .class_ 1), (0, u "java/lang/Object"), (0, .class_ 3)] 3

/-- java/lang/Cloneable -/
def k7 : Class := { plain "java/lang/Cloneable" (some 0) with
  accessFlags := 1537
  interfaces := #[]
  cf := some (fileOf pool7 2 #[] #[] 1537 4 #[] #[])
  fields := #[]
  methods := #[]
  instanceTypes := #[]
  staticTypes := #[]
  resolved := Array.replicate 8 none
  statics := none }

/-- the primitive byte -/
def k8 : Class := { plain "byte" none with kind := .primitive 'B', accessFlags := 0x411 }
/-- [B -/
def k9 : Class := { plain "[B" (some 0) with kind := .array 8 .byte, interfaces := #[7, 4], accessFlags := 1041 }

/-- the primitive int -/
def k10 : Class := { plain "int" none with kind := .primitive 'I', accessFlags := 0x411 }
/-- [I -/
def k11 : Class := { plain "[I" (some 0) with kind := .array 10 .int, interfaces := #[7, 4], accessFlags := 1041 }

def heap : Heap := #[{ cls := 6, slots := #[.ref 1, .ref 2, .ref 11, .ref 7, .ref 9, .ref 10, .ref 5, .ref 6, .ref 3, .ref 12, .ref 8, .ref 4, .null], vm := .statics 6 },
  { cls := 6, slots := #[.null, .int 0, .int 0, .int 3, .int 3], vm := .none },
  { cls := 6, slots := #[.null, .int 0, .int 0, .int 7, .int 7], vm := .none },
  { cls := 6, slots := #[.null, .int 0, .int 0, .int 57, .int 57], vm := .none },
  { cls := 6, slots := #[.null, .int 0, .int 0, .int 183, .int 183], vm := .none },
  { cls := 6, slots := #[.null, .int 0, .int 0, .int 39, .int 39], vm := .none },
  { cls := 6, slots := #[.null, .int 0, .int 0, .int 40, .int 40], vm := .none },
  { cls := 6, slots := #[.null, .int 0, .int 0, .int 12, .int 12], vm := .none },
  { cls := 6, slots := #[.null, .int 0, .int 0, .int 182, .int 182], vm := .none },
  { cls := 6, slots := #[.null, .int 0, .int 0, .int 18, .int 12], vm := .none },
  { cls := 6, slots := #[.null, .int 0, .int 0, .int 34, .int 34], vm := .none },
  { cls := 6, slots := #[.null, .int 0, .int 0, .int 8, .int 8], vm := .none },
  { cls := 6, slots := #[.null, .int 0, .int 0, .int 73, .int 73], vm := .none }]
def classes : Array Class := #[k0, k1, k2, k3, k4, k5, k6, k7, k8, k9, k10, k11]
def interned : List (Array UInt16 × Addr) := []
def slotsUsed : Nat := 73
def theMethod : MethodId := ⟨1, 3⟩
def args0 : Array Value := #[.int 1, .int 2, .int 3]
def aboutOver (below : List Frame) : State where
  vm := { classes := classes, interned := interned.toArray }
  heap := heap
  slotsUsed := slotsUsed
  threads := #[{ frames := .invoking theMethod args0 :: below }]
def below0 : List Frame := [.native { method := ⟨0, 0⟩, args := #[] }]
def about1 : State := aboutOver below0
def p0 : Program := .bare "" "" ""
def e0 : Env := launch0.env 0 0 0
theorem w_frames : about1.frames = Frame.invoking theMethod args0 :: below0 := rfl
set_option maxRecDepth 65536 in
theorem w_args : argsFit about1.vm theMethod args0 = true := by decide +kernel
set_option maxRecDepth 65536 in
theorem w_heap : heapFits about1 = true := by decide +kernel
set_option maxRecDepth 65536 in
theorem w_runnable : about1.curStatus? = some .runnable := by decide +kernel
set_option maxRecDepth 65536 in
theorem w_alone : about1.alone = true := by decide +kernel
set_option maxRecDepth 65536 in
theorem w_named : about1.methodNamed? x = some theMethod := by decide +kernel
set_option maxRecDepth 65536 in
theorem w_hears : about1.hears theMethod below0 = true := by decide +kernel
set_option maxRecDepth 65536 in
theorem w_ripe : about1.ripe theMethod args0 below0 = true := by decide +kernel
theorem w_running : about1.status = .running := rfl
set_option maxRecDepth 65536 in
theorem w_room : about1.hasRoom e0.platform room_1 = true :=
  launch0.hasRoom_least _ room_1 (by decide +kernel) (by decide +kernel) (by decide +kernel) (by decide +kernel) (by decide +kernel) (by decide +kernel)
theorem allAtoms_all (ts : List Jvm.Cond) (a : Array Jvm.Value) (st : Jvm.State) : (allAtoms ts).before a st = ts.all (fun c => c.before a st) := by
  induction ts with
  | nil => rfl
  | cons c t ih =>
    show (Jvm.Cond.and c (allAtoms t)).before a st = _
    rw [Jvm.Cond.before_and, ih, List.all_cons]
def words1 : List Jvm.Cond := Jvm.Cond.code x code maxLocals ret :: tables_1
/-- a 'code' word, met by the world's own term for the bytes: nothing is compared byte by byte -/
theorem code_word {y : MethodName} {bytes : ByteArray} {mx : Nat} {rt : Option FieldType} {a : Array Value} {s : State} {m : MethodId} {meth : Method} {c : Code} (h1 : s.methodNamed? y = some m) (h2 : s.vm.method? m = some meth) (h3 : meth.code = some c) (h4 : c.code = bytes)
    (h5 : (c.maxLocals == mx && c.exceptionTable.isEmpty && decide (c.maxStack ≤ mostOperands) && decide (meth.sig.returnType = rt) && !meth.locks && decide (parseMethodDescriptor y.desc = some meth.sig)) = true) : (Jvm.Cond.code y bytes mx rt).before a s = true := by
  simp only [Bool.and_eq_true, beq_iff_eq, Bool.not_eq_true', decide_eq_true_eq] at h5
  obtain ⟨⟨⟨⟨⟨g1, g2⟩, g3⟩, g4⟩, g5⟩, g6⟩ := h5
  simp [Cond.before, Cond.holds, Cond.value, h1, h2, h3, h4, g1, g2, g3, g4, g5, g6]
def isCode : Jvm.Cond → Bool
  | .code _ _ _ _ => true
  | _ => false
theorem all_split {L : List Jvm.Cond} {P : Jvm.Cond → Bool} (h1 : L.all (fun c => isCode c || P c) = true) (h2 : ∀ c ∈ L.filter isCode, P c = true) : L.all P = true := by
  refine List.all_eq_true.mpr fun c hc => ?_
  have h := List.all_eq_true.mp h1 c hc
  rcases Bool.eq_false_or_eq_true (isCode c) with hi | hi
  · exact h2 c (List.mem_filter.mpr ⟨hc, hi⟩)
  · simpa [hi] using h
set_option maxRecDepth 65536 in
theorem w_c0 : (Jvm.Cond.code x code maxLocals ret).before args0 about1 = true := code_word (m := ⟨1, 3⟩) (meth := k1m3) (c := k1c3) (by decide +kernel) rfl rfl rfl (by decide +kernel)
set_option maxRecDepth 65536 in
theorem w_c1 : (Jvm.Cond.code ({ cls := "com/example/tagwire/tagwire/bb/CommandIsAnsweredByPinLaw", name := "pick", desc := "(I)Lcom/example/tagwire/tagwire/bb/Command;" } : Jvm.MethodName) method_2_code (1 : Nat) (Option.some (Jvm.ClassFile.FieldType.object "com/example/tagwire/tagwire/bb/Command"))).before args0 about1 = true := code_word (m := ⟨1, 1⟩) (meth := k1m1) (c := k1c1) (by decide +kernel) rfl rfl rfl (by decide +kernel)
set_option maxRecDepth 65536 in
theorem w_c2 : (Jvm.Cond.code ({ cls := "com/example/tagwire/tagwire/bb/CommandIsAnsweredByPinLaw", name := "codeOf", desc := "(I)I" } : Jvm.MethodName) method_3_code (1 : Nat) (Option.some Jvm.ClassFile.FieldType.int)).before args0 about1 = true := code_word (m := ⟨1, 2⟩) (meth := k1m2) (c := k1c2) (by decide +kernel) rfl rfl rfl (by decide +kernel)
set_option maxRecDepth 65536 in
theorem w_c3 : (Jvm.Cond.code ({ cls := "com/example/tagwire/tagwire/bb/Command", name := "isAnsweredBy", desc := "(I)Z" } : Jvm.MethodName) prog_1_method_8_code (2 : Nat) (Option.some Jvm.ClassFile.FieldType.boolean)).before args0 about1 = true := code_word (m := ⟨6, 0⟩) (meth := k6m0) (c := k6c0) (by decide +kernel) rfl rfl rfl (by decide +kernel)
def codes1 : List Jvm.Cond := [Jvm.Cond.code x code maxLocals ret, Jvm.Cond.code ({ cls := "com/example/tagwire/tagwire/bb/CommandIsAnsweredByPinLaw", name := "pick", desc := "(I)Lcom/example/tagwire/tagwire/bb/Command;" } : Jvm.MethodName) method_2_code (1 : Nat) (Option.some (Jvm.ClassFile.FieldType.object "com/example/tagwire/tagwire/bb/Command")), Jvm.Cond.code ({ cls := "com/example/tagwire/tagwire/bb/CommandIsAnsweredByPinLaw", name := "codeOf", desc := "(I)I" } : Jvm.MethodName) method_3_code (1 : Nat) (Option.some Jvm.ClassFile.FieldType.int), Jvm.Cond.code ({ cls := "com/example/tagwire/tagwire/bb/Command", name := "isAnsweredBy", desc := "(I)Z" } : Jvm.MethodName) prog_1_method_8_code (2 : Nat) (Option.some Jvm.ClassFile.FieldType.boolean)]
set_option maxRecDepth 65536 in
theorem codes_eq : words1.filter isCode = codes1 := rfl
theorem w_codes : ∀ c ∈ words1.filter isCode, c.before args0 about1 = true := by
  rw [codes_eq]
  intro c hc
  simp only [codes1, List.mem_cons, List.not_mem_nil, or_false] at hc
  rcases hc with rfl | rfl | rfl | rfl
  · exact w_c0
  · exact w_c1
  · exact w_c2
  · exact w_c3
set_option maxRecDepth 65536 in
theorem w_t1 : (words1.take 24).all (fun c => isCode c || c.before args0 about1) = true := by decide +kernel
set_option maxRecDepth 65536 in
theorem w_t2 : (words1.drop 24).all (fun c => isCode c || c.before args0 about1) = true := by decide +kernel
theorem w_tables : (allAtoms (Jvm.Cond.code x code maxLocals ret :: tables_1)).before args0 about1 = true := by
  rw [allAtoms_all]
  show words1.all (fun c => c.before args0 about1) = true
  refine all_split ?_ w_codes
  rw [← List.take_append_drop 24 words1, List.all_append, w_t1, w_t2]
  rfl
set_option maxRecDepth 65536 in
theorem w_case : (Jvm.Cond.and given_1 narrow_1).before args0 about1 = true := by decide +kernel
theorem w_applies : (headSpec (Jvm.Cond.code x code maxLocals ret :: tables_1) room_1).applies x e0.platform about1 = true :=
  (Spec.applies_iff w_frames).mpr ⟨w_running, w_runnable, w_alone, w_named, w_hears, w_ripe, w_room, w_tables⟩
theorem atStart : AtStart classFile x code maxLocals ret World_1 tables_1 room_1 Calls_1 rest_1 Pre_1 launch0 p0 e0 about1 theMethod args0 below0 :=
  ⟨lists_1, trivial, launch0.admits_env _ _ _, launch0.least_env, fairChoices_fair.cas, fairChoices_fair.clock, w_frames, w_args, w_heap, w_applies, trivial, trivial, w_case⟩
end start1
theorem witness_1 : WitnessClaimed_1 := ⟨start1.p0, start1.e0, start1.about1, start1.theMethod, start1.args0, start1.below0, start1.atStart⟩
end Jvm.Pilot.@@N@@
