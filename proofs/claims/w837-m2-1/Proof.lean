import JvmDerived
import JvmDerived.Pilot.@@N@@Statement
import JvmDerived.Pilot.@@N@@Code
set_option linter.unusedVariables false
set_option linter.unusedSimpArgs false
@@BLOCK:NumsL.lean.txt@@
namespace Jvm.RoadKit
open Sem ClassFile Op Lib Jvm.Stand Jvm.Free Jvm.LawKit
section New
variable {p : Program} {l : Launch} {e : Env} {R : Room} {s : State} {m : MethodId} {args : Array Value} {below : List Frame} {meth : Method} {c : Code} {T : State} {locs : List Loc} {cells slots : Nat}
theorem retI (X : Stand p l e R s m args below meth c T locs cells slots) (hx : p.tables.exec = Jvm.exec) {pc : Nat} {Ls : Array Slot} {z : Int32} {rest : List Value} (hret : meth.sig.returnType = some .int) (hd : decode c.code pc = .ok (.ireturn, 1)) {fs : List Frame}
    (hl : ∀ (f : JFrame) (acts : List Action), f.method = m → f.locked = none → f.entered = [] → (doReturn e (T.setTop f) acts (some (.int z))).1 = T.setFrames fs) : Steps p.tables e below (T.setTop (mkF m pc Ls (.int z :: rest))) (T.setFrames fs) := by
  have hm' : T.vm.method? m = some meth := X.method'
  have hn : narrow .int (.int z) = .int z := rfl
  show Steps p.tables e below (T.setTop { method := m, pc := pc, locals := Ls, stack := _ :: rest, locked := none }) _
  jvm_step X.here [X.here.top, hx, hd, hm', hret, hn]
  first | (intro acts; rw [hl _ acts rfl rfl rfl]) | rw [hl _ _ rfl rfl rfl]
  exact Steps.refl _
end New
end Jvm.RoadKit
namespace Jvm.Pilot.@@N@@
open Jvm Jvm.ClassFile Sem Op Lib Jvm.Free Jvm.Stand Jvm.LawKit Jvm.RoadKit Bundle Jvm.Pilot.@@N@@.Jvm.D
/-- what is still to be run from the state A on: it ends, returned, and Q says what it leaves -/
def own_Gl (FE : State → Outcome → State → List Loc → Nat → Nat → Prop) (p : Program) (e : Env) (below : List Frame) (s : State) (Q : Option Value → Heap → List Loc → Prop) (C N : Nat) (A : State) : Prop :=
  ∃ s₂ o, Steps p.tables e below A s₂ ∧ s₂.status = .running ∧ Ended s₂ below o ∧ ∃ v L, o = .returned v ∧ Q v s₂.heap L ∧ FE s o s₂ L C N
theorem own_st {FE : State → Outcome → State → List Loc → Nat → Nat → Prop} {p : Program} {e : Env} {below : List Frame} {s : State} {Q : Option Value → Heap → List Loc → Prop} {C N : Nat} {A A' : State} (h : ∀ t, Steps p.tables e below A' t → Steps p.tables e below A t) (k : own_Gl FE p e below s Q C N A') : own_Gl FE p e below s Q C N A := by
  obtain ⟨s2, o, h1, r⟩ := k
  exact ⟨s2, o, h _ h1, r⟩
theorem own_tr {FE : State → Outcome → State → List Loc → Nat → Nat → Prop} {p : Program} {e : Env} {below : List Frame} {s : State} {Q : Option Value → Heap → List Loc → Prop} {C N : Nat} {A A' : State} (h : Steps p.tables e below A A') (k : own_Gl FE p e below s Q C N A') : own_Gl FE p e below s Q C N A := by
  obtain ⟨s2, o, h1, r⟩ := k
  exact ⟨s2, o, h.trans h1, r⟩
theorem own_ret {p : Program} {l : Launch} {e : Env} {R : Room} {s : State} {m : MethodId} {args : Array Value} {below : List Frame} {meth : Method} {c : Code} {T : State} {locs : List Loc} {cells slots : Nat} {Q : Option Value → Heap → List Loc → Prop} {C N : Nat} {A : State}
    (X : Stand p l e R s m args below meth c T locs cells slots) {v : Option Value} (hv : meth.sig.returnType = none → v = none) (hlocks : meth.locks = false) (hC : cells ≤ C) (hN : slots ≤ N) (q : Q v T.heap locs)
    (h : ∀ fs, (∀ (f : JFrame) (acts : List Action), f.method = m → f.locked = none → f.entered = [] → (doReturn e (T.setTop f) acts v).1 = T.setFrames fs) → Steps p.tables e below A (T.setFrames fs)) : own_Gl FrameEnd p e below s Q C N A := by
  obtain ⟨fs, hr, hrun, hended, hW, hsame⟩ := X.leave (v := v) hv hlocks
  exact ⟨_, _, h fs hr, hrun, hended, v, locs, rfl, q, ⟨v, rfl⟩, hW, hsame.mono hC hN⟩
theorem own_retW {p : Program} {l : Launch} {e : Env} {R : Room} {s : State} {vm0 : Vm} {m : MethodId} {args : Array Value} {below : List Frame} {meth : Method} {c : Code} {T : State} {locs : List Loc} {cells slots : Nat} {Q : Option Value → Heap → List Loc → Prop} {C N : Nat} {A : State}
    (X : Stand p l e R (s.setVm vm0) m args below meth c T locs cells slots) {k0 : Nat} (hS : s.Since vm0 k0) (hk : k0 ≤ T.heap.size) {v : Option Value} (hv : meth.sig.returnType = none → v = none) (hlocks : meth.locks = false) (hC : cells ≤ C) (hN : slots ≤ N) (q : Q v T.heap locs)
    (h : ∀ fs, (∀ (f : JFrame) (acts : List Action), f.method = m → f.locked = none → f.entered = [] → (doReturn e (T.setTop f) acts v).1 = T.setFrames fs) → Steps p.tables e below A (T.setFrames fs)) : own_Gl ReturnedEndW p e below s Q C N A := by
  obtain ⟨fs, hr, hrun, hended, h1, h2, h3, h4⟩ := X.leaveW hS hk (v := v) hv hlocks
  exact ⟨_, _, h fs hr, hrun, hended, v, locs, rfl, q, h1, h2, h3, h4.mono hC hN⟩
theorem own_kext {h0 h : Heap} (K : Keep h0 h ([] : List Addr)) : Ext h0 h := ⟨K.1, fun a c q => K.2.1 a c q nin0⟩
def own_FEH (Z : State) (EL : List (String × Nat)) (s : State) (o : Outcome) (t : State) (L : List Loc) (k n : Nat) : Prop := CHr Z EL s.vm s.heap t.vm t.heap ∧ ReturnedEndW s o t L k n
theorem own_retH {Z : State} {EL : List (String × Nat)} {a0 : Array Value} {p : Program} {l : Launch} {e : Env} {R : Room} {s : State} {vm0 : Vm} {m : MethodId} {args : Array Value} {below : List Frame} {meth : Method} {c : Code} {T : State} {locs : List Loc} {cells slots : Nat} {Q : Option Value → Heap → List Loc → Prop} {C N : Nat} {A : State} {h : Heap}
    (X : Stand p l e R (s.setVm vm0) m args below meth c T locs cells slots) {k0 : Nat} (hS : s.Since vm0 k0) (hk : k0 ≤ T.heap.size) (hZ : Z.Warmed39 vm0) (hEL : EW Z a0 EL) (eT : T.heap = h) (hR : CHr Z EL s.vm s.heap vm0 h) {v : Option Value} (hv : meth.sig.returnType = none → v = none) (hlocks : meth.locks = false) (hC : cells ≤ C) (hN : slots ≤ N) (q : Q v T.heap locs)
    (h' : ∀ fs, (∀ (f : JFrame) (acts : List Action), f.method = m → f.locked = none → f.entered = [] → (doReturn e (T.setTop f) acts v).1 = T.setFrames fs) → Steps p.tables e below A (T.setFrames fs)) : own_Gl (own_FEH Z EL) p e below s Q C N A := by
  obtain ⟨fs, hr, hrun, hended, h1, h2, h3, h4⟩ := X.leaveW hS hk (v := v) hv hlocks
  subst eT
  exact ⟨_, _, h' fs hr, hrun, hended, v, locs, rfl, q, (show CHr Z EL s.vm s.heap T.vm T.heap from hR.trans (CHv.at X hZ hEL hR.1)), h1, h2, h3, h4.mono hC hN⟩
theorem own_lgt {x y : Int64} (h : y < x) : (0 : Int32) < lcmpW x y := by rw [lcW]; exact (lc_gt _ _).mpr h
theorem own_ngt {x y : Int64} (h : ¬ y < x) : ¬ (0 : Int32) < lcmpW x y := by rw [lcW]; exact fun q => h ((lc_gt _ _).mp q)
theorem own_llt {x y : Int64} (h : x < y) : lcmpW x y < (0 : Int32) := by rw [lcW]; exact (lc_lt _ _).mpr h
theorem own_nlt {x y : Int64} (h : ¬ x < y) : ¬ lcmpW x y < (0 : Int32) := by rw [lcW]; exact fun q => h ((lc_lt _ _).mp q)
theorem own_leq {x y : Int64} (h : x = y) : lcmpW x y = (0 : Int32) := by rw [lcW]; exact (lc_eq _ _).mpr h
theorem own_neq {x y : Int64} (h : ¬ x = y) : ¬ lcmpW x y = (0 : Int32) := by rw [lcW]; exact fun q => h ((lc_eq _ _).mp q)
theorem own_lrem {p : Program} {l : Launch} {e : Env} {R : Room} {s : State} {m : MethodId} {args : Array Value} {below : List Frame} {meth : Method} {c : Code} {T : State} {locs : List Loc} {cells slots : Nat} {g : JFrame} {target : State} (X : Stand p l e R s m args below meth c T locs cells slots) (hx : p.tables.exec = Jvm.exec) (hg : g.method = m) {x y : Int64} {rest : List Value} (hd : decode c.code g.pc = .ok (.lrem, 1)) (hs : g.stack = .long y :: .long x :: rest) (hy : y ≠ 0)
    (hr : Steps p.tables e below (T.setTop { g with pc := g.pc + 1, stack := .long (x - (x / y) * y) :: rest }) target) : Steps p.tables e below (T.setTop g) target := XS.lrem X.here hx hg hd hs hy hr
theorem own_eqi {t : Term} {n : Int32} {args : Array Value} {s : State} (h : (Jvm.Cond.eq t (.int n)).value args s none s [] = some true) : t.eval args s none [] s = some (.int n) := by
  have hn : (Term.int n).eval args s none [] s = some (.int n) := rfl
  simp only [Cond.value, hn] at h
  cases hv : t.eval args s none [] s with
  | none => simp [hv] at h
  | some v => cases v <;> simp_all
theorem own_m31 (x : Int32) : (x &&& (2147483647 : Int32)).toInt = x.toInt % 2 ^ 31 := Jvm.Kit.i32_mask x 2147483647 (k := 31) (by decide) (by decide)
theorem own_rem (x k : Int32) (n : Nat) (hk : k.toInt = n) (hn : 0 < n) : 0 ≤ ((x &&& (2147483647 : Int32)) % k).toInt ∧ ((x &&& (2147483647 : Int32)) % k).toInt < n := by
  have m := own_m31 x
  rw [Jvm.Kit.i32_rem_nonneg (by rw [m]; omega), hk]
  exact ⟨Int.emod_nonneg _ (by omega), Int.emod_lt_of_pos _ (by omega)⟩
theorem own_split11 {z : Int32} (h0 : 0 ≤ z.toInt) (h1 : z.toInt < 11) : z = (0 : Int32) ∨ z = (1 : Int32) ∨ z = (2 : Int32) ∨ z = (3 : Int32) ∨ z = (4 : Int32) ∨ z = (5 : Int32) ∨ z = (6 : Int32) ∨ z = (7 : Int32) ∨ z = (8 : Int32) ∨ z = (9 : Int32) ∨ z = (10 : Int32) := by
  have e : ∀ k : Int32, z.toInt = k.toInt → z = k := fun k h => Int32.toInt_inj.mp h
  have q : z.toInt = 0 ∨ z.toInt = 1 ∨ z.toInt = 2 ∨ z.toInt = 3 ∨ z.toInt = 4 ∨ z.toInt = 5 ∨ z.toInt = 6 ∨ z.toInt = 7 ∨ z.toInt = 8 ∨ z.toInt = 9 ∨ z.toInt = 10 := by omega
  rcases q with h | h | h | h | h | h | h | h | h | h | h
  · exact Or.inl (e 0 (h.trans (by decide)))
  · exact Or.inr (Or.inl (e 1 (h.trans (by decide))))
  · exact Or.inr (Or.inr (Or.inl (e 2 (h.trans (by decide)))))
  · exact Or.inr (Or.inr (Or.inr (Or.inl (e 3 (h.trans (by decide))))))
  · exact Or.inr (Or.inr (Or.inr (Or.inr (Or.inl (e 4 (h.trans (by decide)))))))
  · exact Or.inr (Or.inr (Or.inr (Or.inr (Or.inr (Or.inl (e 5 (h.trans (by decide))))))))
  · exact Or.inr (Or.inr (Or.inr (Or.inr (Or.inr (Or.inr (Or.inl (e 6 (h.trans (by decide)))))))))
  · exact Or.inr (Or.inr (Or.inr (Or.inr (Or.inr (Or.inr (Or.inr (Or.inl (e 7 (h.trans (by decide))))))))))
  · exact Or.inr (Or.inr (Or.inr (Or.inr (Or.inr (Or.inr (Or.inr (Or.inr (Or.inl (e 8 (h.trans (by decide)))))))))))
  · exact Or.inr (Or.inr (Or.inr (Or.inr (Or.inr (Or.inr (Or.inr (Or.inr (Or.inr (Or.inl (e 9 (h.trans (by decide))))))))))))
  · exact Or.inr (Or.inr (Or.inr (Or.inr (Or.inr (Or.inr (Or.inr (Or.inr (Or.inr (Or.inr (e 10 (h.trans (by decide))))))))))))
def own_pick1 (p : Int32) (a_SMALLINT a_INTEGER a_BIGINT a_REAL a_DOUBLE a_VARCHAR a_BOOLEAN a_TIMESTAMP a_POINT a_CIRCLE a_POLYGON : Addr) : Addr := if p = (0 : Int32) then a_SMALLINT else if p = (1 : Int32) then a_INTEGER else if p = (2 : Int32) then a_BIGINT else if p = (3 : Int32) then a_REAL else if p = (4 : Int32) then a_DOUBLE else if p = (5 : Int32) then a_VARCHAR else if p = (6 : Int32) then a_BOOLEAN else if p = (7 : Int32) then a_TIMESTAMP else if p = (8 : Int32) then a_POINT else if p = (9 : Int32) then a_CIRCLE else a_POLYGON
theorem own_d1_0 : decode method_2_code 0 = .ok (.iload_n 0, 1) := by decide +kernel
theorem own_d1_1 : decode method_2_code 1 = .ok (.ifCond .ne 7, 3) := by decide +kernel
theorem own_d1_4 : decode method_2_code 4 = .ok (.getstatic 7, 3) := by decide +kernel
theorem own_d1_7 : decode method_2_code 7 = .ok (.areturn, 1) := by decide +kernel
theorem own_d1_8 : decode method_2_code 8 = .ok (.iload_n 0, 1) := by decide +kernel
theorem own_d1_9 : decode method_2_code 9 = .ok (.iconst 1, 1) := by decide +kernel
theorem own_d1_10 : decode method_2_code 10 = .ok (.if_icmp .ne 7, 3) := by decide +kernel
theorem own_d1_13 : decode method_2_code 13 = .ok (.getstatic 13, 3) := by decide +kernel
theorem own_d1_16 : decode method_2_code 16 = .ok (.areturn, 1) := by decide +kernel
theorem own_d1_17 : decode method_2_code 17 = .ok (.iload_n 0, 1) := by decide +kernel
theorem own_d1_18 : decode method_2_code 18 = .ok (.iconst 2, 1) := by decide +kernel
theorem own_d1_19 : decode method_2_code 19 = .ok (.if_icmp .ne 7, 3) := by decide +kernel
theorem own_d1_22 : decode method_2_code 22 = .ok (.getstatic 16, 3) := by decide +kernel
theorem own_d1_25 : decode method_2_code 25 = .ok (.areturn, 1) := by decide +kernel
theorem own_d1_26 : decode method_2_code 26 = .ok (.iload_n 0, 1) := by decide +kernel
theorem own_d1_27 : decode method_2_code 27 = .ok (.iconst 3, 1) := by decide +kernel
theorem own_d1_28 : decode method_2_code 28 = .ok (.if_icmp .ne 7, 3) := by decide +kernel
theorem own_d1_31 : decode method_2_code 31 = .ok (.getstatic 19, 3) := by decide +kernel
theorem own_d1_34 : decode method_2_code 34 = .ok (.areturn, 1) := by decide +kernel
theorem own_d1_35 : decode method_2_code 35 = .ok (.iload_n 0, 1) := by decide +kernel
theorem own_d1_36 : decode method_2_code 36 = .ok (.iconst 4, 1) := by decide +kernel
theorem own_d1_37 : decode method_2_code 37 = .ok (.if_icmp .ne 7, 3) := by decide +kernel
theorem own_d1_40 : decode method_2_code 40 = .ok (.getstatic 22, 3) := by decide +kernel
theorem own_d1_43 : decode method_2_code 43 = .ok (.areturn, 1) := by decide +kernel
theorem own_d1_44 : decode method_2_code 44 = .ok (.iload_n 0, 1) := by decide +kernel
theorem own_d1_45 : decode method_2_code 45 = .ok (.iconst 5, 1) := by decide +kernel
theorem own_d1_46 : decode method_2_code 46 = .ok (.if_icmp .ne 7, 3) := by decide +kernel
theorem own_d1_49 : decode method_2_code 49 = .ok (.getstatic 25, 3) := by decide +kernel
theorem own_d1_52 : decode method_2_code 52 = .ok (.areturn, 1) := by decide +kernel
theorem own_d1_53 : decode method_2_code 53 = .ok (.iload_n 0, 1) := by decide +kernel
theorem own_d1_54 : decode method_2_code 54 = .ok (.bipush 6, 2) := by decide +kernel
theorem own_d1_56 : decode method_2_code 56 = .ok (.if_icmp .ne 7, 3) := by decide +kernel
theorem own_d1_59 : decode method_2_code 59 = .ok (.getstatic 28, 3) := by decide +kernel
theorem own_d1_62 : decode method_2_code 62 = .ok (.areturn, 1) := by decide +kernel
theorem own_d1_63 : decode method_2_code 63 = .ok (.iload_n 0, 1) := by decide +kernel
theorem own_d1_64 : decode method_2_code 64 = .ok (.bipush 7, 2) := by decide +kernel
theorem own_d1_66 : decode method_2_code 66 = .ok (.if_icmp .ne 7, 3) := by decide +kernel
theorem own_d1_69 : decode method_2_code 69 = .ok (.getstatic 31, 3) := by decide +kernel
theorem own_d1_72 : decode method_2_code 72 = .ok (.areturn, 1) := by decide +kernel
theorem own_d1_73 : decode method_2_code 73 = .ok (.iload_n 0, 1) := by decide +kernel
theorem own_d1_74 : decode method_2_code 74 = .ok (.bipush 8, 2) := by decide +kernel
theorem own_d1_76 : decode method_2_code 76 = .ok (.if_icmp .ne 7, 3) := by decide +kernel
theorem own_d1_79 : decode method_2_code 79 = .ok (.getstatic 34, 3) := by decide +kernel
theorem own_d1_82 : decode method_2_code 82 = .ok (.areturn, 1) := by decide +kernel
theorem own_d1_83 : decode method_2_code 83 = .ok (.iload_n 0, 1) := by decide +kernel
theorem own_d1_84 : decode method_2_code 84 = .ok (.bipush 9, 2) := by decide +kernel
theorem own_d1_86 : decode method_2_code 86 = .ok (.if_icmp .ne 7, 3) := by decide +kernel
theorem own_d1_89 : decode method_2_code 89 = .ok (.getstatic 37, 3) := by decide +kernel
theorem own_d1_92 : decode method_2_code 92 = .ok (.areturn, 1) := by decide +kernel
theorem own_d1_93 : decode method_2_code 93 = .ok (.getstatic 40, 3) := by decide +kernel
theorem own_d1_96 : decode method_2_code 96 = .ok (.areturn, 1) := by decide +kernel
theorem own_ef_rm1 (m : MethodId) (p0 : Int32) : entryFrame m #[(.int p0)] 1 = mkF m 0 #[.val (.int p0)] [] := by first | (simp [entryFrame, mkF, argsToLocals, Value.category]; done) | rfl
theorem own_pn0 : plainName "com/example/gate_to_tables/gatetotables/adql/catalog/DatatypeIsNumericPinLaw" = true := by first | (simp [plainName, overriddenIn]; done) | decide +kernel
def Q1 (Z : State) (p0 : Int32) (a_SMALLINT : Addr) (a_INTEGER : Addr) (a_BIGINT : Addr) (a_REAL : Addr) (a_DOUBLE : Addr) (a_VARCHAR : Addr) (a_BOOLEAN : Addr) (a_TIMESTAMP : Addr) (a_POINT : Addr) (a_CIRCLE : Addr) (a_POLYGON : Addr) (h0 : Heap) (n0 : Nat) (v : Option Value) (h : Heap) (L : List Loc) : Prop := v = some (.ref (own_pick1 p0 a_SMALLINT a_INTEGER a_BIGINT a_REAL a_DOUBLE a_VARCHAR a_BOOLEAN a_TIMESTAMP a_POINT a_CIRCLE a_POLYGON)) ∧ Fr n0 L ∧ h = h0
set_option maxRecDepth 65536 in
set_option maxHeartbeats 40000000 in
theorem rm1 (l : Launch) (Z : State) (a0 : Array Value) (hw : ∀ d ∈ tables_1, d.before a0 Z = true) (ws : List Jvm.Cond) (p0 : Int32) (a_SMALLINT : Addr) (a_INTEGER : Addr) (a_BIGINT : Addr) (a_REAL : Addr) (a_DOUBLE : Addr) (a_VARCHAR : Addr) (a_BOOLEAN : Addr) (a_TIMESTAMP : Addr) (a_POINT : Addr) (a_CIRCLE : Addr) (a_POLYGON : Addr) (h0 : Heap) (n0 : Nat) (Z0 : n0 ≤ h0.size) (S_SMALLINT : Sta Z h0 "com/example/gate_to_tables/gatetotables/adql/catalog/Datatype" "SMALLINT" "Lcom/example/gate_to_tables/gatetotables/adql/catalog/Datatype;" (.ref a_SMALLINT)) (S_INTEGER : Sta Z h0 "com/example/gate_to_tables/gatetotables/adql/catalog/Datatype" "INTEGER" "Lcom/example/gate_to_tables/gatetotables/adql/catalog/Datatype;" (.ref a_INTEGER)) (S_BIGINT : Sta Z h0 "com/example/gate_to_tables/gatetotables/adql/catalog/Datatype" "BIGINT" "Lcom/example/gate_to_tables/gatetotables/adql/catalog/Datatype;" (.ref a_BIGINT)) (S_REAL : Sta Z h0 "com/example/gate_to_tables/gatetotables/adql/catalog/Datatype" "REAL" "Lcom/example/gate_to_tables/gatetotables/adql/catalog/Datatype;" (.ref a_REAL)) (S_DOUBLE : Sta Z h0 "com/example/gate_to_tables/gatetotables/adql/catalog/Datatype" "DOUBLE" "Lcom/example/gate_to_tables/gatetotables/adql/catalog/Datatype;" (.ref a_DOUBLE)) (S_VARCHAR : Sta Z h0 "com/example/gate_to_tables/gatetotables/adql/catalog/Datatype" "VARCHAR" "Lcom/example/gate_to_tables/gatetotables/adql/catalog/Datatype;" (.ref a_VARCHAR)) (S_BOOLEAN : Sta Z h0 "com/example/gate_to_tables/gatetotables/adql/catalog/Datatype" "BOOLEAN" "Lcom/example/gate_to_tables/gatetotables/adql/catalog/Datatype;" (.ref a_BOOLEAN)) (S_TIMESTAMP : Sta Z h0 "com/example/gate_to_tables/gatetotables/adql/catalog/Datatype" "TIMESTAMP" "Lcom/example/gate_to_tables/gatetotables/adql/catalog/Datatype;" (.ref a_TIMESTAMP)) (S_POINT : Sta Z h0 "com/example/gate_to_tables/gatetotables/adql/catalog/Datatype" "POINT" "Lcom/example/gate_to_tables/gatetotables/adql/catalog/Datatype;" (.ref a_POINT)) (S_CIRCLE : Sta Z h0 "com/example/gate_to_tables/gatetotables/adql/catalog/Datatype" "CIRCLE" "Lcom/example/gate_to_tables/gatetotables/adql/catalog/Datatype;" (.ref a_CIRCLE)) (S_POLYGON : Sta Z h0 "com/example/gate_to_tables/gatetotables/adql/catalog/Datatype" "POLYGON" "Lcom/example/gate_to_tables/gatetotables/adql/catalog/Datatype;" (.ref a_POLYGON)) :
    MetFree l (⟨"com/example/gate_to_tables/gatetotables/adql/catalog/DatatypeIsNumericPinLaw", "pick", "(I)Lcom/example/gate_to_tables/gatetotables/adql/catalog/Datatype;"⟩ : MethodName) (head1 (Jvm.Cond.code (⟨"com/example/gate_to_tables/gatetotables/adql/catalog/DatatypeIsNumericPinLaw", "pick", "(I)Lcom/example/gate_to_tables/gatetotables/adql/catalog/Datatype;"⟩ : MethodName) method_2_code 1 (some (.object "com/example/gate_to_tables/gatetotables/adql/catalog/Datatype")) :: ws) ({ frames := 0, cells := 0, slots := 0, locals := 0 } : Room)) (fun a U => a = #[(.int p0)] ∧ Z.Warmed39 U.vm ∧ U.heap = h0) (fun _ _ _ _ _ => True) (fun _ U o U' => ∃ v L, o = .returned v ∧ Q1 Z p0 a_SMALLINT a_INTEGER a_BIGINT a_REAL a_DOUBLE a_VARCHAR a_BOOLEAN a_TIMESTAMP a_POINT a_CIRCLE a_POLYGON h0 n0 v U'.heap L ∧ FrameEnd U o U' L ({ frames := 0, cells := 0, slots := 0, locals := 0 } : Room).cells ({ frames := 0, cells := 0, slots := 0, locals := 0 } : Room).slots) := by
  refine MetFree.of_bodySF (plainFor_of_name own_pn0) hisR ?_
  intro p e s m args below meth c s₁ Bd hml0 hP hK
  obtain ⟨rfl, hZ, hh⟩ := hP
  have hx := Bd.exec
  have hby := Bd.bytes
  have hml : c.maxLocals = 1 := hml0
  have hown : s.vm.findClass "com/example/gate_to_tables/gatetotables/adql/catalog/DatatypeIsNumericPinLaw" = some m.cls := findClass_of_methodNamed Bd.named
  have hnm := (name_of_methodNamed Bd.named Bd.method).1
  have hlk : meth.locks = false := BodyLoose.notSynchronized Bd
  have X0 : Stand p l e ({ frames := 0, cells := 0, slots := 0, locals := 0 } : Room) s m #[(.int p0)] below meth c s₁ [] 0 0 := Stand.of_body Bd
  have e0 : s₁.heap = h0 := by rw [← hh, Bd.state]; rfl
  have N0 := Fr.nil n0
  show own_Gl FrameEnd p e below s (Q1 Z p0 a_SMALLINT a_INTEGER a_BIGINT a_REAL a_DOUBLE a_VARCHAR a_BOOLEAN a_TIMESTAMP a_POINT a_CIRCLE a_POLYGON h0 n0) ({ frames := 0, cells := 0, slots := 0, locals := 0 } : Room).cells ({ frames := 0, cells := 0, slots := 0, locals := 0 } : Room).slots (s₁.setTop (entryFrame m #[(.int p0)] 1))
  rw [own_ef_rm1 m p0]
  refine own_st (A' := s₁.setTop (mkF m 1 #[.val (.int p0)] [(.int p0)])) (fun tg kt => ?_) ?_
  · show Steps p.tables e below (s₁.setTop (mkF m 0 #[.val (.int p0)] [])) _
    refine XS.iloadN X0.here hx rfl (hb hby own_d1_0) rfl ?_
    exact kt
  by_cases hc1_1 : p0 = (0 : Int32)
  · refine own_st (A' := s₁.setTop (mkF m 4 #[.val (.int p0)] [])) (fun tg kt => ?_) ?_
    · show Steps p.tables e below (s₁.setTop (mkF m 1 #[.val (.int p0)] [(.int p0)])) _
      refine XS.ifNo X0.here hx rfl (hb hby own_d1_1) rfl ((if0 _ _).trans (teq hc1_1).2) ?_
      exact kt
    obtain ⟨T2, X2, e2, st2⟩ := getS2 X0 hx hZ hown (host := "") (Or.inl (hw _ (List.mem_of_getElem? (i := 5) rfl))) Via.refl e0 S_SMALLINT (g := (mkF m 4 #[.val (.int p0)] [])) rfl (hb hby own_d1_4)
    refine own_st st2 ?_
    show own_Gl _ _ _ _ _ _ _ _ (T2.setTop (mkF m 7 #[.val (.int p0)] [(.ref a_SMALLINT)]))
    refine own_ret X2 (v := some (.ref a_SMALLINT)) (fun h => by rw [Bd.returns] at h; cases h) hlk (by decide) (by decide) ?_ (fun fs hr => ?_)
    · show Q1 Z p0 a_SMALLINT a_INTEGER a_BIGINT a_REAL a_DOUBLE a_VARCHAR a_BOOLEAN a_TIMESTAMP a_POINT a_CIRCLE a_POLYGON h0 n0 (some (.ref a_SMALLINT)) T2.heap _
      rw [e2]
      exact ⟨congrArg (fun z => some (Value.ref z)) (by unfold own_pick1; rw [if_pos hc1_1]), N0, rfl⟩
    · show Steps p.tables e below (T2.setTop (mkF m 7 #[.val (.int p0)] [(.ref a_SMALLINT)])) _
      jvm_step X2.here [X2.here.top, hx, (hb hby own_d1_7), X2.method', Bd.returns, Value.isRef, FieldType.isReference]
      first | (intro acts; rw [hr _ acts rfl rfl rfl]) | rw [hr _ _ rfl rfl rfl]
      exact Steps.refl _
  · refine own_st (A' := s₁.setTop (mkF m 10 #[.val (.int p0)] [(.int (1 : Int32)), (.int p0)])) (fun tg kt => ?_) ?_
    · show Steps p.tables e below (s₁.setTop (mkF m 1 #[.val (.int p0)] [(.int p0)])) _
      refine XS.ifYes X0.here hx rfl (pc0 := 1) (pc' := 8) rfl (hb hby own_d1_1) rfl ((if0 _ _).trans (feq hc1_1).2) (by decide) (by decide) ?_
      show Steps p.tables e below (s₁.setTop (mkF m 8 #[.val (.int p0)] [])) _
      refine XS.iloadN X0.here hx rfl (hb hby own_d1_8) rfl ?_
      show Steps p.tables e below (s₁.setTop (mkF m 9 #[.val (.int p0)] [(.int p0)])) _
      refine XS.iconst X0.here hx rfl (hb hby own_d1_9) ?_
      exact kt
    by_cases hc10_3 : p0 = (1 : Int32)
    · refine own_st (A' := s₁.setTop (mkF m 13 #[.val (.int p0)] [])) (fun tg kt => ?_) ?_
      · show Steps p.tables e below (s₁.setTop (mkF m 10 #[.val (.int p0)] [(.int (1 : Int32)), (.int p0)])) _
        refine XS.icmpNo X0.here hx rfl (hb hby own_d1_10) rfl (teq hc10_3).2 ?_
        exact kt
      obtain ⟨T4, X4, e4, st4⟩ := getS2 X0 hx hZ hown (host := "") (Or.inl (hw _ (List.mem_of_getElem? (i := 45) rfl))) Via.refl e0 S_INTEGER (g := (mkF m 13 #[.val (.int p0)] [])) rfl (hb hby own_d1_13)
      refine own_st st4 ?_
      show own_Gl _ _ _ _ _ _ _ _ (T4.setTop (mkF m 16 #[.val (.int p0)] [(.ref a_INTEGER)]))
      refine own_ret X4 (v := some (.ref a_INTEGER)) (fun h => by rw [Bd.returns] at h; cases h) hlk (by decide) (by decide) ?_ (fun fs hr => ?_)
      · show Q1 Z p0 a_SMALLINT a_INTEGER a_BIGINT a_REAL a_DOUBLE a_VARCHAR a_BOOLEAN a_TIMESTAMP a_POINT a_CIRCLE a_POLYGON h0 n0 (some (.ref a_INTEGER)) T4.heap _
        rw [e4]
        exact ⟨congrArg (fun z => some (Value.ref z)) (by unfold own_pick1; rw [if_neg hc1_1, if_pos hc10_3]), N0, rfl⟩
      · show Steps p.tables e below (T4.setTop (mkF m 16 #[.val (.int p0)] [(.ref a_INTEGER)])) _
        jvm_step X4.here [X4.here.top, hx, (hb hby own_d1_16), X4.method', Bd.returns, Value.isRef, FieldType.isReference]
        first | (intro acts; rw [hr _ acts rfl rfl rfl]) | rw [hr _ _ rfl rfl rfl]
        exact Steps.refl _
    · refine own_st (A' := s₁.setTop (mkF m 19 #[.val (.int p0)] [(.int (2 : Int32)), (.int p0)])) (fun tg kt => ?_) ?_
      · show Steps p.tables e below (s₁.setTop (mkF m 10 #[.val (.int p0)] [(.int (1 : Int32)), (.int p0)])) _
        refine XS.icmpYes X0.here hx rfl (pc0 := 10) (pc' := 17) rfl (hb hby own_d1_10) rfl (feq hc10_3).2 (by decide) (by decide) ?_
        show Steps p.tables e below (s₁.setTop (mkF m 17 #[.val (.int p0)] [])) _
        refine XS.iloadN X0.here hx rfl (hb hby own_d1_17) rfl ?_
        show Steps p.tables e below (s₁.setTop (mkF m 18 #[.val (.int p0)] [(.int p0)])) _
        refine XS.iconst X0.here hx rfl (hb hby own_d1_18) ?_
        exact kt
      by_cases hc19_5 : p0 = (2 : Int32)
      · refine own_st (A' := s₁.setTop (mkF m 22 #[.val (.int p0)] [])) (fun tg kt => ?_) ?_
        · show Steps p.tables e below (s₁.setTop (mkF m 19 #[.val (.int p0)] [(.int (2 : Int32)), (.int p0)])) _
          refine XS.icmpNo X0.here hx rfl (hb hby own_d1_19) rfl (teq hc19_5).2 ?_
          exact kt
        obtain ⟨T6, X6, e6, st6⟩ := getS2 X0 hx hZ hown (host := "") (Or.inl (hw _ (List.mem_of_getElem? (i := 43) rfl))) Via.refl e0 S_BIGINT (g := (mkF m 22 #[.val (.int p0)] [])) rfl (hb hby own_d1_22)
        refine own_st st6 ?_
        show own_Gl _ _ _ _ _ _ _ _ (T6.setTop (mkF m 25 #[.val (.int p0)] [(.ref a_BIGINT)]))
        refine own_ret X6 (v := some (.ref a_BIGINT)) (fun h => by rw [Bd.returns] at h; cases h) hlk (by decide) (by decide) ?_ (fun fs hr => ?_)
        · show Q1 Z p0 a_SMALLINT a_INTEGER a_BIGINT a_REAL a_DOUBLE a_VARCHAR a_BOOLEAN a_TIMESTAMP a_POINT a_CIRCLE a_POLYGON h0 n0 (some (.ref a_BIGINT)) T6.heap _
          rw [e6]
          exact ⟨congrArg (fun z => some (Value.ref z)) (by unfold own_pick1; rw [if_neg hc1_1, if_neg hc10_3, if_pos hc19_5]), N0, rfl⟩
        · show Steps p.tables e below (T6.setTop (mkF m 25 #[.val (.int p0)] [(.ref a_BIGINT)])) _
          jvm_step X6.here [X6.here.top, hx, (hb hby own_d1_25), X6.method', Bd.returns, Value.isRef, FieldType.isReference]
          first | (intro acts; rw [hr _ acts rfl rfl rfl]) | rw [hr _ _ rfl rfl rfl]
          exact Steps.refl _
      · refine own_st (A' := s₁.setTop (mkF m 28 #[.val (.int p0)] [(.int (3 : Int32)), (.int p0)])) (fun tg kt => ?_) ?_
        · show Steps p.tables e below (s₁.setTop (mkF m 19 #[.val (.int p0)] [(.int (2 : Int32)), (.int p0)])) _
          refine XS.icmpYes X0.here hx rfl (pc0 := 19) (pc' := 26) rfl (hb hby own_d1_19) rfl (feq hc19_5).2 (by decide) (by decide) ?_
          show Steps p.tables e below (s₁.setTop (mkF m 26 #[.val (.int p0)] [])) _
          refine XS.iloadN X0.here hx rfl (hb hby own_d1_26) rfl ?_
          show Steps p.tables e below (s₁.setTop (mkF m 27 #[.val (.int p0)] [(.int p0)])) _
          refine XS.iconst X0.here hx rfl (hb hby own_d1_27) ?_
          exact kt
        by_cases hc28_7 : p0 = (3 : Int32)
        · refine own_st (A' := s₁.setTop (mkF m 31 #[.val (.int p0)] [])) (fun tg kt => ?_) ?_
          · show Steps p.tables e below (s₁.setTop (mkF m 28 #[.val (.int p0)] [(.int (3 : Int32)), (.int p0)])) _
            refine XS.icmpNo X0.here hx rfl (hb hby own_d1_28) rfl (teq hc28_7).2 ?_
            exact kt
          obtain ⟨T8, X8, e8, st8⟩ := getS2 X0 hx hZ hown (host := "") (Or.inl (hw _ (List.mem_of_getElem? (i := 31) rfl))) Via.refl e0 S_REAL (g := (mkF m 31 #[.val (.int p0)] [])) rfl (hb hby own_d1_31)
          refine own_st st8 ?_
          show own_Gl _ _ _ _ _ _ _ _ (T8.setTop (mkF m 34 #[.val (.int p0)] [(.ref a_REAL)]))
          refine own_ret X8 (v := some (.ref a_REAL)) (fun h => by rw [Bd.returns] at h; cases h) hlk (by decide) (by decide) ?_ (fun fs hr => ?_)
          · show Q1 Z p0 a_SMALLINT a_INTEGER a_BIGINT a_REAL a_DOUBLE a_VARCHAR a_BOOLEAN a_TIMESTAMP a_POINT a_CIRCLE a_POLYGON h0 n0 (some (.ref a_REAL)) T8.heap _
            rw [e8]
            exact ⟨congrArg (fun z => some (Value.ref z)) (by unfold own_pick1; rw [if_neg hc1_1, if_neg hc10_3, if_neg hc19_5, if_pos hc28_7]), N0, rfl⟩
          · show Steps p.tables e below (T8.setTop (mkF m 34 #[.val (.int p0)] [(.ref a_REAL)])) _
            jvm_step X8.here [X8.here.top, hx, (hb hby own_d1_34), X8.method', Bd.returns, Value.isRef, FieldType.isReference]
            first | (intro acts; rw [hr _ acts rfl rfl rfl]) | rw [hr _ _ rfl rfl rfl]
            exact Steps.refl _
        · refine own_st (A' := s₁.setTop (mkF m 37 #[.val (.int p0)] [(.int (4 : Int32)), (.int p0)])) (fun tg kt => ?_) ?_
          · show Steps p.tables e below (s₁.setTop (mkF m 28 #[.val (.int p0)] [(.int (3 : Int32)), (.int p0)])) _
            refine XS.icmpYes X0.here hx rfl (pc0 := 28) (pc' := 35) rfl (hb hby own_d1_28) rfl (feq hc28_7).2 (by decide) (by decide) ?_
            show Steps p.tables e below (s₁.setTop (mkF m 35 #[.val (.int p0)] [])) _
            refine XS.iloadN X0.here hx rfl (hb hby own_d1_35) rfl ?_
            show Steps p.tables e below (s₁.setTop (mkF m 36 #[.val (.int p0)] [(.int p0)])) _
            refine XS.iconst X0.here hx rfl (hb hby own_d1_36) ?_
            exact kt
          by_cases hc37_9 : p0 = (4 : Int32)
          · refine own_st (A' := s₁.setTop (mkF m 40 #[.val (.int p0)] [])) (fun tg kt => ?_) ?_
            · show Steps p.tables e below (s₁.setTop (mkF m 37 #[.val (.int p0)] [(.int (4 : Int32)), (.int p0)])) _
              refine XS.icmpNo X0.here hx rfl (hb hby own_d1_37) rfl (teq hc37_9).2 ?_
              exact kt
            obtain ⟨T10, X10, e10, st10⟩ := getS2 X0 hx hZ hown (host := "") (Or.inl (hw _ (List.mem_of_getElem? (i := 51) rfl))) Via.refl e0 S_DOUBLE (g := (mkF m 40 #[.val (.int p0)] [])) rfl (hb hby own_d1_40)
            refine own_st st10 ?_
            show own_Gl _ _ _ _ _ _ _ _ (T10.setTop (mkF m 43 #[.val (.int p0)] [(.ref a_DOUBLE)]))
            refine own_ret X10 (v := some (.ref a_DOUBLE)) (fun h => by rw [Bd.returns] at h; cases h) hlk (by decide) (by decide) ?_ (fun fs hr => ?_)
            · show Q1 Z p0 a_SMALLINT a_INTEGER a_BIGINT a_REAL a_DOUBLE a_VARCHAR a_BOOLEAN a_TIMESTAMP a_POINT a_CIRCLE a_POLYGON h0 n0 (some (.ref a_DOUBLE)) T10.heap _
              rw [e10]
              exact ⟨congrArg (fun z => some (Value.ref z)) (by unfold own_pick1; rw [if_neg hc1_1, if_neg hc10_3, if_neg hc19_5, if_neg hc28_7, if_pos hc37_9]), N0, rfl⟩
            · show Steps p.tables e below (T10.setTop (mkF m 43 #[.val (.int p0)] [(.ref a_DOUBLE)])) _
              jvm_step X10.here [X10.here.top, hx, (hb hby own_d1_43), X10.method', Bd.returns, Value.isRef, FieldType.isReference]
              first | (intro acts; rw [hr _ acts rfl rfl rfl]) | rw [hr _ _ rfl rfl rfl]
              exact Steps.refl _
          · refine own_st (A' := s₁.setTop (mkF m 46 #[.val (.int p0)] [(.int (5 : Int32)), (.int p0)])) (fun tg kt => ?_) ?_
            · show Steps p.tables e below (s₁.setTop (mkF m 37 #[.val (.int p0)] [(.int (4 : Int32)), (.int p0)])) _
              refine XS.icmpYes X0.here hx rfl (pc0 := 37) (pc' := 44) rfl (hb hby own_d1_37) rfl (feq hc37_9).2 (by decide) (by decide) ?_
              show Steps p.tables e below (s₁.setTop (mkF m 44 #[.val (.int p0)] [])) _
              refine XS.iloadN X0.here hx rfl (hb hby own_d1_44) rfl ?_
              show Steps p.tables e below (s₁.setTop (mkF m 45 #[.val (.int p0)] [(.int p0)])) _
              refine XS.iconst X0.here hx rfl (hb hby own_d1_45) ?_
              exact kt
            by_cases hc46_11 : p0 = (5 : Int32)
            · refine own_st (A' := s₁.setTop (mkF m 49 #[.val (.int p0)] [])) (fun tg kt => ?_) ?_
              · show Steps p.tables e below (s₁.setTop (mkF m 46 #[.val (.int p0)] [(.int (5 : Int32)), (.int p0)])) _
                refine XS.icmpNo X0.here hx rfl (hb hby own_d1_46) rfl (teq hc46_11).2 ?_
                exact kt
              obtain ⟨T12, X12, e12, st12⟩ := getS2 X0 hx hZ hown (host := "") (Or.inl (hw _ (List.mem_of_getElem? (i := 47) rfl))) Via.refl e0 S_VARCHAR (g := (mkF m 49 #[.val (.int p0)] [])) rfl (hb hby own_d1_49)
              refine own_st st12 ?_
              show own_Gl _ _ _ _ _ _ _ _ (T12.setTop (mkF m 52 #[.val (.int p0)] [(.ref a_VARCHAR)]))
              refine own_ret X12 (v := some (.ref a_VARCHAR)) (fun h => by rw [Bd.returns] at h; cases h) hlk (by decide) (by decide) ?_ (fun fs hr => ?_)
              · show Q1 Z p0 a_SMALLINT a_INTEGER a_BIGINT a_REAL a_DOUBLE a_VARCHAR a_BOOLEAN a_TIMESTAMP a_POINT a_CIRCLE a_POLYGON h0 n0 (some (.ref a_VARCHAR)) T12.heap _
                rw [e12]
                exact ⟨congrArg (fun z => some (Value.ref z)) (by unfold own_pick1; rw [if_neg hc1_1, if_neg hc10_3, if_neg hc19_5, if_neg hc28_7, if_neg hc37_9, if_pos hc46_11]), N0, rfl⟩
              · show Steps p.tables e below (T12.setTop (mkF m 52 #[.val (.int p0)] [(.ref a_VARCHAR)])) _
                jvm_step X12.here [X12.here.top, hx, (hb hby own_d1_52), X12.method', Bd.returns, Value.isRef, FieldType.isReference]
                first | (intro acts; rw [hr _ acts rfl rfl rfl]) | rw [hr _ _ rfl rfl rfl]
                exact Steps.refl _
            · refine own_st (A' := s₁.setTop (mkF m 56 #[.val (.int p0)] [(.int (6 : Int32)), (.int p0)])) (fun tg kt => ?_) ?_
              · show Steps p.tables e below (s₁.setTop (mkF m 46 #[.val (.int p0)] [(.int (5 : Int32)), (.int p0)])) _
                refine XS.icmpYes X0.here hx rfl (pc0 := 46) (pc' := 53) rfl (hb hby own_d1_46) rfl (feq hc46_11).2 (by decide) (by decide) ?_
                show Steps p.tables e below (s₁.setTop (mkF m 53 #[.val (.int p0)] [])) _
                refine XS.iloadN X0.here hx rfl (hb hby own_d1_53) rfl ?_
                show Steps p.tables e below (s₁.setTop (mkF m 54 #[.val (.int p0)] [(.int p0)])) _
                refine XS.bipush X0.here hx rfl (hb hby own_d1_54) ?_
                exact kt
              by_cases hc56_13 : p0 = (6 : Int32)
              · refine own_st (A' := s₁.setTop (mkF m 59 #[.val (.int p0)] [])) (fun tg kt => ?_) ?_
                · show Steps p.tables e below (s₁.setTop (mkF m 56 #[.val (.int p0)] [(.int (6 : Int32)), (.int p0)])) _
                  refine XS.icmpNo X0.here hx rfl (hb hby own_d1_56) rfl (teq hc56_13).2 ?_
                  exact kt
                obtain ⟨T14, X14, e14, st14⟩ := getS2 X0 hx hZ hown (host := "") (Or.inl (hw _ (List.mem_of_getElem? (i := 49) rfl))) Via.refl e0 S_BOOLEAN (g := (mkF m 59 #[.val (.int p0)] [])) rfl (hb hby own_d1_59)
                refine own_st st14 ?_
                show own_Gl _ _ _ _ _ _ _ _ (T14.setTop (mkF m 62 #[.val (.int p0)] [(.ref a_BOOLEAN)]))
                refine own_ret X14 (v := some (.ref a_BOOLEAN)) (fun h => by rw [Bd.returns] at h; cases h) hlk (by decide) (by decide) ?_ (fun fs hr => ?_)
                · show Q1 Z p0 a_SMALLINT a_INTEGER a_BIGINT a_REAL a_DOUBLE a_VARCHAR a_BOOLEAN a_TIMESTAMP a_POINT a_CIRCLE a_POLYGON h0 n0 (some (.ref a_BOOLEAN)) T14.heap _
                  rw [e14]
                  exact ⟨congrArg (fun z => some (Value.ref z)) (by unfold own_pick1; rw [if_neg hc1_1, if_neg hc10_3, if_neg hc19_5, if_neg hc28_7, if_neg hc37_9, if_neg hc46_11, if_pos hc56_13]), N0, rfl⟩
                · show Steps p.tables e below (T14.setTop (mkF m 62 #[.val (.int p0)] [(.ref a_BOOLEAN)])) _
                  jvm_step X14.here [X14.here.top, hx, (hb hby own_d1_62), X14.method', Bd.returns, Value.isRef, FieldType.isReference]
                  first | (intro acts; rw [hr _ acts rfl rfl rfl]) | rw [hr _ _ rfl rfl rfl]
                  exact Steps.refl _
              · refine own_st (A' := s₁.setTop (mkF m 66 #[.val (.int p0)] [(.int (7 : Int32)), (.int p0)])) (fun tg kt => ?_) ?_
                · show Steps p.tables e below (s₁.setTop (mkF m 56 #[.val (.int p0)] [(.int (6 : Int32)), (.int p0)])) _
                  refine XS.icmpYes X0.here hx rfl (pc0 := 56) (pc' := 63) rfl (hb hby own_d1_56) rfl (feq hc56_13).2 (by decide) (by decide) ?_
                  show Steps p.tables e below (s₁.setTop (mkF m 63 #[.val (.int p0)] [])) _
                  refine XS.iloadN X0.here hx rfl (hb hby own_d1_63) rfl ?_
                  show Steps p.tables e below (s₁.setTop (mkF m 64 #[.val (.int p0)] [(.int p0)])) _
                  refine XS.bipush X0.here hx rfl (hb hby own_d1_64) ?_
                  exact kt
                by_cases hc66_15 : p0 = (7 : Int32)
                · refine own_st (A' := s₁.setTop (mkF m 69 #[.val (.int p0)] [])) (fun tg kt => ?_) ?_
                  · show Steps p.tables e below (s₁.setTop (mkF m 66 #[.val (.int p0)] [(.int (7 : Int32)), (.int p0)])) _
                    refine XS.icmpNo X0.here hx rfl (hb hby own_d1_66) rfl (teq hc66_15).2 ?_
                    exact kt
                  obtain ⟨T16, X16, e16, st16⟩ := getS2 X0 hx hZ hown (host := "") (Or.inl (hw _ (List.mem_of_getElem? (i := 38) rfl))) Via.refl e0 S_TIMESTAMP (g := (mkF m 69 #[.val (.int p0)] [])) rfl (hb hby own_d1_69)
                  refine own_st st16 ?_
                  show own_Gl _ _ _ _ _ _ _ _ (T16.setTop (mkF m 72 #[.val (.int p0)] [(.ref a_TIMESTAMP)]))
                  refine own_ret X16 (v := some (.ref a_TIMESTAMP)) (fun h => by rw [Bd.returns] at h; cases h) hlk (by decide) (by decide) ?_ (fun fs hr => ?_)
                  · show Q1 Z p0 a_SMALLINT a_INTEGER a_BIGINT a_REAL a_DOUBLE a_VARCHAR a_BOOLEAN a_TIMESTAMP a_POINT a_CIRCLE a_POLYGON h0 n0 (some (.ref a_TIMESTAMP)) T16.heap _
                    rw [e16]
                    exact ⟨congrArg (fun z => some (Value.ref z)) (by unfold own_pick1; rw [if_neg hc1_1, if_neg hc10_3, if_neg hc19_5, if_neg hc28_7, if_neg hc37_9, if_neg hc46_11, if_neg hc56_13, if_pos hc66_15]), N0, rfl⟩
                  · show Steps p.tables e below (T16.setTop (mkF m 72 #[.val (.int p0)] [(.ref a_TIMESTAMP)])) _
                    jvm_step X16.here [X16.here.top, hx, (hb hby own_d1_72), X16.method', Bd.returns, Value.isRef, FieldType.isReference]
                    first | (intro acts; rw [hr _ acts rfl rfl rfl]) | rw [hr _ _ rfl rfl rfl]
                    exact Steps.refl _
                · refine own_st (A' := s₁.setTop (mkF m 76 #[.val (.int p0)] [(.int (8 : Int32)), (.int p0)])) (fun tg kt => ?_) ?_
                  · show Steps p.tables e below (s₁.setTop (mkF m 66 #[.val (.int p0)] [(.int (7 : Int32)), (.int p0)])) _
                    refine XS.icmpYes X0.here hx rfl (pc0 := 66) (pc' := 73) rfl (hb hby own_d1_66) rfl (feq hc66_15).2 (by decide) (by decide) ?_
                    show Steps p.tables e below (s₁.setTop (mkF m 73 #[.val (.int p0)] [])) _
                    refine XS.iloadN X0.here hx rfl (hb hby own_d1_73) rfl ?_
                    show Steps p.tables e below (s₁.setTop (mkF m 74 #[.val (.int p0)] [(.int p0)])) _
                    refine XS.bipush X0.here hx rfl (hb hby own_d1_74) ?_
                    exact kt
                  by_cases hc76_17 : p0 = (8 : Int32)
                  · refine own_st (A' := s₁.setTop (mkF m 79 #[.val (.int p0)] [])) (fun tg kt => ?_) ?_
                    · show Steps p.tables e below (s₁.setTop (mkF m 76 #[.val (.int p0)] [(.int (8 : Int32)), (.int p0)])) _
                      refine XS.icmpNo X0.here hx rfl (hb hby own_d1_76) rfl (teq hc76_17).2 ?_
                      exact kt
                    obtain ⟨T18, X18, e18, st18⟩ := getS2 X0 hx hZ hown (host := "") (Or.inl (hw _ (List.mem_of_getElem? (i := 42) rfl))) Via.refl e0 S_POINT (g := (mkF m 79 #[.val (.int p0)] [])) rfl (hb hby own_d1_79)
                    refine own_st st18 ?_
                    show own_Gl _ _ _ _ _ _ _ _ (T18.setTop (mkF m 82 #[.val (.int p0)] [(.ref a_POINT)]))
                    refine own_ret X18 (v := some (.ref a_POINT)) (fun h => by rw [Bd.returns] at h; cases h) hlk (by decide) (by decide) ?_ (fun fs hr => ?_)
                    · show Q1 Z p0 a_SMALLINT a_INTEGER a_BIGINT a_REAL a_DOUBLE a_VARCHAR a_BOOLEAN a_TIMESTAMP a_POINT a_CIRCLE a_POLYGON h0 n0 (some (.ref a_POINT)) T18.heap _
                      rw [e18]
                      exact ⟨congrArg (fun z => some (Value.ref z)) (by unfold own_pick1; rw [if_neg hc1_1, if_neg hc10_3, if_neg hc19_5, if_neg hc28_7, if_neg hc37_9, if_neg hc46_11, if_neg hc56_13, if_neg hc66_15, if_pos hc76_17]), N0, rfl⟩
                    · show Steps p.tables e below (T18.setTop (mkF m 82 #[.val (.int p0)] [(.ref a_POINT)])) _
                      jvm_step X18.here [X18.here.top, hx, (hb hby own_d1_82), X18.method', Bd.returns, Value.isRef, FieldType.isReference]
                      first | (intro acts; rw [hr _ acts rfl rfl rfl]) | rw [hr _ _ rfl rfl rfl]
                      exact Steps.refl _
                  · refine own_st (A' := s₁.setTop (mkF m 86 #[.val (.int p0)] [(.int (9 : Int32)), (.int p0)])) (fun tg kt => ?_) ?_
                    · show Steps p.tables e below (s₁.setTop (mkF m 76 #[.val (.int p0)] [(.int (8 : Int32)), (.int p0)])) _
                      refine XS.icmpYes X0.here hx rfl (pc0 := 76) (pc' := 83) rfl (hb hby own_d1_76) rfl (feq hc76_17).2 (by decide) (by decide) ?_
                      show Steps p.tables e below (s₁.setTop (mkF m 83 #[.val (.int p0)] [])) _
                      refine XS.iloadN X0.here hx rfl (hb hby own_d1_83) rfl ?_
                      show Steps p.tables e below (s₁.setTop (mkF m 84 #[.val (.int p0)] [(.int p0)])) _
                      refine XS.bipush X0.here hx rfl (hb hby own_d1_84) ?_
                      exact kt
                    by_cases hc86_19 : p0 = (9 : Int32)
                    · refine own_st (A' := s₁.setTop (mkF m 89 #[.val (.int p0)] [])) (fun tg kt => ?_) ?_
                      · show Steps p.tables e below (s₁.setTop (mkF m 86 #[.val (.int p0)] [(.int (9 : Int32)), (.int p0)])) _
                        refine XS.icmpNo X0.here hx rfl (hb hby own_d1_86) rfl (teq hc86_19).2 ?_
                        exact kt
                      obtain ⟨T20, X20, e20, st20⟩ := getS2 X0 hx hZ hown (host := "") (Or.inl (hw _ (List.mem_of_getElem? (i := 46) rfl))) Via.refl e0 S_CIRCLE (g := (mkF m 89 #[.val (.int p0)] [])) rfl (hb hby own_d1_89)
                      refine own_st st20 ?_
                      show own_Gl _ _ _ _ _ _ _ _ (T20.setTop (mkF m 92 #[.val (.int p0)] [(.ref a_CIRCLE)]))
                      refine own_ret X20 (v := some (.ref a_CIRCLE)) (fun h => by rw [Bd.returns] at h; cases h) hlk (by decide) (by decide) ?_ (fun fs hr => ?_)
                      · show Q1 Z p0 a_SMALLINT a_INTEGER a_BIGINT a_REAL a_DOUBLE a_VARCHAR a_BOOLEAN a_TIMESTAMP a_POINT a_CIRCLE a_POLYGON h0 n0 (some (.ref a_CIRCLE)) T20.heap _
                        rw [e20]
                        exact ⟨congrArg (fun z => some (Value.ref z)) (by unfold own_pick1; rw [if_neg hc1_1, if_neg hc10_3, if_neg hc19_5, if_neg hc28_7, if_neg hc37_9, if_neg hc46_11, if_neg hc56_13, if_neg hc66_15, if_neg hc76_17, if_pos hc86_19]), N0, rfl⟩
                      · show Steps p.tables e below (T20.setTop (mkF m 92 #[.val (.int p0)] [(.ref a_CIRCLE)])) _
                        jvm_step X20.here [X20.here.top, hx, (hb hby own_d1_92), X20.method', Bd.returns, Value.isRef, FieldType.isReference]
                        first | (intro acts; rw [hr _ acts rfl rfl rfl]) | rw [hr _ _ rfl rfl rfl]
                        exact Steps.refl _
                    · refine own_st (A' := s₁.setTop (mkF m 93 #[.val (.int p0)] [])) (fun tg kt => ?_) ?_
                      · show Steps p.tables e below (s₁.setTop (mkF m 86 #[.val (.int p0)] [(.int (9 : Int32)), (.int p0)])) _
                        refine XS.icmpYes X0.here hx rfl (pc0 := 86) (pc' := 93) rfl (hb hby own_d1_86) rfl (feq hc86_19).2 (by decide) (by decide) ?_
                        exact kt
                      obtain ⟨T21, X21, e21, st21⟩ := getS2 X0 hx hZ hown (host := "") (Or.inl (hw _ (List.mem_of_getElem? (i := 44) rfl))) Via.refl e0 S_POLYGON (g := (mkF m 93 #[.val (.int p0)] [])) rfl (hb hby own_d1_93)
                      refine own_st st21 ?_
                      show own_Gl _ _ _ _ _ _ _ _ (T21.setTop (mkF m 96 #[.val (.int p0)] [(.ref a_POLYGON)]))
                      refine own_ret X21 (v := some (.ref a_POLYGON)) (fun h => by rw [Bd.returns] at h; cases h) hlk (by decide) (by decide) ?_ (fun fs hr => ?_)
                      · show Q1 Z p0 a_SMALLINT a_INTEGER a_BIGINT a_REAL a_DOUBLE a_VARCHAR a_BOOLEAN a_TIMESTAMP a_POINT a_CIRCLE a_POLYGON h0 n0 (some (.ref a_POLYGON)) T21.heap _
                        rw [e21]
                        exact ⟨congrArg (fun z => some (Value.ref z)) (by unfold own_pick1; rw [if_neg hc1_1, if_neg hc10_3, if_neg hc19_5, if_neg hc28_7, if_neg hc37_9, if_neg hc46_11, if_neg hc56_13, if_neg hc66_15, if_neg hc76_17, if_neg hc86_19]), N0, rfl⟩
                      · show Steps p.tables e below (T21.setTop (mkF m 96 #[.val (.int p0)] [(.ref a_POLYGON)])) _
                        jvm_step X21.here [X21.here.top, hx, (hb hby own_d1_96), X21.method', Bd.returns, Value.isRef, FieldType.isReference]
                        first | (intro acts; rw [hr _ acts rfl rfl rfl]) | rw [hr _ _ rfl rfl rfl]
                        exact Steps.refl _
def own_num (a a_SMALLINT a_INTEGER a_BIGINT a_REAL a_DOUBLE : Addr) : Int32 := if a = a_SMALLINT then 1 else if a = a_INTEGER then 1 else if a = a_BIGINT then 1 else if a = a_REAL then 1 else if a = a_DOUBLE then 1 else 0
theorem own_d2_0 : decode prog_5_method_5_code 0 = .ok (.aload_n 0, 1) := by decide +kernel
theorem own_d2_1 : decode prog_5_method_5_code 1 = .ok (.getstatic 3, 3) := by decide +kernel
theorem own_d2_4 : decode prog_5_method_5_code 4 = .ok (.if_acmp .eq 31, 3) := by decide +kernel
theorem own_d2_7 : decode prog_5_method_5_code 7 = .ok (.aload_n 0, 1) := by decide +kernel
theorem own_d2_8 : decode prog_5_method_5_code 8 = .ok (.getstatic 7, 3) := by decide +kernel
theorem own_d2_11 : decode prog_5_method_5_code 11 = .ok (.if_acmp .eq 24, 3) := by decide +kernel
theorem own_d2_14 : decode prog_5_method_5_code 14 = .ok (.aload_n 0, 1) := by decide +kernel
theorem own_d2_15 : decode prog_5_method_5_code 15 = .ok (.getstatic 10, 3) := by decide +kernel
theorem own_d2_18 : decode prog_5_method_5_code 18 = .ok (.if_acmp .eq 17, 3) := by decide +kernel
theorem own_d2_21 : decode prog_5_method_5_code 21 = .ok (.aload_n 0, 1) := by decide +kernel
theorem own_d2_22 : decode prog_5_method_5_code 22 = .ok (.getstatic 13, 3) := by decide +kernel
theorem own_d2_25 : decode prog_5_method_5_code 25 = .ok (.if_acmp .eq 10, 3) := by decide +kernel
theorem own_d2_28 : decode prog_5_method_5_code 28 = .ok (.aload_n 0, 1) := by decide +kernel
theorem own_d2_29 : decode prog_5_method_5_code 29 = .ok (.getstatic 16, 3) := by decide +kernel
theorem own_d2_32 : decode prog_5_method_5_code 32 = .ok (.if_acmp .ne 7, 3) := by decide +kernel
theorem own_d2_35 : decode prog_5_method_5_code 35 = .ok (.iconst 1, 1) := by decide +kernel
theorem own_d2_36 : decode prog_5_method_5_code 36 = .ok (.goto 4, 3) := by decide +kernel
theorem own_d2_39 : decode prog_5_method_5_code 39 = .ok (.iconst 0, 1) := by decide +kernel
theorem own_d2_40 : decode prog_5_method_5_code 40 = .ok (.ireturn, 1) := by decide +kernel
theorem own_ef_rm2 (m : MethodId) (th : Addr) : entryFrame m #[(.ref th)] 1 = mkF m 0 #[.val (.ref th)] [] := by first | (simp [entryFrame, mkF, argsToLocals, Value.category]; done) | rfl
theorem own_pn1 : plainName "com/example/gate_to_tables/gatetotables/adql/catalog/Datatype" = true := by first | (simp [plainName, overriddenIn]; done) | decide +kernel
def Q2 (Z : State) (th : Addr) (a_SMALLINT : Addr) (a_INTEGER : Addr) (a_BIGINT : Addr) (a_REAL : Addr) (a_DOUBLE : Addr) (h0 : Heap) (n0 : Nat) (v : Option Value) (h : Heap) (L : List Loc) : Prop := v = some (.int (own_num th a_SMALLINT a_INTEGER a_BIGINT a_REAL a_DOUBLE)) ∧ Fr n0 L ∧ h = h0
set_option maxRecDepth 65536 in
set_option maxHeartbeats 40000000 in
theorem rm2 (l : Launch) (Z : State) (a0 : Array Value) (hw : ∀ d ∈ tables_1, d.before a0 Z = true) (ws : List Jvm.Cond) (th : Addr) (a_SMALLINT : Addr) (a_INTEGER : Addr) (a_BIGINT : Addr) (a_REAL : Addr) (a_DOUBLE : Addr) (h0 : Heap) (n0 : Nat) (Z0 : n0 ≤ h0.size) (S_SMALLINT : Sta Z h0 "com/example/gate_to_tables/gatetotables/adql/catalog/Datatype" "SMALLINT" "Lcom/example/gate_to_tables/gatetotables/adql/catalog/Datatype;" (.ref a_SMALLINT)) (S_INTEGER : Sta Z h0 "com/example/gate_to_tables/gatetotables/adql/catalog/Datatype" "INTEGER" "Lcom/example/gate_to_tables/gatetotables/adql/catalog/Datatype;" (.ref a_INTEGER)) (S_BIGINT : Sta Z h0 "com/example/gate_to_tables/gatetotables/adql/catalog/Datatype" "BIGINT" "Lcom/example/gate_to_tables/gatetotables/adql/catalog/Datatype;" (.ref a_BIGINT)) (S_REAL : Sta Z h0 "com/example/gate_to_tables/gatetotables/adql/catalog/Datatype" "REAL" "Lcom/example/gate_to_tables/gatetotables/adql/catalog/Datatype;" (.ref a_REAL)) (S_DOUBLE : Sta Z h0 "com/example/gate_to_tables/gatetotables/adql/catalog/Datatype" "DOUBLE" "Lcom/example/gate_to_tables/gatetotables/adql/catalog/Datatype;" (.ref a_DOUBLE)) :
    MetFree l (⟨"com/example/gate_to_tables/gatetotables/adql/catalog/Datatype", "isNumeric", "()Z"⟩ : MethodName) (head1 (Jvm.Cond.code (⟨"com/example/gate_to_tables/gatetotables/adql/catalog/Datatype", "isNumeric", "()Z"⟩ : MethodName) prog_5_method_5_code 1 (some .boolean) :: ws) ({ frames := 0, cells := 0, slots := 0, locals := 0 } : Room)) (fun a U => a = #[(.ref th)] ∧ Z.Warmed39 U.vm ∧ U.heap = h0) (fun _ _ _ _ _ => True) (fun _ U o U' => ∃ v L, o = .returned v ∧ Q2 Z th a_SMALLINT a_INTEGER a_BIGINT a_REAL a_DOUBLE h0 n0 v U'.heap L ∧ FrameEnd U o U' L ({ frames := 0, cells := 0, slots := 0, locals := 0 } : Room).cells ({ frames := 0, cells := 0, slots := 0, locals := 0 } : Room).slots) := by
  refine MetFree.of_bodySF (plainFor_of_name own_pn1) hisR ?_
  intro p e s m args below meth c s₁ Bd hml0 hP hK
  obtain ⟨rfl, hZ, hh⟩ := hP
  have hx := Bd.exec
  have hby := Bd.bytes
  have hml : c.maxLocals = 1 := hml0
  have hown : s.vm.findClass "com/example/gate_to_tables/gatetotables/adql/catalog/Datatype" = some m.cls := findClass_of_methodNamed Bd.named
  have hnm := (name_of_methodNamed Bd.named Bd.method).1
  have hlk : meth.locks = false := BodyLoose.notSynchronized Bd
  have X0 : Stand p l e ({ frames := 0, cells := 0, slots := 0, locals := 0 } : Room) s m #[(.ref th)] below meth c s₁ [] 0 0 := Stand.of_body Bd
  have e0 : s₁.heap = h0 := by rw [← hh, Bd.state]; rfl
  have N0 := Fr.nil n0
  show own_Gl FrameEnd p e below s (Q2 Z th a_SMALLINT a_INTEGER a_BIGINT a_REAL a_DOUBLE h0 n0) ({ frames := 0, cells := 0, slots := 0, locals := 0 } : Room).cells ({ frames := 0, cells := 0, slots := 0, locals := 0 } : Room).slots (s₁.setTop (entryFrame m #[(.ref th)] 1))
  rw [own_ef_rm2 m th]
  refine own_st (A' := s₁.setTop (mkF m 1 #[.val (.ref th)] [(.ref th)])) (fun tg kt => ?_) ?_
  · show Steps p.tables e below (s₁.setTop (mkF m 0 #[.val (.ref th)] [])) _
    refine XS.aloadN X0.here hx rfl (hb hby own_d2_0) rfl rfl ?_
    exact kt
  obtain ⟨T1, X1, e1, st1⟩ := getS2 X0 hx hZ hown (host := "") (Or.inl (hw _ (List.mem_of_getElem? (i := 13) rfl))) Via.refl e0 S_SMALLINT (g := (mkF m 1 #[.val (.ref th)] [(.ref th)])) rfl (hb hby own_d2_1)
  refine own_st st1 ?_
  show own_Gl _ _ _ _ _ _ _ _ (T1.setTop (mkF m 4 #[.val (.ref th)] [(.ref a_SMALLINT), (.ref th)]))
  by_cases ha4_2 : th = a_SMALLINT
  · refine own_st (A' := T1.setTop (mkF m 40 #[.val (.ref th)] [(.int (1 : Int32))])) (fun tg kt => ?_) ?_
    · show Steps p.tables e below (T1.setTop (mkF m 4 #[.val (.ref th)] [(.ref a_SMALLINT), (.ref th)])) _
      refine Jvm.RoadKit.acmp (g := (mkF m 4 #[.val (.ref th)] [(.ref a_SMALLINT), (.ref th)])) X1 hx rfl rfl rfl (pc0 := 4) (pc' := 35) (same := true) rfl (hb hby own_d2_4) rfl (decide_eq_true (congrArg Value.ref ha4_2)) (by decide) (by decide) ?_
      show Steps p.tables e below (T1.setTop (mkF m 35 #[.val (.ref th)] [])) _
      refine XS.iconst X1.here hx rfl (hb hby own_d2_35) ?_
      show Steps p.tables e below (T1.setTop (mkF m 36 #[.val (.ref th)] [(.int (1 : Int32))])) _
      refine XS.goto X1.here hx rfl (pc0 := 36) (pc' := 40) rfl (hb hby own_d2_36) (by decide) (by decide) ?_
      exact kt
    refine own_ret X1 (v := some (.int (1 : Int32))) (fun h => by rw [Bd.returns] at h; cases h) hlk (by decide) (by decide) ?_ (fun fs hr => ?_)
    · show Q2 Z th a_SMALLINT a_INTEGER a_BIGINT a_REAL a_DOUBLE h0 n0 (some (.int (1 : Int32))) T1.heap _
      rw [e1]
      exact ⟨congrArg (fun z => some (Value.int z)) (by unfold own_num; rw [if_pos ha4_2]), N0, rfl⟩
    · show Steps p.tables e below (T1.setTop (mkF m 40 #[.val (.ref th)] [(.int (1 : Int32))])) _
      exact retN X1 hx (t := .boolean) Bd.returns (by simp) (hb hby own_d2_40) hr
  · refine own_st (A' := T1.setTop (mkF m 8 #[.val (.ref th)] [(.ref th)])) (fun tg kt => ?_) ?_
    · show Steps p.tables e below (T1.setTop (mkF m 4 #[.val (.ref th)] [(.ref a_SMALLINT), (.ref th)])) _
      refine Jvm.RoadKit.acmp (g := (mkF m 4 #[.val (.ref th)] [(.ref a_SMALLINT), (.ref th)])) X1 hx rfl rfl rfl (pc0 := 4) (pc' := 7) (same := false) rfl (hb hby own_d2_4) rfl (decide_eq_false fun q => ha4_2 (Value.ref.inj q)) (by decide) (by decide) ?_
      show Steps p.tables e below (T1.setTop (mkF m 7 #[.val (.ref th)] [])) _
      refine XS.aloadN X1.here hx rfl (hb hby own_d2_7) rfl rfl ?_
      exact kt
    obtain ⟨T3, X3, e3, st3⟩ := getS2 X1 hx hZ hown (host := "") (Or.inl (hw _ (List.mem_of_getElem? (i := 33) rfl))) Via.refl e1 S_INTEGER (g := (mkF m 8 #[.val (.ref th)] [(.ref th)])) rfl (hb hby own_d2_8)
    refine own_st st3 ?_
    show own_Gl _ _ _ _ _ _ _ _ (T3.setTop (mkF m 11 #[.val (.ref th)] [(.ref a_INTEGER), (.ref th)]))
    by_cases ha11_4 : th = a_INTEGER
    · refine own_st (A' := T3.setTop (mkF m 40 #[.val (.ref th)] [(.int (1 : Int32))])) (fun tg kt => ?_) ?_
      · show Steps p.tables e below (T3.setTop (mkF m 11 #[.val (.ref th)] [(.ref a_INTEGER), (.ref th)])) _
        refine Jvm.RoadKit.acmp (g := (mkF m 11 #[.val (.ref th)] [(.ref a_INTEGER), (.ref th)])) X3 hx rfl rfl rfl (pc0 := 11) (pc' := 35) (same := true) rfl (hb hby own_d2_11) rfl (decide_eq_true (congrArg Value.ref ha11_4)) (by decide) (by decide) ?_
        show Steps p.tables e below (T3.setTop (mkF m 35 #[.val (.ref th)] [])) _
        refine XS.iconst X3.here hx rfl (hb hby own_d2_35) ?_
        show Steps p.tables e below (T3.setTop (mkF m 36 #[.val (.ref th)] [(.int (1 : Int32))])) _
        refine XS.goto X3.here hx rfl (pc0 := 36) (pc' := 40) rfl (hb hby own_d2_36) (by decide) (by decide) ?_
        exact kt
      refine own_ret X3 (v := some (.int (1 : Int32))) (fun h => by rw [Bd.returns] at h; cases h) hlk (by decide) (by decide) ?_ (fun fs hr => ?_)
      · show Q2 Z th a_SMALLINT a_INTEGER a_BIGINT a_REAL a_DOUBLE h0 n0 (some (.int (1 : Int32))) T3.heap _
        rw [e3]
        exact ⟨congrArg (fun z => some (Value.int z)) (by unfold own_num; rw [if_neg ha4_2, if_pos ha11_4]), N0, rfl⟩
      · show Steps p.tables e below (T3.setTop (mkF m 40 #[.val (.ref th)] [(.int (1 : Int32))])) _
        exact retN X3 hx (t := .boolean) Bd.returns (by simp) (hb hby own_d2_40) hr
    · refine own_st (A' := T3.setTop (mkF m 15 #[.val (.ref th)] [(.ref th)])) (fun tg kt => ?_) ?_
      · show Steps p.tables e below (T3.setTop (mkF m 11 #[.val (.ref th)] [(.ref a_INTEGER), (.ref th)])) _
        refine Jvm.RoadKit.acmp (g := (mkF m 11 #[.val (.ref th)] [(.ref a_INTEGER), (.ref th)])) X3 hx rfl rfl rfl (pc0 := 11) (pc' := 14) (same := false) rfl (hb hby own_d2_11) rfl (decide_eq_false fun q => ha11_4 (Value.ref.inj q)) (by decide) (by decide) ?_
        show Steps p.tables e below (T3.setTop (mkF m 14 #[.val (.ref th)] [])) _
        refine XS.aloadN X3.here hx rfl (hb hby own_d2_14) rfl rfl ?_
        exact kt
      obtain ⟨T5, X5, e5, st5⟩ := getS2 X3 hx hZ hown (host := "") (Or.inl (hw _ (List.mem_of_getElem? (i := 35) rfl))) Via.refl e3 S_BIGINT (g := (mkF m 15 #[.val (.ref th)] [(.ref th)])) rfl (hb hby own_d2_15)
      refine own_st st5 ?_
      show own_Gl _ _ _ _ _ _ _ _ (T5.setTop (mkF m 18 #[.val (.ref th)] [(.ref a_BIGINT), (.ref th)]))
      by_cases ha18_6 : th = a_BIGINT
      · refine own_st (A' := T5.setTop (mkF m 40 #[.val (.ref th)] [(.int (1 : Int32))])) (fun tg kt => ?_) ?_
        · show Steps p.tables e below (T5.setTop (mkF m 18 #[.val (.ref th)] [(.ref a_BIGINT), (.ref th)])) _
          refine Jvm.RoadKit.acmp (g := (mkF m 18 #[.val (.ref th)] [(.ref a_BIGINT), (.ref th)])) X5 hx rfl rfl rfl (pc0 := 18) (pc' := 35) (same := true) rfl (hb hby own_d2_18) rfl (decide_eq_true (congrArg Value.ref ha18_6)) (by decide) (by decide) ?_
          show Steps p.tables e below (T5.setTop (mkF m 35 #[.val (.ref th)] [])) _
          refine XS.iconst X5.here hx rfl (hb hby own_d2_35) ?_
          show Steps p.tables e below (T5.setTop (mkF m 36 #[.val (.ref th)] [(.int (1 : Int32))])) _
          refine XS.goto X5.here hx rfl (pc0 := 36) (pc' := 40) rfl (hb hby own_d2_36) (by decide) (by decide) ?_
          exact kt
        refine own_ret X5 (v := some (.int (1 : Int32))) (fun h => by rw [Bd.returns] at h; cases h) hlk (by decide) (by decide) ?_ (fun fs hr => ?_)
        · show Q2 Z th a_SMALLINT a_INTEGER a_BIGINT a_REAL a_DOUBLE h0 n0 (some (.int (1 : Int32))) T5.heap _
          rw [e5]
          exact ⟨congrArg (fun z => some (Value.int z)) (by unfold own_num; rw [if_neg ha4_2, if_neg ha11_4, if_pos ha18_6]), N0, rfl⟩
        · show Steps p.tables e below (T5.setTop (mkF m 40 #[.val (.ref th)] [(.int (1 : Int32))])) _
          exact retN X5 hx (t := .boolean) Bd.returns (by simp) (hb hby own_d2_40) hr
      · refine own_st (A' := T5.setTop (mkF m 22 #[.val (.ref th)] [(.ref th)])) (fun tg kt => ?_) ?_
        · show Steps p.tables e below (T5.setTop (mkF m 18 #[.val (.ref th)] [(.ref a_BIGINT), (.ref th)])) _
          refine Jvm.RoadKit.acmp (g := (mkF m 18 #[.val (.ref th)] [(.ref a_BIGINT), (.ref th)])) X5 hx rfl rfl rfl (pc0 := 18) (pc' := 21) (same := false) rfl (hb hby own_d2_18) rfl (decide_eq_false fun q => ha18_6 (Value.ref.inj q)) (by decide) (by decide) ?_
          show Steps p.tables e below (T5.setTop (mkF m 21 #[.val (.ref th)] [])) _
          refine XS.aloadN X5.here hx rfl (hb hby own_d2_21) rfl rfl ?_
          exact kt
        obtain ⟨T7, X7, e7, st7⟩ := getS2 X5 hx hZ hown (host := "") (Or.inl (hw _ (List.mem_of_getElem? (i := 37) rfl))) Via.refl e5 S_REAL (g := (mkF m 22 #[.val (.ref th)] [(.ref th)])) rfl (hb hby own_d2_22)
        refine own_st st7 ?_
        show own_Gl _ _ _ _ _ _ _ _ (T7.setTop (mkF m 25 #[.val (.ref th)] [(.ref a_REAL), (.ref th)]))
        by_cases ha25_8 : th = a_REAL
        · refine own_st (A' := T7.setTop (mkF m 40 #[.val (.ref th)] [(.int (1 : Int32))])) (fun tg kt => ?_) ?_
          · show Steps p.tables e below (T7.setTop (mkF m 25 #[.val (.ref th)] [(.ref a_REAL), (.ref th)])) _
            refine Jvm.RoadKit.acmp (g := (mkF m 25 #[.val (.ref th)] [(.ref a_REAL), (.ref th)])) X7 hx rfl rfl rfl (pc0 := 25) (pc' := 35) (same := true) rfl (hb hby own_d2_25) rfl (decide_eq_true (congrArg Value.ref ha25_8)) (by decide) (by decide) ?_
            show Steps p.tables e below (T7.setTop (mkF m 35 #[.val (.ref th)] [])) _
            refine XS.iconst X7.here hx rfl (hb hby own_d2_35) ?_
            show Steps p.tables e below (T7.setTop (mkF m 36 #[.val (.ref th)] [(.int (1 : Int32))])) _
            refine XS.goto X7.here hx rfl (pc0 := 36) (pc' := 40) rfl (hb hby own_d2_36) (by decide) (by decide) ?_
            exact kt
          refine own_ret X7 (v := some (.int (1 : Int32))) (fun h => by rw [Bd.returns] at h; cases h) hlk (by decide) (by decide) ?_ (fun fs hr => ?_)
          · show Q2 Z th a_SMALLINT a_INTEGER a_BIGINT a_REAL a_DOUBLE h0 n0 (some (.int (1 : Int32))) T7.heap _
            rw [e7]
            exact ⟨congrArg (fun z => some (Value.int z)) (by unfold own_num; rw [if_neg ha4_2, if_neg ha11_4, if_neg ha18_6, if_pos ha25_8]), N0, rfl⟩
          · show Steps p.tables e below (T7.setTop (mkF m 40 #[.val (.ref th)] [(.int (1 : Int32))])) _
            exact retN X7 hx (t := .boolean) Bd.returns (by simp) (hb hby own_d2_40) hr
        · refine own_st (A' := T7.setTop (mkF m 29 #[.val (.ref th)] [(.ref th)])) (fun tg kt => ?_) ?_
          · show Steps p.tables e below (T7.setTop (mkF m 25 #[.val (.ref th)] [(.ref a_REAL), (.ref th)])) _
            refine Jvm.RoadKit.acmp (g := (mkF m 25 #[.val (.ref th)] [(.ref a_REAL), (.ref th)])) X7 hx rfl rfl rfl (pc0 := 25) (pc' := 28) (same := false) rfl (hb hby own_d2_25) rfl (decide_eq_false fun q => ha25_8 (Value.ref.inj q)) (by decide) (by decide) ?_
            show Steps p.tables e below (T7.setTop (mkF m 28 #[.val (.ref th)] [])) _
            refine XS.aloadN X7.here hx rfl (hb hby own_d2_28) rfl rfl ?_
            exact kt
          obtain ⟨T9, X9, e9, st9⟩ := getS2 X7 hx hZ hown (host := "") (Or.inl (hw _ (List.mem_of_getElem? (i := 40) rfl))) Via.refl e7 S_DOUBLE (g := (mkF m 29 #[.val (.ref th)] [(.ref th)])) rfl (hb hby own_d2_29)
          refine own_st st9 ?_
          show own_Gl _ _ _ _ _ _ _ _ (T9.setTop (mkF m 32 #[.val (.ref th)] [(.ref a_DOUBLE), (.ref th)]))
          by_cases ha32_10 : th = a_DOUBLE
          · refine own_st (A' := T9.setTop (mkF m 40 #[.val (.ref th)] [(.int (1 : Int32))])) (fun tg kt => ?_) ?_
            · show Steps p.tables e below (T9.setTop (mkF m 32 #[.val (.ref th)] [(.ref a_DOUBLE), (.ref th)])) _
              refine Jvm.RoadKit.acmp (g := (mkF m 32 #[.val (.ref th)] [(.ref a_DOUBLE), (.ref th)])) X9 hx rfl rfl rfl (pc0 := 32) (pc' := 35) (same := true) rfl (hb hby own_d2_32) rfl (decide_eq_true (congrArg Value.ref ha32_10)) (by decide) (by decide) ?_
              show Steps p.tables e below (T9.setTop (mkF m 35 #[.val (.ref th)] [])) _
              refine XS.iconst X9.here hx rfl (hb hby own_d2_35) ?_
              show Steps p.tables e below (T9.setTop (mkF m 36 #[.val (.ref th)] [(.int (1 : Int32))])) _
              refine XS.goto X9.here hx rfl (pc0 := 36) (pc' := 40) rfl (hb hby own_d2_36) (by decide) (by decide) ?_
              exact kt
            refine own_ret X9 (v := some (.int (1 : Int32))) (fun h => by rw [Bd.returns] at h; cases h) hlk (by decide) (by decide) ?_ (fun fs hr => ?_)
            · show Q2 Z th a_SMALLINT a_INTEGER a_BIGINT a_REAL a_DOUBLE h0 n0 (some (.int (1 : Int32))) T9.heap _
              rw [e9]
              exact ⟨congrArg (fun z => some (Value.int z)) (by unfold own_num; rw [if_neg ha4_2, if_neg ha11_4, if_neg ha18_6, if_neg ha25_8, if_pos ha32_10]), N0, rfl⟩
            · show Steps p.tables e below (T9.setTop (mkF m 40 #[.val (.ref th)] [(.int (1 : Int32))])) _
              exact retN X9 hx (t := .boolean) Bd.returns (by simp) (hb hby own_d2_40) hr
          · refine own_st (A' := T9.setTop (mkF m 40 #[.val (.ref th)] [(.int (0 : Int32))])) (fun tg kt => ?_) ?_
            · show Steps p.tables e below (T9.setTop (mkF m 32 #[.val (.ref th)] [(.ref a_DOUBLE), (.ref th)])) _
              refine Jvm.RoadKit.acmp (g := (mkF m 32 #[.val (.ref th)] [(.ref a_DOUBLE), (.ref th)])) X9 hx rfl rfl rfl (pc0 := 32) (pc' := 39) (same := false) rfl (hb hby own_d2_32) rfl (decide_eq_false fun q => ha32_10 (Value.ref.inj q)) (by decide) (by decide) ?_
              show Steps p.tables e below (T9.setTop (mkF m 39 #[.val (.ref th)] [])) _
              refine XS.iconst X9.here hx rfl (hb hby own_d2_39) ?_
              exact kt
            refine own_ret X9 (v := some (.int (0 : Int32))) (fun h => by rw [Bd.returns] at h; cases h) hlk (by decide) (by decide) ?_ (fun fs hr => ?_)
            · show Q2 Z th a_SMALLINT a_INTEGER a_BIGINT a_REAL a_DOUBLE h0 n0 (some (.int (0 : Int32))) T9.heap _
              rw [e9]
              exact ⟨congrArg (fun z => some (Value.int z)) (by unfold own_num; rw [if_neg ha4_2, if_neg ha11_4, if_neg ha18_6, if_neg ha25_8, if_neg ha32_10]), N0, rfl⟩
            · show Steps p.tables e below (T9.setTop (mkF m 40 #[.val (.ref th)] [(.int (0 : Int32))])) _
              exact retN X9 hx (t := .boolean) Bd.returns (by simp) (hb hby own_d2_40) hr
def own_geo (a a_POINT a_CIRCLE a_POLYGON : Addr) : Int32 := if a = a_POINT then 1 else if a = a_CIRCLE then 1 else if a = a_POLYGON then 1 else 0
theorem own_d4_0 : decode prog_5_method_7_code 0 = .ok (.aload_n 0, 1) := by decide +kernel
theorem own_d4_1 : decode prog_5_method_7_code 1 = .ok (.getstatic 28, 3) := by decide +kernel
theorem own_d4_4 : decode prog_5_method_7_code 4 = .ok (.if_acmp .eq 17, 3) := by decide +kernel
theorem own_d4_7 : decode prog_5_method_7_code 7 = .ok (.aload_n 0, 1) := by decide +kernel
theorem own_d4_8 : decode prog_5_method_7_code 8 = .ok (.getstatic 31, 3) := by decide +kernel
theorem own_d4_11 : decode prog_5_method_7_code 11 = .ok (.if_acmp .eq 10, 3) := by decide +kernel
theorem own_d4_14 : decode prog_5_method_7_code 14 = .ok (.aload_n 0, 1) := by decide +kernel
theorem own_d4_15 : decode prog_5_method_7_code 15 = .ok (.getstatic 34, 3) := by decide +kernel
theorem own_d4_18 : decode prog_5_method_7_code 18 = .ok (.if_acmp .ne 7, 3) := by decide +kernel
theorem own_d4_21 : decode prog_5_method_7_code 21 = .ok (.iconst 1, 1) := by decide +kernel
theorem own_d4_22 : decode prog_5_method_7_code 22 = .ok (.goto 4, 3) := by decide +kernel
theorem own_d4_25 : decode prog_5_method_7_code 25 = .ok (.iconst 0, 1) := by decide +kernel
theorem own_d4_26 : decode prog_5_method_7_code 26 = .ok (.ireturn, 1) := by decide +kernel
theorem own_ef_rm4 (m : MethodId) (th : Addr) : entryFrame m #[(.ref th)] 1 = mkF m 0 #[.val (.ref th)] [] := by first | (simp [entryFrame, mkF, argsToLocals, Value.category]; done) | rfl
def Q4 (Z : State) (th : Addr) (a_POINT : Addr) (a_CIRCLE : Addr) (a_POLYGON : Addr) (h0 : Heap) (n0 : Nat) (v : Option Value) (h : Heap) (L : List Loc) : Prop := v = some (.int (own_geo th a_POINT a_CIRCLE a_POLYGON)) ∧ Fr n0 L ∧ h = h0
set_option maxRecDepth 65536 in
set_option maxHeartbeats 40000000 in
theorem rm4 (l : Launch) (Z : State) (a0 : Array Value) (hw : ∀ d ∈ tables_1, d.before a0 Z = true) (ws : List Jvm.Cond) (th : Addr) (a_POINT : Addr) (a_CIRCLE : Addr) (a_POLYGON : Addr) (h0 : Heap) (n0 : Nat) (Z0 : n0 ≤ h0.size) (S_POINT : Sta Z h0 "com/example/gate_to_tables/gatetotables/adql/catalog/Datatype" "POINT" "Lcom/example/gate_to_tables/gatetotables/adql/catalog/Datatype;" (.ref a_POINT)) (S_CIRCLE : Sta Z h0 "com/example/gate_to_tables/gatetotables/adql/catalog/Datatype" "CIRCLE" "Lcom/example/gate_to_tables/gatetotables/adql/catalog/Datatype;" (.ref a_CIRCLE)) (S_POLYGON : Sta Z h0 "com/example/gate_to_tables/gatetotables/adql/catalog/Datatype" "POLYGON" "Lcom/example/gate_to_tables/gatetotables/adql/catalog/Datatype;" (.ref a_POLYGON)) :
    MetFree l (⟨"com/example/gate_to_tables/gatetotables/adql/catalog/Datatype", "isGeometry", "()Z"⟩ : MethodName) (head1 (Jvm.Cond.code (⟨"com/example/gate_to_tables/gatetotables/adql/catalog/Datatype", "isGeometry", "()Z"⟩ : MethodName) prog_5_method_7_code 1 (some .boolean) :: ws) ({ frames := 0, cells := 0, slots := 0, locals := 0 } : Room)) (fun a U => a = #[(.ref th)] ∧ Z.Warmed39 U.vm ∧ U.heap = h0) (fun _ _ _ _ _ => True) (fun _ U o U' => ∃ v L, o = .returned v ∧ Q4 Z th a_POINT a_CIRCLE a_POLYGON h0 n0 v U'.heap L ∧ FrameEnd U o U' L ({ frames := 0, cells := 0, slots := 0, locals := 0 } : Room).cells ({ frames := 0, cells := 0, slots := 0, locals := 0 } : Room).slots) := by
  refine MetFree.of_bodySF (plainFor_of_name own_pn1) hisR ?_
  intro p e s m args below meth c s₁ Bd hml0 hP hK
  obtain ⟨rfl, hZ, hh⟩ := hP
  have hx := Bd.exec
  have hby := Bd.bytes
  have hml : c.maxLocals = 1 := hml0
  have hown : s.vm.findClass "com/example/gate_to_tables/gatetotables/adql/catalog/Datatype" = some m.cls := findClass_of_methodNamed Bd.named
  have hnm := (name_of_methodNamed Bd.named Bd.method).1
  have hlk : meth.locks = false := BodyLoose.notSynchronized Bd
  have X0 : Stand p l e ({ frames := 0, cells := 0, slots := 0, locals := 0 } : Room) s m #[(.ref th)] below meth c s₁ [] 0 0 := Stand.of_body Bd
  have e0 : s₁.heap = h0 := by rw [← hh, Bd.state]; rfl
  have N0 := Fr.nil n0
  show own_Gl FrameEnd p e below s (Q4 Z th a_POINT a_CIRCLE a_POLYGON h0 n0) ({ frames := 0, cells := 0, slots := 0, locals := 0 } : Room).cells ({ frames := 0, cells := 0, slots := 0, locals := 0 } : Room).slots (s₁.setTop (entryFrame m #[(.ref th)] 1))
  rw [own_ef_rm4 m th]
  refine own_st (A' := s₁.setTop (mkF m 1 #[.val (.ref th)] [(.ref th)])) (fun tg kt => ?_) ?_
  · show Steps p.tables e below (s₁.setTop (mkF m 0 #[.val (.ref th)] [])) _
    refine XS.aloadN X0.here hx rfl (hb hby own_d4_0) rfl rfl ?_
    exact kt
  obtain ⟨T1, X1, e1, st1⟩ := getS2 X0 hx hZ hown (host := "") (Or.inl (hw _ (List.mem_of_getElem? (i := 24) rfl))) Via.refl e0 S_POINT (g := (mkF m 1 #[.val (.ref th)] [(.ref th)])) rfl (hb hby own_d4_1)
  refine own_st st1 ?_
  show own_Gl _ _ _ _ _ _ _ _ (T1.setTop (mkF m 4 #[.val (.ref th)] [(.ref a_POINT), (.ref th)]))
  by_cases ha4_2 : th = a_POINT
  · refine own_st (A' := T1.setTop (mkF m 26 #[.val (.ref th)] [(.int (1 : Int32))])) (fun tg kt => ?_) ?_
    · show Steps p.tables e below (T1.setTop (mkF m 4 #[.val (.ref th)] [(.ref a_POINT), (.ref th)])) _
      refine Jvm.RoadKit.acmp (g := (mkF m 4 #[.val (.ref th)] [(.ref a_POINT), (.ref th)])) X1 hx rfl rfl rfl (pc0 := 4) (pc' := 21) (same := true) rfl (hb hby own_d4_4) rfl (decide_eq_true (congrArg Value.ref ha4_2)) (by decide) (by decide) ?_
      show Steps p.tables e below (T1.setTop (mkF m 21 #[.val (.ref th)] [])) _
      refine XS.iconst X1.here hx rfl (hb hby own_d4_21) ?_
      show Steps p.tables e below (T1.setTop (mkF m 22 #[.val (.ref th)] [(.int (1 : Int32))])) _
      refine XS.goto X1.here hx rfl (pc0 := 22) (pc' := 26) rfl (hb hby own_d4_22) (by decide) (by decide) ?_
      exact kt
    refine own_ret X1 (v := some (.int (1 : Int32))) (fun h => by rw [Bd.returns] at h; cases h) hlk (by decide) (by decide) ?_ (fun fs hr => ?_)
    · show Q4 Z th a_POINT a_CIRCLE a_POLYGON h0 n0 (some (.int (1 : Int32))) T1.heap _
      rw [e1]
      exact ⟨congrArg (fun z => some (Value.int z)) (by unfold own_geo; rw [if_pos ha4_2]), N0, rfl⟩
    · show Steps p.tables e below (T1.setTop (mkF m 26 #[.val (.ref th)] [(.int (1 : Int32))])) _
      exact retN X1 hx (t := .boolean) Bd.returns (by simp) (hb hby own_d4_26) hr
  · refine own_st (A' := T1.setTop (mkF m 8 #[.val (.ref th)] [(.ref th)])) (fun tg kt => ?_) ?_
    · show Steps p.tables e below (T1.setTop (mkF m 4 #[.val (.ref th)] [(.ref a_POINT), (.ref th)])) _
      refine Jvm.RoadKit.acmp (g := (mkF m 4 #[.val (.ref th)] [(.ref a_POINT), (.ref th)])) X1 hx rfl rfl rfl (pc0 := 4) (pc' := 7) (same := false) rfl (hb hby own_d4_4) rfl (decide_eq_false fun q => ha4_2 (Value.ref.inj q)) (by decide) (by decide) ?_
      show Steps p.tables e below (T1.setTop (mkF m 7 #[.val (.ref th)] [])) _
      refine XS.aloadN X1.here hx rfl (hb hby own_d4_7) rfl rfl ?_
      exact kt
    obtain ⟨T3, X3, e3, st3⟩ := getS2 X1 hx hZ hown (host := "") (Or.inl (hw _ (List.mem_of_getElem? (i := 26) rfl))) Via.refl e1 S_CIRCLE (g := (mkF m 8 #[.val (.ref th)] [(.ref th)])) rfl (hb hby own_d4_8)
    refine own_st st3 ?_
    show own_Gl _ _ _ _ _ _ _ _ (T3.setTop (mkF m 11 #[.val (.ref th)] [(.ref a_CIRCLE), (.ref th)]))
    by_cases ha11_4 : th = a_CIRCLE
    · refine own_st (A' := T3.setTop (mkF m 26 #[.val (.ref th)] [(.int (1 : Int32))])) (fun tg kt => ?_) ?_
      · show Steps p.tables e below (T3.setTop (mkF m 11 #[.val (.ref th)] [(.ref a_CIRCLE), (.ref th)])) _
        refine Jvm.RoadKit.acmp (g := (mkF m 11 #[.val (.ref th)] [(.ref a_CIRCLE), (.ref th)])) X3 hx rfl rfl rfl (pc0 := 11) (pc' := 21) (same := true) rfl (hb hby own_d4_11) rfl (decide_eq_true (congrArg Value.ref ha11_4)) (by decide) (by decide) ?_
        show Steps p.tables e below (T3.setTop (mkF m 21 #[.val (.ref th)] [])) _
        refine XS.iconst X3.here hx rfl (hb hby own_d4_21) ?_
        show Steps p.tables e below (T3.setTop (mkF m 22 #[.val (.ref th)] [(.int (1 : Int32))])) _
        refine XS.goto X3.here hx rfl (pc0 := 22) (pc' := 26) rfl (hb hby own_d4_22) (by decide) (by decide) ?_
        exact kt
      refine own_ret X3 (v := some (.int (1 : Int32))) (fun h => by rw [Bd.returns] at h; cases h) hlk (by decide) (by decide) ?_ (fun fs hr => ?_)
      · show Q4 Z th a_POINT a_CIRCLE a_POLYGON h0 n0 (some (.int (1 : Int32))) T3.heap _
        rw [e3]
        exact ⟨congrArg (fun z => some (Value.int z)) (by unfold own_geo; rw [if_neg ha4_2, if_pos ha11_4]), N0, rfl⟩
      · show Steps p.tables e below (T3.setTop (mkF m 26 #[.val (.ref th)] [(.int (1 : Int32))])) _
        exact retN X3 hx (t := .boolean) Bd.returns (by simp) (hb hby own_d4_26) hr
    · refine own_st (A' := T3.setTop (mkF m 15 #[.val (.ref th)] [(.ref th)])) (fun tg kt => ?_) ?_
      · show Steps p.tables e below (T3.setTop (mkF m 11 #[.val (.ref th)] [(.ref a_CIRCLE), (.ref th)])) _
        refine Jvm.RoadKit.acmp (g := (mkF m 11 #[.val (.ref th)] [(.ref a_CIRCLE), (.ref th)])) X3 hx rfl rfl rfl (pc0 := 11) (pc' := 14) (same := false) rfl (hb hby own_d4_11) rfl (decide_eq_false fun q => ha11_4 (Value.ref.inj q)) (by decide) (by decide) ?_
        show Steps p.tables e below (T3.setTop (mkF m 14 #[.val (.ref th)] [])) _
        refine XS.aloadN X3.here hx rfl (hb hby own_d4_14) rfl rfl ?_
        exact kt
      obtain ⟨T5, X5, e5, st5⟩ := getS2 X3 hx hZ hown (host := "") (Or.inl (hw _ (List.mem_of_getElem? (i := 28) rfl))) Via.refl e3 S_POLYGON (g := (mkF m 15 #[.val (.ref th)] [(.ref th)])) rfl (hb hby own_d4_15)
      refine own_st st5 ?_
      show own_Gl _ _ _ _ _ _ _ _ (T5.setTop (mkF m 18 #[.val (.ref th)] [(.ref a_POLYGON), (.ref th)]))
      by_cases ha18_6 : th = a_POLYGON
      · refine own_st (A' := T5.setTop (mkF m 26 #[.val (.ref th)] [(.int (1 : Int32))])) (fun tg kt => ?_) ?_
        · show Steps p.tables e below (T5.setTop (mkF m 18 #[.val (.ref th)] [(.ref a_POLYGON), (.ref th)])) _
          refine Jvm.RoadKit.acmp (g := (mkF m 18 #[.val (.ref th)] [(.ref a_POLYGON), (.ref th)])) X5 hx rfl rfl rfl (pc0 := 18) (pc' := 21) (same := true) rfl (hb hby own_d4_18) rfl (decide_eq_true (congrArg Value.ref ha18_6)) (by decide) (by decide) ?_
          show Steps p.tables e below (T5.setTop (mkF m 21 #[.val (.ref th)] [])) _
          refine XS.iconst X5.here hx rfl (hb hby own_d4_21) ?_
          show Steps p.tables e below (T5.setTop (mkF m 22 #[.val (.ref th)] [(.int (1 : Int32))])) _
          refine XS.goto X5.here hx rfl (pc0 := 22) (pc' := 26) rfl (hb hby own_d4_22) (by decide) (by decide) ?_
          exact kt
        refine own_ret X5 (v := some (.int (1 : Int32))) (fun h => by rw [Bd.returns] at h; cases h) hlk (by decide) (by decide) ?_ (fun fs hr => ?_)
        · show Q4 Z th a_POINT a_CIRCLE a_POLYGON h0 n0 (some (.int (1 : Int32))) T5.heap _
          rw [e5]
          exact ⟨congrArg (fun z => some (Value.int z)) (by unfold own_geo; rw [if_neg ha4_2, if_neg ha11_4, if_pos ha18_6]), N0, rfl⟩
        · show Steps p.tables e below (T5.setTop (mkF m 26 #[.val (.ref th)] [(.int (1 : Int32))])) _
          exact retN X5 hx (t := .boolean) Bd.returns (by simp) (hb hby own_d4_26) hr
      · refine own_st (A' := T5.setTop (mkF m 26 #[.val (.ref th)] [(.int (0 : Int32))])) (fun tg kt => ?_) ?_
        · show Steps p.tables e below (T5.setTop (mkF m 18 #[.val (.ref th)] [(.ref a_POLYGON), (.ref th)])) _
          refine Jvm.RoadKit.acmp (g := (mkF m 18 #[.val (.ref th)] [(.ref a_POLYGON), (.ref th)])) X5 hx rfl rfl rfl (pc0 := 18) (pc' := 25) (same := false) rfl (hb hby own_d4_18) rfl (decide_eq_false fun q => ha18_6 (Value.ref.inj q)) (by decide) (by decide) ?_
          show Steps p.tables e below (T5.setTop (mkF m 25 #[.val (.ref th)] [])) _
          refine XS.iconst X5.here hx rfl (hb hby own_d4_25) ?_
          exact kt
        refine own_ret X5 (v := some (.int (0 : Int32))) (fun h => by rw [Bd.returns] at h; cases h) hlk (by decide) (by decide) ?_ (fun fs hr => ?_)
        · show Q4 Z th a_POINT a_CIRCLE a_POLYGON h0 n0 (some (.int (0 : Int32))) T5.heap _
          rw [e5]
          exact ⟨congrArg (fun z => some (Value.int z)) (by unfold own_geo; rw [if_neg ha4_2, if_neg ha11_4, if_neg ha18_6]), N0, rfl⟩
        · show Steps p.tables e below (T5.setTop (mkF m 26 #[.val (.ref th)] [(.int (0 : Int32))])) _
          exact retN X5 hx (t := .boolean) Bd.returns (by simp) (hb hby own_d4_26) hr
def own_ord (a a_POINT a_CIRCLE a_POLYGON : Addr) : Int32 := if own_geo a a_POINT a_CIRCLE a_POLYGON = 0 then 1 else 0
theorem own_pd2 : parseMethodDescriptor "()Z" = some ⟨[], some .boolean⟩ := by decide +kernel
theorem own_d3_0 : decode prog_5_method_6_code 0 = .ok (.aload_n 0, 1) := by decide +kernel
theorem own_d3_1 : decode prog_5_method_6_code 1 = .ok (.invokevirtual 80, 3) := by decide +kernel
theorem own_d3_4 : decode prog_5_method_6_code 4 = .ok (.ifCond .ne 7, 3) := by decide +kernel
theorem own_d3_7 : decode prog_5_method_6_code 7 = .ok (.iconst 1, 1) := by decide +kernel
theorem own_d3_8 : decode prog_5_method_6_code 8 = .ok (.goto 4, 3) := by decide +kernel
theorem own_d3_11 : decode prog_5_method_6_code 11 = .ok (.iconst 0, 1) := by decide +kernel
theorem own_d3_12 : decode prog_5_method_6_code 12 = .ok (.ireturn, 1) := by decide +kernel
theorem own_ef_rm3 (m : MethodId) (th : Addr) : entryFrame m #[(.ref th)] 1 = mkF m 0 #[.val (.ref th)] [] := by first | (simp [entryFrame, mkF, argsToLocals, Value.category]; done) | rfl
def Q3 (Z : State) (th : Addr) (a_POINT : Addr) (a_CIRCLE : Addr) (a_POLYGON : Addr) (h0 : Heap) (n0 : Nat) (v : Option Value) (h : Heap) (L : List Loc) : Prop := v = some (.int (own_ord th a_POINT a_CIRCLE a_POLYGON)) ∧ Fr n0 L ∧ h = h0
set_option maxRecDepth 65536 in
set_option maxHeartbeats 40000000 in
theorem rm3 (l : Launch) (Z : State) (a0 : Array Value) (hw : ∀ d ∈ tables_1, d.before a0 Z = true) (ws : List Jvm.Cond) (th : Addr) (a_POINT : Addr) (a_CIRCLE : Addr) (a_POLYGON : Addr) (h0 : Heap) (n0 : Nat) (Z0 : n0 ≤ h0.size) (S_POINT : Sta Z h0 "com/example/gate_to_tables/gatetotables/adql/catalog/Datatype" "POINT" "Lcom/example/gate_to_tables/gatetotables/adql/catalog/Datatype;" (.ref a_POINT)) (S_CIRCLE : Sta Z h0 "com/example/gate_to_tables/gatetotables/adql/catalog/Datatype" "CIRCLE" "Lcom/example/gate_to_tables/gatetotables/adql/catalog/Datatype;" (.ref a_CIRCLE)) (S_POLYGON : Sta Z h0 "com/example/gate_to_tables/gatetotables/adql/catalog/Datatype" "POLYGON" "Lcom/example/gate_to_tables/gatetotables/adql/catalog/Datatype;" (.ref a_POLYGON)) (Eth : Exa Z h0 th "com/example/gate_to_tables/gatetotables/adql/catalog/Datatype") :
    MetFree l (⟨"com/example/gate_to_tables/gatetotables/adql/catalog/Datatype", "isOrdered", "()Z"⟩ : MethodName) (head1 (Jvm.Cond.code (⟨"com/example/gate_to_tables/gatetotables/adql/catalog/Datatype", "isOrdered", "()Z"⟩ : MethodName) prog_5_method_6_code 1 (some .boolean) :: ws) ({ frames := 1, cells := 0, slots := 0, locals := 12 } : Room)) (fun a U => a = #[(.ref th)] ∧ Z.Warmed39 U.vm ∧ U.heap = h0) (fun _ _ _ _ _ => True) (fun _ U o U' => ∃ v L, o = .returned v ∧ Q3 Z th a_POINT a_CIRCLE a_POLYGON h0 n0 v U'.heap L ∧ FrameEnd U o U' L ({ frames := 1, cells := 0, slots := 0, locals := 12 } : Room).cells ({ frames := 1, cells := 0, slots := 0, locals := 12 } : Room).slots) := by
  refine MetFree.of_bodySF (plainFor_of_name own_pn1) hisR ?_
  intro p e s m args below meth c s₁ Bd hml0 hP hK
  obtain ⟨rfl, hZ, hh⟩ := hP
  have hx := Bd.exec
  have hby := Bd.bytes
  have hml : c.maxLocals = 1 := hml0
  have hown : s.vm.findClass "com/example/gate_to_tables/gatetotables/adql/catalog/Datatype" = some m.cls := findClass_of_methodNamed Bd.named
  have hnm := (name_of_methodNamed Bd.named Bd.method).1
  have hlk : meth.locks = false := BodyLoose.notSynchronized Bd
  have X0 : Stand p l e ({ frames := 1, cells := 0, slots := 0, locals := 12 } : Room) s m #[(.ref th)] below meth c s₁ [] 0 0 := Stand.of_body Bd
  have e0 : s₁.heap = h0 := by rw [← hh, Bd.state]; rfl
  have N0 := Fr.nil n0
  show own_Gl FrameEnd p e below s (Q3 Z th a_POINT a_CIRCLE a_POLYGON h0 n0) ({ frames := 1, cells := 0, slots := 0, locals := 12 } : Room).cells ({ frames := 1, cells := 0, slots := 0, locals := 12 } : Room).slots (s₁.setTop (entryFrame m #[(.ref th)] 1))
  rw [own_ef_rm3 m th]
  refine own_st (A' := s₁.setTop (mkF m 1 #[.val (.ref th)] [(.ref th)])) (fun tg kt => ?_) ?_
  · show Steps p.tables e below (s₁.setTop (mkF m 0 #[.val (.ref th)] [])) _
    refine XS.aloadN X0.here hx rfl (hb hby own_d3_0) rfl rfl ?_
    exact kt
  obtain ⟨cq1, kq1, q1a, q1b, q1c⟩ := isOf hZ e0 Eth
  obtain ⟨_, _, ⟨T1, L1, k1, n1⟩, -, X1, ⟨Lc1, hQ1, l1, y1, z1⟩, st1⟩ := X0.virtualBack hx (y := (⟨"com/example/gate_to_tables/gatetotables/adql/catalog/Datatype", "isGeometry", "()Z"⟩ : MethodName)) (z := (⟨"com/example/gate_to_tables/gatetotables/adql/catalog/Datatype", "isGeometry", "()Z"⟩ : MethodName)) hown (mvT hZ (hw _ (List.mem_of_getElem? (i := 19) rfl))) (mvT hZ (hw _ (List.mem_of_getElem? (i := 20) rfl))) (notFace_of_selects (args := #[]) (mvT hZ (hw _ (List.mem_of_getElem? (i := 22) rfl)))) (mvT hZ (hw _ (List.mem_of_getElem? (i := 22) rfl))) (mvT hZ (hw _ (List.mem_of_getElem? (i := 21) rfl))) (by decide) (backOf (W := 0) (rm4 l Z a0 hw [] th a_POINT a_CIRCLE a_POLYGON h0 n0 Z0 S_POINT S_CIRCLE S_POLYGON) hZ (hw _ (List.mem_of_getElem? (i := 23) rfl)) (hw _ (List.mem_of_getElem? (i := 6) rfl)) (by decide) (by decide)) q1a q1c (g := (mkF m 1 #[.val (.ref th)] [(.ref th)])) rfl (by rw [hml]; rfl) (Steps.refl _) (argsL := []) (rest := []) (lenOf own_pd2 rfl) rfl (by show 2 * 0 + _ ≤ _; exact Nat.le_of_eq rfl) (hb hby own_d3_1) (fun _ _ => ⟨rfl, e0, (by decide : 0 + 0 ≤ _), (by decide : 0 + 0 ≤ _)⟩)
  dsimp only [Pt.U, Pt.locs, Pt.cells, Pt.slots] at X1 l1 y1 z1 st1 hQ1
  subst l1 y1 z1
  obtain ⟨rfl, Nq1, eq1⟩ := hQ1
  have N1 := Fr.app N0 Nq1
  refine own_tr st1 ?_
  show own_Gl _ _ _ _ _ _ _ _ (T1.setTop (mkF m 4 #[.val (.ref th)] [(.int (own_geo th a_POINT a_CIRCLE a_POLYGON))]))
  by_cases hc4_2 : (own_geo th a_POINT a_CIRCLE a_POLYGON) = (0 : Int32)
  · refine own_st (A' := T1.setTop (mkF m 12 #[.val (.ref th)] [(.int (1 : Int32))])) (fun tg kt => ?_) ?_
    · show Steps p.tables e below (T1.setTop (mkF m 4 #[.val (.ref th)] [(.int (own_geo th a_POINT a_CIRCLE a_POLYGON))])) _
      refine XS.ifNo X1.here hx rfl (hb hby own_d3_4) rfl ((if0 _ _).trans (teq hc4_2).2) ?_
      show Steps p.tables e below (T1.setTop (mkF m 7 #[.val (.ref th)] [])) _
      refine XS.iconst X1.here hx rfl (hb hby own_d3_7) ?_
      show Steps p.tables e below (T1.setTop (mkF m 8 #[.val (.ref th)] [(.int (1 : Int32))])) _
      refine XS.goto X1.here hx rfl (pc0 := 8) (pc' := 12) rfl (hb hby own_d3_8) (by decide) (by decide) ?_
      exact kt
    refine own_ret X1 (v := some (.int (1 : Int32))) (fun h => by rw [Bd.returns] at h; cases h) hlk (by decide) (by decide) ?_ (fun fs hr => ?_)
    · show Q3 Z th a_POINT a_CIRCLE a_POLYGON h0 n0 (some (.int (1 : Int32))) T1.heap _
      rw [eq1]
      exact ⟨congrArg (fun z => some (Value.int z)) (by unfold own_ord; rw [if_pos hc4_2]), N1, rfl⟩
    · show Steps p.tables e below (T1.setTop (mkF m 12 #[.val (.ref th)] [(.int (1 : Int32))])) _
      exact retN X1 hx (t := .boolean) Bd.returns (by simp) (hb hby own_d3_12) hr
  · refine own_st (A' := T1.setTop (mkF m 12 #[.val (.ref th)] [(.int (0 : Int32))])) (fun tg kt => ?_) ?_
    · show Steps p.tables e below (T1.setTop (mkF m 4 #[.val (.ref th)] [(.int (own_geo th a_POINT a_CIRCLE a_POLYGON))])) _
      refine XS.ifYes X1.here hx rfl (pc0 := 4) (pc' := 11) rfl (hb hby own_d3_4) rfl ((if0 _ _).trans (feq hc4_2).2) (by decide) (by decide) ?_
      show Steps p.tables e below (T1.setTop (mkF m 11 #[.val (.ref th)] [])) _
      refine XS.iconst X1.here hx rfl (hb hby own_d3_11) ?_
      exact kt
    refine own_ret X1 (v := some (.int (0 : Int32))) (fun h => by rw [Bd.returns] at h; cases h) hlk (by decide) (by decide) ?_ (fun fs hr => ?_)
    · show Q3 Z th a_POINT a_CIRCLE a_POLYGON h0 n0 (some (.int (0 : Int32))) T1.heap _
      rw [eq1]
      exact ⟨congrArg (fun z => some (Value.int z)) (by unfold own_ord; rw [if_neg hc4_2]), N1, rfl⟩
    · show Steps p.tables e below (T1.setTop (mkF m 12 #[.val (.ref th)] [(.int (0 : Int32))])) _
      exact retN X1 hx (t := .boolean) Bd.returns (by simp) (hb hby own_d3_12) hr
theorem own_pd3 : parseMethodDescriptor "(I)Lcom/example/gate_to_tables/gatetotables/adql/catalog/Datatype;" = some ⟨[.int], some (.object "com/example/gate_to_tables/gatetotables/adql/catalog/Datatype")⟩ := by decide +kernel
theorem own_ef_rm0 (m : MethodId) (p0 : Int32) : entryFrame m #[(.int p0)] maxLocals = mkF m 0 #[.val (.int p0), .unset, .unset, .unset, .unset] [] := by first | (simp [entryFrame, mkF, argsToLocals, Value.category, maxLocals]; done) | rfl
def Q0 (Z : State) (p0 : Int32) (a_SMALLINT : Addr) (a_INTEGER : Addr) (a_BIGINT : Addr) (a_REAL : Addr) (a_DOUBLE : Addr) (a_VARCHAR : Addr) (a_BOOLEAN : Addr) (a_TIMESTAMP : Addr) (a_POINT : Addr) (a_CIRCLE : Addr) (a_POLYGON : Addr) (h0 : Heap) (n0 : Nat) (v : Option Value) (h : Heap) (L : List Loc) : Prop := v = some (.int 1) ∧ Fr n0 L
set_option maxRecDepth 65536 in
set_option maxHeartbeats 40000000 in
theorem rm0 (l : Launch) (Z : State) (a0 : Array Value) (hw : ∀ d ∈ tables_1, d.before a0 Z = true) (ws : List Jvm.Cond) (p0 : Int32) (a_SMALLINT : Addr) (a_INTEGER : Addr) (a_BIGINT : Addr) (a_REAL : Addr) (a_DOUBLE : Addr) (a_VARCHAR : Addr) (a_BOOLEAN : Addr) (a_TIMESTAMP : Addr) (a_POINT : Addr) (a_CIRCLE : Addr) (a_POLYGON : Addr) (h0 : Heap) (n0 : Nat) (Z0 : n0 ≤ h0.size) (S_SMALLINT : Sta Z h0 "com/example/gate_to_tables/gatetotables/adql/catalog/Datatype" "SMALLINT" "Lcom/example/gate_to_tables/gatetotables/adql/catalog/Datatype;" (.ref a_SMALLINT)) (S_INTEGER : Sta Z h0 "com/example/gate_to_tables/gatetotables/adql/catalog/Datatype" "INTEGER" "Lcom/example/gate_to_tables/gatetotables/adql/catalog/Datatype;" (.ref a_INTEGER)) (S_BIGINT : Sta Z h0 "com/example/gate_to_tables/gatetotables/adql/catalog/Datatype" "BIGINT" "Lcom/example/gate_to_tables/gatetotables/adql/catalog/Datatype;" (.ref a_BIGINT)) (S_REAL : Sta Z h0 "com/example/gate_to_tables/gatetotables/adql/catalog/Datatype" "REAL" "Lcom/example/gate_to_tables/gatetotables/adql/catalog/Datatype;" (.ref a_REAL)) (S_DOUBLE : Sta Z h0 "com/example/gate_to_tables/gatetotables/adql/catalog/Datatype" "DOUBLE" "Lcom/example/gate_to_tables/gatetotables/adql/catalog/Datatype;" (.ref a_DOUBLE)) (S_VARCHAR : Sta Z h0 "com/example/gate_to_tables/gatetotables/adql/catalog/Datatype" "VARCHAR" "Lcom/example/gate_to_tables/gatetotables/adql/catalog/Datatype;" (.ref a_VARCHAR)) (S_BOOLEAN : Sta Z h0 "com/example/gate_to_tables/gatetotables/adql/catalog/Datatype" "BOOLEAN" "Lcom/example/gate_to_tables/gatetotables/adql/catalog/Datatype;" (.ref a_BOOLEAN)) (S_TIMESTAMP : Sta Z h0 "com/example/gate_to_tables/gatetotables/adql/catalog/Datatype" "TIMESTAMP" "Lcom/example/gate_to_tables/gatetotables/adql/catalog/Datatype;" (.ref a_TIMESTAMP)) (S_POINT : Sta Z h0 "com/example/gate_to_tables/gatetotables/adql/catalog/Datatype" "POINT" "Lcom/example/gate_to_tables/gatetotables/adql/catalog/Datatype;" (.ref a_POINT)) (S_CIRCLE : Sta Z h0 "com/example/gate_to_tables/gatetotables/adql/catalog/Datatype" "CIRCLE" "Lcom/example/gate_to_tables/gatetotables/adql/catalog/Datatype;" (.ref a_CIRCLE)) (S_POLYGON : Sta Z h0 "com/example/gate_to_tables/gatetotables/adql/catalog/Datatype" "POLYGON" "Lcom/example/gate_to_tables/gatetotables/adql/catalog/Datatype;" (.ref a_POLYGON)) (E_SMALLINT : Exa Z h0 a_SMALLINT "com/example/gate_to_tables/gatetotables/adql/catalog/Datatype") (E_INTEGER : Exa Z h0 a_INTEGER "com/example/gate_to_tables/gatetotables/adql/catalog/Datatype") (E_BIGINT : Exa Z h0 a_BIGINT "com/example/gate_to_tables/gatetotables/adql/catalog/Datatype") (E_REAL : Exa Z h0 a_REAL "com/example/gate_to_tables/gatetotables/adql/catalog/Datatype") (E_DOUBLE : Exa Z h0 a_DOUBLE "com/example/gate_to_tables/gatetotables/adql/catalog/Datatype") (E_VARCHAR : Exa Z h0 a_VARCHAR "com/example/gate_to_tables/gatetotables/adql/catalog/Datatype") (E_BOOLEAN : Exa Z h0 a_BOOLEAN "com/example/gate_to_tables/gatetotables/adql/catalog/Datatype") (E_TIMESTAMP : Exa Z h0 a_TIMESTAMP "com/example/gate_to_tables/gatetotables/adql/catalog/Datatype") (E_POINT : Exa Z h0 a_POINT "com/example/gate_to_tables/gatetotables/adql/catalog/Datatype") (E_CIRCLE : Exa Z h0 a_CIRCLE "com/example/gate_to_tables/gatetotables/adql/catalog/Datatype") (E_POLYGON : Exa Z h0 a_POLYGON "com/example/gate_to_tables/gatetotables/adql/catalog/Datatype") (F_SMALLINT_ordinal : Fld Z h0 a_SMALLINT "java/lang/Enum" "ordinal" "I" (.int (0 : Int32))) (F_INTEGER_ordinal : Fld Z h0 a_INTEGER "java/lang/Enum" "ordinal" "I" (.int (1 : Int32))) (F_BIGINT_ordinal : Fld Z h0 a_BIGINT "java/lang/Enum" "ordinal" "I" (.int (2 : Int32))) (F_REAL_ordinal : Fld Z h0 a_REAL "java/lang/Enum" "ordinal" "I" (.int (3 : Int32))) (F_DOUBLE_ordinal : Fld Z h0 a_DOUBLE "java/lang/Enum" "ordinal" "I" (.int (4 : Int32))) (F_VARCHAR_ordinal : Fld Z h0 a_VARCHAR "java/lang/Enum" "ordinal" "I" (.int (5 : Int32))) (F_BOOLEAN_ordinal : Fld Z h0 a_BOOLEAN "java/lang/Enum" "ordinal" "I" (.int (6 : Int32))) (F_TIMESTAMP_ordinal : Fld Z h0 a_TIMESTAMP "java/lang/Enum" "ordinal" "I" (.int (7 : Int32))) (F_POINT_ordinal : Fld Z h0 a_POINT "java/lang/Enum" "ordinal" "I" (.int (8 : Int32))) (F_CIRCLE_ordinal : Fld Z h0 a_CIRCLE "java/lang/Enum" "ordinal" "I" (.int (9 : Int32))) (F_POLYGON_ordinal : Fld Z h0 a_POLYGON "java/lang/Enum" "ordinal" "I" (.int (10 : Int32))) :
    MetFree l x (head1 (Jvm.Cond.code x code maxLocals ret :: ws) room_1) (fun a U => a = #[(.int p0)] ∧ Z.Warmed39 U.vm ∧ U.heap = h0) (fun _ _ _ _ _ => True) (fun _ U o U' => ∃ v L, o = .returned v ∧ Q0 Z p0 a_SMALLINT a_INTEGER a_BIGINT a_REAL a_DOUBLE a_VARCHAR a_BOOLEAN a_TIMESTAMP a_POINT a_CIRCLE a_POLYGON h0 n0 v U'.heap L ∧ FrameEnd U o U' L room_1.cells room_1.slots) := by
  refine MetFree.of_bodySF (plainFor_of_name own_pn0) hisR ?_
  intro p e s m args below meth c s₁ Bd hml0 hP hK
  obtain ⟨rfl, hZ, hh⟩ := hP
  have hx := Bd.exec
  have hby := Bd.bytes
  have hml : c.maxLocals = 5 := hml0
  have hown : s.vm.findClass "com/example/gate_to_tables/gatetotables/adql/catalog/DatatypeIsNumericPinLaw" = some m.cls := findClass_of_methodNamed Bd.named
  have hnm := (name_of_methodNamed Bd.named Bd.method).1
  have hlk : meth.locks = false := BodyLoose.notSynchronized Bd
  have X0 : Stand p l e room_1 s m #[(.int p0)] below meth c s₁ [] 0 0 := Stand.of_body Bd
  have e0 : s₁.heap = h0 := by rw [← hh, Bd.state]; rfl
  have N0 := Fr.nil n0
  show own_Gl FrameEnd p e below s (Q0 Z p0 a_SMALLINT a_INTEGER a_BIGINT a_REAL a_DOUBLE a_VARCHAR a_BOOLEAN a_TIMESTAMP a_POINT a_CIRCLE a_POLYGON h0 n0) room_1.cells room_1.slots (s₁.setTop (entryFrame m #[(.int p0)] maxLocals))
  rw [own_ef_rm0 m p0]
  refine own_st (A' := s₁.setTop (mkF m 7 #[.val (.int p0), .unset, .unset, .unset, .unset] [(.int ((p0 &&& (2147483647 : Int32)) % (11 : Int32)))])) (fun tg kt => ?_) ?_
  · show Steps p.tables e below (s₁.setTop (mkF m 0 #[.val (.int p0), .unset, .unset, .unset, .unset] [])) _
    refine XS.iloadN X0.here hx rfl (hb hby at_0) rfl ?_
    show Steps p.tables e below (s₁.setTop (mkF m 1 #[.val (.int p0), .unset, .unset, .unset, .unset] [(.int p0)])) _
    refine X0.ldcInt hx hown (mvT hZ (hw _ (List.mem_of_getElem? (i := 0) rfl))) (g := (mkF m 1 #[.val (.int p0), .unset, .unset, .unset, .unset] [(.int p0)])) rfl (hb hby at_1) _ ?_
    show Steps p.tables e below (s₁.setTop (mkF m 3 #[.val (.int p0), .unset, .unset, .unset, .unset] [(.int (2147483647 : Int32)), (.int p0)])) _
    refine XS.iand X0.here hx rfl (hb hby at_3) rfl ?_
    show Steps p.tables e below (s₁.setTop (mkF m 4 #[.val (.int p0), .unset, .unset, .unset, .unset] [(.int (p0 &&& (2147483647 : Int32)))])) _
    refine XS.bipush X0.here hx rfl (hb hby at_4) ?_
    show Steps p.tables e below (s₁.setTop (mkF m 6 #[.val (.int p0), .unset, .unset, .unset, .unset] [(.int (11 : Int32)), (.int (p0 &&& (2147483647 : Int32)))])) _
    refine iremM X0 hx rfl (hb hby at_6) rfl (by decide) ?_
    exact kt
  obtain ⟨ix, hix⟩ : ∃ z, z = ((p0 &&& (2147483647 : Int32)) % (11 : Int32)) := ⟨_, rfl⟩
  rw [← hix]
  show own_Gl _ _ _ _ _ _ _ _ (s₁.setTop (mkF m 7 #[.val (.int p0), .unset, .unset, .unset, .unset] [(.int ix)]))
  have bx := own_rem p0 11 11 (by decide) (by decide)
  rw [← hix] at bx
  rcases (own_split11 bx.1 bx.2) with rfl | rfl | rfl | rfl | rfl | rfl | rfl | rfl | rfl | rfl | rfl
  · show own_Gl _ _ _ _ _ _ _ _ (s₁.setTop (mkF m 7 #[.val (.int p0), .unset, .unset, .unset, .unset] [(.int (0 : Int32))]))
    refine own_st (A' := s₁.setTop (mkF m 9 #[.val (.int p0), .val (.int (0 : Int32)), .unset, .unset, .unset] [(.int (0 : Int32))])) (fun tg kt => ?_) ?_
    · show Steps p.tables e below (s₁.setTop (mkF m 7 #[.val (.int p0), .unset, .unset, .unset, .unset] [(.int (0 : Int32))])) _
      refine XS.istoreN X0.here hx rfl (hb hby at_7) rfl (l' := #[.val (.int p0), .val (.int (0 : Int32)), .unset, .unset, .unset]) rfl ?_
      show Steps p.tables e below (s₁.setTop (mkF m 8 #[.val (.int p0), .val (.int (0 : Int32)), .unset, .unset, .unset] [])) _
      refine XS.iloadN X0.here hx rfl (hb hby at_8) rfl ?_
      exact kt
    obtain ⟨_, _, ⟨T1, L1, k1, n1⟩, -, X1, ⟨Lc1, hQ1, l1, y1, z1⟩, st1⟩ := Jvm.LawKit.callS X0 hx (y := (⟨"com/example/gate_to_tables/gatetotables/adql/catalog/DatatypeIsNumericPinLaw", "pick", "(I)Lcom/example/gate_to_tables/gatetotables/adql/catalog/Datatype;"⟩ : MethodName)) hown (mvT hZ (hw _ (List.mem_of_getElem? (i := 1) rfl))) (mvT hZ (hw _ (List.mem_of_getElem? (i := 2) rfl))) (mvT hZ (hw _ (List.mem_of_getElem? (i := 3) rfl))) (mvT hZ (hw _ (List.mem_of_getElem? (i := 4) rfl))) (by decide) (backOf (W := 0) (rm1 l Z a0 hw [] (0 : Int32) a_SMALLINT a_INTEGER a_BIGINT a_REAL a_DOUBLE a_VARCHAR a_BOOLEAN a_TIMESTAMP a_POINT a_CIRCLE a_POLYGON h0 n0 Z0 S_SMALLINT S_INTEGER S_BIGINT S_REAL S_DOUBLE S_VARCHAR S_BOOLEAN S_TIMESTAMP S_POINT S_CIRCLE S_POLYGON) hZ (hw _ (List.mem_of_getElem? (i := 4) rfl)) (hw _ (List.mem_of_getElem? (i := 3) rfl)) (by decide) (by decide)) (g := (mkF m 9 #[.val (.int p0), .val (.int (0 : Int32)), .unset, .unset, .unset] [(.int (0 : Int32))])) rfl (by rw [hml]; rfl) (argsL := [(.int (0 : Int32))]) (rest := []) (lenOf own_pd3 rfl) rfl (by show 2 * 0 + _ ≤ _; exact Nat.le_of_eq rfl) (hb hby at_9) (fun _ _ => ⟨rfl, e0, (by decide : 0 + 0 ≤ _), (by decide : 0 + 0 ≤ _)⟩)
    dsimp only [Pt.U, Pt.locs, Pt.cells, Pt.slots] at X1 l1 y1 z1 st1 hQ1
    subst l1 y1 z1
    obtain ⟨hv1, hr1⟩ := hQ1
    rw [show own_pick1 (0 : Int32) a_SMALLINT a_INTEGER a_BIGINT a_REAL a_DOUBLE a_VARCHAR a_BOOLEAN a_TIMESTAMP a_POINT a_CIRCLE a_POLYGON = a_SMALLINT from rfl] at hv1
    have hQ1 := And.intro hv1 hr1
    obtain ⟨rfl, Nq1, eq1⟩ := hQ1
    have N1 := Fr.app N0 Nq1
    refine own_st st1 ?_
    show own_Gl _ _ _ _ _ _ _ _ (T1.setTop (mkF m 12 #[.val (.int p0), .val (.int (0 : Int32)), .unset, .unset, .unset] [(.ref a_SMALLINT)]))
    refine own_st (A' := T1.setTop (mkF m 25 #[.val (.int p0), .val (.int (0 : Int32)), .val (.ref a_SMALLINT), .val (.int (1 : Int32)), .unset] [(.ref a_SMALLINT)])) (fun tg kt => ?_) ?_
    · show Steps p.tables e below (T1.setTop (mkF m 12 #[.val (.int p0), .val (.int (0 : Int32)), .unset, .unset, .unset] [(.ref a_SMALLINT)])) _
      refine XS.astoreN X1.here hx rfl (hb hby at_12) rfl rfl (l' := #[.val (.int p0), .val (.int (0 : Int32)), .val (.ref a_SMALLINT), .unset, .unset]) rfl ?_
      show Steps p.tables e below (T1.setTop (mkF m 13 #[.val (.int p0), .val (.int (0 : Int32)), .val (.ref a_SMALLINT), .unset, .unset] [])) _
      refine XS.iloadN X1.here hx rfl (hb hby at_13) rfl ?_
      show Steps p.tables e below (T1.setTop (mkF m 14 #[.val (.int p0), .val (.int (0 : Int32)), .val (.ref a_SMALLINT), .unset, .unset] [(.int (0 : Int32))])) _
      refine XS.iconst X1.here hx rfl (hb hby at_14) ?_
      show Steps p.tables e below (T1.setTop (mkF m 15 #[.val (.int p0), .val (.int (0 : Int32)), .val (.ref a_SMALLINT), .unset, .unset] [(.int (4 : Int32)), (.int (0 : Int32))])) _
      refine XS.icmpNo X1.here hx rfl (hb hby at_15) rfl (flt ((by decide) : ¬ ((4 : Int32) < (0 : Int32)))).2.2.1 ?_
      show Steps p.tables e below (T1.setTop (mkF m 18 #[.val (.int p0), .val (.int (0 : Int32)), .val (.ref a_SMALLINT), .unset, .unset] [])) _
      refine XS.iconst X1.here hx rfl (hb hby at_18) ?_
      show Steps p.tables e below (T1.setTop (mkF m 19 #[.val (.int p0), .val (.int (0 : Int32)), .val (.ref a_SMALLINT), .unset, .unset] [(.int (1 : Int32))])) _
      refine XS.goto X1.here hx rfl (pc0 := 19) (pc' := 23) rfl (hb hby at_19) (by decide) (by decide) ?_
      show Steps p.tables e below (T1.setTop (mkF m 23 #[.val (.int p0), .val (.int (0 : Int32)), .val (.ref a_SMALLINT), .unset, .unset] [(.int (1 : Int32))])) _
      refine XS.istoreN X1.here hx rfl (hb hby at_23) rfl (l' := #[.val (.int p0), .val (.int (0 : Int32)), .val (.ref a_SMALLINT), .val (.int (1 : Int32)), .unset]) rfl ?_
      show Steps p.tables e below (T1.setTop (mkF m 24 #[.val (.int p0), .val (.int (0 : Int32)), .val (.ref a_SMALLINT), .val (.int (1 : Int32)), .unset] [])) _
      refine XS.aloadN X1.here hx rfl (hb hby at_24) rfl rfl ?_
      exact kt
    obtain ⟨cq2, kq2, q2a, q2b, q2c⟩ := isOf hZ eq1 E_SMALLINT
    obtain ⟨_, _, ⟨T2, L2, k2, n2⟩, -, X2, ⟨Lc2, hQ2, l2, y2, z2⟩, st2⟩ := X1.virtualBack hx (y := (⟨"com/example/gate_to_tables/gatetotables/adql/catalog/Datatype", "isNumeric", "()Z"⟩ : MethodName)) (z := (⟨"com/example/gate_to_tables/gatetotables/adql/catalog/Datatype", "isNumeric", "()Z"⟩ : MethodName)) hown (mvT hZ (hw _ (List.mem_of_getElem? (i := 8) rfl))) (mvT hZ (hw _ (List.mem_of_getElem? (i := 9) rfl))) (notFace_of_selects (args := #[]) (mvT hZ (hw _ (List.mem_of_getElem? (i := 11) rfl)))) (mvT hZ (hw _ (List.mem_of_getElem? (i := 11) rfl))) (mvT hZ (hw _ (List.mem_of_getElem? (i := 10) rfl))) (by decide) (backOf (W := 0) (rm2 l Z a0 hw [] a_SMALLINT a_SMALLINT a_INTEGER a_BIGINT a_REAL a_DOUBLE h0 n0 Z0 S_SMALLINT S_INTEGER S_BIGINT S_REAL S_DOUBLE) hZ (hw _ (List.mem_of_getElem? (i := 12) rfl)) (hw _ (List.mem_of_getElem? (i := 6) rfl)) (by decide) (by decide)) q2a q2c (g := (mkF m 25 #[.val (.int p0), .val (.int (0 : Int32)), .val (.ref a_SMALLINT), .val (.int (1 : Int32)), .unset] [(.ref a_SMALLINT)])) rfl (by rw [hml]; rfl) (Steps.refl _) (argsL := []) (rest := []) (lenOf own_pd2 rfl) rfl (by show 2 * 0 + _ ≤ _; exact Nat.le_of_eq rfl) (hb hby at_25) (fun _ _ => ⟨rfl, eq1, (by decide : 0 + 0 ≤ _), (by decide : 0 + 0 ≤ _)⟩)
    dsimp only [Pt.U, Pt.locs, Pt.cells, Pt.slots] at X2 l2 y2 z2 st2 hQ2
    subst l2 y2 z2
    obtain ⟨hv2, hr2⟩ := hQ2
    rw [show own_num a_SMALLINT a_SMALLINT a_INTEGER a_BIGINT a_REAL a_DOUBLE = (1 : Int32) from by unfold own_num; rw [if_pos rfl]] at hv2
    have hQ2 := And.intro hv2 hr2
    obtain ⟨rfl, Nq2, eq2⟩ := hQ2
    have N2 := Fr.app N1 Nq2
    refine own_tr st2 ?_
    show own_Gl _ _ _ _ _ _ _ _ (T2.setTop (mkF m 28 #[.val (.int p0), .val (.int (0 : Int32)), .val (.ref a_SMALLINT), .val (.int (1 : Int32)), .unset] [(.int (1 : Int32))]))
    refine own_st (A' := T2.setTop (mkF m 44 #[.val (.int p0), .val (.int (0 : Int32)), .val (.ref a_SMALLINT), .val (.int (1 : Int32)), .val (.int (1 : Int32))] [(.ref a_SMALLINT)])) (fun tg kt => ?_) ?_
    · show Steps p.tables e below (T2.setTop (mkF m 28 #[.val (.int p0), .val (.int (0 : Int32)), .val (.ref a_SMALLINT), .val (.int (1 : Int32)), .unset] [(.int (1 : Int32))])) _
      refine XS.istore X2.here hx rfl (hb hby at_28) rfl (l' := #[.val (.int p0), .val (.int (0 : Int32)), .val (.ref a_SMALLINT), .val (.int (1 : Int32)), .val (.int (1 : Int32))]) rfl ?_
      show Steps p.tables e below (T2.setTop (mkF m 30 #[.val (.int p0), .val (.int (0 : Int32)), .val (.ref a_SMALLINT), .val (.int (1 : Int32)), .val (.int (1 : Int32))] [])) _
      refine XS.iload X2.here hx rfl (hb hby at_30) rfl ?_
      show Steps p.tables e below (T2.setTop (mkF m 32 #[.val (.int p0), .val (.int (0 : Int32)), .val (.ref a_SMALLINT), .val (.int (1 : Int32)), .val (.int (1 : Int32))] [(.int (1 : Int32))])) _
      refine XS.iloadN X2.here hx rfl (hb hby at_32) rfl ?_
      show Steps p.tables e below (T2.setTop (mkF m 33 #[.val (.int p0), .val (.int (0 : Int32)), .val (.ref a_SMALLINT), .val (.int (1 : Int32)), .val (.int (1 : Int32))] [(.int (1 : Int32)), (.int (1 : Int32))])) _
      refine XS.icmpYes X2.here hx rfl (pc0 := 33) (pc' := 38) rfl (hb hby at_33) rfl (teq ((by decide) : (1 : Int32) = (1 : Int32))).1 (by decide) (by decide) ?_
      show Steps p.tables e below (T2.setTop (mkF m 38 #[.val (.int p0), .val (.int (0 : Int32)), .val (.ref a_SMALLINT), .val (.int (1 : Int32)), .val (.int (1 : Int32))] [])) _
      refine XS.iload X2.here hx rfl (hb hby at_38) rfl ?_
      show Steps p.tables e below (T2.setTop (mkF m 40 #[.val (.int p0), .val (.int (0 : Int32)), .val (.ref a_SMALLINT), .val (.int (1 : Int32)), .val (.int (1 : Int32))] [(.int (1 : Int32))])) _
      refine XS.ifNo X2.here hx rfl (hb hby at_40) rfl ((if0 _ _).trans (feq ((by decide) : ¬ ((1 : Int32) = (0 : Int32)))).1) ?_
      show Steps p.tables e below (T2.setTop (mkF m 43 #[.val (.int p0), .val (.int (0 : Int32)), .val (.ref a_SMALLINT), .val (.int (1 : Int32)), .val (.int (1 : Int32))] [])) _
      refine XS.aloadN X2.here hx rfl (hb hby at_43) rfl rfl ?_
      exact kt
    obtain ⟨cq3, kq3, q3a, q3b, q3c⟩ := isOf hZ eq2 E_SMALLINT
    obtain ⟨_, _, ⟨T3, L3, k3, n3⟩, -, X3, ⟨Lc3, hQ3, l3, y3, z3⟩, st3⟩ := X2.virtualBack hx (y := (⟨"com/example/gate_to_tables/gatetotables/adql/catalog/Datatype", "isOrdered", "()Z"⟩ : MethodName)) (z := (⟨"com/example/gate_to_tables/gatetotables/adql/catalog/Datatype", "isOrdered", "()Z"⟩ : MethodName)) hown (mvT hZ (hw _ (List.mem_of_getElem? (i := 14) rfl))) (mvT hZ (hw _ (List.mem_of_getElem? (i := 15) rfl))) (notFace_of_selects (args := #[]) (mvT hZ (hw _ (List.mem_of_getElem? (i := 17) rfl)))) (mvT hZ (hw _ (List.mem_of_getElem? (i := 17) rfl))) (mvT hZ (hw _ (List.mem_of_getElem? (i := 16) rfl))) (by decide) (backOf (W := 0) (rm3 l Z a0 hw [] a_SMALLINT a_POINT a_CIRCLE a_POLYGON h0 n0 Z0 S_POINT S_CIRCLE S_POLYGON E_SMALLINT) hZ (hw _ (List.mem_of_getElem? (i := 18) rfl)) (hw _ (List.mem_of_getElem? (i := 6) rfl)) (by decide) (by decide)) q3a q3c (g := (mkF m 44 #[.val (.int p0), .val (.int (0 : Int32)), .val (.ref a_SMALLINT), .val (.int (1 : Int32)), .val (.int (1 : Int32))] [(.ref a_SMALLINT)])) rfl (by rw [hml]; rfl) (Steps.refl _) (argsL := []) (rest := []) (lenOf own_pd2 rfl) rfl (by show 2 * 0 + _ ≤ _; exact Nat.le_of_eq rfl) (hb hby at_44) (fun _ _ => ⟨rfl, eq2, (by decide : 0 + 0 ≤ _), (by decide : 0 + 0 ≤ _)⟩)
    dsimp only [Pt.U, Pt.locs, Pt.cells, Pt.slots] at X3 l3 y3 z3 st3 hQ3
    subst l3 y3 z3
    obtain ⟨hv3, hr3⟩ := hQ3
    rw [show own_ord a_SMALLINT a_POINT a_CIRCLE a_POLYGON = (1 : Int32) from by unfold own_ord own_geo; rw [if_neg (Fld.ne F_SMALLINT_ordinal F_POINT_ordinal (by decide)), if_neg (Fld.ne F_SMALLINT_ordinal F_CIRCLE_ordinal (by decide)), if_neg (Fld.ne F_SMALLINT_ordinal F_POLYGON_ordinal (by decide))]; rfl] at hv3
    have hQ3 := And.intro hv3 hr3
    obtain ⟨rfl, Nq3, eq3⟩ := hQ3
    have N3 := Fr.app N2 Nq3
    refine own_tr st3 ?_
    show own_Gl _ _ _ _ _ _ _ _ (T3.setTop (mkF m 47 #[.val (.int p0), .val (.int (0 : Int32)), .val (.ref a_SMALLINT), .val (.int (1 : Int32)), .val (.int (1 : Int32))] [(.int (1 : Int32))]))
    refine own_st (A' := T3.setTop (mkF m 51 #[.val (.int p0), .val (.int (0 : Int32)), .val (.ref a_SMALLINT), .val (.int (1 : Int32)), .val (.int (1 : Int32))] [(.ref a_SMALLINT)])) (fun tg kt => ?_) ?_
    · show Steps p.tables e below (T3.setTop (mkF m 47 #[.val (.int p0), .val (.int (0 : Int32)), .val (.ref a_SMALLINT), .val (.int (1 : Int32)), .val (.int (1 : Int32))] [(.int (1 : Int32))])) _
      refine XS.ifNo X3.here hx rfl (hb hby at_47) rfl ((if0 _ _).trans (feq ((by decide) : ¬ ((1 : Int32) = (0 : Int32)))).1) ?_
      show Steps p.tables e below (T3.setTop (mkF m 50 #[.val (.int p0), .val (.int (0 : Int32)), .val (.ref a_SMALLINT), .val (.int (1 : Int32)), .val (.int (1 : Int32))] [])) _
      refine XS.aloadN X3.here hx rfl (hb hby at_50) rfl rfl ?_
      exact kt
    obtain ⟨cq4, kq4, q4a, q4b, q4c⟩ := isOf hZ eq3 E_SMALLINT
    obtain ⟨_, _, ⟨T4, L4, k4, n4⟩, -, X4, ⟨Lc4, hQ4, l4, y4, z4⟩, st4⟩ := X3.virtualBack hx (y := (⟨"com/example/gate_to_tables/gatetotables/adql/catalog/Datatype", "isGeometry", "()Z"⟩ : MethodName)) (z := (⟨"com/example/gate_to_tables/gatetotables/adql/catalog/Datatype", "isGeometry", "()Z"⟩ : MethodName)) hown (mvT hZ (hw _ (List.mem_of_getElem? (i := 30) rfl))) (mvT hZ (hw _ (List.mem_of_getElem? (i := 20) rfl))) (notFace_of_selects (args := #[]) (mvT hZ (hw _ (List.mem_of_getElem? (i := 22) rfl)))) (mvT hZ (hw _ (List.mem_of_getElem? (i := 22) rfl))) (mvT hZ (hw _ (List.mem_of_getElem? (i := 21) rfl))) (by decide) (backOf (W := 0) (rm4 l Z a0 hw [] a_SMALLINT a_POINT a_CIRCLE a_POLYGON h0 n0 Z0 S_POINT S_CIRCLE S_POLYGON) hZ (hw _ (List.mem_of_getElem? (i := 23) rfl)) (hw _ (List.mem_of_getElem? (i := 6) rfl)) (by decide) (by decide)) q4a q4c (g := (mkF m 51 #[.val (.int p0), .val (.int (0 : Int32)), .val (.ref a_SMALLINT), .val (.int (1 : Int32)), .val (.int (1 : Int32))] [(.ref a_SMALLINT)])) rfl (by rw [hml]; rfl) (Steps.refl _) (argsL := []) (rest := []) (lenOf own_pd2 rfl) rfl (by show 2 * 0 + _ ≤ _; exact Nat.le_of_eq rfl) (hb hby at_51) (fun _ _ => ⟨rfl, eq3, (by decide : 0 + 0 ≤ _), (by decide : 0 + 0 ≤ _)⟩)
    dsimp only [Pt.U, Pt.locs, Pt.cells, Pt.slots] at X4 l4 y4 z4 st4 hQ4
    subst l4 y4 z4
    obtain ⟨hv4, hr4⟩ := hQ4
    rw [show own_geo a_SMALLINT a_POINT a_CIRCLE a_POLYGON = (0 : Int32) from by unfold own_geo; rw [if_neg (Fld.ne F_SMALLINT_ordinal F_POINT_ordinal (by decide)), if_neg (Fld.ne F_SMALLINT_ordinal F_CIRCLE_ordinal (by decide)), if_neg (Fld.ne F_SMALLINT_ordinal F_POLYGON_ordinal (by decide))]] at hv4
    have hQ4 := And.intro hv4 hr4
    obtain ⟨rfl, Nq4, eq4⟩ := hQ4
    have N4 := Fr.app N3 Nq4
    refine own_tr st4 ?_
    show own_Gl _ _ _ _ _ _ _ _ (T4.setTop (mkF m 54 #[.val (.int p0), .val (.int (0 : Int32)), .val (.ref a_SMALLINT), .val (.int (1 : Int32)), .val (.int (1 : Int32))] [(.int (0 : Int32))]))
    refine own_st (A' := T4.setTop (mkF m 62 #[.val (.int p0), .val (.int (0 : Int32)), .val (.ref a_SMALLINT), .val (.int (1 : Int32)), .val (.int (1 : Int32))] [(.int (1 : Int32))])) (fun tg kt => ?_) ?_
    · show Steps p.tables e below (T4.setTop (mkF m 54 #[.val (.int p0), .val (.int (0 : Int32)), .val (.ref a_SMALLINT), .val (.int (1 : Int32)), .val (.int (1 : Int32))] [(.int (0 : Int32))])) _
      refine XS.ifNo X4.here hx rfl (hb hby at_54) rfl ((if0 _ _).trans (teq ((by decide) : (0 : Int32) = (0 : Int32))).2) ?_
      show Steps p.tables e below (T4.setTop (mkF m 57 #[.val (.int p0), .val (.int (0 : Int32)), .val (.ref a_SMALLINT), .val (.int (1 : Int32)), .val (.int (1 : Int32))] [])) _
      refine XS.iconst X4.here hx rfl (hb hby at_57) ?_
      show Steps p.tables e below (T4.setTop (mkF m 58 #[.val (.int p0), .val (.int (0 : Int32)), .val (.ref a_SMALLINT), .val (.int (1 : Int32)), .val (.int (1 : Int32))] [(.int (1 : Int32))])) _
      refine XS.goto X4.here hx rfl (pc0 := 58) (pc' := 62) rfl (hb hby at_58) (by decide) (by decide) ?_
      exact kt
    refine own_ret X4 (v := some (.int (1 : Int32))) (fun h => by rw [Bd.returns] at h; cases h) hlk (by decide) (by decide) ?_ (fun fs hr => ?_)
    · show Q0 Z p0 a_SMALLINT a_INTEGER a_BIGINT a_REAL a_DOUBLE a_VARCHAR a_BOOLEAN a_TIMESTAMP a_POINT a_CIRCLE a_POLYGON h0 n0 (some (.int (1 : Int32))) T4.heap _
      rw [eq4]
      exact ⟨rfl, N4⟩
    · show Steps p.tables e below (T4.setTop (mkF m 62 #[.val (.int p0), .val (.int (0 : Int32)), .val (.ref a_SMALLINT), .val (.int (1 : Int32)), .val (.int (1 : Int32))] [(.int (1 : Int32))])) _
      exact retN X4 hx (t := .boolean) Bd.returns (by simp) (hb hby at_62) hr
  · show own_Gl _ _ _ _ _ _ _ _ (s₁.setTop (mkF m 7 #[.val (.int p0), .unset, .unset, .unset, .unset] [(.int (1 : Int32))]))
    refine own_st (A' := s₁.setTop (mkF m 9 #[.val (.int p0), .val (.int (1 : Int32)), .unset, .unset, .unset] [(.int (1 : Int32))])) (fun tg kt => ?_) ?_
    · show Steps p.tables e below (s₁.setTop (mkF m 7 #[.val (.int p0), .unset, .unset, .unset, .unset] [(.int (1 : Int32))])) _
      refine XS.istoreN X0.here hx rfl (hb hby at_7) rfl (l' := #[.val (.int p0), .val (.int (1 : Int32)), .unset, .unset, .unset]) rfl ?_
      show Steps p.tables e below (s₁.setTop (mkF m 8 #[.val (.int p0), .val (.int (1 : Int32)), .unset, .unset, .unset] [])) _
      refine XS.iloadN X0.here hx rfl (hb hby at_8) rfl ?_
      exact kt
    obtain ⟨_, _, ⟨T5, L5, k5, n5⟩, -, X5, ⟨Lc5, hQ5, l5, y5, z5⟩, st5⟩ := Jvm.LawKit.callS X0 hx (y := (⟨"com/example/gate_to_tables/gatetotables/adql/catalog/DatatypeIsNumericPinLaw", "pick", "(I)Lcom/example/gate_to_tables/gatetotables/adql/catalog/Datatype;"⟩ : MethodName)) hown (mvT hZ (hw _ (List.mem_of_getElem? (i := 1) rfl))) (mvT hZ (hw _ (List.mem_of_getElem? (i := 2) rfl))) (mvT hZ (hw _ (List.mem_of_getElem? (i := 3) rfl))) (mvT hZ (hw _ (List.mem_of_getElem? (i := 4) rfl))) (by decide) (backOf (W := 0) (rm1 l Z a0 hw [] (1 : Int32) a_SMALLINT a_INTEGER a_BIGINT a_REAL a_DOUBLE a_VARCHAR a_BOOLEAN a_TIMESTAMP a_POINT a_CIRCLE a_POLYGON h0 n0 Z0 S_SMALLINT S_INTEGER S_BIGINT S_REAL S_DOUBLE S_VARCHAR S_BOOLEAN S_TIMESTAMP S_POINT S_CIRCLE S_POLYGON) hZ (hw _ (List.mem_of_getElem? (i := 4) rfl)) (hw _ (List.mem_of_getElem? (i := 3) rfl)) (by decide) (by decide)) (g := (mkF m 9 #[.val (.int p0), .val (.int (1 : Int32)), .unset, .unset, .unset] [(.int (1 : Int32))])) rfl (by rw [hml]; rfl) (argsL := [(.int (1 : Int32))]) (rest := []) (lenOf own_pd3 rfl) rfl (by show 2 * 0 + _ ≤ _; exact Nat.le_of_eq rfl) (hb hby at_9) (fun _ _ => ⟨rfl, e0, (by decide : 0 + 0 ≤ _), (by decide : 0 + 0 ≤ _)⟩)
    dsimp only [Pt.U, Pt.locs, Pt.cells, Pt.slots] at X5 l5 y5 z5 st5 hQ5
    subst l5 y5 z5
    obtain ⟨hv5, hr5⟩ := hQ5
    rw [show own_pick1 (1 : Int32) a_SMALLINT a_INTEGER a_BIGINT a_REAL a_DOUBLE a_VARCHAR a_BOOLEAN a_TIMESTAMP a_POINT a_CIRCLE a_POLYGON = a_INTEGER from rfl] at hv5
    have hQ5 := And.intro hv5 hr5
    obtain ⟨rfl, Nq5, eq5⟩ := hQ5
    have N5 := Fr.app N0 Nq5
    refine own_st st5 ?_
    show own_Gl _ _ _ _ _ _ _ _ (T5.setTop (mkF m 12 #[.val (.int p0), .val (.int (1 : Int32)), .unset, .unset, .unset] [(.ref a_INTEGER)]))
    refine own_st (A' := T5.setTop (mkF m 25 #[.val (.int p0), .val (.int (1 : Int32)), .val (.ref a_INTEGER), .val (.int (1 : Int32)), .unset] [(.ref a_INTEGER)])) (fun tg kt => ?_) ?_
    · show Steps p.tables e below (T5.setTop (mkF m 12 #[.val (.int p0), .val (.int (1 : Int32)), .unset, .unset, .unset] [(.ref a_INTEGER)])) _
      refine XS.astoreN X5.here hx rfl (hb hby at_12) rfl rfl (l' := #[.val (.int p0), .val (.int (1 : Int32)), .val (.ref a_INTEGER), .unset, .unset]) rfl ?_
      show Steps p.tables e below (T5.setTop (mkF m 13 #[.val (.int p0), .val (.int (1 : Int32)), .val (.ref a_INTEGER), .unset, .unset] [])) _
      refine XS.iloadN X5.here hx rfl (hb hby at_13) rfl ?_
      show Steps p.tables e below (T5.setTop (mkF m 14 #[.val (.int p0), .val (.int (1 : Int32)), .val (.ref a_INTEGER), .unset, .unset] [(.int (1 : Int32))])) _
      refine XS.iconst X5.here hx rfl (hb hby at_14) ?_
      show Steps p.tables e below (T5.setTop (mkF m 15 #[.val (.int p0), .val (.int (1 : Int32)), .val (.ref a_INTEGER), .unset, .unset] [(.int (4 : Int32)), (.int (1 : Int32))])) _
      refine XS.icmpNo X5.here hx rfl (hb hby at_15) rfl (flt ((by decide) : ¬ ((4 : Int32) < (1 : Int32)))).2.2.1 ?_
      show Steps p.tables e below (T5.setTop (mkF m 18 #[.val (.int p0), .val (.int (1 : Int32)), .val (.ref a_INTEGER), .unset, .unset] [])) _
      refine XS.iconst X5.here hx rfl (hb hby at_18) ?_
      show Steps p.tables e below (T5.setTop (mkF m 19 #[.val (.int p0), .val (.int (1 : Int32)), .val (.ref a_INTEGER), .unset, .unset] [(.int (1 : Int32))])) _
      refine XS.goto X5.here hx rfl (pc0 := 19) (pc' := 23) rfl (hb hby at_19) (by decide) (by decide) ?_
      show Steps p.tables e below (T5.setTop (mkF m 23 #[.val (.int p0), .val (.int (1 : Int32)), .val (.ref a_INTEGER), .unset, .unset] [(.int (1 : Int32))])) _
      refine XS.istoreN X5.here hx rfl (hb hby at_23) rfl (l' := #[.val (.int p0), .val (.int (1 : Int32)), .val (.ref a_INTEGER), .val (.int (1 : Int32)), .unset]) rfl ?_
      show Steps p.tables e below (T5.setTop (mkF m 24 #[.val (.int p0), .val (.int (1 : Int32)), .val (.ref a_INTEGER), .val (.int (1 : Int32)), .unset] [])) _
      refine XS.aloadN X5.here hx rfl (hb hby at_24) rfl rfl ?_
      exact kt
    obtain ⟨cq6, kq6, q6a, q6b, q6c⟩ := isOf hZ eq5 E_INTEGER
    obtain ⟨_, _, ⟨T6, L6, k6, n6⟩, -, X6, ⟨Lc6, hQ6, l6, y6, z6⟩, st6⟩ := X5.virtualBack hx (y := (⟨"com/example/gate_to_tables/gatetotables/adql/catalog/Datatype", "isNumeric", "()Z"⟩ : MethodName)) (z := (⟨"com/example/gate_to_tables/gatetotables/adql/catalog/Datatype", "isNumeric", "()Z"⟩ : MethodName)) hown (mvT hZ (hw _ (List.mem_of_getElem? (i := 8) rfl))) (mvT hZ (hw _ (List.mem_of_getElem? (i := 9) rfl))) (notFace_of_selects (args := #[]) (mvT hZ (hw _ (List.mem_of_getElem? (i := 11) rfl)))) (mvT hZ (hw _ (List.mem_of_getElem? (i := 11) rfl))) (mvT hZ (hw _ (List.mem_of_getElem? (i := 10) rfl))) (by decide) (backOf (W := 0) (rm2 l Z a0 hw [] a_INTEGER a_SMALLINT a_INTEGER a_BIGINT a_REAL a_DOUBLE h0 n0 Z0 S_SMALLINT S_INTEGER S_BIGINT S_REAL S_DOUBLE) hZ (hw _ (List.mem_of_getElem? (i := 12) rfl)) (hw _ (List.mem_of_getElem? (i := 6) rfl)) (by decide) (by decide)) q6a q6c (g := (mkF m 25 #[.val (.int p0), .val (.int (1 : Int32)), .val (.ref a_INTEGER), .val (.int (1 : Int32)), .unset] [(.ref a_INTEGER)])) rfl (by rw [hml]; rfl) (Steps.refl _) (argsL := []) (rest := []) (lenOf own_pd2 rfl) rfl (by show 2 * 0 + _ ≤ _; exact Nat.le_of_eq rfl) (hb hby at_25) (fun _ _ => ⟨rfl, eq5, (by decide : 0 + 0 ≤ _), (by decide : 0 + 0 ≤ _)⟩)
    dsimp only [Pt.U, Pt.locs, Pt.cells, Pt.slots] at X6 l6 y6 z6 st6 hQ6
    subst l6 y6 z6
    obtain ⟨hv6, hr6⟩ := hQ6
    rw [show own_num a_INTEGER a_SMALLINT a_INTEGER a_BIGINT a_REAL a_DOUBLE = (1 : Int32) from by unfold own_num; rw [if_neg (Fld.ne F_INTEGER_ordinal F_SMALLINT_ordinal (by decide)), if_pos rfl]] at hv6
    have hQ6 := And.intro hv6 hr6
    obtain ⟨rfl, Nq6, eq6⟩ := hQ6
    have N6 := Fr.app N5 Nq6
    refine own_tr st6 ?_
    show own_Gl _ _ _ _ _ _ _ _ (T6.setTop (mkF m 28 #[.val (.int p0), .val (.int (1 : Int32)), .val (.ref a_INTEGER), .val (.int (1 : Int32)), .unset] [(.int (1 : Int32))]))
    refine own_st (A' := T6.setTop (mkF m 44 #[.val (.int p0), .val (.int (1 : Int32)), .val (.ref a_INTEGER), .val (.int (1 : Int32)), .val (.int (1 : Int32))] [(.ref a_INTEGER)])) (fun tg kt => ?_) ?_
    · show Steps p.tables e below (T6.setTop (mkF m 28 #[.val (.int p0), .val (.int (1 : Int32)), .val (.ref a_INTEGER), .val (.int (1 : Int32)), .unset] [(.int (1 : Int32))])) _
      refine XS.istore X6.here hx rfl (hb hby at_28) rfl (l' := #[.val (.int p0), .val (.int (1 : Int32)), .val (.ref a_INTEGER), .val (.int (1 : Int32)), .val (.int (1 : Int32))]) rfl ?_
      show Steps p.tables e below (T6.setTop (mkF m 30 #[.val (.int p0), .val (.int (1 : Int32)), .val (.ref a_INTEGER), .val (.int (1 : Int32)), .val (.int (1 : Int32))] [])) _
      refine XS.iload X6.here hx rfl (hb hby at_30) rfl ?_
      show Steps p.tables e below (T6.setTop (mkF m 32 #[.val (.int p0), .val (.int (1 : Int32)), .val (.ref a_INTEGER), .val (.int (1 : Int32)), .val (.int (1 : Int32))] [(.int (1 : Int32))])) _
      refine XS.iloadN X6.here hx rfl (hb hby at_32) rfl ?_
      show Steps p.tables e below (T6.setTop (mkF m 33 #[.val (.int p0), .val (.int (1 : Int32)), .val (.ref a_INTEGER), .val (.int (1 : Int32)), .val (.int (1 : Int32))] [(.int (1 : Int32)), (.int (1 : Int32))])) _
      refine XS.icmpYes X6.here hx rfl (pc0 := 33) (pc' := 38) rfl (hb hby at_33) rfl (teq ((by decide) : (1 : Int32) = (1 : Int32))).1 (by decide) (by decide) ?_
      show Steps p.tables e below (T6.setTop (mkF m 38 #[.val (.int p0), .val (.int (1 : Int32)), .val (.ref a_INTEGER), .val (.int (1 : Int32)), .val (.int (1 : Int32))] [])) _
      refine XS.iload X6.here hx rfl (hb hby at_38) rfl ?_
      show Steps p.tables e below (T6.setTop (mkF m 40 #[.val (.int p0), .val (.int (1 : Int32)), .val (.ref a_INTEGER), .val (.int (1 : Int32)), .val (.int (1 : Int32))] [(.int (1 : Int32))])) _
      refine XS.ifNo X6.here hx rfl (hb hby at_40) rfl ((if0 _ _).trans (feq ((by decide) : ¬ ((1 : Int32) = (0 : Int32)))).1) ?_
      show Steps p.tables e below (T6.setTop (mkF m 43 #[.val (.int p0), .val (.int (1 : Int32)), .val (.ref a_INTEGER), .val (.int (1 : Int32)), .val (.int (1 : Int32))] [])) _
      refine XS.aloadN X6.here hx rfl (hb hby at_43) rfl rfl ?_
      exact kt
    obtain ⟨cq7, kq7, q7a, q7b, q7c⟩ := isOf hZ eq6 E_INTEGER
    obtain ⟨_, _, ⟨T7, L7, k7, n7⟩, -, X7, ⟨Lc7, hQ7, l7, y7, z7⟩, st7⟩ := X6.virtualBack hx (y := (⟨"com/example/gate_to_tables/gatetotables/adql/catalog/Datatype", "isOrdered", "()Z"⟩ : MethodName)) (z := (⟨"com/example/gate_to_tables/gatetotables/adql/catalog/Datatype", "isOrdered", "()Z"⟩ : MethodName)) hown (mvT hZ (hw _ (List.mem_of_getElem? (i := 14) rfl))) (mvT hZ (hw _ (List.mem_of_getElem? (i := 15) rfl))) (notFace_of_selects (args := #[]) (mvT hZ (hw _ (List.mem_of_getElem? (i := 17) rfl)))) (mvT hZ (hw _ (List.mem_of_getElem? (i := 17) rfl))) (mvT hZ (hw _ (List.mem_of_getElem? (i := 16) rfl))) (by decide) (backOf (W := 0) (rm3 l Z a0 hw [] a_INTEGER a_POINT a_CIRCLE a_POLYGON h0 n0 Z0 S_POINT S_CIRCLE S_POLYGON E_INTEGER) hZ (hw _ (List.mem_of_getElem? (i := 18) rfl)) (hw _ (List.mem_of_getElem? (i := 6) rfl)) (by decide) (by decide)) q7a q7c (g := (mkF m 44 #[.val (.int p0), .val (.int (1 : Int32)), .val (.ref a_INTEGER), .val (.int (1 : Int32)), .val (.int (1 : Int32))] [(.ref a_INTEGER)])) rfl (by rw [hml]; rfl) (Steps.refl _) (argsL := []) (rest := []) (lenOf own_pd2 rfl) rfl (by show 2 * 0 + _ ≤ _; exact Nat.le_of_eq rfl) (hb hby at_44) (fun _ _ => ⟨rfl, eq6, (by decide : 0 + 0 ≤ _), (by decide : 0 + 0 ≤ _)⟩)
    dsimp only [Pt.U, Pt.locs, Pt.cells, Pt.slots] at X7 l7 y7 z7 st7 hQ7
    subst l7 y7 z7
    obtain ⟨hv7, hr7⟩ := hQ7
    rw [show own_ord a_INTEGER a_POINT a_CIRCLE a_POLYGON = (1 : Int32) from by unfold own_ord own_geo; rw [if_neg (Fld.ne F_INTEGER_ordinal F_POINT_ordinal (by decide)), if_neg (Fld.ne F_INTEGER_ordinal F_CIRCLE_ordinal (by decide)), if_neg (Fld.ne F_INTEGER_ordinal F_POLYGON_ordinal (by decide))]; rfl] at hv7
    have hQ7 := And.intro hv7 hr7
    obtain ⟨rfl, Nq7, eq7⟩ := hQ7
    have N7 := Fr.app N6 Nq7
    refine own_tr st7 ?_
    show own_Gl _ _ _ _ _ _ _ _ (T7.setTop (mkF m 47 #[.val (.int p0), .val (.int (1 : Int32)), .val (.ref a_INTEGER), .val (.int (1 : Int32)), .val (.int (1 : Int32))] [(.int (1 : Int32))]))
    refine own_st (A' := T7.setTop (mkF m 51 #[.val (.int p0), .val (.int (1 : Int32)), .val (.ref a_INTEGER), .val (.int (1 : Int32)), .val (.int (1 : Int32))] [(.ref a_INTEGER)])) (fun tg kt => ?_) ?_
    · show Steps p.tables e below (T7.setTop (mkF m 47 #[.val (.int p0), .val (.int (1 : Int32)), .val (.ref a_INTEGER), .val (.int (1 : Int32)), .val (.int (1 : Int32))] [(.int (1 : Int32))])) _
      refine XS.ifNo X7.here hx rfl (hb hby at_47) rfl ((if0 _ _).trans (feq ((by decide) : ¬ ((1 : Int32) = (0 : Int32)))).1) ?_
      show Steps p.tables e below (T7.setTop (mkF m 50 #[.val (.int p0), .val (.int (1 : Int32)), .val (.ref a_INTEGER), .val (.int (1 : Int32)), .val (.int (1 : Int32))] [])) _
      refine XS.aloadN X7.here hx rfl (hb hby at_50) rfl rfl ?_
      exact kt
    obtain ⟨cq8, kq8, q8a, q8b, q8c⟩ := isOf hZ eq7 E_INTEGER
    obtain ⟨_, _, ⟨T8, L8, k8, n8⟩, -, X8, ⟨Lc8, hQ8, l8, y8, z8⟩, st8⟩ := X7.virtualBack hx (y := (⟨"com/example/gate_to_tables/gatetotables/adql/catalog/Datatype", "isGeometry", "()Z"⟩ : MethodName)) (z := (⟨"com/example/gate_to_tables/gatetotables/adql/catalog/Datatype", "isGeometry", "()Z"⟩ : MethodName)) hown (mvT hZ (hw _ (List.mem_of_getElem? (i := 30) rfl))) (mvT hZ (hw _ (List.mem_of_getElem? (i := 20) rfl))) (notFace_of_selects (args := #[]) (mvT hZ (hw _ (List.mem_of_getElem? (i := 22) rfl)))) (mvT hZ (hw _ (List.mem_of_getElem? (i := 22) rfl))) (mvT hZ (hw _ (List.mem_of_getElem? (i := 21) rfl))) (by decide) (backOf (W := 0) (rm4 l Z a0 hw [] a_INTEGER a_POINT a_CIRCLE a_POLYGON h0 n0 Z0 S_POINT S_CIRCLE S_POLYGON) hZ (hw _ (List.mem_of_getElem? (i := 23) rfl)) (hw _ (List.mem_of_getElem? (i := 6) rfl)) (by decide) (by decide)) q8a q8c (g := (mkF m 51 #[.val (.int p0), .val (.int (1 : Int32)), .val (.ref a_INTEGER), .val (.int (1 : Int32)), .val (.int (1 : Int32))] [(.ref a_INTEGER)])) rfl (by rw [hml]; rfl) (Steps.refl _) (argsL := []) (rest := []) (lenOf own_pd2 rfl) rfl (by show 2 * 0 + _ ≤ _; exact Nat.le_of_eq rfl) (hb hby at_51) (fun _ _ => ⟨rfl, eq7, (by decide : 0 + 0 ≤ _), (by decide : 0 + 0 ≤ _)⟩)
    dsimp only [Pt.U, Pt.locs, Pt.cells, Pt.slots] at X8 l8 y8 z8 st8 hQ8
    subst l8 y8 z8
    obtain ⟨hv8, hr8⟩ := hQ8
    rw [show own_geo a_INTEGER a_POINT a_CIRCLE a_POLYGON = (0 : Int32) from by unfold own_geo; rw [if_neg (Fld.ne F_INTEGER_ordinal F_POINT_ordinal (by decide)), if_neg (Fld.ne F_INTEGER_ordinal F_CIRCLE_ordinal (by decide)), if_neg (Fld.ne F_INTEGER_ordinal F_POLYGON_ordinal (by decide))]] at hv8
    have hQ8 := And.intro hv8 hr8
    obtain ⟨rfl, Nq8, eq8⟩ := hQ8
    have N8 := Fr.app N7 Nq8
    refine own_tr st8 ?_
    show own_Gl _ _ _ _ _ _ _ _ (T8.setTop (mkF m 54 #[.val (.int p0), .val (.int (1 : Int32)), .val (.ref a_INTEGER), .val (.int (1 : Int32)), .val (.int (1 : Int32))] [(.int (0 : Int32))]))
    refine own_st (A' := T8.setTop (mkF m 62 #[.val (.int p0), .val (.int (1 : Int32)), .val (.ref a_INTEGER), .val (.int (1 : Int32)), .val (.int (1 : Int32))] [(.int (1 : Int32))])) (fun tg kt => ?_) ?_
    · show Steps p.tables e below (T8.setTop (mkF m 54 #[.val (.int p0), .val (.int (1 : Int32)), .val (.ref a_INTEGER), .val (.int (1 : Int32)), .val (.int (1 : Int32))] [(.int (0 : Int32))])) _
      refine XS.ifNo X8.here hx rfl (hb hby at_54) rfl ((if0 _ _).trans (teq ((by decide) : (0 : Int32) = (0 : Int32))).2) ?_
      show Steps p.tables e below (T8.setTop (mkF m 57 #[.val (.int p0), .val (.int (1 : Int32)), .val (.ref a_INTEGER), .val (.int (1 : Int32)), .val (.int (1 : Int32))] [])) _
      refine XS.iconst X8.here hx rfl (hb hby at_57) ?_
      show Steps p.tables e below (T8.setTop (mkF m 58 #[.val (.int p0), .val (.int (1 : Int32)), .val (.ref a_INTEGER), .val (.int (1 : Int32)), .val (.int (1 : Int32))] [(.int (1 : Int32))])) _
      refine XS.goto X8.here hx rfl (pc0 := 58) (pc' := 62) rfl (hb hby at_58) (by decide) (by decide) ?_
      exact kt
    refine own_ret X8 (v := some (.int (1 : Int32))) (fun h => by rw [Bd.returns] at h; cases h) hlk (by decide) (by decide) ?_ (fun fs hr => ?_)
    · show Q0 Z p0 a_SMALLINT a_INTEGER a_BIGINT a_REAL a_DOUBLE a_VARCHAR a_BOOLEAN a_TIMESTAMP a_POINT a_CIRCLE a_POLYGON h0 n0 (some (.int (1 : Int32))) T8.heap _
      rw [eq8]
      exact ⟨rfl, N8⟩
    · show Steps p.tables e below (T8.setTop (mkF m 62 #[.val (.int p0), .val (.int (1 : Int32)), .val (.ref a_INTEGER), .val (.int (1 : Int32)), .val (.int (1 : Int32))] [(.int (1 : Int32))])) _
      exact retN X8 hx (t := .boolean) Bd.returns (by simp) (hb hby at_62) hr
  · show own_Gl _ _ _ _ _ _ _ _ (s₁.setTop (mkF m 7 #[.val (.int p0), .unset, .unset, .unset, .unset] [(.int (2 : Int32))]))
    refine own_st (A' := s₁.setTop (mkF m 9 #[.val (.int p0), .val (.int (2 : Int32)), .unset, .unset, .unset] [(.int (2 : Int32))])) (fun tg kt => ?_) ?_
    · show Steps p.tables e below (s₁.setTop (mkF m 7 #[.val (.int p0), .unset, .unset, .unset, .unset] [(.int (2 : Int32))])) _
      refine XS.istoreN X0.here hx rfl (hb hby at_7) rfl (l' := #[.val (.int p0), .val (.int (2 : Int32)), .unset, .unset, .unset]) rfl ?_
      show Steps p.tables e below (s₁.setTop (mkF m 8 #[.val (.int p0), .val (.int (2 : Int32)), .unset, .unset, .unset] [])) _
      refine XS.iloadN X0.here hx rfl (hb hby at_8) rfl ?_
      exact kt
    obtain ⟨_, _, ⟨T9, L9, k9, n9⟩, -, X9, ⟨Lc9, hQ9, l9, y9, z9⟩, st9⟩ := Jvm.LawKit.callS X0 hx (y := (⟨"com/example/gate_to_tables/gatetotables/adql/catalog/DatatypeIsNumericPinLaw", "pick", "(I)Lcom/example/gate_to_tables/gatetotables/adql/catalog/Datatype;"⟩ : MethodName)) hown (mvT hZ (hw _ (List.mem_of_getElem? (i := 1) rfl))) (mvT hZ (hw _ (List.mem_of_getElem? (i := 2) rfl))) (mvT hZ (hw _ (List.mem_of_getElem? (i := 3) rfl))) (mvT hZ (hw _ (List.mem_of_getElem? (i := 4) rfl))) (by decide) (backOf (W := 0) (rm1 l Z a0 hw [] (2 : Int32) a_SMALLINT a_INTEGER a_BIGINT a_REAL a_DOUBLE a_VARCHAR a_BOOLEAN a_TIMESTAMP a_POINT a_CIRCLE a_POLYGON h0 n0 Z0 S_SMALLINT S_INTEGER S_BIGINT S_REAL S_DOUBLE S_VARCHAR S_BOOLEAN S_TIMESTAMP S_POINT S_CIRCLE S_POLYGON) hZ (hw _ (List.mem_of_getElem? (i := 4) rfl)) (hw _ (List.mem_of_getElem? (i := 3) rfl)) (by decide) (by decide)) (g := (mkF m 9 #[.val (.int p0), .val (.int (2 : Int32)), .unset, .unset, .unset] [(.int (2 : Int32))])) rfl (by rw [hml]; rfl) (argsL := [(.int (2 : Int32))]) (rest := []) (lenOf own_pd3 rfl) rfl (by show 2 * 0 + _ ≤ _; exact Nat.le_of_eq rfl) (hb hby at_9) (fun _ _ => ⟨rfl, e0, (by decide : 0 + 0 ≤ _), (by decide : 0 + 0 ≤ _)⟩)
    dsimp only [Pt.U, Pt.locs, Pt.cells, Pt.slots] at X9 l9 y9 z9 st9 hQ9
    subst l9 y9 z9
    obtain ⟨hv9, hr9⟩ := hQ9
    rw [show own_pick1 (2 : Int32) a_SMALLINT a_INTEGER a_BIGINT a_REAL a_DOUBLE a_VARCHAR a_BOOLEAN a_TIMESTAMP a_POINT a_CIRCLE a_POLYGON = a_BIGINT from rfl] at hv9
    have hQ9 := And.intro hv9 hr9
    obtain ⟨rfl, Nq9, eq9⟩ := hQ9
    have N9 := Fr.app N0 Nq9
    refine own_st st9 ?_
    show own_Gl _ _ _ _ _ _ _ _ (T9.setTop (mkF m 12 #[.val (.int p0), .val (.int (2 : Int32)), .unset, .unset, .unset] [(.ref a_BIGINT)]))
    refine own_st (A' := T9.setTop (mkF m 25 #[.val (.int p0), .val (.int (2 : Int32)), .val (.ref a_BIGINT), .val (.int (1 : Int32)), .unset] [(.ref a_BIGINT)])) (fun tg kt => ?_) ?_
    · show Steps p.tables e below (T9.setTop (mkF m 12 #[.val (.int p0), .val (.int (2 : Int32)), .unset, .unset, .unset] [(.ref a_BIGINT)])) _
      refine XS.astoreN X9.here hx rfl (hb hby at_12) rfl rfl (l' := #[.val (.int p0), .val (.int (2 : Int32)), .val (.ref a_BIGINT), .unset, .unset]) rfl ?_
      show Steps p.tables e below (T9.setTop (mkF m 13 #[.val (.int p0), .val (.int (2 : Int32)), .val (.ref a_BIGINT), .unset, .unset] [])) _
      refine XS.iloadN X9.here hx rfl (hb hby at_13) rfl ?_
      show Steps p.tables e below (T9.setTop (mkF m 14 #[.val (.int p0), .val (.int (2 : Int32)), .val (.ref a_BIGINT), .unset, .unset] [(.int (2 : Int32))])) _
      refine XS.iconst X9.here hx rfl (hb hby at_14) ?_
      show Steps p.tables e below (T9.setTop (mkF m 15 #[.val (.int p0), .val (.int (2 : Int32)), .val (.ref a_BIGINT), .unset, .unset] [(.int (4 : Int32)), (.int (2 : Int32))])) _
      refine XS.icmpNo X9.here hx rfl (hb hby at_15) rfl (flt ((by decide) : ¬ ((4 : Int32) < (2 : Int32)))).2.2.1 ?_
      show Steps p.tables e below (T9.setTop (mkF m 18 #[.val (.int p0), .val (.int (2 : Int32)), .val (.ref a_BIGINT), .unset, .unset] [])) _
      refine XS.iconst X9.here hx rfl (hb hby at_18) ?_
      show Steps p.tables e below (T9.setTop (mkF m 19 #[.val (.int p0), .val (.int (2 : Int32)), .val (.ref a_BIGINT), .unset, .unset] [(.int (1 : Int32))])) _
      refine XS.goto X9.here hx rfl (pc0 := 19) (pc' := 23) rfl (hb hby at_19) (by decide) (by decide) ?_
      show Steps p.tables e below (T9.setTop (mkF m 23 #[.val (.int p0), .val (.int (2 : Int32)), .val (.ref a_BIGINT), .unset, .unset] [(.int (1 : Int32))])) _
      refine XS.istoreN X9.here hx rfl (hb hby at_23) rfl (l' := #[.val (.int p0), .val (.int (2 : Int32)), .val (.ref a_BIGINT), .val (.int (1 : Int32)), .unset]) rfl ?_
      show Steps p.tables e below (T9.setTop (mkF m 24 #[.val (.int p0), .val (.int (2 : Int32)), .val (.ref a_BIGINT), .val (.int (1 : Int32)), .unset] [])) _
      refine XS.aloadN X9.here hx rfl (hb hby at_24) rfl rfl ?_
      exact kt
    obtain ⟨cq10, kq10, q10a, q10b, q10c⟩ := isOf hZ eq9 E_BIGINT
    obtain ⟨_, _, ⟨T10, L10, k10, n10⟩, -, X10, ⟨Lc10, hQ10, l10, y10, z10⟩, st10⟩ := X9.virtualBack hx (y := (⟨"com/example/gate_to_tables/gatetotables/adql/catalog/Datatype", "isNumeric", "()Z"⟩ : MethodName)) (z := (⟨"com/example/gate_to_tables/gatetotables/adql/catalog/Datatype", "isNumeric", "()Z"⟩ : MethodName)) hown (mvT hZ (hw _ (List.mem_of_getElem? (i := 8) rfl))) (mvT hZ (hw _ (List.mem_of_getElem? (i := 9) rfl))) (notFace_of_selects (args := #[]) (mvT hZ (hw _ (List.mem_of_getElem? (i := 11) rfl)))) (mvT hZ (hw _ (List.mem_of_getElem? (i := 11) rfl))) (mvT hZ (hw _ (List.mem_of_getElem? (i := 10) rfl))) (by decide) (backOf (W := 0) (rm2 l Z a0 hw [] a_BIGINT a_SMALLINT a_INTEGER a_BIGINT a_REAL a_DOUBLE h0 n0 Z0 S_SMALLINT S_INTEGER S_BIGINT S_REAL S_DOUBLE) hZ (hw _ (List.mem_of_getElem? (i := 12) rfl)) (hw _ (List.mem_of_getElem? (i := 6) rfl)) (by decide) (by decide)) q10a q10c (g := (mkF m 25 #[.val (.int p0), .val (.int (2 : Int32)), .val (.ref a_BIGINT), .val (.int (1 : Int32)), .unset] [(.ref a_BIGINT)])) rfl (by rw [hml]; rfl) (Steps.refl _) (argsL := []) (rest := []) (lenOf own_pd2 rfl) rfl (by show 2 * 0 + _ ≤ _; exact Nat.le_of_eq rfl) (hb hby at_25) (fun _ _ => ⟨rfl, eq9, (by decide : 0 + 0 ≤ _), (by decide : 0 + 0 ≤ _)⟩)
    dsimp only [Pt.U, Pt.locs, Pt.cells, Pt.slots] at X10 l10 y10 z10 st10 hQ10
    subst l10 y10 z10
    obtain ⟨hv10, hr10⟩ := hQ10
    rw [show own_num a_BIGINT a_SMALLINT a_INTEGER a_BIGINT a_REAL a_DOUBLE = (1 : Int32) from by unfold own_num; rw [if_neg (Fld.ne F_BIGINT_ordinal F_SMALLINT_ordinal (by decide)), if_neg (Fld.ne F_BIGINT_ordinal F_INTEGER_ordinal (by decide)), if_pos rfl]] at hv10
    have hQ10 := And.intro hv10 hr10
    obtain ⟨rfl, Nq10, eq10⟩ := hQ10
    have N10 := Fr.app N9 Nq10
    refine own_tr st10 ?_
    show own_Gl _ _ _ _ _ _ _ _ (T10.setTop (mkF m 28 #[.val (.int p0), .val (.int (2 : Int32)), .val (.ref a_BIGINT), .val (.int (1 : Int32)), .unset] [(.int (1 : Int32))]))
    refine own_st (A' := T10.setTop (mkF m 44 #[.val (.int p0), .val (.int (2 : Int32)), .val (.ref a_BIGINT), .val (.int (1 : Int32)), .val (.int (1 : Int32))] [(.ref a_BIGINT)])) (fun tg kt => ?_) ?_
    · show Steps p.tables e below (T10.setTop (mkF m 28 #[.val (.int p0), .val (.int (2 : Int32)), .val (.ref a_BIGINT), .val (.int (1 : Int32)), .unset] [(.int (1 : Int32))])) _
      refine XS.istore X10.here hx rfl (hb hby at_28) rfl (l' := #[.val (.int p0), .val (.int (2 : Int32)), .val (.ref a_BIGINT), .val (.int (1 : Int32)), .val (.int (1 : Int32))]) rfl ?_
      show Steps p.tables e below (T10.setTop (mkF m 30 #[.val (.int p0), .val (.int (2 : Int32)), .val (.ref a_BIGINT), .val (.int (1 : Int32)), .val (.int (1 : Int32))] [])) _
      refine XS.iload X10.here hx rfl (hb hby at_30) rfl ?_
      show Steps p.tables e below (T10.setTop (mkF m 32 #[.val (.int p0), .val (.int (2 : Int32)), .val (.ref a_BIGINT), .val (.int (1 : Int32)), .val (.int (1 : Int32))] [(.int (1 : Int32))])) _
      refine XS.iloadN X10.here hx rfl (hb hby at_32) rfl ?_
      show Steps p.tables e below (T10.setTop (mkF m 33 #[.val (.int p0), .val (.int (2 : Int32)), .val (.ref a_BIGINT), .val (.int (1 : Int32)), .val (.int (1 : Int32))] [(.int (1 : Int32)), (.int (1 : Int32))])) _
      refine XS.icmpYes X10.here hx rfl (pc0 := 33) (pc' := 38) rfl (hb hby at_33) rfl (teq ((by decide) : (1 : Int32) = (1 : Int32))).1 (by decide) (by decide) ?_
      show Steps p.tables e below (T10.setTop (mkF m 38 #[.val (.int p0), .val (.int (2 : Int32)), .val (.ref a_BIGINT), .val (.int (1 : Int32)), .val (.int (1 : Int32))] [])) _
      refine XS.iload X10.here hx rfl (hb hby at_38) rfl ?_
      show Steps p.tables e below (T10.setTop (mkF m 40 #[.val (.int p0), .val (.int (2 : Int32)), .val (.ref a_BIGINT), .val (.int (1 : Int32)), .val (.int (1 : Int32))] [(.int (1 : Int32))])) _
      refine XS.ifNo X10.here hx rfl (hb hby at_40) rfl ((if0 _ _).trans (feq ((by decide) : ¬ ((1 : Int32) = (0 : Int32)))).1) ?_
      show Steps p.tables e below (T10.setTop (mkF m 43 #[.val (.int p0), .val (.int (2 : Int32)), .val (.ref a_BIGINT), .val (.int (1 : Int32)), .val (.int (1 : Int32))] [])) _
      refine XS.aloadN X10.here hx rfl (hb hby at_43) rfl rfl ?_
      exact kt
    obtain ⟨cq11, kq11, q11a, q11b, q11c⟩ := isOf hZ eq10 E_BIGINT
    obtain ⟨_, _, ⟨T11, L11, k11, n11⟩, -, X11, ⟨Lc11, hQ11, l11, y11, z11⟩, st11⟩ := X10.virtualBack hx (y := (⟨"com/example/gate_to_tables/gatetotables/adql/catalog/Datatype", "isOrdered", "()Z"⟩ : MethodName)) (z := (⟨"com/example/gate_to_tables/gatetotables/adql/catalog/Datatype", "isOrdered", "()Z"⟩ : MethodName)) hown (mvT hZ (hw _ (List.mem_of_getElem? (i := 14) rfl))) (mvT hZ (hw _ (List.mem_of_getElem? (i := 15) rfl))) (notFace_of_selects (args := #[]) (mvT hZ (hw _ (List.mem_of_getElem? (i := 17) rfl)))) (mvT hZ (hw _ (List.mem_of_getElem? (i := 17) rfl))) (mvT hZ (hw _ (List.mem_of_getElem? (i := 16) rfl))) (by decide) (backOf (W := 0) (rm3 l Z a0 hw [] a_BIGINT a_POINT a_CIRCLE a_POLYGON h0 n0 Z0 S_POINT S_CIRCLE S_POLYGON E_BIGINT) hZ (hw _ (List.mem_of_getElem? (i := 18) rfl)) (hw _ (List.mem_of_getElem? (i := 6) rfl)) (by decide) (by decide)) q11a q11c (g := (mkF m 44 #[.val (.int p0), .val (.int (2 : Int32)), .val (.ref a_BIGINT), .val (.int (1 : Int32)), .val (.int (1 : Int32))] [(.ref a_BIGINT)])) rfl (by rw [hml]; rfl) (Steps.refl _) (argsL := []) (rest := []) (lenOf own_pd2 rfl) rfl (by show 2 * 0 + _ ≤ _; exact Nat.le_of_eq rfl) (hb hby at_44) (fun _ _ => ⟨rfl, eq10, (by decide : 0 + 0 ≤ _), (by decide : 0 + 0 ≤ _)⟩)
    dsimp only [Pt.U, Pt.locs, Pt.cells, Pt.slots] at X11 l11 y11 z11 st11 hQ11
    subst l11 y11 z11
    obtain ⟨hv11, hr11⟩ := hQ11
    rw [show own_ord a_BIGINT a_POINT a_CIRCLE a_POLYGON = (1 : Int32) from by unfold own_ord own_geo; rw [if_neg (Fld.ne F_BIGINT_ordinal F_POINT_ordinal (by decide)), if_neg (Fld.ne F_BIGINT_ordinal F_CIRCLE_ordinal (by decide)), if_neg (Fld.ne F_BIGINT_ordinal F_POLYGON_ordinal (by decide))]; rfl] at hv11
    have hQ11 := And.intro hv11 hr11
    obtain ⟨rfl, Nq11, eq11⟩ := hQ11
    have N11 := Fr.app N10 Nq11
    refine own_tr st11 ?_
    show own_Gl _ _ _ _ _ _ _ _ (T11.setTop (mkF m 47 #[.val (.int p0), .val (.int (2 : Int32)), .val (.ref a_BIGINT), .val (.int (1 : Int32)), .val (.int (1 : Int32))] [(.int (1 : Int32))]))
    refine own_st (A' := T11.setTop (mkF m 51 #[.val (.int p0), .val (.int (2 : Int32)), .val (.ref a_BIGINT), .val (.int (1 : Int32)), .val (.int (1 : Int32))] [(.ref a_BIGINT)])) (fun tg kt => ?_) ?_
    · show Steps p.tables e below (T11.setTop (mkF m 47 #[.val (.int p0), .val (.int (2 : Int32)), .val (.ref a_BIGINT), .val (.int (1 : Int32)), .val (.int (1 : Int32))] [(.int (1 : Int32))])) _
      refine XS.ifNo X11.here hx rfl (hb hby at_47) rfl ((if0 _ _).trans (feq ((by decide) : ¬ ((1 : Int32) = (0 : Int32)))).1) ?_
      show Steps p.tables e below (T11.setTop (mkF m 50 #[.val (.int p0), .val (.int (2 : Int32)), .val (.ref a_BIGINT), .val (.int (1 : Int32)), .val (.int (1 : Int32))] [])) _
      refine XS.aloadN X11.here hx rfl (hb hby at_50) rfl rfl ?_
      exact kt
    obtain ⟨cq12, kq12, q12a, q12b, q12c⟩ := isOf hZ eq11 E_BIGINT
    obtain ⟨_, _, ⟨T12, L12, k12, n12⟩, -, X12, ⟨Lc12, hQ12, l12, y12, z12⟩, st12⟩ := X11.virtualBack hx (y := (⟨"com/example/gate_to_tables/gatetotables/adql/catalog/Datatype", "isGeometry", "()Z"⟩ : MethodName)) (z := (⟨"com/example/gate_to_tables/gatetotables/adql/catalog/Datatype", "isGeometry", "()Z"⟩ : MethodName)) hown (mvT hZ (hw _ (List.mem_of_getElem? (i := 30) rfl))) (mvT hZ (hw _ (List.mem_of_getElem? (i := 20) rfl))) (notFace_of_selects (args := #[]) (mvT hZ (hw _ (List.mem_of_getElem? (i := 22) rfl)))) (mvT hZ (hw _ (List.mem_of_getElem? (i := 22) rfl))) (mvT hZ (hw _ (List.mem_of_getElem? (i := 21) rfl))) (by decide) (backOf (W := 0) (rm4 l Z a0 hw [] a_BIGINT a_POINT a_CIRCLE a_POLYGON h0 n0 Z0 S_POINT S_CIRCLE S_POLYGON) hZ (hw _ (List.mem_of_getElem? (i := 23) rfl)) (hw _ (List.mem_of_getElem? (i := 6) rfl)) (by decide) (by decide)) q12a q12c (g := (mkF m 51 #[.val (.int p0), .val (.int (2 : Int32)), .val (.ref a_BIGINT), .val (.int (1 : Int32)), .val (.int (1 : Int32))] [(.ref a_BIGINT)])) rfl (by rw [hml]; rfl) (Steps.refl _) (argsL := []) (rest := []) (lenOf own_pd2 rfl) rfl (by show 2 * 0 + _ ≤ _; exact Nat.le_of_eq rfl) (hb hby at_51) (fun _ _ => ⟨rfl, eq11, (by decide : 0 + 0 ≤ _), (by decide : 0 + 0 ≤ _)⟩)
    dsimp only [Pt.U, Pt.locs, Pt.cells, Pt.slots] at X12 l12 y12 z12 st12 hQ12
    subst l12 y12 z12
    obtain ⟨hv12, hr12⟩ := hQ12
    rw [show own_geo a_BIGINT a_POINT a_CIRCLE a_POLYGON = (0 : Int32) from by unfold own_geo; rw [if_neg (Fld.ne F_BIGINT_ordinal F_POINT_ordinal (by decide)), if_neg (Fld.ne F_BIGINT_ordinal F_CIRCLE_ordinal (by decide)), if_neg (Fld.ne F_BIGINT_ordinal F_POLYGON_ordinal (by decide))]] at hv12
    have hQ12 := And.intro hv12 hr12
    obtain ⟨rfl, Nq12, eq12⟩ := hQ12
    have N12 := Fr.app N11 Nq12
    refine own_tr st12 ?_
    show own_Gl _ _ _ _ _ _ _ _ (T12.setTop (mkF m 54 #[.val (.int p0), .val (.int (2 : Int32)), .val (.ref a_BIGINT), .val (.int (1 : Int32)), .val (.int (1 : Int32))] [(.int (0 : Int32))]))
    refine own_st (A' := T12.setTop (mkF m 62 #[.val (.int p0), .val (.int (2 : Int32)), .val (.ref a_BIGINT), .val (.int (1 : Int32)), .val (.int (1 : Int32))] [(.int (1 : Int32))])) (fun tg kt => ?_) ?_
    · show Steps p.tables e below (T12.setTop (mkF m 54 #[.val (.int p0), .val (.int (2 : Int32)), .val (.ref a_BIGINT), .val (.int (1 : Int32)), .val (.int (1 : Int32))] [(.int (0 : Int32))])) _
      refine XS.ifNo X12.here hx rfl (hb hby at_54) rfl ((if0 _ _).trans (teq ((by decide) : (0 : Int32) = (0 : Int32))).2) ?_
      show Steps p.tables e below (T12.setTop (mkF m 57 #[.val (.int p0), .val (.int (2 : Int32)), .val (.ref a_BIGINT), .val (.int (1 : Int32)), .val (.int (1 : Int32))] [])) _
      refine XS.iconst X12.here hx rfl (hb hby at_57) ?_
      show Steps p.tables e below (T12.setTop (mkF m 58 #[.val (.int p0), .val (.int (2 : Int32)), .val (.ref a_BIGINT), .val (.int (1 : Int32)), .val (.int (1 : Int32))] [(.int (1 : Int32))])) _
      refine XS.goto X12.here hx rfl (pc0 := 58) (pc' := 62) rfl (hb hby at_58) (by decide) (by decide) ?_
      exact kt
    refine own_ret X12 (v := some (.int (1 : Int32))) (fun h => by rw [Bd.returns] at h; cases h) hlk (by decide) (by decide) ?_ (fun fs hr => ?_)
    · show Q0 Z p0 a_SMALLINT a_INTEGER a_BIGINT a_REAL a_DOUBLE a_VARCHAR a_BOOLEAN a_TIMESTAMP a_POINT a_CIRCLE a_POLYGON h0 n0 (some (.int (1 : Int32))) T12.heap _
      rw [eq12]
      exact ⟨rfl, N12⟩
    · show Steps p.tables e below (T12.setTop (mkF m 62 #[.val (.int p0), .val (.int (2 : Int32)), .val (.ref a_BIGINT), .val (.int (1 : Int32)), .val (.int (1 : Int32))] [(.int (1 : Int32))])) _
      exact retN X12 hx (t := .boolean) Bd.returns (by simp) (hb hby at_62) hr
  · show own_Gl _ _ _ _ _ _ _ _ (s₁.setTop (mkF m 7 #[.val (.int p0), .unset, .unset, .unset, .unset] [(.int (3 : Int32))]))
    refine own_st (A' := s₁.setTop (mkF m 9 #[.val (.int p0), .val (.int (3 : Int32)), .unset, .unset, .unset] [(.int (3 : Int32))])) (fun tg kt => ?_) ?_
    · show Steps p.tables e below (s₁.setTop (mkF m 7 #[.val (.int p0), .unset, .unset, .unset, .unset] [(.int (3 : Int32))])) _
      refine XS.istoreN X0.here hx rfl (hb hby at_7) rfl (l' := #[.val (.int p0), .val (.int (3 : Int32)), .unset, .unset, .unset]) rfl ?_
      show Steps p.tables e below (s₁.setTop (mkF m 8 #[.val (.int p0), .val (.int (3 : Int32)), .unset, .unset, .unset] [])) _
      refine XS.iloadN X0.here hx rfl (hb hby at_8) rfl ?_
      exact kt
    obtain ⟨_, _, ⟨T13, L13, k13, n13⟩, -, X13, ⟨Lc13, hQ13, l13, y13, z13⟩, st13⟩ := Jvm.LawKit.callS X0 hx (y := (⟨"com/example/gate_to_tables/gatetotables/adql/catalog/DatatypeIsNumericPinLaw", "pick", "(I)Lcom/example/gate_to_tables/gatetotables/adql/catalog/Datatype;"⟩ : MethodName)) hown (mvT hZ (hw _ (List.mem_of_getElem? (i := 1) rfl))) (mvT hZ (hw _ (List.mem_of_getElem? (i := 2) rfl))) (mvT hZ (hw _ (List.mem_of_getElem? (i := 3) rfl))) (mvT hZ (hw _ (List.mem_of_getElem? (i := 4) rfl))) (by decide) (backOf (W := 0) (rm1 l Z a0 hw [] (3 : Int32) a_SMALLINT a_INTEGER a_BIGINT a_REAL a_DOUBLE a_VARCHAR a_BOOLEAN a_TIMESTAMP a_POINT a_CIRCLE a_POLYGON h0 n0 Z0 S_SMALLINT S_INTEGER S_BIGINT S_REAL S_DOUBLE S_VARCHAR S_BOOLEAN S_TIMESTAMP S_POINT S_CIRCLE S_POLYGON) hZ (hw _ (List.mem_of_getElem? (i := 4) rfl)) (hw _ (List.mem_of_getElem? (i := 3) rfl)) (by decide) (by decide)) (g := (mkF m 9 #[.val (.int p0), .val (.int (3 : Int32)), .unset, .unset, .unset] [(.int (3 : Int32))])) rfl (by rw [hml]; rfl) (argsL := [(.int (3 : Int32))]) (rest := []) (lenOf own_pd3 rfl) rfl (by show 2 * 0 + _ ≤ _; exact Nat.le_of_eq rfl) (hb hby at_9) (fun _ _ => ⟨rfl, e0, (by decide : 0 + 0 ≤ _), (by decide : 0 + 0 ≤ _)⟩)
    dsimp only [Pt.U, Pt.locs, Pt.cells, Pt.slots] at X13 l13 y13 z13 st13 hQ13
    subst l13 y13 z13
    obtain ⟨hv13, hr13⟩ := hQ13
    rw [show own_pick1 (3 : Int32) a_SMALLINT a_INTEGER a_BIGINT a_REAL a_DOUBLE a_VARCHAR a_BOOLEAN a_TIMESTAMP a_POINT a_CIRCLE a_POLYGON = a_REAL from rfl] at hv13
    have hQ13 := And.intro hv13 hr13
    obtain ⟨rfl, Nq13, eq13⟩ := hQ13
    have N13 := Fr.app N0 Nq13
    refine own_st st13 ?_
    show own_Gl _ _ _ _ _ _ _ _ (T13.setTop (mkF m 12 #[.val (.int p0), .val (.int (3 : Int32)), .unset, .unset, .unset] [(.ref a_REAL)]))
    refine own_st (A' := T13.setTop (mkF m 25 #[.val (.int p0), .val (.int (3 : Int32)), .val (.ref a_REAL), .val (.int (1 : Int32)), .unset] [(.ref a_REAL)])) (fun tg kt => ?_) ?_
    · show Steps p.tables e below (T13.setTop (mkF m 12 #[.val (.int p0), .val (.int (3 : Int32)), .unset, .unset, .unset] [(.ref a_REAL)])) _
      refine XS.astoreN X13.here hx rfl (hb hby at_12) rfl rfl (l' := #[.val (.int p0), .val (.int (3 : Int32)), .val (.ref a_REAL), .unset, .unset]) rfl ?_
      show Steps p.tables e below (T13.setTop (mkF m 13 #[.val (.int p0), .val (.int (3 : Int32)), .val (.ref a_REAL), .unset, .unset] [])) _
      refine XS.iloadN X13.here hx rfl (hb hby at_13) rfl ?_
      show Steps p.tables e below (T13.setTop (mkF m 14 #[.val (.int p0), .val (.int (3 : Int32)), .val (.ref a_REAL), .unset, .unset] [(.int (3 : Int32))])) _
      refine XS.iconst X13.here hx rfl (hb hby at_14) ?_
      show Steps p.tables e below (T13.setTop (mkF m 15 #[.val (.int p0), .val (.int (3 : Int32)), .val (.ref a_REAL), .unset, .unset] [(.int (4 : Int32)), (.int (3 : Int32))])) _
      refine XS.icmpNo X13.here hx rfl (hb hby at_15) rfl (flt ((by decide) : ¬ ((4 : Int32) < (3 : Int32)))).2.2.1 ?_
      show Steps p.tables e below (T13.setTop (mkF m 18 #[.val (.int p0), .val (.int (3 : Int32)), .val (.ref a_REAL), .unset, .unset] [])) _
      refine XS.iconst X13.here hx rfl (hb hby at_18) ?_
      show Steps p.tables e below (T13.setTop (mkF m 19 #[.val (.int p0), .val (.int (3 : Int32)), .val (.ref a_REAL), .unset, .unset] [(.int (1 : Int32))])) _
      refine XS.goto X13.here hx rfl (pc0 := 19) (pc' := 23) rfl (hb hby at_19) (by decide) (by decide) ?_
      show Steps p.tables e below (T13.setTop (mkF m 23 #[.val (.int p0), .val (.int (3 : Int32)), .val (.ref a_REAL), .unset, .unset] [(.int (1 : Int32))])) _
      refine XS.istoreN X13.here hx rfl (hb hby at_23) rfl (l' := #[.val (.int p0), .val (.int (3 : Int32)), .val (.ref a_REAL), .val (.int (1 : Int32)), .unset]) rfl ?_
      show Steps p.tables e below (T13.setTop (mkF m 24 #[.val (.int p0), .val (.int (3 : Int32)), .val (.ref a_REAL), .val (.int (1 : Int32)), .unset] [])) _
      refine XS.aloadN X13.here hx rfl (hb hby at_24) rfl rfl ?_
      exact kt
    obtain ⟨cq14, kq14, q14a, q14b, q14c⟩ := isOf hZ eq13 E_REAL
    obtain ⟨_, _, ⟨T14, L14, k14, n14⟩, -, X14, ⟨Lc14, hQ14, l14, y14, z14⟩, st14⟩ := X13.virtualBack hx (y := (⟨"com/example/gate_to_tables/gatetotables/adql/catalog/Datatype", "isNumeric", "()Z"⟩ : MethodName)) (z := (⟨"com/example/gate_to_tables/gatetotables/adql/catalog/Datatype", "isNumeric", "()Z"⟩ : MethodName)) hown (mvT hZ (hw _ (List.mem_of_getElem? (i := 8) rfl))) (mvT hZ (hw _ (List.mem_of_getElem? (i := 9) rfl))) (notFace_of_selects (args := #[]) (mvT hZ (hw _ (List.mem_of_getElem? (i := 11) rfl)))) (mvT hZ (hw _ (List.mem_of_getElem? (i := 11) rfl))) (mvT hZ (hw _ (List.mem_of_getElem? (i := 10) rfl))) (by decide) (backOf (W := 0) (rm2 l Z a0 hw [] a_REAL a_SMALLINT a_INTEGER a_BIGINT a_REAL a_DOUBLE h0 n0 Z0 S_SMALLINT S_INTEGER S_BIGINT S_REAL S_DOUBLE) hZ (hw _ (List.mem_of_getElem? (i := 12) rfl)) (hw _ (List.mem_of_getElem? (i := 6) rfl)) (by decide) (by decide)) q14a q14c (g := (mkF m 25 #[.val (.int p0), .val (.int (3 : Int32)), .val (.ref a_REAL), .val (.int (1 : Int32)), .unset] [(.ref a_REAL)])) rfl (by rw [hml]; rfl) (Steps.refl _) (argsL := []) (rest := []) (lenOf own_pd2 rfl) rfl (by show 2 * 0 + _ ≤ _; exact Nat.le_of_eq rfl) (hb hby at_25) (fun _ _ => ⟨rfl, eq13, (by decide : 0 + 0 ≤ _), (by decide : 0 + 0 ≤ _)⟩)
    dsimp only [Pt.U, Pt.locs, Pt.cells, Pt.slots] at X14 l14 y14 z14 st14 hQ14
    subst l14 y14 z14
    obtain ⟨hv14, hr14⟩ := hQ14
    rw [show own_num a_REAL a_SMALLINT a_INTEGER a_BIGINT a_REAL a_DOUBLE = (1 : Int32) from by unfold own_num; rw [if_neg (Fld.ne F_REAL_ordinal F_SMALLINT_ordinal (by decide)), if_neg (Fld.ne F_REAL_ordinal F_INTEGER_ordinal (by decide)), if_neg (Fld.ne F_REAL_ordinal F_BIGINT_ordinal (by decide)), if_pos rfl]] at hv14
    have hQ14 := And.intro hv14 hr14
    obtain ⟨rfl, Nq14, eq14⟩ := hQ14
    have N14 := Fr.app N13 Nq14
    refine own_tr st14 ?_
    show own_Gl _ _ _ _ _ _ _ _ (T14.setTop (mkF m 28 #[.val (.int p0), .val (.int (3 : Int32)), .val (.ref a_REAL), .val (.int (1 : Int32)), .unset] [(.int (1 : Int32))]))
    refine own_st (A' := T14.setTop (mkF m 44 #[.val (.int p0), .val (.int (3 : Int32)), .val (.ref a_REAL), .val (.int (1 : Int32)), .val (.int (1 : Int32))] [(.ref a_REAL)])) (fun tg kt => ?_) ?_
    · show Steps p.tables e below (T14.setTop (mkF m 28 #[.val (.int p0), .val (.int (3 : Int32)), .val (.ref a_REAL), .val (.int (1 : Int32)), .unset] [(.int (1 : Int32))])) _
      refine XS.istore X14.here hx rfl (hb hby at_28) rfl (l' := #[.val (.int p0), .val (.int (3 : Int32)), .val (.ref a_REAL), .val (.int (1 : Int32)), .val (.int (1 : Int32))]) rfl ?_
      show Steps p.tables e below (T14.setTop (mkF m 30 #[.val (.int p0), .val (.int (3 : Int32)), .val (.ref a_REAL), .val (.int (1 : Int32)), .val (.int (1 : Int32))] [])) _
      refine XS.iload X14.here hx rfl (hb hby at_30) rfl ?_
      show Steps p.tables e below (T14.setTop (mkF m 32 #[.val (.int p0), .val (.int (3 : Int32)), .val (.ref a_REAL), .val (.int (1 : Int32)), .val (.int (1 : Int32))] [(.int (1 : Int32))])) _
      refine XS.iloadN X14.here hx rfl (hb hby at_32) rfl ?_
      show Steps p.tables e below (T14.setTop (mkF m 33 #[.val (.int p0), .val (.int (3 : Int32)), .val (.ref a_REAL), .val (.int (1 : Int32)), .val (.int (1 : Int32))] [(.int (1 : Int32)), (.int (1 : Int32))])) _
      refine XS.icmpYes X14.here hx rfl (pc0 := 33) (pc' := 38) rfl (hb hby at_33) rfl (teq ((by decide) : (1 : Int32) = (1 : Int32))).1 (by decide) (by decide) ?_
      show Steps p.tables e below (T14.setTop (mkF m 38 #[.val (.int p0), .val (.int (3 : Int32)), .val (.ref a_REAL), .val (.int (1 : Int32)), .val (.int (1 : Int32))] [])) _
      refine XS.iload X14.here hx rfl (hb hby at_38) rfl ?_
      show Steps p.tables e below (T14.setTop (mkF m 40 #[.val (.int p0), .val (.int (3 : Int32)), .val (.ref a_REAL), .val (.int (1 : Int32)), .val (.int (1 : Int32))] [(.int (1 : Int32))])) _
      refine XS.ifNo X14.here hx rfl (hb hby at_40) rfl ((if0 _ _).trans (feq ((by decide) : ¬ ((1 : Int32) = (0 : Int32)))).1) ?_
      show Steps p.tables e below (T14.setTop (mkF m 43 #[.val (.int p0), .val (.int (3 : Int32)), .val (.ref a_REAL), .val (.int (1 : Int32)), .val (.int (1 : Int32))] [])) _
      refine XS.aloadN X14.here hx rfl (hb hby at_43) rfl rfl ?_
      exact kt
    obtain ⟨cq15, kq15, q15a, q15b, q15c⟩ := isOf hZ eq14 E_REAL
    obtain ⟨_, _, ⟨T15, L15, k15, n15⟩, -, X15, ⟨Lc15, hQ15, l15, y15, z15⟩, st15⟩ := X14.virtualBack hx (y := (⟨"com/example/gate_to_tables/gatetotables/adql/catalog/Datatype", "isOrdered", "()Z"⟩ : MethodName)) (z := (⟨"com/example/gate_to_tables/gatetotables/adql/catalog/Datatype", "isOrdered", "()Z"⟩ : MethodName)) hown (mvT hZ (hw _ (List.mem_of_getElem? (i := 14) rfl))) (mvT hZ (hw _ (List.mem_of_getElem? (i := 15) rfl))) (notFace_of_selects (args := #[]) (mvT hZ (hw _ (List.mem_of_getElem? (i := 17) rfl)))) (mvT hZ (hw _ (List.mem_of_getElem? (i := 17) rfl))) (mvT hZ (hw _ (List.mem_of_getElem? (i := 16) rfl))) (by decide) (backOf (W := 0) (rm3 l Z a0 hw [] a_REAL a_POINT a_CIRCLE a_POLYGON h0 n0 Z0 S_POINT S_CIRCLE S_POLYGON E_REAL) hZ (hw _ (List.mem_of_getElem? (i := 18) rfl)) (hw _ (List.mem_of_getElem? (i := 6) rfl)) (by decide) (by decide)) q15a q15c (g := (mkF m 44 #[.val (.int p0), .val (.int (3 : Int32)), .val (.ref a_REAL), .val (.int (1 : Int32)), .val (.int (1 : Int32))] [(.ref a_REAL)])) rfl (by rw [hml]; rfl) (Steps.refl _) (argsL := []) (rest := []) (lenOf own_pd2 rfl) rfl (by show 2 * 0 + _ ≤ _; exact Nat.le_of_eq rfl) (hb hby at_44) (fun _ _ => ⟨rfl, eq14, (by decide : 0 + 0 ≤ _), (by decide : 0 + 0 ≤ _)⟩)
    dsimp only [Pt.U, Pt.locs, Pt.cells, Pt.slots] at X15 l15 y15 z15 st15 hQ15
    subst l15 y15 z15
    obtain ⟨hv15, hr15⟩ := hQ15
    rw [show own_ord a_REAL a_POINT a_CIRCLE a_POLYGON = (1 : Int32) from by unfold own_ord own_geo; rw [if_neg (Fld.ne F_REAL_ordinal F_POINT_ordinal (by decide)), if_neg (Fld.ne F_REAL_ordinal F_CIRCLE_ordinal (by decide)), if_neg (Fld.ne F_REAL_ordinal F_POLYGON_ordinal (by decide))]; rfl] at hv15
    have hQ15 := And.intro hv15 hr15
    obtain ⟨rfl, Nq15, eq15⟩ := hQ15
    have N15 := Fr.app N14 Nq15
    refine own_tr st15 ?_
    show own_Gl _ _ _ _ _ _ _ _ (T15.setTop (mkF m 47 #[.val (.int p0), .val (.int (3 : Int32)), .val (.ref a_REAL), .val (.int (1 : Int32)), .val (.int (1 : Int32))] [(.int (1 : Int32))]))
    refine own_st (A' := T15.setTop (mkF m 51 #[.val (.int p0), .val (.int (3 : Int32)), .val (.ref a_REAL), .val (.int (1 : Int32)), .val (.int (1 : Int32))] [(.ref a_REAL)])) (fun tg kt => ?_) ?_
    · show Steps p.tables e below (T15.setTop (mkF m 47 #[.val (.int p0), .val (.int (3 : Int32)), .val (.ref a_REAL), .val (.int (1 : Int32)), .val (.int (1 : Int32))] [(.int (1 : Int32))])) _
      refine XS.ifNo X15.here hx rfl (hb hby at_47) rfl ((if0 _ _).trans (feq ((by decide) : ¬ ((1 : Int32) = (0 : Int32)))).1) ?_
      show Steps p.tables e below (T15.setTop (mkF m 50 #[.val (.int p0), .val (.int (3 : Int32)), .val (.ref a_REAL), .val (.int (1 : Int32)), .val (.int (1 : Int32))] [])) _
      refine XS.aloadN X15.here hx rfl (hb hby at_50) rfl rfl ?_
      exact kt
    obtain ⟨cq16, kq16, q16a, q16b, q16c⟩ := isOf hZ eq15 E_REAL
    obtain ⟨_, _, ⟨T16, L16, k16, n16⟩, -, X16, ⟨Lc16, hQ16, l16, y16, z16⟩, st16⟩ := X15.virtualBack hx (y := (⟨"com/example/gate_to_tables/gatetotables/adql/catalog/Datatype", "isGeometry", "()Z"⟩ : MethodName)) (z := (⟨"com/example/gate_to_tables/gatetotables/adql/catalog/Datatype", "isGeometry", "()Z"⟩ : MethodName)) hown (mvT hZ (hw _ (List.mem_of_getElem? (i := 30) rfl))) (mvT hZ (hw _ (List.mem_of_getElem? (i := 20) rfl))) (notFace_of_selects (args := #[]) (mvT hZ (hw _ (List.mem_of_getElem? (i := 22) rfl)))) (mvT hZ (hw _ (List.mem_of_getElem? (i := 22) rfl))) (mvT hZ (hw _ (List.mem_of_getElem? (i := 21) rfl))) (by decide) (backOf (W := 0) (rm4 l Z a0 hw [] a_REAL a_POINT a_CIRCLE a_POLYGON h0 n0 Z0 S_POINT S_CIRCLE S_POLYGON) hZ (hw _ (List.mem_of_getElem? (i := 23) rfl)) (hw _ (List.mem_of_getElem? (i := 6) rfl)) (by decide) (by decide)) q16a q16c (g := (mkF m 51 #[.val (.int p0), .val (.int (3 : Int32)), .val (.ref a_REAL), .val (.int (1 : Int32)), .val (.int (1 : Int32))] [(.ref a_REAL)])) rfl (by rw [hml]; rfl) (Steps.refl _) (argsL := []) (rest := []) (lenOf own_pd2 rfl) rfl (by show 2 * 0 + _ ≤ _; exact Nat.le_of_eq rfl) (hb hby at_51) (fun _ _ => ⟨rfl, eq15, (by decide : 0 + 0 ≤ _), (by decide : 0 + 0 ≤ _)⟩)
    dsimp only [Pt.U, Pt.locs, Pt.cells, Pt.slots] at X16 l16 y16 z16 st16 hQ16
    subst l16 y16 z16
    obtain ⟨hv16, hr16⟩ := hQ16
    rw [show own_geo a_REAL a_POINT a_CIRCLE a_POLYGON = (0 : Int32) from by unfold own_geo; rw [if_neg (Fld.ne F_REAL_ordinal F_POINT_ordinal (by decide)), if_neg (Fld.ne F_REAL_ordinal F_CIRCLE_ordinal (by decide)), if_neg (Fld.ne F_REAL_ordinal F_POLYGON_ordinal (by decide))]] at hv16
    have hQ16 := And.intro hv16 hr16
    obtain ⟨rfl, Nq16, eq16⟩ := hQ16
    have N16 := Fr.app N15 Nq16
    refine own_tr st16 ?_
    show own_Gl _ _ _ _ _ _ _ _ (T16.setTop (mkF m 54 #[.val (.int p0), .val (.int (3 : Int32)), .val (.ref a_REAL), .val (.int (1 : Int32)), .val (.int (1 : Int32))] [(.int (0 : Int32))]))
    refine own_st (A' := T16.setTop (mkF m 62 #[.val (.int p0), .val (.int (3 : Int32)), .val (.ref a_REAL), .val (.int (1 : Int32)), .val (.int (1 : Int32))] [(.int (1 : Int32))])) (fun tg kt => ?_) ?_
    · show Steps p.tables e below (T16.setTop (mkF m 54 #[.val (.int p0), .val (.int (3 : Int32)), .val (.ref a_REAL), .val (.int (1 : Int32)), .val (.int (1 : Int32))] [(.int (0 : Int32))])) _
      refine XS.ifNo X16.here hx rfl (hb hby at_54) rfl ((if0 _ _).trans (teq ((by decide) : (0 : Int32) = (0 : Int32))).2) ?_
      show Steps p.tables e below (T16.setTop (mkF m 57 #[.val (.int p0), .val (.int (3 : Int32)), .val (.ref a_REAL), .val (.int (1 : Int32)), .val (.int (1 : Int32))] [])) _
      refine XS.iconst X16.here hx rfl (hb hby at_57) ?_
      show Steps p.tables e below (T16.setTop (mkF m 58 #[.val (.int p0), .val (.int (3 : Int32)), .val (.ref a_REAL), .val (.int (1 : Int32)), .val (.int (1 : Int32))] [(.int (1 : Int32))])) _
      refine XS.goto X16.here hx rfl (pc0 := 58) (pc' := 62) rfl (hb hby at_58) (by decide) (by decide) ?_
      exact kt
    refine own_ret X16 (v := some (.int (1 : Int32))) (fun h => by rw [Bd.returns] at h; cases h) hlk (by decide) (by decide) ?_ (fun fs hr => ?_)
    · show Q0 Z p0 a_SMALLINT a_INTEGER a_BIGINT a_REAL a_DOUBLE a_VARCHAR a_BOOLEAN a_TIMESTAMP a_POINT a_CIRCLE a_POLYGON h0 n0 (some (.int (1 : Int32))) T16.heap _
      rw [eq16]
      exact ⟨rfl, N16⟩
    · show Steps p.tables e below (T16.setTop (mkF m 62 #[.val (.int p0), .val (.int (3 : Int32)), .val (.ref a_REAL), .val (.int (1 : Int32)), .val (.int (1 : Int32))] [(.int (1 : Int32))])) _
      exact retN X16 hx (t := .boolean) Bd.returns (by simp) (hb hby at_62) hr
  · show own_Gl _ _ _ _ _ _ _ _ (s₁.setTop (mkF m 7 #[.val (.int p0), .unset, .unset, .unset, .unset] [(.int (4 : Int32))]))
    refine own_st (A' := s₁.setTop (mkF m 9 #[.val (.int p0), .val (.int (4 : Int32)), .unset, .unset, .unset] [(.int (4 : Int32))])) (fun tg kt => ?_) ?_
    · show Steps p.tables e below (s₁.setTop (mkF m 7 #[.val (.int p0), .unset, .unset, .unset, .unset] [(.int (4 : Int32))])) _
      refine XS.istoreN X0.here hx rfl (hb hby at_7) rfl (l' := #[.val (.int p0), .val (.int (4 : Int32)), .unset, .unset, .unset]) rfl ?_
      show Steps p.tables e below (s₁.setTop (mkF m 8 #[.val (.int p0), .val (.int (4 : Int32)), .unset, .unset, .unset] [])) _
      refine XS.iloadN X0.here hx rfl (hb hby at_8) rfl ?_
      exact kt
    obtain ⟨_, _, ⟨T17, L17, k17, n17⟩, -, X17, ⟨Lc17, hQ17, l17, y17, z17⟩, st17⟩ := Jvm.LawKit.callS X0 hx (y := (⟨"com/example/gate_to_tables/gatetotables/adql/catalog/DatatypeIsNumericPinLaw", "pick", "(I)Lcom/example/gate_to_tables/gatetotables/adql/catalog/Datatype;"⟩ : MethodName)) hown (mvT hZ (hw _ (List.mem_of_getElem? (i := 1) rfl))) (mvT hZ (hw _ (List.mem_of_getElem? (i := 2) rfl))) (mvT hZ (hw _ (List.mem_of_getElem? (i := 3) rfl))) (mvT hZ (hw _ (List.mem_of_getElem? (i := 4) rfl))) (by decide) (backOf (W := 0) (rm1 l Z a0 hw [] (4 : Int32) a_SMALLINT a_INTEGER a_BIGINT a_REAL a_DOUBLE a_VARCHAR a_BOOLEAN a_TIMESTAMP a_POINT a_CIRCLE a_POLYGON h0 n0 Z0 S_SMALLINT S_INTEGER S_BIGINT S_REAL S_DOUBLE S_VARCHAR S_BOOLEAN S_TIMESTAMP S_POINT S_CIRCLE S_POLYGON) hZ (hw _ (List.mem_of_getElem? (i := 4) rfl)) (hw _ (List.mem_of_getElem? (i := 3) rfl)) (by decide) (by decide)) (g := (mkF m 9 #[.val (.int p0), .val (.int (4 : Int32)), .unset, .unset, .unset] [(.int (4 : Int32))])) rfl (by rw [hml]; rfl) (argsL := [(.int (4 : Int32))]) (rest := []) (lenOf own_pd3 rfl) rfl (by show 2 * 0 + _ ≤ _; exact Nat.le_of_eq rfl) (hb hby at_9) (fun _ _ => ⟨rfl, e0, (by decide : 0 + 0 ≤ _), (by decide : 0 + 0 ≤ _)⟩)
    dsimp only [Pt.U, Pt.locs, Pt.cells, Pt.slots] at X17 l17 y17 z17 st17 hQ17
    subst l17 y17 z17
    obtain ⟨hv17, hr17⟩ := hQ17
    rw [show own_pick1 (4 : Int32) a_SMALLINT a_INTEGER a_BIGINT a_REAL a_DOUBLE a_VARCHAR a_BOOLEAN a_TIMESTAMP a_POINT a_CIRCLE a_POLYGON = a_DOUBLE from rfl] at hv17
    have hQ17 := And.intro hv17 hr17
    obtain ⟨rfl, Nq17, eq17⟩ := hQ17
    have N17 := Fr.app N0 Nq17
    refine own_st st17 ?_
    show own_Gl _ _ _ _ _ _ _ _ (T17.setTop (mkF m 12 #[.val (.int p0), .val (.int (4 : Int32)), .unset, .unset, .unset] [(.ref a_DOUBLE)]))
    refine own_st (A' := T17.setTop (mkF m 25 #[.val (.int p0), .val (.int (4 : Int32)), .val (.ref a_DOUBLE), .val (.int (1 : Int32)), .unset] [(.ref a_DOUBLE)])) (fun tg kt => ?_) ?_
    · show Steps p.tables e below (T17.setTop (mkF m 12 #[.val (.int p0), .val (.int (4 : Int32)), .unset, .unset, .unset] [(.ref a_DOUBLE)])) _
      refine XS.astoreN X17.here hx rfl (hb hby at_12) rfl rfl (l' := #[.val (.int p0), .val (.int (4 : Int32)), .val (.ref a_DOUBLE), .unset, .unset]) rfl ?_
      show Steps p.tables e below (T17.setTop (mkF m 13 #[.val (.int p0), .val (.int (4 : Int32)), .val (.ref a_DOUBLE), .unset, .unset] [])) _
      refine XS.iloadN X17.here hx rfl (hb hby at_13) rfl ?_
      show Steps p.tables e below (T17.setTop (mkF m 14 #[.val (.int p0), .val (.int (4 : Int32)), .val (.ref a_DOUBLE), .unset, .unset] [(.int (4 : Int32))])) _
      refine XS.iconst X17.here hx rfl (hb hby at_14) ?_
      show Steps p.tables e below (T17.setTop (mkF m 15 #[.val (.int p0), .val (.int (4 : Int32)), .val (.ref a_DOUBLE), .unset, .unset] [(.int (4 : Int32)), (.int (4 : Int32))])) _
      refine XS.icmpNo X17.here hx rfl (hb hby at_15) rfl (flt ((by decide) : ¬ ((4 : Int32) < (4 : Int32)))).2.2.1 ?_
      show Steps p.tables e below (T17.setTop (mkF m 18 #[.val (.int p0), .val (.int (4 : Int32)), .val (.ref a_DOUBLE), .unset, .unset] [])) _
      refine XS.iconst X17.here hx rfl (hb hby at_18) ?_
      show Steps p.tables e below (T17.setTop (mkF m 19 #[.val (.int p0), .val (.int (4 : Int32)), .val (.ref a_DOUBLE), .unset, .unset] [(.int (1 : Int32))])) _
      refine XS.goto X17.here hx rfl (pc0 := 19) (pc' := 23) rfl (hb hby at_19) (by decide) (by decide) ?_
      show Steps p.tables e below (T17.setTop (mkF m 23 #[.val (.int p0), .val (.int (4 : Int32)), .val (.ref a_DOUBLE), .unset, .unset] [(.int (1 : Int32))])) _
      refine XS.istoreN X17.here hx rfl (hb hby at_23) rfl (l' := #[.val (.int p0), .val (.int (4 : Int32)), .val (.ref a_DOUBLE), .val (.int (1 : Int32)), .unset]) rfl ?_
      show Steps p.tables e below (T17.setTop (mkF m 24 #[.val (.int p0), .val (.int (4 : Int32)), .val (.ref a_DOUBLE), .val (.int (1 : Int32)), .unset] [])) _
      refine XS.aloadN X17.here hx rfl (hb hby at_24) rfl rfl ?_
      exact kt
    obtain ⟨cq18, kq18, q18a, q18b, q18c⟩ := isOf hZ eq17 E_DOUBLE
    obtain ⟨_, _, ⟨T18, L18, k18, n18⟩, -, X18, ⟨Lc18, hQ18, l18, y18, z18⟩, st18⟩ := X17.virtualBack hx (y := (⟨"com/example/gate_to_tables/gatetotables/adql/catalog/Datatype", "isNumeric", "()Z"⟩ : MethodName)) (z := (⟨"com/example/gate_to_tables/gatetotables/adql/catalog/Datatype", "isNumeric", "()Z"⟩ : MethodName)) hown (mvT hZ (hw _ (List.mem_of_getElem? (i := 8) rfl))) (mvT hZ (hw _ (List.mem_of_getElem? (i := 9) rfl))) (notFace_of_selects (args := #[]) (mvT hZ (hw _ (List.mem_of_getElem? (i := 11) rfl)))) (mvT hZ (hw _ (List.mem_of_getElem? (i := 11) rfl))) (mvT hZ (hw _ (List.mem_of_getElem? (i := 10) rfl))) (by decide) (backOf (W := 0) (rm2 l Z a0 hw [] a_DOUBLE a_SMALLINT a_INTEGER a_BIGINT a_REAL a_DOUBLE h0 n0 Z0 S_SMALLINT S_INTEGER S_BIGINT S_REAL S_DOUBLE) hZ (hw _ (List.mem_of_getElem? (i := 12) rfl)) (hw _ (List.mem_of_getElem? (i := 6) rfl)) (by decide) (by decide)) q18a q18c (g := (mkF m 25 #[.val (.int p0), .val (.int (4 : Int32)), .val (.ref a_DOUBLE), .val (.int (1 : Int32)), .unset] [(.ref a_DOUBLE)])) rfl (by rw [hml]; rfl) (Steps.refl _) (argsL := []) (rest := []) (lenOf own_pd2 rfl) rfl (by show 2 * 0 + _ ≤ _; exact Nat.le_of_eq rfl) (hb hby at_25) (fun _ _ => ⟨rfl, eq17, (by decide : 0 + 0 ≤ _), (by decide : 0 + 0 ≤ _)⟩)
    dsimp only [Pt.U, Pt.locs, Pt.cells, Pt.slots] at X18 l18 y18 z18 st18 hQ18
    subst l18 y18 z18
    obtain ⟨hv18, hr18⟩ := hQ18
    rw [show own_num a_DOUBLE a_SMALLINT a_INTEGER a_BIGINT a_REAL a_DOUBLE = (1 : Int32) from by unfold own_num; rw [if_neg (Fld.ne F_DOUBLE_ordinal F_SMALLINT_ordinal (by decide)), if_neg (Fld.ne F_DOUBLE_ordinal F_INTEGER_ordinal (by decide)), if_neg (Fld.ne F_DOUBLE_ordinal F_BIGINT_ordinal (by decide)), if_neg (Fld.ne F_DOUBLE_ordinal F_REAL_ordinal (by decide)), if_pos rfl]] at hv18
    have hQ18 := And.intro hv18 hr18
    obtain ⟨rfl, Nq18, eq18⟩ := hQ18
    have N18 := Fr.app N17 Nq18
    refine own_tr st18 ?_
    show own_Gl _ _ _ _ _ _ _ _ (T18.setTop (mkF m 28 #[.val (.int p0), .val (.int (4 : Int32)), .val (.ref a_DOUBLE), .val (.int (1 : Int32)), .unset] [(.int (1 : Int32))]))
    refine own_st (A' := T18.setTop (mkF m 44 #[.val (.int p0), .val (.int (4 : Int32)), .val (.ref a_DOUBLE), .val (.int (1 : Int32)), .val (.int (1 : Int32))] [(.ref a_DOUBLE)])) (fun tg kt => ?_) ?_
    · show Steps p.tables e below (T18.setTop (mkF m 28 #[.val (.int p0), .val (.int (4 : Int32)), .val (.ref a_DOUBLE), .val (.int (1 : Int32)), .unset] [(.int (1 : Int32))])) _
      refine XS.istore X18.here hx rfl (hb hby at_28) rfl (l' := #[.val (.int p0), .val (.int (4 : Int32)), .val (.ref a_DOUBLE), .val (.int (1 : Int32)), .val (.int (1 : Int32))]) rfl ?_
      show Steps p.tables e below (T18.setTop (mkF m 30 #[.val (.int p0), .val (.int (4 : Int32)), .val (.ref a_DOUBLE), .val (.int (1 : Int32)), .val (.int (1 : Int32))] [])) _
      refine XS.iload X18.here hx rfl (hb hby at_30) rfl ?_
      show Steps p.tables e below (T18.setTop (mkF m 32 #[.val (.int p0), .val (.int (4 : Int32)), .val (.ref a_DOUBLE), .val (.int (1 : Int32)), .val (.int (1 : Int32))] [(.int (1 : Int32))])) _
      refine XS.iloadN X18.here hx rfl (hb hby at_32) rfl ?_
      show Steps p.tables e below (T18.setTop (mkF m 33 #[.val (.int p0), .val (.int (4 : Int32)), .val (.ref a_DOUBLE), .val (.int (1 : Int32)), .val (.int (1 : Int32))] [(.int (1 : Int32)), (.int (1 : Int32))])) _
      refine XS.icmpYes X18.here hx rfl (pc0 := 33) (pc' := 38) rfl (hb hby at_33) rfl (teq ((by decide) : (1 : Int32) = (1 : Int32))).1 (by decide) (by decide) ?_
      show Steps p.tables e below (T18.setTop (mkF m 38 #[.val (.int p0), .val (.int (4 : Int32)), .val (.ref a_DOUBLE), .val (.int (1 : Int32)), .val (.int (1 : Int32))] [])) _
      refine XS.iload X18.here hx rfl (hb hby at_38) rfl ?_
      show Steps p.tables e below (T18.setTop (mkF m 40 #[.val (.int p0), .val (.int (4 : Int32)), .val (.ref a_DOUBLE), .val (.int (1 : Int32)), .val (.int (1 : Int32))] [(.int (1 : Int32))])) _
      refine XS.ifNo X18.here hx rfl (hb hby at_40) rfl ((if0 _ _).trans (feq ((by decide) : ¬ ((1 : Int32) = (0 : Int32)))).1) ?_
      show Steps p.tables e below (T18.setTop (mkF m 43 #[.val (.int p0), .val (.int (4 : Int32)), .val (.ref a_DOUBLE), .val (.int (1 : Int32)), .val (.int (1 : Int32))] [])) _
      refine XS.aloadN X18.here hx rfl (hb hby at_43) rfl rfl ?_
      exact kt
    obtain ⟨cq19, kq19, q19a, q19b, q19c⟩ := isOf hZ eq18 E_DOUBLE
    obtain ⟨_, _, ⟨T19, L19, k19, n19⟩, -, X19, ⟨Lc19, hQ19, l19, y19, z19⟩, st19⟩ := X18.virtualBack hx (y := (⟨"com/example/gate_to_tables/gatetotables/adql/catalog/Datatype", "isOrdered", "()Z"⟩ : MethodName)) (z := (⟨"com/example/gate_to_tables/gatetotables/adql/catalog/Datatype", "isOrdered", "()Z"⟩ : MethodName)) hown (mvT hZ (hw _ (List.mem_of_getElem? (i := 14) rfl))) (mvT hZ (hw _ (List.mem_of_getElem? (i := 15) rfl))) (notFace_of_selects (args := #[]) (mvT hZ (hw _ (List.mem_of_getElem? (i := 17) rfl)))) (mvT hZ (hw _ (List.mem_of_getElem? (i := 17) rfl))) (mvT hZ (hw _ (List.mem_of_getElem? (i := 16) rfl))) (by decide) (backOf (W := 0) (rm3 l Z a0 hw [] a_DOUBLE a_POINT a_CIRCLE a_POLYGON h0 n0 Z0 S_POINT S_CIRCLE S_POLYGON E_DOUBLE) hZ (hw _ (List.mem_of_getElem? (i := 18) rfl)) (hw _ (List.mem_of_getElem? (i := 6) rfl)) (by decide) (by decide)) q19a q19c (g := (mkF m 44 #[.val (.int p0), .val (.int (4 : Int32)), .val (.ref a_DOUBLE), .val (.int (1 : Int32)), .val (.int (1 : Int32))] [(.ref a_DOUBLE)])) rfl (by rw [hml]; rfl) (Steps.refl _) (argsL := []) (rest := []) (lenOf own_pd2 rfl) rfl (by show 2 * 0 + _ ≤ _; exact Nat.le_of_eq rfl) (hb hby at_44) (fun _ _ => ⟨rfl, eq18, (by decide : 0 + 0 ≤ _), (by decide : 0 + 0 ≤ _)⟩)
    dsimp only [Pt.U, Pt.locs, Pt.cells, Pt.slots] at X19 l19 y19 z19 st19 hQ19
    subst l19 y19 z19
    obtain ⟨hv19, hr19⟩ := hQ19
    rw [show own_ord a_DOUBLE a_POINT a_CIRCLE a_POLYGON = (1 : Int32) from by unfold own_ord own_geo; rw [if_neg (Fld.ne F_DOUBLE_ordinal F_POINT_ordinal (by decide)), if_neg (Fld.ne F_DOUBLE_ordinal F_CIRCLE_ordinal (by decide)), if_neg (Fld.ne F_DOUBLE_ordinal F_POLYGON_ordinal (by decide))]; rfl] at hv19
    have hQ19 := And.intro hv19 hr19
    obtain ⟨rfl, Nq19, eq19⟩ := hQ19
    have N19 := Fr.app N18 Nq19
    refine own_tr st19 ?_
    show own_Gl _ _ _ _ _ _ _ _ (T19.setTop (mkF m 47 #[.val (.int p0), .val (.int (4 : Int32)), .val (.ref a_DOUBLE), .val (.int (1 : Int32)), .val (.int (1 : Int32))] [(.int (1 : Int32))]))
    refine own_st (A' := T19.setTop (mkF m 51 #[.val (.int p0), .val (.int (4 : Int32)), .val (.ref a_DOUBLE), .val (.int (1 : Int32)), .val (.int (1 : Int32))] [(.ref a_DOUBLE)])) (fun tg kt => ?_) ?_
    · show Steps p.tables e below (T19.setTop (mkF m 47 #[.val (.int p0), .val (.int (4 : Int32)), .val (.ref a_DOUBLE), .val (.int (1 : Int32)), .val (.int (1 : Int32))] [(.int (1 : Int32))])) _
      refine XS.ifNo X19.here hx rfl (hb hby at_47) rfl ((if0 _ _).trans (feq ((by decide) : ¬ ((1 : Int32) = (0 : Int32)))).1) ?_
      show Steps p.tables e below (T19.setTop (mkF m 50 #[.val (.int p0), .val (.int (4 : Int32)), .val (.ref a_DOUBLE), .val (.int (1 : Int32)), .val (.int (1 : Int32))] [])) _
      refine XS.aloadN X19.here hx rfl (hb hby at_50) rfl rfl ?_
      exact kt
    obtain ⟨cq20, kq20, q20a, q20b, q20c⟩ := isOf hZ eq19 E_DOUBLE
    obtain ⟨_, _, ⟨T20, L20, k20, n20⟩, -, X20, ⟨Lc20, hQ20, l20, y20, z20⟩, st20⟩ := X19.virtualBack hx (y := (⟨"com/example/gate_to_tables/gatetotables/adql/catalog/Datatype", "isGeometry", "()Z"⟩ : MethodName)) (z := (⟨"com/example/gate_to_tables/gatetotables/adql/catalog/Datatype", "isGeometry", "()Z"⟩ : MethodName)) hown (mvT hZ (hw _ (List.mem_of_getElem? (i := 30) rfl))) (mvT hZ (hw _ (List.mem_of_getElem? (i := 20) rfl))) (notFace_of_selects (args := #[]) (mvT hZ (hw _ (List.mem_of_getElem? (i := 22) rfl)))) (mvT hZ (hw _ (List.mem_of_getElem? (i := 22) rfl))) (mvT hZ (hw _ (List.mem_of_getElem? (i := 21) rfl))) (by decide) (backOf (W := 0) (rm4 l Z a0 hw [] a_DOUBLE a_POINT a_CIRCLE a_POLYGON h0 n0 Z0 S_POINT S_CIRCLE S_POLYGON) hZ (hw _ (List.mem_of_getElem? (i := 23) rfl)) (hw _ (List.mem_of_getElem? (i := 6) rfl)) (by decide) (by decide)) q20a q20c (g := (mkF m 51 #[.val (.int p0), .val (.int (4 : Int32)), .val (.ref a_DOUBLE), .val (.int (1 : Int32)), .val (.int (1 : Int32))] [(.ref a_DOUBLE)])) rfl (by rw [hml]; rfl) (Steps.refl _) (argsL := []) (rest := []) (lenOf own_pd2 rfl) rfl (by show 2 * 0 + _ ≤ _; exact Nat.le_of_eq rfl) (hb hby at_51) (fun _ _ => ⟨rfl, eq19, (by decide : 0 + 0 ≤ _), (by decide : 0 + 0 ≤ _)⟩)
    dsimp only [Pt.U, Pt.locs, Pt.cells, Pt.slots] at X20 l20 y20 z20 st20 hQ20
    subst l20 y20 z20
    obtain ⟨hv20, hr20⟩ := hQ20
    rw [show own_geo a_DOUBLE a_POINT a_CIRCLE a_POLYGON = (0 : Int32) from by unfold own_geo; rw [if_neg (Fld.ne F_DOUBLE_ordinal F_POINT_ordinal (by decide)), if_neg (Fld.ne F_DOUBLE_ordinal F_CIRCLE_ordinal (by decide)), if_neg (Fld.ne F_DOUBLE_ordinal F_POLYGON_ordinal (by decide))]] at hv20
    have hQ20 := And.intro hv20 hr20
    obtain ⟨rfl, Nq20, eq20⟩ := hQ20
    have N20 := Fr.app N19 Nq20
    refine own_tr st20 ?_
    show own_Gl _ _ _ _ _ _ _ _ (T20.setTop (mkF m 54 #[.val (.int p0), .val (.int (4 : Int32)), .val (.ref a_DOUBLE), .val (.int (1 : Int32)), .val (.int (1 : Int32))] [(.int (0 : Int32))]))
    refine own_st (A' := T20.setTop (mkF m 62 #[.val (.int p0), .val (.int (4 : Int32)), .val (.ref a_DOUBLE), .val (.int (1 : Int32)), .val (.int (1 : Int32))] [(.int (1 : Int32))])) (fun tg kt => ?_) ?_
    · show Steps p.tables e below (T20.setTop (mkF m 54 #[.val (.int p0), .val (.int (4 : Int32)), .val (.ref a_DOUBLE), .val (.int (1 : Int32)), .val (.int (1 : Int32))] [(.int (0 : Int32))])) _
      refine XS.ifNo X20.here hx rfl (hb hby at_54) rfl ((if0 _ _).trans (teq ((by decide) : (0 : Int32) = (0 : Int32))).2) ?_
      show Steps p.tables e below (T20.setTop (mkF m 57 #[.val (.int p0), .val (.int (4 : Int32)), .val (.ref a_DOUBLE), .val (.int (1 : Int32)), .val (.int (1 : Int32))] [])) _
      refine XS.iconst X20.here hx rfl (hb hby at_57) ?_
      show Steps p.tables e below (T20.setTop (mkF m 58 #[.val (.int p0), .val (.int (4 : Int32)), .val (.ref a_DOUBLE), .val (.int (1 : Int32)), .val (.int (1 : Int32))] [(.int (1 : Int32))])) _
      refine XS.goto X20.here hx rfl (pc0 := 58) (pc' := 62) rfl (hb hby at_58) (by decide) (by decide) ?_
      exact kt
    refine own_ret X20 (v := some (.int (1 : Int32))) (fun h => by rw [Bd.returns] at h; cases h) hlk (by decide) (by decide) ?_ (fun fs hr => ?_)
    · show Q0 Z p0 a_SMALLINT a_INTEGER a_BIGINT a_REAL a_DOUBLE a_VARCHAR a_BOOLEAN a_TIMESTAMP a_POINT a_CIRCLE a_POLYGON h0 n0 (some (.int (1 : Int32))) T20.heap _
      rw [eq20]
      exact ⟨rfl, N20⟩
    · show Steps p.tables e below (T20.setTop (mkF m 62 #[.val (.int p0), .val (.int (4 : Int32)), .val (.ref a_DOUBLE), .val (.int (1 : Int32)), .val (.int (1 : Int32))] [(.int (1 : Int32))])) _
      exact retN X20 hx (t := .boolean) Bd.returns (by simp) (hb hby at_62) hr
  · show own_Gl _ _ _ _ _ _ _ _ (s₁.setTop (mkF m 7 #[.val (.int p0), .unset, .unset, .unset, .unset] [(.int (5 : Int32))]))
    refine own_st (A' := s₁.setTop (mkF m 9 #[.val (.int p0), .val (.int (5 : Int32)), .unset, .unset, .unset] [(.int (5 : Int32))])) (fun tg kt => ?_) ?_
    · show Steps p.tables e below (s₁.setTop (mkF m 7 #[.val (.int p0), .unset, .unset, .unset, .unset] [(.int (5 : Int32))])) _
      refine XS.istoreN X0.here hx rfl (hb hby at_7) rfl (l' := #[.val (.int p0), .val (.int (5 : Int32)), .unset, .unset, .unset]) rfl ?_
      show Steps p.tables e below (s₁.setTop (mkF m 8 #[.val (.int p0), .val (.int (5 : Int32)), .unset, .unset, .unset] [])) _
      refine XS.iloadN X0.here hx rfl (hb hby at_8) rfl ?_
      exact kt
    obtain ⟨_, _, ⟨T21, L21, k21, n21⟩, -, X21, ⟨Lc21, hQ21, l21, y21, z21⟩, st21⟩ := Jvm.LawKit.callS X0 hx (y := (⟨"com/example/gate_to_tables/gatetotables/adql/catalog/DatatypeIsNumericPinLaw", "pick", "(I)Lcom/example/gate_to_tables/gatetotables/adql/catalog/Datatype;"⟩ : MethodName)) hown (mvT hZ (hw _ (List.mem_of_getElem? (i := 1) rfl))) (mvT hZ (hw _ (List.mem_of_getElem? (i := 2) rfl))) (mvT hZ (hw _ (List.mem_of_getElem? (i := 3) rfl))) (mvT hZ (hw _ (List.mem_of_getElem? (i := 4) rfl))) (by decide) (backOf (W := 0) (rm1 l Z a0 hw [] (5 : Int32) a_SMALLINT a_INTEGER a_BIGINT a_REAL a_DOUBLE a_VARCHAR a_BOOLEAN a_TIMESTAMP a_POINT a_CIRCLE a_POLYGON h0 n0 Z0 S_SMALLINT S_INTEGER S_BIGINT S_REAL S_DOUBLE S_VARCHAR S_BOOLEAN S_TIMESTAMP S_POINT S_CIRCLE S_POLYGON) hZ (hw _ (List.mem_of_getElem? (i := 4) rfl)) (hw _ (List.mem_of_getElem? (i := 3) rfl)) (by decide) (by decide)) (g := (mkF m 9 #[.val (.int p0), .val (.int (5 : Int32)), .unset, .unset, .unset] [(.int (5 : Int32))])) rfl (by rw [hml]; rfl) (argsL := [(.int (5 : Int32))]) (rest := []) (lenOf own_pd3 rfl) rfl (by show 2 * 0 + _ ≤ _; exact Nat.le_of_eq rfl) (hb hby at_9) (fun _ _ => ⟨rfl, e0, (by decide : 0 + 0 ≤ _), (by decide : 0 + 0 ≤ _)⟩)
    dsimp only [Pt.U, Pt.locs, Pt.cells, Pt.slots] at X21 l21 y21 z21 st21 hQ21
    subst l21 y21 z21
    obtain ⟨hv21, hr21⟩ := hQ21
    rw [show own_pick1 (5 : Int32) a_SMALLINT a_INTEGER a_BIGINT a_REAL a_DOUBLE a_VARCHAR a_BOOLEAN a_TIMESTAMP a_POINT a_CIRCLE a_POLYGON = a_VARCHAR from rfl] at hv21
    have hQ21 := And.intro hv21 hr21
    obtain ⟨rfl, Nq21, eq21⟩ := hQ21
    have N21 := Fr.app N0 Nq21
    refine own_st st21 ?_
    show own_Gl _ _ _ _ _ _ _ _ (T21.setTop (mkF m 12 #[.val (.int p0), .val (.int (5 : Int32)), .unset, .unset, .unset] [(.ref a_VARCHAR)]))
    refine own_st (A' := T21.setTop (mkF m 25 #[.val (.int p0), .val (.int (5 : Int32)), .val (.ref a_VARCHAR), .val (.int (0 : Int32)), .unset] [(.ref a_VARCHAR)])) (fun tg kt => ?_) ?_
    · show Steps p.tables e below (T21.setTop (mkF m 12 #[.val (.int p0), .val (.int (5 : Int32)), .unset, .unset, .unset] [(.ref a_VARCHAR)])) _
      refine XS.astoreN X21.here hx rfl (hb hby at_12) rfl rfl (l' := #[.val (.int p0), .val (.int (5 : Int32)), .val (.ref a_VARCHAR), .unset, .unset]) rfl ?_
      show Steps p.tables e below (T21.setTop (mkF m 13 #[.val (.int p0), .val (.int (5 : Int32)), .val (.ref a_VARCHAR), .unset, .unset] [])) _
      refine XS.iloadN X21.here hx rfl (hb hby at_13) rfl ?_
      show Steps p.tables e below (T21.setTop (mkF m 14 #[.val (.int p0), .val (.int (5 : Int32)), .val (.ref a_VARCHAR), .unset, .unset] [(.int (5 : Int32))])) _
      refine XS.iconst X21.here hx rfl (hb hby at_14) ?_
      show Steps p.tables e below (T21.setTop (mkF m 15 #[.val (.int p0), .val (.int (5 : Int32)), .val (.ref a_VARCHAR), .unset, .unset] [(.int (4 : Int32)), (.int (5 : Int32))])) _
      refine XS.icmpYes X21.here hx rfl (pc0 := 15) (pc' := 22) rfl (hb hby at_15) rfl (tlt ((by decide) : (4 : Int32) < (5 : Int32))).2.2.1 (by decide) (by decide) ?_
      show Steps p.tables e below (T21.setTop (mkF m 22 #[.val (.int p0), .val (.int (5 : Int32)), .val (.ref a_VARCHAR), .unset, .unset] [])) _
      refine XS.iconst X21.here hx rfl (hb hby at_22) ?_
      show Steps p.tables e below (T21.setTop (mkF m 23 #[.val (.int p0), .val (.int (5 : Int32)), .val (.ref a_VARCHAR), .unset, .unset] [(.int (0 : Int32))])) _
      refine XS.istoreN X21.here hx rfl (hb hby at_23) rfl (l' := #[.val (.int p0), .val (.int (5 : Int32)), .val (.ref a_VARCHAR), .val (.int (0 : Int32)), .unset]) rfl ?_
      show Steps p.tables e below (T21.setTop (mkF m 24 #[.val (.int p0), .val (.int (5 : Int32)), .val (.ref a_VARCHAR), .val (.int (0 : Int32)), .unset] [])) _
      refine XS.aloadN X21.here hx rfl (hb hby at_24) rfl rfl ?_
      exact kt
    obtain ⟨cq22, kq22, q22a, q22b, q22c⟩ := isOf hZ eq21 E_VARCHAR
    obtain ⟨_, _, ⟨T22, L22, k22, n22⟩, -, X22, ⟨Lc22, hQ22, l22, y22, z22⟩, st22⟩ := X21.virtualBack hx (y := (⟨"com/example/gate_to_tables/gatetotables/adql/catalog/Datatype", "isNumeric", "()Z"⟩ : MethodName)) (z := (⟨"com/example/gate_to_tables/gatetotables/adql/catalog/Datatype", "isNumeric", "()Z"⟩ : MethodName)) hown (mvT hZ (hw _ (List.mem_of_getElem? (i := 8) rfl))) (mvT hZ (hw _ (List.mem_of_getElem? (i := 9) rfl))) (notFace_of_selects (args := #[]) (mvT hZ (hw _ (List.mem_of_getElem? (i := 11) rfl)))) (mvT hZ (hw _ (List.mem_of_getElem? (i := 11) rfl))) (mvT hZ (hw _ (List.mem_of_getElem? (i := 10) rfl))) (by decide) (backOf (W := 0) (rm2 l Z a0 hw [] a_VARCHAR a_SMALLINT a_INTEGER a_BIGINT a_REAL a_DOUBLE h0 n0 Z0 S_SMALLINT S_INTEGER S_BIGINT S_REAL S_DOUBLE) hZ (hw _ (List.mem_of_getElem? (i := 12) rfl)) (hw _ (List.mem_of_getElem? (i := 6) rfl)) (by decide) (by decide)) q22a q22c (g := (mkF m 25 #[.val (.int p0), .val (.int (5 : Int32)), .val (.ref a_VARCHAR), .val (.int (0 : Int32)), .unset] [(.ref a_VARCHAR)])) rfl (by rw [hml]; rfl) (Steps.refl _) (argsL := []) (rest := []) (lenOf own_pd2 rfl) rfl (by show 2 * 0 + _ ≤ _; exact Nat.le_of_eq rfl) (hb hby at_25) (fun _ _ => ⟨rfl, eq21, (by decide : 0 + 0 ≤ _), (by decide : 0 + 0 ≤ _)⟩)
    dsimp only [Pt.U, Pt.locs, Pt.cells, Pt.slots] at X22 l22 y22 z22 st22 hQ22
    subst l22 y22 z22
    obtain ⟨hv22, hr22⟩ := hQ22
    rw [show own_num a_VARCHAR a_SMALLINT a_INTEGER a_BIGINT a_REAL a_DOUBLE = (0 : Int32) from by unfold own_num; rw [if_neg (Fld.ne F_VARCHAR_ordinal F_SMALLINT_ordinal (by decide)), if_neg (Fld.ne F_VARCHAR_ordinal F_INTEGER_ordinal (by decide)), if_neg (Fld.ne F_VARCHAR_ordinal F_BIGINT_ordinal (by decide)), if_neg (Fld.ne F_VARCHAR_ordinal F_REAL_ordinal (by decide)), if_neg (Fld.ne F_VARCHAR_ordinal F_DOUBLE_ordinal (by decide))]] at hv22
    have hQ22 := And.intro hv22 hr22
    obtain ⟨rfl, Nq22, eq22⟩ := hQ22
    have N22 := Fr.app N21 Nq22
    refine own_tr st22 ?_
    show own_Gl _ _ _ _ _ _ _ _ (T22.setTop (mkF m 28 #[.val (.int p0), .val (.int (5 : Int32)), .val (.ref a_VARCHAR), .val (.int (0 : Int32)), .unset] [(.int (0 : Int32))]))
    refine own_st (A' := T22.setTop (mkF m 64 #[.val (.int p0), .val (.int (5 : Int32)), .val (.ref a_VARCHAR), .val (.int (0 : Int32)), .val (.int (0 : Int32))] [(.int (1 : Int32))])) (fun tg kt => ?_) ?_
    · show Steps p.tables e below (T22.setTop (mkF m 28 #[.val (.int p0), .val (.int (5 : Int32)), .val (.ref a_VARCHAR), .val (.int (0 : Int32)), .unset] [(.int (0 : Int32))])) _
      refine XS.istore X22.here hx rfl (hb hby at_28) rfl (l' := #[.val (.int p0), .val (.int (5 : Int32)), .val (.ref a_VARCHAR), .val (.int (0 : Int32)), .val (.int (0 : Int32))]) rfl ?_
      show Steps p.tables e below (T22.setTop (mkF m 30 #[.val (.int p0), .val (.int (5 : Int32)), .val (.ref a_VARCHAR), .val (.int (0 : Int32)), .val (.int (0 : Int32))] [])) _
      refine XS.iload X22.here hx rfl (hb hby at_30) rfl ?_
      show Steps p.tables e below (T22.setTop (mkF m 32 #[.val (.int p0), .val (.int (5 : Int32)), .val (.ref a_VARCHAR), .val (.int (0 : Int32)), .val (.int (0 : Int32))] [(.int (0 : Int32))])) _
      refine XS.iloadN X22.here hx rfl (hb hby at_32) rfl ?_
      show Steps p.tables e below (T22.setTop (mkF m 33 #[.val (.int p0), .val (.int (5 : Int32)), .val (.ref a_VARCHAR), .val (.int (0 : Int32)), .val (.int (0 : Int32))] [(.int (0 : Int32)), (.int (0 : Int32))])) _
      refine XS.icmpYes X22.here hx rfl (pc0 := 33) (pc' := 38) rfl (hb hby at_33) rfl (teq ((by decide) : (0 : Int32) = (0 : Int32))).1 (by decide) (by decide) ?_
      show Steps p.tables e below (T22.setTop (mkF m 38 #[.val (.int p0), .val (.int (5 : Int32)), .val (.ref a_VARCHAR), .val (.int (0 : Int32)), .val (.int (0 : Int32))] [])) _
      refine XS.iload X22.here hx rfl (hb hby at_38) rfl ?_
      show Steps p.tables e below (T22.setTop (mkF m 40 #[.val (.int p0), .val (.int (5 : Int32)), .val (.ref a_VARCHAR), .val (.int (0 : Int32)), .val (.int (0 : Int32))] [(.int (0 : Int32))])) _
      refine XS.ifYes X22.here hx rfl (pc0 := 40) (pc' := 63) rfl (hb hby at_40) rfl ((if0 _ _).trans (teq ((by decide) : (0 : Int32) = (0 : Int32))).1) (by decide) (by decide) ?_
      show Steps p.tables e below (T22.setTop (mkF m 63 #[.val (.int p0), .val (.int (5 : Int32)), .val (.ref a_VARCHAR), .val (.int (0 : Int32)), .val (.int (0 : Int32))] [])) _
      refine XS.iconst X22.here hx rfl (hb hby at_63) ?_
      exact kt
    refine own_ret X22 (v := some (.int (1 : Int32))) (fun h => by rw [Bd.returns] at h; cases h) hlk (by decide) (by decide) ?_ (fun fs hr => ?_)
    · show Q0 Z p0 a_SMALLINT a_INTEGER a_BIGINT a_REAL a_DOUBLE a_VARCHAR a_BOOLEAN a_TIMESTAMP a_POINT a_CIRCLE a_POLYGON h0 n0 (some (.int (1 : Int32))) T22.heap _
      rw [eq22]
      exact ⟨rfl, N22⟩
    · show Steps p.tables e below (T22.setTop (mkF m 64 #[.val (.int p0), .val (.int (5 : Int32)), .val (.ref a_VARCHAR), .val (.int (0 : Int32)), .val (.int (0 : Int32))] [(.int (1 : Int32))])) _
      exact retN X22 hx (t := .boolean) Bd.returns (by simp) (hb hby at_64) hr
  · show own_Gl _ _ _ _ _ _ _ _ (s₁.setTop (mkF m 7 #[.val (.int p0), .unset, .unset, .unset, .unset] [(.int (6 : Int32))]))
    refine own_st (A' := s₁.setTop (mkF m 9 #[.val (.int p0), .val (.int (6 : Int32)), .unset, .unset, .unset] [(.int (6 : Int32))])) (fun tg kt => ?_) ?_
    · show Steps p.tables e below (s₁.setTop (mkF m 7 #[.val (.int p0), .unset, .unset, .unset, .unset] [(.int (6 : Int32))])) _
      refine XS.istoreN X0.here hx rfl (hb hby at_7) rfl (l' := #[.val (.int p0), .val (.int (6 : Int32)), .unset, .unset, .unset]) rfl ?_
      show Steps p.tables e below (s₁.setTop (mkF m 8 #[.val (.int p0), .val (.int (6 : Int32)), .unset, .unset, .unset] [])) _
      refine XS.iloadN X0.here hx rfl (hb hby at_8) rfl ?_
      exact kt
    obtain ⟨_, _, ⟨T23, L23, k23, n23⟩, -, X23, ⟨Lc23, hQ23, l23, y23, z23⟩, st23⟩ := Jvm.LawKit.callS X0 hx (y := (⟨"com/example/gate_to_tables/gatetotables/adql/catalog/DatatypeIsNumericPinLaw", "pick", "(I)Lcom/example/gate_to_tables/gatetotables/adql/catalog/Datatype;"⟩ : MethodName)) hown (mvT hZ (hw _ (List.mem_of_getElem? (i := 1) rfl))) (mvT hZ (hw _ (List.mem_of_getElem? (i := 2) rfl))) (mvT hZ (hw _ (List.mem_of_getElem? (i := 3) rfl))) (mvT hZ (hw _ (List.mem_of_getElem? (i := 4) rfl))) (by decide) (backOf (W := 0) (rm1 l Z a0 hw [] (6 : Int32) a_SMALLINT a_INTEGER a_BIGINT a_REAL a_DOUBLE a_VARCHAR a_BOOLEAN a_TIMESTAMP a_POINT a_CIRCLE a_POLYGON h0 n0 Z0 S_SMALLINT S_INTEGER S_BIGINT S_REAL S_DOUBLE S_VARCHAR S_BOOLEAN S_TIMESTAMP S_POINT S_CIRCLE S_POLYGON) hZ (hw _ (List.mem_of_getElem? (i := 4) rfl)) (hw _ (List.mem_of_getElem? (i := 3) rfl)) (by decide) (by decide)) (g := (mkF m 9 #[.val (.int p0), .val (.int (6 : Int32)), .unset, .unset, .unset] [(.int (6 : Int32))])) rfl (by rw [hml]; rfl) (argsL := [(.int (6 : Int32))]) (rest := []) (lenOf own_pd3 rfl) rfl (by show 2 * 0 + _ ≤ _; exact Nat.le_of_eq rfl) (hb hby at_9) (fun _ _ => ⟨rfl, e0, (by decide : 0 + 0 ≤ _), (by decide : 0 + 0 ≤ _)⟩)
    dsimp only [Pt.U, Pt.locs, Pt.cells, Pt.slots] at X23 l23 y23 z23 st23 hQ23
    subst l23 y23 z23
    obtain ⟨hv23, hr23⟩ := hQ23
    rw [show own_pick1 (6 : Int32) a_SMALLINT a_INTEGER a_BIGINT a_REAL a_DOUBLE a_VARCHAR a_BOOLEAN a_TIMESTAMP a_POINT a_CIRCLE a_POLYGON = a_BOOLEAN from rfl] at hv23
    have hQ23 := And.intro hv23 hr23
    obtain ⟨rfl, Nq23, eq23⟩ := hQ23
    have N23 := Fr.app N0 Nq23
    refine own_st st23 ?_
    show own_Gl _ _ _ _ _ _ _ _ (T23.setTop (mkF m 12 #[.val (.int p0), .val (.int (6 : Int32)), .unset, .unset, .unset] [(.ref a_BOOLEAN)]))
    refine own_st (A' := T23.setTop (mkF m 25 #[.val (.int p0), .val (.int (6 : Int32)), .val (.ref a_BOOLEAN), .val (.int (0 : Int32)), .unset] [(.ref a_BOOLEAN)])) (fun tg kt => ?_) ?_
    · show Steps p.tables e below (T23.setTop (mkF m 12 #[.val (.int p0), .val (.int (6 : Int32)), .unset, .unset, .unset] [(.ref a_BOOLEAN)])) _
      refine XS.astoreN X23.here hx rfl (hb hby at_12) rfl rfl (l' := #[.val (.int p0), .val (.int (6 : Int32)), .val (.ref a_BOOLEAN), .unset, .unset]) rfl ?_
      show Steps p.tables e below (T23.setTop (mkF m 13 #[.val (.int p0), .val (.int (6 : Int32)), .val (.ref a_BOOLEAN), .unset, .unset] [])) _
      refine XS.iloadN X23.here hx rfl (hb hby at_13) rfl ?_
      show Steps p.tables e below (T23.setTop (mkF m 14 #[.val (.int p0), .val (.int (6 : Int32)), .val (.ref a_BOOLEAN), .unset, .unset] [(.int (6 : Int32))])) _
      refine XS.iconst X23.here hx rfl (hb hby at_14) ?_
      show Steps p.tables e below (T23.setTop (mkF m 15 #[.val (.int p0), .val (.int (6 : Int32)), .val (.ref a_BOOLEAN), .unset, .unset] [(.int (4 : Int32)), (.int (6 : Int32))])) _
      refine XS.icmpYes X23.here hx rfl (pc0 := 15) (pc' := 22) rfl (hb hby at_15) rfl (tlt ((by decide) : (4 : Int32) < (6 : Int32))).2.2.1 (by decide) (by decide) ?_
      show Steps p.tables e below (T23.setTop (mkF m 22 #[.val (.int p0), .val (.int (6 : Int32)), .val (.ref a_BOOLEAN), .unset, .unset] [])) _
      refine XS.iconst X23.here hx rfl (hb hby at_22) ?_
      show Steps p.tables e below (T23.setTop (mkF m 23 #[.val (.int p0), .val (.int (6 : Int32)), .val (.ref a_BOOLEAN), .unset, .unset] [(.int (0 : Int32))])) _
      refine XS.istoreN X23.here hx rfl (hb hby at_23) rfl (l' := #[.val (.int p0), .val (.int (6 : Int32)), .val (.ref a_BOOLEAN), .val (.int (0 : Int32)), .unset]) rfl ?_
      show Steps p.tables e below (T23.setTop (mkF m 24 #[.val (.int p0), .val (.int (6 : Int32)), .val (.ref a_BOOLEAN), .val (.int (0 : Int32)), .unset] [])) _
      refine XS.aloadN X23.here hx rfl (hb hby at_24) rfl rfl ?_
      exact kt
    obtain ⟨cq24, kq24, q24a, q24b, q24c⟩ := isOf hZ eq23 E_BOOLEAN
    obtain ⟨_, _, ⟨T24, L24, k24, n24⟩, -, X24, ⟨Lc24, hQ24, l24, y24, z24⟩, st24⟩ := X23.virtualBack hx (y := (⟨"com/example/gate_to_tables/gatetotables/adql/catalog/Datatype", "isNumeric", "()Z"⟩ : MethodName)) (z := (⟨"com/example/gate_to_tables/gatetotables/adql/catalog/Datatype", "isNumeric", "()Z"⟩ : MethodName)) hown (mvT hZ (hw _ (List.mem_of_getElem? (i := 8) rfl))) (mvT hZ (hw _ (List.mem_of_getElem? (i := 9) rfl))) (notFace_of_selects (args := #[]) (mvT hZ (hw _ (List.mem_of_getElem? (i := 11) rfl)))) (mvT hZ (hw _ (List.mem_of_getElem? (i := 11) rfl))) (mvT hZ (hw _ (List.mem_of_getElem? (i := 10) rfl))) (by decide) (backOf (W := 0) (rm2 l Z a0 hw [] a_BOOLEAN a_SMALLINT a_INTEGER a_BIGINT a_REAL a_DOUBLE h0 n0 Z0 S_SMALLINT S_INTEGER S_BIGINT S_REAL S_DOUBLE) hZ (hw _ (List.mem_of_getElem? (i := 12) rfl)) (hw _ (List.mem_of_getElem? (i := 6) rfl)) (by decide) (by decide)) q24a q24c (g := (mkF m 25 #[.val (.int p0), .val (.int (6 : Int32)), .val (.ref a_BOOLEAN), .val (.int (0 : Int32)), .unset] [(.ref a_BOOLEAN)])) rfl (by rw [hml]; rfl) (Steps.refl _) (argsL := []) (rest := []) (lenOf own_pd2 rfl) rfl (by show 2 * 0 + _ ≤ _; exact Nat.le_of_eq rfl) (hb hby at_25) (fun _ _ => ⟨rfl, eq23, (by decide : 0 + 0 ≤ _), (by decide : 0 + 0 ≤ _)⟩)
    dsimp only [Pt.U, Pt.locs, Pt.cells, Pt.slots] at X24 l24 y24 z24 st24 hQ24
    subst l24 y24 z24
    obtain ⟨hv24, hr24⟩ := hQ24
    rw [show own_num a_BOOLEAN a_SMALLINT a_INTEGER a_BIGINT a_REAL a_DOUBLE = (0 : Int32) from by unfold own_num; rw [if_neg (Fld.ne F_BOOLEAN_ordinal F_SMALLINT_ordinal (by decide)), if_neg (Fld.ne F_BOOLEAN_ordinal F_INTEGER_ordinal (by decide)), if_neg (Fld.ne F_BOOLEAN_ordinal F_BIGINT_ordinal (by decide)), if_neg (Fld.ne F_BOOLEAN_ordinal F_REAL_ordinal (by decide)), if_neg (Fld.ne F_BOOLEAN_ordinal F_DOUBLE_ordinal (by decide))]] at hv24
    have hQ24 := And.intro hv24 hr24
    obtain ⟨rfl, Nq24, eq24⟩ := hQ24
    have N24 := Fr.app N23 Nq24
    refine own_tr st24 ?_
    show own_Gl _ _ _ _ _ _ _ _ (T24.setTop (mkF m 28 #[.val (.int p0), .val (.int (6 : Int32)), .val (.ref a_BOOLEAN), .val (.int (0 : Int32)), .unset] [(.int (0 : Int32))]))
    refine own_st (A' := T24.setTop (mkF m 64 #[.val (.int p0), .val (.int (6 : Int32)), .val (.ref a_BOOLEAN), .val (.int (0 : Int32)), .val (.int (0 : Int32))] [(.int (1 : Int32))])) (fun tg kt => ?_) ?_
    · show Steps p.tables e below (T24.setTop (mkF m 28 #[.val (.int p0), .val (.int (6 : Int32)), .val (.ref a_BOOLEAN), .val (.int (0 : Int32)), .unset] [(.int (0 : Int32))])) _
      refine XS.istore X24.here hx rfl (hb hby at_28) rfl (l' := #[.val (.int p0), .val (.int (6 : Int32)), .val (.ref a_BOOLEAN), .val (.int (0 : Int32)), .val (.int (0 : Int32))]) rfl ?_
      show Steps p.tables e below (T24.setTop (mkF m 30 #[.val (.int p0), .val (.int (6 : Int32)), .val (.ref a_BOOLEAN), .val (.int (0 : Int32)), .val (.int (0 : Int32))] [])) _
      refine XS.iload X24.here hx rfl (hb hby at_30) rfl ?_
      show Steps p.tables e below (T24.setTop (mkF m 32 #[.val (.int p0), .val (.int (6 : Int32)), .val (.ref a_BOOLEAN), .val (.int (0 : Int32)), .val (.int (0 : Int32))] [(.int (0 : Int32))])) _
      refine XS.iloadN X24.here hx rfl (hb hby at_32) rfl ?_
      show Steps p.tables e below (T24.setTop (mkF m 33 #[.val (.int p0), .val (.int (6 : Int32)), .val (.ref a_BOOLEAN), .val (.int (0 : Int32)), .val (.int (0 : Int32))] [(.int (0 : Int32)), (.int (0 : Int32))])) _
      refine XS.icmpYes X24.here hx rfl (pc0 := 33) (pc' := 38) rfl (hb hby at_33) rfl (teq ((by decide) : (0 : Int32) = (0 : Int32))).1 (by decide) (by decide) ?_
      show Steps p.tables e below (T24.setTop (mkF m 38 #[.val (.int p0), .val (.int (6 : Int32)), .val (.ref a_BOOLEAN), .val (.int (0 : Int32)), .val (.int (0 : Int32))] [])) _
      refine XS.iload X24.here hx rfl (hb hby at_38) rfl ?_
      show Steps p.tables e below (T24.setTop (mkF m 40 #[.val (.int p0), .val (.int (6 : Int32)), .val (.ref a_BOOLEAN), .val (.int (0 : Int32)), .val (.int (0 : Int32))] [(.int (0 : Int32))])) _
      refine XS.ifYes X24.here hx rfl (pc0 := 40) (pc' := 63) rfl (hb hby at_40) rfl ((if0 _ _).trans (teq ((by decide) : (0 : Int32) = (0 : Int32))).1) (by decide) (by decide) ?_
      show Steps p.tables e below (T24.setTop (mkF m 63 #[.val (.int p0), .val (.int (6 : Int32)), .val (.ref a_BOOLEAN), .val (.int (0 : Int32)), .val (.int (0 : Int32))] [])) _
      refine XS.iconst X24.here hx rfl (hb hby at_63) ?_
      exact kt
    refine own_ret X24 (v := some (.int (1 : Int32))) (fun h => by rw [Bd.returns] at h; cases h) hlk (by decide) (by decide) ?_ (fun fs hr => ?_)
    · show Q0 Z p0 a_SMALLINT a_INTEGER a_BIGINT a_REAL a_DOUBLE a_VARCHAR a_BOOLEAN a_TIMESTAMP a_POINT a_CIRCLE a_POLYGON h0 n0 (some (.int (1 : Int32))) T24.heap _
      rw [eq24]
      exact ⟨rfl, N24⟩
    · show Steps p.tables e below (T24.setTop (mkF m 64 #[.val (.int p0), .val (.int (6 : Int32)), .val (.ref a_BOOLEAN), .val (.int (0 : Int32)), .val (.int (0 : Int32))] [(.int (1 : Int32))])) _
      exact retN X24 hx (t := .boolean) Bd.returns (by simp) (hb hby at_64) hr
  · show own_Gl _ _ _ _ _ _ _ _ (s₁.setTop (mkF m 7 #[.val (.int p0), .unset, .unset, .unset, .unset] [(.int (7 : Int32))]))
    refine own_st (A' := s₁.setTop (mkF m 9 #[.val (.int p0), .val (.int (7 : Int32)), .unset, .unset, .unset] [(.int (7 : Int32))])) (fun tg kt => ?_) ?_
    · show Steps p.tables e below (s₁.setTop (mkF m 7 #[.val (.int p0), .unset, .unset, .unset, .unset] [(.int (7 : Int32))])) _
      refine XS.istoreN X0.here hx rfl (hb hby at_7) rfl (l' := #[.val (.int p0), .val (.int (7 : Int32)), .unset, .unset, .unset]) rfl ?_
      show Steps p.tables e below (s₁.setTop (mkF m 8 #[.val (.int p0), .val (.int (7 : Int32)), .unset, .unset, .unset] [])) _
      refine XS.iloadN X0.here hx rfl (hb hby at_8) rfl ?_
      exact kt
    obtain ⟨_, _, ⟨T25, L25, k25, n25⟩, -, X25, ⟨Lc25, hQ25, l25, y25, z25⟩, st25⟩ := Jvm.LawKit.callS X0 hx (y := (⟨"com/example/gate_to_tables/gatetotables/adql/catalog/DatatypeIsNumericPinLaw", "pick", "(I)Lcom/example/gate_to_tables/gatetotables/adql/catalog/Datatype;"⟩ : MethodName)) hown (mvT hZ (hw _ (List.mem_of_getElem? (i := 1) rfl))) (mvT hZ (hw _ (List.mem_of_getElem? (i := 2) rfl))) (mvT hZ (hw _ (List.mem_of_getElem? (i := 3) rfl))) (mvT hZ (hw _ (List.mem_of_getElem? (i := 4) rfl))) (by decide) (backOf (W := 0) (rm1 l Z a0 hw [] (7 : Int32) a_SMALLINT a_INTEGER a_BIGINT a_REAL a_DOUBLE a_VARCHAR a_BOOLEAN a_TIMESTAMP a_POINT a_CIRCLE a_POLYGON h0 n0 Z0 S_SMALLINT S_INTEGER S_BIGINT S_REAL S_DOUBLE S_VARCHAR S_BOOLEAN S_TIMESTAMP S_POINT S_CIRCLE S_POLYGON) hZ (hw _ (List.mem_of_getElem? (i := 4) rfl)) (hw _ (List.mem_of_getElem? (i := 3) rfl)) (by decide) (by decide)) (g := (mkF m 9 #[.val (.int p0), .val (.int (7 : Int32)), .unset, .unset, .unset] [(.int (7 : Int32))])) rfl (by rw [hml]; rfl) (argsL := [(.int (7 : Int32))]) (rest := []) (lenOf own_pd3 rfl) rfl (by show 2 * 0 + _ ≤ _; exact Nat.le_of_eq rfl) (hb hby at_9) (fun _ _ => ⟨rfl, e0, (by decide : 0 + 0 ≤ _), (by decide : 0 + 0 ≤ _)⟩)
    dsimp only [Pt.U, Pt.locs, Pt.cells, Pt.slots] at X25 l25 y25 z25 st25 hQ25
    subst l25 y25 z25
    obtain ⟨hv25, hr25⟩ := hQ25
    rw [show own_pick1 (7 : Int32) a_SMALLINT a_INTEGER a_BIGINT a_REAL a_DOUBLE a_VARCHAR a_BOOLEAN a_TIMESTAMP a_POINT a_CIRCLE a_POLYGON = a_TIMESTAMP from rfl] at hv25
    have hQ25 := And.intro hv25 hr25
    obtain ⟨rfl, Nq25, eq25⟩ := hQ25
    have N25 := Fr.app N0 Nq25
    refine own_st st25 ?_
    show own_Gl _ _ _ _ _ _ _ _ (T25.setTop (mkF m 12 #[.val (.int p0), .val (.int (7 : Int32)), .unset, .unset, .unset] [(.ref a_TIMESTAMP)]))
    refine own_st (A' := T25.setTop (mkF m 25 #[.val (.int p0), .val (.int (7 : Int32)), .val (.ref a_TIMESTAMP), .val (.int (0 : Int32)), .unset] [(.ref a_TIMESTAMP)])) (fun tg kt => ?_) ?_
    · show Steps p.tables e below (T25.setTop (mkF m 12 #[.val (.int p0), .val (.int (7 : Int32)), .unset, .unset, .unset] [(.ref a_TIMESTAMP)])) _
      refine XS.astoreN X25.here hx rfl (hb hby at_12) rfl rfl (l' := #[.val (.int p0), .val (.int (7 : Int32)), .val (.ref a_TIMESTAMP), .unset, .unset]) rfl ?_
      show Steps p.tables e below (T25.setTop (mkF m 13 #[.val (.int p0), .val (.int (7 : Int32)), .val (.ref a_TIMESTAMP), .unset, .unset] [])) _
      refine XS.iloadN X25.here hx rfl (hb hby at_13) rfl ?_
      show Steps p.tables e below (T25.setTop (mkF m 14 #[.val (.int p0), .val (.int (7 : Int32)), .val (.ref a_TIMESTAMP), .unset, .unset] [(.int (7 : Int32))])) _
      refine XS.iconst X25.here hx rfl (hb hby at_14) ?_
      show Steps p.tables e below (T25.setTop (mkF m 15 #[.val (.int p0), .val (.int (7 : Int32)), .val (.ref a_TIMESTAMP), .unset, .unset] [(.int (4 : Int32)), (.int (7 : Int32))])) _
      refine XS.icmpYes X25.here hx rfl (pc0 := 15) (pc' := 22) rfl (hb hby at_15) rfl (tlt ((by decide) : (4 : Int32) < (7 : Int32))).2.2.1 (by decide) (by decide) ?_
      show Steps p.tables e below (T25.setTop (mkF m 22 #[.val (.int p0), .val (.int (7 : Int32)), .val (.ref a_TIMESTAMP), .unset, .unset] [])) _
      refine XS.iconst X25.here hx rfl (hb hby at_22) ?_
      show Steps p.tables e below (T25.setTop (mkF m 23 #[.val (.int p0), .val (.int (7 : Int32)), .val (.ref a_TIMESTAMP), .unset, .unset] [(.int (0 : Int32))])) _
      refine XS.istoreN X25.here hx rfl (hb hby at_23) rfl (l' := #[.val (.int p0), .val (.int (7 : Int32)), .val (.ref a_TIMESTAMP), .val (.int (0 : Int32)), .unset]) rfl ?_
      show Steps p.tables e below (T25.setTop (mkF m 24 #[.val (.int p0), .val (.int (7 : Int32)), .val (.ref a_TIMESTAMP), .val (.int (0 : Int32)), .unset] [])) _
      refine XS.aloadN X25.here hx rfl (hb hby at_24) rfl rfl ?_
      exact kt
    obtain ⟨cq26, kq26, q26a, q26b, q26c⟩ := isOf hZ eq25 E_TIMESTAMP
    obtain ⟨_, _, ⟨T26, L26, k26, n26⟩, -, X26, ⟨Lc26, hQ26, l26, y26, z26⟩, st26⟩ := X25.virtualBack hx (y := (⟨"com/example/gate_to_tables/gatetotables/adql/catalog/Datatype", "isNumeric", "()Z"⟩ : MethodName)) (z := (⟨"com/example/gate_to_tables/gatetotables/adql/catalog/Datatype", "isNumeric", "()Z"⟩ : MethodName)) hown (mvT hZ (hw _ (List.mem_of_getElem? (i := 8) rfl))) (mvT hZ (hw _ (List.mem_of_getElem? (i := 9) rfl))) (notFace_of_selects (args := #[]) (mvT hZ (hw _ (List.mem_of_getElem? (i := 11) rfl)))) (mvT hZ (hw _ (List.mem_of_getElem? (i := 11) rfl))) (mvT hZ (hw _ (List.mem_of_getElem? (i := 10) rfl))) (by decide) (backOf (W := 0) (rm2 l Z a0 hw [] a_TIMESTAMP a_SMALLINT a_INTEGER a_BIGINT a_REAL a_DOUBLE h0 n0 Z0 S_SMALLINT S_INTEGER S_BIGINT S_REAL S_DOUBLE) hZ (hw _ (List.mem_of_getElem? (i := 12) rfl)) (hw _ (List.mem_of_getElem? (i := 6) rfl)) (by decide) (by decide)) q26a q26c (g := (mkF m 25 #[.val (.int p0), .val (.int (7 : Int32)), .val (.ref a_TIMESTAMP), .val (.int (0 : Int32)), .unset] [(.ref a_TIMESTAMP)])) rfl (by rw [hml]; rfl) (Steps.refl _) (argsL := []) (rest := []) (lenOf own_pd2 rfl) rfl (by show 2 * 0 + _ ≤ _; exact Nat.le_of_eq rfl) (hb hby at_25) (fun _ _ => ⟨rfl, eq25, (by decide : 0 + 0 ≤ _), (by decide : 0 + 0 ≤ _)⟩)
    dsimp only [Pt.U, Pt.locs, Pt.cells, Pt.slots] at X26 l26 y26 z26 st26 hQ26
    subst l26 y26 z26
    obtain ⟨hv26, hr26⟩ := hQ26
    rw [show own_num a_TIMESTAMP a_SMALLINT a_INTEGER a_BIGINT a_REAL a_DOUBLE = (0 : Int32) from by unfold own_num; rw [if_neg (Fld.ne F_TIMESTAMP_ordinal F_SMALLINT_ordinal (by decide)), if_neg (Fld.ne F_TIMESTAMP_ordinal F_INTEGER_ordinal (by decide)), if_neg (Fld.ne F_TIMESTAMP_ordinal F_BIGINT_ordinal (by decide)), if_neg (Fld.ne F_TIMESTAMP_ordinal F_REAL_ordinal (by decide)), if_neg (Fld.ne F_TIMESTAMP_ordinal F_DOUBLE_ordinal (by decide))]] at hv26
    have hQ26 := And.intro hv26 hr26
    obtain ⟨rfl, Nq26, eq26⟩ := hQ26
    have N26 := Fr.app N25 Nq26
    refine own_tr st26 ?_
    show own_Gl _ _ _ _ _ _ _ _ (T26.setTop (mkF m 28 #[.val (.int p0), .val (.int (7 : Int32)), .val (.ref a_TIMESTAMP), .val (.int (0 : Int32)), .unset] [(.int (0 : Int32))]))
    refine own_st (A' := T26.setTop (mkF m 64 #[.val (.int p0), .val (.int (7 : Int32)), .val (.ref a_TIMESTAMP), .val (.int (0 : Int32)), .val (.int (0 : Int32))] [(.int (1 : Int32))])) (fun tg kt => ?_) ?_
    · show Steps p.tables e below (T26.setTop (mkF m 28 #[.val (.int p0), .val (.int (7 : Int32)), .val (.ref a_TIMESTAMP), .val (.int (0 : Int32)), .unset] [(.int (0 : Int32))])) _
      refine XS.istore X26.here hx rfl (hb hby at_28) rfl (l' := #[.val (.int p0), .val (.int (7 : Int32)), .val (.ref a_TIMESTAMP), .val (.int (0 : Int32)), .val (.int (0 : Int32))]) rfl ?_
      show Steps p.tables e below (T26.setTop (mkF m 30 #[.val (.int p0), .val (.int (7 : Int32)), .val (.ref a_TIMESTAMP), .val (.int (0 : Int32)), .val (.int (0 : Int32))] [])) _
      refine XS.iload X26.here hx rfl (hb hby at_30) rfl ?_
      show Steps p.tables e below (T26.setTop (mkF m 32 #[.val (.int p0), .val (.int (7 : Int32)), .val (.ref a_TIMESTAMP), .val (.int (0 : Int32)), .val (.int (0 : Int32))] [(.int (0 : Int32))])) _
      refine XS.iloadN X26.here hx rfl (hb hby at_32) rfl ?_
      show Steps p.tables e below (T26.setTop (mkF m 33 #[.val (.int p0), .val (.int (7 : Int32)), .val (.ref a_TIMESTAMP), .val (.int (0 : Int32)), .val (.int (0 : Int32))] [(.int (0 : Int32)), (.int (0 : Int32))])) _
      refine XS.icmpYes X26.here hx rfl (pc0 := 33) (pc' := 38) rfl (hb hby at_33) rfl (teq ((by decide) : (0 : Int32) = (0 : Int32))).1 (by decide) (by decide) ?_
      show Steps p.tables e below (T26.setTop (mkF m 38 #[.val (.int p0), .val (.int (7 : Int32)), .val (.ref a_TIMESTAMP), .val (.int (0 : Int32)), .val (.int (0 : Int32))] [])) _
      refine XS.iload X26.here hx rfl (hb hby at_38) rfl ?_
      show Steps p.tables e below (T26.setTop (mkF m 40 #[.val (.int p0), .val (.int (7 : Int32)), .val (.ref a_TIMESTAMP), .val (.int (0 : Int32)), .val (.int (0 : Int32))] [(.int (0 : Int32))])) _
      refine XS.ifYes X26.here hx rfl (pc0 := 40) (pc' := 63) rfl (hb hby at_40) rfl ((if0 _ _).trans (teq ((by decide) : (0 : Int32) = (0 : Int32))).1) (by decide) (by decide) ?_
      show Steps p.tables e below (T26.setTop (mkF m 63 #[.val (.int p0), .val (.int (7 : Int32)), .val (.ref a_TIMESTAMP), .val (.int (0 : Int32)), .val (.int (0 : Int32))] [])) _
      refine XS.iconst X26.here hx rfl (hb hby at_63) ?_
      exact kt
    refine own_ret X26 (v := some (.int (1 : Int32))) (fun h => by rw [Bd.returns] at h; cases h) hlk (by decide) (by decide) ?_ (fun fs hr => ?_)
    · show Q0 Z p0 a_SMALLINT a_INTEGER a_BIGINT a_REAL a_DOUBLE a_VARCHAR a_BOOLEAN a_TIMESTAMP a_POINT a_CIRCLE a_POLYGON h0 n0 (some (.int (1 : Int32))) T26.heap _
      rw [eq26]
      exact ⟨rfl, N26⟩
    · show Steps p.tables e below (T26.setTop (mkF m 64 #[.val (.int p0), .val (.int (7 : Int32)), .val (.ref a_TIMESTAMP), .val (.int (0 : Int32)), .val (.int (0 : Int32))] [(.int (1 : Int32))])) _
      exact retN X26 hx (t := .boolean) Bd.returns (by simp) (hb hby at_64) hr
  · show own_Gl _ _ _ _ _ _ _ _ (s₁.setTop (mkF m 7 #[.val (.int p0), .unset, .unset, .unset, .unset] [(.int (8 : Int32))]))
    refine own_st (A' := s₁.setTop (mkF m 9 #[.val (.int p0), .val (.int (8 : Int32)), .unset, .unset, .unset] [(.int (8 : Int32))])) (fun tg kt => ?_) ?_
    · show Steps p.tables e below (s₁.setTop (mkF m 7 #[.val (.int p0), .unset, .unset, .unset, .unset] [(.int (8 : Int32))])) _
      refine XS.istoreN X0.here hx rfl (hb hby at_7) rfl (l' := #[.val (.int p0), .val (.int (8 : Int32)), .unset, .unset, .unset]) rfl ?_
      show Steps p.tables e below (s₁.setTop (mkF m 8 #[.val (.int p0), .val (.int (8 : Int32)), .unset, .unset, .unset] [])) _
      refine XS.iloadN X0.here hx rfl (hb hby at_8) rfl ?_
      exact kt
    obtain ⟨_, _, ⟨T27, L27, k27, n27⟩, -, X27, ⟨Lc27, hQ27, l27, y27, z27⟩, st27⟩ := Jvm.LawKit.callS X0 hx (y := (⟨"com/example/gate_to_tables/gatetotables/adql/catalog/DatatypeIsNumericPinLaw", "pick", "(I)Lcom/example/gate_to_tables/gatetotables/adql/catalog/Datatype;"⟩ : MethodName)) hown (mvT hZ (hw _ (List.mem_of_getElem? (i := 1) rfl))) (mvT hZ (hw _ (List.mem_of_getElem? (i := 2) rfl))) (mvT hZ (hw _ (List.mem_of_getElem? (i := 3) rfl))) (mvT hZ (hw _ (List.mem_of_getElem? (i := 4) rfl))) (by decide) (backOf (W := 0) (rm1 l Z a0 hw [] (8 : Int32) a_SMALLINT a_INTEGER a_BIGINT a_REAL a_DOUBLE a_VARCHAR a_BOOLEAN a_TIMESTAMP a_POINT a_CIRCLE a_POLYGON h0 n0 Z0 S_SMALLINT S_INTEGER S_BIGINT S_REAL S_DOUBLE S_VARCHAR S_BOOLEAN S_TIMESTAMP S_POINT S_CIRCLE S_POLYGON) hZ (hw _ (List.mem_of_getElem? (i := 4) rfl)) (hw _ (List.mem_of_getElem? (i := 3) rfl)) (by decide) (by decide)) (g := (mkF m 9 #[.val (.int p0), .val (.int (8 : Int32)), .unset, .unset, .unset] [(.int (8 : Int32))])) rfl (by rw [hml]; rfl) (argsL := [(.int (8 : Int32))]) (rest := []) (lenOf own_pd3 rfl) rfl (by show 2 * 0 + _ ≤ _; exact Nat.le_of_eq rfl) (hb hby at_9) (fun _ _ => ⟨rfl, e0, (by decide : 0 + 0 ≤ _), (by decide : 0 + 0 ≤ _)⟩)
    dsimp only [Pt.U, Pt.locs, Pt.cells, Pt.slots] at X27 l27 y27 z27 st27 hQ27
    subst l27 y27 z27
    obtain ⟨hv27, hr27⟩ := hQ27
    rw [show own_pick1 (8 : Int32) a_SMALLINT a_INTEGER a_BIGINT a_REAL a_DOUBLE a_VARCHAR a_BOOLEAN a_TIMESTAMP a_POINT a_CIRCLE a_POLYGON = a_POINT from rfl] at hv27
    have hQ27 := And.intro hv27 hr27
    obtain ⟨rfl, Nq27, eq27⟩ := hQ27
    have N27 := Fr.app N0 Nq27
    refine own_st st27 ?_
    show own_Gl _ _ _ _ _ _ _ _ (T27.setTop (mkF m 12 #[.val (.int p0), .val (.int (8 : Int32)), .unset, .unset, .unset] [(.ref a_POINT)]))
    refine own_st (A' := T27.setTop (mkF m 25 #[.val (.int p0), .val (.int (8 : Int32)), .val (.ref a_POINT), .val (.int (0 : Int32)), .unset] [(.ref a_POINT)])) (fun tg kt => ?_) ?_
    · show Steps p.tables e below (T27.setTop (mkF m 12 #[.val (.int p0), .val (.int (8 : Int32)), .unset, .unset, .unset] [(.ref a_POINT)])) _
      refine XS.astoreN X27.here hx rfl (hb hby at_12) rfl rfl (l' := #[.val (.int p0), .val (.int (8 : Int32)), .val (.ref a_POINT), .unset, .unset]) rfl ?_
      show Steps p.tables e below (T27.setTop (mkF m 13 #[.val (.int p0), .val (.int (8 : Int32)), .val (.ref a_POINT), .unset, .unset] [])) _
      refine XS.iloadN X27.here hx rfl (hb hby at_13) rfl ?_
      show Steps p.tables e below (T27.setTop (mkF m 14 #[.val (.int p0), .val (.int (8 : Int32)), .val (.ref a_POINT), .unset, .unset] [(.int (8 : Int32))])) _
      refine XS.iconst X27.here hx rfl (hb hby at_14) ?_
      show Steps p.tables e below (T27.setTop (mkF m 15 #[.val (.int p0), .val (.int (8 : Int32)), .val (.ref a_POINT), .unset, .unset] [(.int (4 : Int32)), (.int (8 : Int32))])) _
      refine XS.icmpYes X27.here hx rfl (pc0 := 15) (pc' := 22) rfl (hb hby at_15) rfl (tlt ((by decide) : (4 : Int32) < (8 : Int32))).2.2.1 (by decide) (by decide) ?_
      show Steps p.tables e below (T27.setTop (mkF m 22 #[.val (.int p0), .val (.int (8 : Int32)), .val (.ref a_POINT), .unset, .unset] [])) _
      refine XS.iconst X27.here hx rfl (hb hby at_22) ?_
      show Steps p.tables e below (T27.setTop (mkF m 23 #[.val (.int p0), .val (.int (8 : Int32)), .val (.ref a_POINT), .unset, .unset] [(.int (0 : Int32))])) _
      refine XS.istoreN X27.here hx rfl (hb hby at_23) rfl (l' := #[.val (.int p0), .val (.int (8 : Int32)), .val (.ref a_POINT), .val (.int (0 : Int32)), .unset]) rfl ?_
      show Steps p.tables e below (T27.setTop (mkF m 24 #[.val (.int p0), .val (.int (8 : Int32)), .val (.ref a_POINT), .val (.int (0 : Int32)), .unset] [])) _
      refine XS.aloadN X27.here hx rfl (hb hby at_24) rfl rfl ?_
      exact kt
    obtain ⟨cq28, kq28, q28a, q28b, q28c⟩ := isOf hZ eq27 E_POINT
    obtain ⟨_, _, ⟨T28, L28, k28, n28⟩, -, X28, ⟨Lc28, hQ28, l28, y28, z28⟩, st28⟩ := X27.virtualBack hx (y := (⟨"com/example/gate_to_tables/gatetotables/adql/catalog/Datatype", "isNumeric", "()Z"⟩ : MethodName)) (z := (⟨"com/example/gate_to_tables/gatetotables/adql/catalog/Datatype", "isNumeric", "()Z"⟩ : MethodName)) hown (mvT hZ (hw _ (List.mem_of_getElem? (i := 8) rfl))) (mvT hZ (hw _ (List.mem_of_getElem? (i := 9) rfl))) (notFace_of_selects (args := #[]) (mvT hZ (hw _ (List.mem_of_getElem? (i := 11) rfl)))) (mvT hZ (hw _ (List.mem_of_getElem? (i := 11) rfl))) (mvT hZ (hw _ (List.mem_of_getElem? (i := 10) rfl))) (by decide) (backOf (W := 0) (rm2 l Z a0 hw [] a_POINT a_SMALLINT a_INTEGER a_BIGINT a_REAL a_DOUBLE h0 n0 Z0 S_SMALLINT S_INTEGER S_BIGINT S_REAL S_DOUBLE) hZ (hw _ (List.mem_of_getElem? (i := 12) rfl)) (hw _ (List.mem_of_getElem? (i := 6) rfl)) (by decide) (by decide)) q28a q28c (g := (mkF m 25 #[.val (.int p0), .val (.int (8 : Int32)), .val (.ref a_POINT), .val (.int (0 : Int32)), .unset] [(.ref a_POINT)])) rfl (by rw [hml]; rfl) (Steps.refl _) (argsL := []) (rest := []) (lenOf own_pd2 rfl) rfl (by show 2 * 0 + _ ≤ _; exact Nat.le_of_eq rfl) (hb hby at_25) (fun _ _ => ⟨rfl, eq27, (by decide : 0 + 0 ≤ _), (by decide : 0 + 0 ≤ _)⟩)
    dsimp only [Pt.U, Pt.locs, Pt.cells, Pt.slots] at X28 l28 y28 z28 st28 hQ28
    subst l28 y28 z28
    obtain ⟨hv28, hr28⟩ := hQ28
    rw [show own_num a_POINT a_SMALLINT a_INTEGER a_BIGINT a_REAL a_DOUBLE = (0 : Int32) from by unfold own_num; rw [if_neg (Fld.ne F_POINT_ordinal F_SMALLINT_ordinal (by decide)), if_neg (Fld.ne F_POINT_ordinal F_INTEGER_ordinal (by decide)), if_neg (Fld.ne F_POINT_ordinal F_BIGINT_ordinal (by decide)), if_neg (Fld.ne F_POINT_ordinal F_REAL_ordinal (by decide)), if_neg (Fld.ne F_POINT_ordinal F_DOUBLE_ordinal (by decide))]] at hv28
    have hQ28 := And.intro hv28 hr28
    obtain ⟨rfl, Nq28, eq28⟩ := hQ28
    have N28 := Fr.app N27 Nq28
    refine own_tr st28 ?_
    show own_Gl _ _ _ _ _ _ _ _ (T28.setTop (mkF m 28 #[.val (.int p0), .val (.int (8 : Int32)), .val (.ref a_POINT), .val (.int (0 : Int32)), .unset] [(.int (0 : Int32))]))
    refine own_st (A' := T28.setTop (mkF m 64 #[.val (.int p0), .val (.int (8 : Int32)), .val (.ref a_POINT), .val (.int (0 : Int32)), .val (.int (0 : Int32))] [(.int (1 : Int32))])) (fun tg kt => ?_) ?_
    · show Steps p.tables e below (T28.setTop (mkF m 28 #[.val (.int p0), .val (.int (8 : Int32)), .val (.ref a_POINT), .val (.int (0 : Int32)), .unset] [(.int (0 : Int32))])) _
      refine XS.istore X28.here hx rfl (hb hby at_28) rfl (l' := #[.val (.int p0), .val (.int (8 : Int32)), .val (.ref a_POINT), .val (.int (0 : Int32)), .val (.int (0 : Int32))]) rfl ?_
      show Steps p.tables e below (T28.setTop (mkF m 30 #[.val (.int p0), .val (.int (8 : Int32)), .val (.ref a_POINT), .val (.int (0 : Int32)), .val (.int (0 : Int32))] [])) _
      refine XS.iload X28.here hx rfl (hb hby at_30) rfl ?_
      show Steps p.tables e below (T28.setTop (mkF m 32 #[.val (.int p0), .val (.int (8 : Int32)), .val (.ref a_POINT), .val (.int (0 : Int32)), .val (.int (0 : Int32))] [(.int (0 : Int32))])) _
      refine XS.iloadN X28.here hx rfl (hb hby at_32) rfl ?_
      show Steps p.tables e below (T28.setTop (mkF m 33 #[.val (.int p0), .val (.int (8 : Int32)), .val (.ref a_POINT), .val (.int (0 : Int32)), .val (.int (0 : Int32))] [(.int (0 : Int32)), (.int (0 : Int32))])) _
      refine XS.icmpYes X28.here hx rfl (pc0 := 33) (pc' := 38) rfl (hb hby at_33) rfl (teq ((by decide) : (0 : Int32) = (0 : Int32))).1 (by decide) (by decide) ?_
      show Steps p.tables e below (T28.setTop (mkF m 38 #[.val (.int p0), .val (.int (8 : Int32)), .val (.ref a_POINT), .val (.int (0 : Int32)), .val (.int (0 : Int32))] [])) _
      refine XS.iload X28.here hx rfl (hb hby at_38) rfl ?_
      show Steps p.tables e below (T28.setTop (mkF m 40 #[.val (.int p0), .val (.int (8 : Int32)), .val (.ref a_POINT), .val (.int (0 : Int32)), .val (.int (0 : Int32))] [(.int (0 : Int32))])) _
      refine XS.ifYes X28.here hx rfl (pc0 := 40) (pc' := 63) rfl (hb hby at_40) rfl ((if0 _ _).trans (teq ((by decide) : (0 : Int32) = (0 : Int32))).1) (by decide) (by decide) ?_
      show Steps p.tables e below (T28.setTop (mkF m 63 #[.val (.int p0), .val (.int (8 : Int32)), .val (.ref a_POINT), .val (.int (0 : Int32)), .val (.int (0 : Int32))] [])) _
      refine XS.iconst X28.here hx rfl (hb hby at_63) ?_
      exact kt
    refine own_ret X28 (v := some (.int (1 : Int32))) (fun h => by rw [Bd.returns] at h; cases h) hlk (by decide) (by decide) ?_ (fun fs hr => ?_)
    · show Q0 Z p0 a_SMALLINT a_INTEGER a_BIGINT a_REAL a_DOUBLE a_VARCHAR a_BOOLEAN a_TIMESTAMP a_POINT a_CIRCLE a_POLYGON h0 n0 (some (.int (1 : Int32))) T28.heap _
      rw [eq28]
      exact ⟨rfl, N28⟩
    · show Steps p.tables e below (T28.setTop (mkF m 64 #[.val (.int p0), .val (.int (8 : Int32)), .val (.ref a_POINT), .val (.int (0 : Int32)), .val (.int (0 : Int32))] [(.int (1 : Int32))])) _
      exact retN X28 hx (t := .boolean) Bd.returns (by simp) (hb hby at_64) hr
  · show own_Gl _ _ _ _ _ _ _ _ (s₁.setTop (mkF m 7 #[.val (.int p0), .unset, .unset, .unset, .unset] [(.int (9 : Int32))]))
    refine own_st (A' := s₁.setTop (mkF m 9 #[.val (.int p0), .val (.int (9 : Int32)), .unset, .unset, .unset] [(.int (9 : Int32))])) (fun tg kt => ?_) ?_
    · show Steps p.tables e below (s₁.setTop (mkF m 7 #[.val (.int p0), .unset, .unset, .unset, .unset] [(.int (9 : Int32))])) _
      refine XS.istoreN X0.here hx rfl (hb hby at_7) rfl (l' := #[.val (.int p0), .val (.int (9 : Int32)), .unset, .unset, .unset]) rfl ?_
      show Steps p.tables e below (s₁.setTop (mkF m 8 #[.val (.int p0), .val (.int (9 : Int32)), .unset, .unset, .unset] [])) _
      refine XS.iloadN X0.here hx rfl (hb hby at_8) rfl ?_
      exact kt
    obtain ⟨_, _, ⟨T29, L29, k29, n29⟩, -, X29, ⟨Lc29, hQ29, l29, y29, z29⟩, st29⟩ := Jvm.LawKit.callS X0 hx (y := (⟨"com/example/gate_to_tables/gatetotables/adql/catalog/DatatypeIsNumericPinLaw", "pick", "(I)Lcom/example/gate_to_tables/gatetotables/adql/catalog/Datatype;"⟩ : MethodName)) hown (mvT hZ (hw _ (List.mem_of_getElem? (i := 1) rfl))) (mvT hZ (hw _ (List.mem_of_getElem? (i := 2) rfl))) (mvT hZ (hw _ (List.mem_of_getElem? (i := 3) rfl))) (mvT hZ (hw _ (List.mem_of_getElem? (i := 4) rfl))) (by decide) (backOf (W := 0) (rm1 l Z a0 hw [] (9 : Int32) a_SMALLINT a_INTEGER a_BIGINT a_REAL a_DOUBLE a_VARCHAR a_BOOLEAN a_TIMESTAMP a_POINT a_CIRCLE a_POLYGON h0 n0 Z0 S_SMALLINT S_INTEGER S_BIGINT S_REAL S_DOUBLE S_VARCHAR S_BOOLEAN S_TIMESTAMP S_POINT S_CIRCLE S_POLYGON) hZ (hw _ (List.mem_of_getElem? (i := 4) rfl)) (hw _ (List.mem_of_getElem? (i := 3) rfl)) (by decide) (by decide)) (g := (mkF m 9 #[.val (.int p0), .val (.int (9 : Int32)), .unset, .unset, .unset] [(.int (9 : Int32))])) rfl (by rw [hml]; rfl) (argsL := [(.int (9 : Int32))]) (rest := []) (lenOf own_pd3 rfl) rfl (by show 2 * 0 + _ ≤ _; exact Nat.le_of_eq rfl) (hb hby at_9) (fun _ _ => ⟨rfl, e0, (by decide : 0 + 0 ≤ _), (by decide : 0 + 0 ≤ _)⟩)
    dsimp only [Pt.U, Pt.locs, Pt.cells, Pt.slots] at X29 l29 y29 z29 st29 hQ29
    subst l29 y29 z29
    obtain ⟨hv29, hr29⟩ := hQ29
    rw [show own_pick1 (9 : Int32) a_SMALLINT a_INTEGER a_BIGINT a_REAL a_DOUBLE a_VARCHAR a_BOOLEAN a_TIMESTAMP a_POINT a_CIRCLE a_POLYGON = a_CIRCLE from rfl] at hv29
    have hQ29 := And.intro hv29 hr29
    obtain ⟨rfl, Nq29, eq29⟩ := hQ29
    have N29 := Fr.app N0 Nq29
    refine own_st st29 ?_
    show own_Gl _ _ _ _ _ _ _ _ (T29.setTop (mkF m 12 #[.val (.int p0), .val (.int (9 : Int32)), .unset, .unset, .unset] [(.ref a_CIRCLE)]))
    refine own_st (A' := T29.setTop (mkF m 25 #[.val (.int p0), .val (.int (9 : Int32)), .val (.ref a_CIRCLE), .val (.int (0 : Int32)), .unset] [(.ref a_CIRCLE)])) (fun tg kt => ?_) ?_
    · show Steps p.tables e below (T29.setTop (mkF m 12 #[.val (.int p0), .val (.int (9 : Int32)), .unset, .unset, .unset] [(.ref a_CIRCLE)])) _
      refine XS.astoreN X29.here hx rfl (hb hby at_12) rfl rfl (l' := #[.val (.int p0), .val (.int (9 : Int32)), .val (.ref a_CIRCLE), .unset, .unset]) rfl ?_
      show Steps p.tables e below (T29.setTop (mkF m 13 #[.val (.int p0), .val (.int (9 : Int32)), .val (.ref a_CIRCLE), .unset, .unset] [])) _
      refine XS.iloadN X29.here hx rfl (hb hby at_13) rfl ?_
      show Steps p.tables e below (T29.setTop (mkF m 14 #[.val (.int p0), .val (.int (9 : Int32)), .val (.ref a_CIRCLE), .unset, .unset] [(.int (9 : Int32))])) _
      refine XS.iconst X29.here hx rfl (hb hby at_14) ?_
      show Steps p.tables e below (T29.setTop (mkF m 15 #[.val (.int p0), .val (.int (9 : Int32)), .val (.ref a_CIRCLE), .unset, .unset] [(.int (4 : Int32)), (.int (9 : Int32))])) _
      refine XS.icmpYes X29.here hx rfl (pc0 := 15) (pc' := 22) rfl (hb hby at_15) rfl (tlt ((by decide) : (4 : Int32) < (9 : Int32))).2.2.1 (by decide) (by decide) ?_
      show Steps p.tables e below (T29.setTop (mkF m 22 #[.val (.int p0), .val (.int (9 : Int32)), .val (.ref a_CIRCLE), .unset, .unset] [])) _
      refine XS.iconst X29.here hx rfl (hb hby at_22) ?_
      show Steps p.tables e below (T29.setTop (mkF m 23 #[.val (.int p0), .val (.int (9 : Int32)), .val (.ref a_CIRCLE), .unset, .unset] [(.int (0 : Int32))])) _
      refine XS.istoreN X29.here hx rfl (hb hby at_23) rfl (l' := #[.val (.int p0), .val (.int (9 : Int32)), .val (.ref a_CIRCLE), .val (.int (0 : Int32)), .unset]) rfl ?_
      show Steps p.tables e below (T29.setTop (mkF m 24 #[.val (.int p0), .val (.int (9 : Int32)), .val (.ref a_CIRCLE), .val (.int (0 : Int32)), .unset] [])) _
      refine XS.aloadN X29.here hx rfl (hb hby at_24) rfl rfl ?_
      exact kt
    obtain ⟨cq30, kq30, q30a, q30b, q30c⟩ := isOf hZ eq29 E_CIRCLE
    obtain ⟨_, _, ⟨T30, L30, k30, n30⟩, -, X30, ⟨Lc30, hQ30, l30, y30, z30⟩, st30⟩ := X29.virtualBack hx (y := (⟨"com/example/gate_to_tables/gatetotables/adql/catalog/Datatype", "isNumeric", "()Z"⟩ : MethodName)) (z := (⟨"com/example/gate_to_tables/gatetotables/adql/catalog/Datatype", "isNumeric", "()Z"⟩ : MethodName)) hown (mvT hZ (hw _ (List.mem_of_getElem? (i := 8) rfl))) (mvT hZ (hw _ (List.mem_of_getElem? (i := 9) rfl))) (notFace_of_selects (args := #[]) (mvT hZ (hw _ (List.mem_of_getElem? (i := 11) rfl)))) (mvT hZ (hw _ (List.mem_of_getElem? (i := 11) rfl))) (mvT hZ (hw _ (List.mem_of_getElem? (i := 10) rfl))) (by decide) (backOf (W := 0) (rm2 l Z a0 hw [] a_CIRCLE a_SMALLINT a_INTEGER a_BIGINT a_REAL a_DOUBLE h0 n0 Z0 S_SMALLINT S_INTEGER S_BIGINT S_REAL S_DOUBLE) hZ (hw _ (List.mem_of_getElem? (i := 12) rfl)) (hw _ (List.mem_of_getElem? (i := 6) rfl)) (by decide) (by decide)) q30a q30c (g := (mkF m 25 #[.val (.int p0), .val (.int (9 : Int32)), .val (.ref a_CIRCLE), .val (.int (0 : Int32)), .unset] [(.ref a_CIRCLE)])) rfl (by rw [hml]; rfl) (Steps.refl _) (argsL := []) (rest := []) (lenOf own_pd2 rfl) rfl (by show 2 * 0 + _ ≤ _; exact Nat.le_of_eq rfl) (hb hby at_25) (fun _ _ => ⟨rfl, eq29, (by decide : 0 + 0 ≤ _), (by decide : 0 + 0 ≤ _)⟩)
    dsimp only [Pt.U, Pt.locs, Pt.cells, Pt.slots] at X30 l30 y30 z30 st30 hQ30
    subst l30 y30 z30
    obtain ⟨hv30, hr30⟩ := hQ30
    rw [show own_num a_CIRCLE a_SMALLINT a_INTEGER a_BIGINT a_REAL a_DOUBLE = (0 : Int32) from by unfold own_num; rw [if_neg (Fld.ne F_CIRCLE_ordinal F_SMALLINT_ordinal (by decide)), if_neg (Fld.ne F_CIRCLE_ordinal F_INTEGER_ordinal (by decide)), if_neg (Fld.ne F_CIRCLE_ordinal F_BIGINT_ordinal (by decide)), if_neg (Fld.ne F_CIRCLE_ordinal F_REAL_ordinal (by decide)), if_neg (Fld.ne F_CIRCLE_ordinal F_DOUBLE_ordinal (by decide))]] at hv30
    have hQ30 := And.intro hv30 hr30
    obtain ⟨rfl, Nq30, eq30⟩ := hQ30
    have N30 := Fr.app N29 Nq30
    refine own_tr st30 ?_
    show own_Gl _ _ _ _ _ _ _ _ (T30.setTop (mkF m 28 #[.val (.int p0), .val (.int (9 : Int32)), .val (.ref a_CIRCLE), .val (.int (0 : Int32)), .unset] [(.int (0 : Int32))]))
    refine own_st (A' := T30.setTop (mkF m 64 #[.val (.int p0), .val (.int (9 : Int32)), .val (.ref a_CIRCLE), .val (.int (0 : Int32)), .val (.int (0 : Int32))] [(.int (1 : Int32))])) (fun tg kt => ?_) ?_
    · show Steps p.tables e below (T30.setTop (mkF m 28 #[.val (.int p0), .val (.int (9 : Int32)), .val (.ref a_CIRCLE), .val (.int (0 : Int32)), .unset] [(.int (0 : Int32))])) _
      refine XS.istore X30.here hx rfl (hb hby at_28) rfl (l' := #[.val (.int p0), .val (.int (9 : Int32)), .val (.ref a_CIRCLE), .val (.int (0 : Int32)), .val (.int (0 : Int32))]) rfl ?_
      show Steps p.tables e below (T30.setTop (mkF m 30 #[.val (.int p0), .val (.int (9 : Int32)), .val (.ref a_CIRCLE), .val (.int (0 : Int32)), .val (.int (0 : Int32))] [])) _
      refine XS.iload X30.here hx rfl (hb hby at_30) rfl ?_
      show Steps p.tables e below (T30.setTop (mkF m 32 #[.val (.int p0), .val (.int (9 : Int32)), .val (.ref a_CIRCLE), .val (.int (0 : Int32)), .val (.int (0 : Int32))] [(.int (0 : Int32))])) _
      refine XS.iloadN X30.here hx rfl (hb hby at_32) rfl ?_
      show Steps p.tables e below (T30.setTop (mkF m 33 #[.val (.int p0), .val (.int (9 : Int32)), .val (.ref a_CIRCLE), .val (.int (0 : Int32)), .val (.int (0 : Int32))] [(.int (0 : Int32)), (.int (0 : Int32))])) _
      refine XS.icmpYes X30.here hx rfl (pc0 := 33) (pc' := 38) rfl (hb hby at_33) rfl (teq ((by decide) : (0 : Int32) = (0 : Int32))).1 (by decide) (by decide) ?_
      show Steps p.tables e below (T30.setTop (mkF m 38 #[.val (.int p0), .val (.int (9 : Int32)), .val (.ref a_CIRCLE), .val (.int (0 : Int32)), .val (.int (0 : Int32))] [])) _
      refine XS.iload X30.here hx rfl (hb hby at_38) rfl ?_
      show Steps p.tables e below (T30.setTop (mkF m 40 #[.val (.int p0), .val (.int (9 : Int32)), .val (.ref a_CIRCLE), .val (.int (0 : Int32)), .val (.int (0 : Int32))] [(.int (0 : Int32))])) _
      refine XS.ifYes X30.here hx rfl (pc0 := 40) (pc' := 63) rfl (hb hby at_40) rfl ((if0 _ _).trans (teq ((by decide) : (0 : Int32) = (0 : Int32))).1) (by decide) (by decide) ?_
      show Steps p.tables e below (T30.setTop (mkF m 63 #[.val (.int p0), .val (.int (9 : Int32)), .val (.ref a_CIRCLE), .val (.int (0 : Int32)), .val (.int (0 : Int32))] [])) _
      refine XS.iconst X30.here hx rfl (hb hby at_63) ?_
      exact kt
    refine own_ret X30 (v := some (.int (1 : Int32))) (fun h => by rw [Bd.returns] at h; cases h) hlk (by decide) (by decide) ?_ (fun fs hr => ?_)
    · show Q0 Z p0 a_SMALLINT a_INTEGER a_BIGINT a_REAL a_DOUBLE a_VARCHAR a_BOOLEAN a_TIMESTAMP a_POINT a_CIRCLE a_POLYGON h0 n0 (some (.int (1 : Int32))) T30.heap _
      rw [eq30]
      exact ⟨rfl, N30⟩
    · show Steps p.tables e below (T30.setTop (mkF m 64 #[.val (.int p0), .val (.int (9 : Int32)), .val (.ref a_CIRCLE), .val (.int (0 : Int32)), .val (.int (0 : Int32))] [(.int (1 : Int32))])) _
      exact retN X30 hx (t := .boolean) Bd.returns (by simp) (hb hby at_64) hr
  · show own_Gl _ _ _ _ _ _ _ _ (s₁.setTop (mkF m 7 #[.val (.int p0), .unset, .unset, .unset, .unset] [(.int (10 : Int32))]))
    refine own_st (A' := s₁.setTop (mkF m 9 #[.val (.int p0), .val (.int (10 : Int32)), .unset, .unset, .unset] [(.int (10 : Int32))])) (fun tg kt => ?_) ?_
    · show Steps p.tables e below (s₁.setTop (mkF m 7 #[.val (.int p0), .unset, .unset, .unset, .unset] [(.int (10 : Int32))])) _
      refine XS.istoreN X0.here hx rfl (hb hby at_7) rfl (l' := #[.val (.int p0), .val (.int (10 : Int32)), .unset, .unset, .unset]) rfl ?_
      show Steps p.tables e below (s₁.setTop (mkF m 8 #[.val (.int p0), .val (.int (10 : Int32)), .unset, .unset, .unset] [])) _
      refine XS.iloadN X0.here hx rfl (hb hby at_8) rfl ?_
      exact kt
    obtain ⟨_, _, ⟨T31, L31, k31, n31⟩, -, X31, ⟨Lc31, hQ31, l31, y31, z31⟩, st31⟩ := Jvm.LawKit.callS X0 hx (y := (⟨"com/example/gate_to_tables/gatetotables/adql/catalog/DatatypeIsNumericPinLaw", "pick", "(I)Lcom/example/gate_to_tables/gatetotables/adql/catalog/Datatype;"⟩ : MethodName)) hown (mvT hZ (hw _ (List.mem_of_getElem? (i := 1) rfl))) (mvT hZ (hw _ (List.mem_of_getElem? (i := 2) rfl))) (mvT hZ (hw _ (List.mem_of_getElem? (i := 3) rfl))) (mvT hZ (hw _ (List.mem_of_getElem? (i := 4) rfl))) (by decide) (backOf (W := 0) (rm1 l Z a0 hw [] (10 : Int32) a_SMALLINT a_INTEGER a_BIGINT a_REAL a_DOUBLE a_VARCHAR a_BOOLEAN a_TIMESTAMP a_POINT a_CIRCLE a_POLYGON h0 n0 Z0 S_SMALLINT S_INTEGER S_BIGINT S_REAL S_DOUBLE S_VARCHAR S_BOOLEAN S_TIMESTAMP S_POINT S_CIRCLE S_POLYGON) hZ (hw _ (List.mem_of_getElem? (i := 4) rfl)) (hw _ (List.mem_of_getElem? (i := 3) rfl)) (by decide) (by decide)) (g := (mkF m 9 #[.val (.int p0), .val (.int (10 : Int32)), .unset, .unset, .unset] [(.int (10 : Int32))])) rfl (by rw [hml]; rfl) (argsL := [(.int (10 : Int32))]) (rest := []) (lenOf own_pd3 rfl) rfl (by show 2 * 0 + _ ≤ _; exact Nat.le_of_eq rfl) (hb hby at_9) (fun _ _ => ⟨rfl, e0, (by decide : 0 + 0 ≤ _), (by decide : 0 + 0 ≤ _)⟩)
    dsimp only [Pt.U, Pt.locs, Pt.cells, Pt.slots] at X31 l31 y31 z31 st31 hQ31
    subst l31 y31 z31
    obtain ⟨hv31, hr31⟩ := hQ31
    rw [show own_pick1 (10 : Int32) a_SMALLINT a_INTEGER a_BIGINT a_REAL a_DOUBLE a_VARCHAR a_BOOLEAN a_TIMESTAMP a_POINT a_CIRCLE a_POLYGON = a_POLYGON from rfl] at hv31
    have hQ31 := And.intro hv31 hr31
    obtain ⟨rfl, Nq31, eq31⟩ := hQ31
    have N31 := Fr.app N0 Nq31
    refine own_st st31 ?_
    show own_Gl _ _ _ _ _ _ _ _ (T31.setTop (mkF m 12 #[.val (.int p0), .val (.int (10 : Int32)), .unset, .unset, .unset] [(.ref a_POLYGON)]))
    refine own_st (A' := T31.setTop (mkF m 25 #[.val (.int p0), .val (.int (10 : Int32)), .val (.ref a_POLYGON), .val (.int (0 : Int32)), .unset] [(.ref a_POLYGON)])) (fun tg kt => ?_) ?_
    · show Steps p.tables e below (T31.setTop (mkF m 12 #[.val (.int p0), .val (.int (10 : Int32)), .unset, .unset, .unset] [(.ref a_POLYGON)])) _
      refine XS.astoreN X31.here hx rfl (hb hby at_12) rfl rfl (l' := #[.val (.int p0), .val (.int (10 : Int32)), .val (.ref a_POLYGON), .unset, .unset]) rfl ?_
      show Steps p.tables e below (T31.setTop (mkF m 13 #[.val (.int p0), .val (.int (10 : Int32)), .val (.ref a_POLYGON), .unset, .unset] [])) _
      refine XS.iloadN X31.here hx rfl (hb hby at_13) rfl ?_
      show Steps p.tables e below (T31.setTop (mkF m 14 #[.val (.int p0), .val (.int (10 : Int32)), .val (.ref a_POLYGON), .unset, .unset] [(.int (10 : Int32))])) _
      refine XS.iconst X31.here hx rfl (hb hby at_14) ?_
      show Steps p.tables e below (T31.setTop (mkF m 15 #[.val (.int p0), .val (.int (10 : Int32)), .val (.ref a_POLYGON), .unset, .unset] [(.int (4 : Int32)), (.int (10 : Int32))])) _
      refine XS.icmpYes X31.here hx rfl (pc0 := 15) (pc' := 22) rfl (hb hby at_15) rfl (tlt ((by decide) : (4 : Int32) < (10 : Int32))).2.2.1 (by decide) (by decide) ?_
      show Steps p.tables e below (T31.setTop (mkF m 22 #[.val (.int p0), .val (.int (10 : Int32)), .val (.ref a_POLYGON), .unset, .unset] [])) _
      refine XS.iconst X31.here hx rfl (hb hby at_22) ?_
      show Steps p.tables e below (T31.setTop (mkF m 23 #[.val (.int p0), .val (.int (10 : Int32)), .val (.ref a_POLYGON), .unset, .unset] [(.int (0 : Int32))])) _
      refine XS.istoreN X31.here hx rfl (hb hby at_23) rfl (l' := #[.val (.int p0), .val (.int (10 : Int32)), .val (.ref a_POLYGON), .val (.int (0 : Int32)), .unset]) rfl ?_
      show Steps p.tables e below (T31.setTop (mkF m 24 #[.val (.int p0), .val (.int (10 : Int32)), .val (.ref a_POLYGON), .val (.int (0 : Int32)), .unset] [])) _
      refine XS.aloadN X31.here hx rfl (hb hby at_24) rfl rfl ?_
      exact kt
    obtain ⟨cq32, kq32, q32a, q32b, q32c⟩ := isOf hZ eq31 E_POLYGON
    obtain ⟨_, _, ⟨T32, L32, k32, n32⟩, -, X32, ⟨Lc32, hQ32, l32, y32, z32⟩, st32⟩ := X31.virtualBack hx (y := (⟨"com/example/gate_to_tables/gatetotables/adql/catalog/Datatype", "isNumeric", "()Z"⟩ : MethodName)) (z := (⟨"com/example/gate_to_tables/gatetotables/adql/catalog/Datatype", "isNumeric", "()Z"⟩ : MethodName)) hown (mvT hZ (hw _ (List.mem_of_getElem? (i := 8) rfl))) (mvT hZ (hw _ (List.mem_of_getElem? (i := 9) rfl))) (notFace_of_selects (args := #[]) (mvT hZ (hw _ (List.mem_of_getElem? (i := 11) rfl)))) (mvT hZ (hw _ (List.mem_of_getElem? (i := 11) rfl))) (mvT hZ (hw _ (List.mem_of_getElem? (i := 10) rfl))) (by decide) (backOf (W := 0) (rm2 l Z a0 hw [] a_POLYGON a_SMALLINT a_INTEGER a_BIGINT a_REAL a_DOUBLE h0 n0 Z0 S_SMALLINT S_INTEGER S_BIGINT S_REAL S_DOUBLE) hZ (hw _ (List.mem_of_getElem? (i := 12) rfl)) (hw _ (List.mem_of_getElem? (i := 6) rfl)) (by decide) (by decide)) q32a q32c (g := (mkF m 25 #[.val (.int p0), .val (.int (10 : Int32)), .val (.ref a_POLYGON), .val (.int (0 : Int32)), .unset] [(.ref a_POLYGON)])) rfl (by rw [hml]; rfl) (Steps.refl _) (argsL := []) (rest := []) (lenOf own_pd2 rfl) rfl (by show 2 * 0 + _ ≤ _; exact Nat.le_of_eq rfl) (hb hby at_25) (fun _ _ => ⟨rfl, eq31, (by decide : 0 + 0 ≤ _), (by decide : 0 + 0 ≤ _)⟩)
    dsimp only [Pt.U, Pt.locs, Pt.cells, Pt.slots] at X32 l32 y32 z32 st32 hQ32
    subst l32 y32 z32
    obtain ⟨hv32, hr32⟩ := hQ32
    rw [show own_num a_POLYGON a_SMALLINT a_INTEGER a_BIGINT a_REAL a_DOUBLE = (0 : Int32) from by unfold own_num; rw [if_neg (Fld.ne F_POLYGON_ordinal F_SMALLINT_ordinal (by decide)), if_neg (Fld.ne F_POLYGON_ordinal F_INTEGER_ordinal (by decide)), if_neg (Fld.ne F_POLYGON_ordinal F_BIGINT_ordinal (by decide)), if_neg (Fld.ne F_POLYGON_ordinal F_REAL_ordinal (by decide)), if_neg (Fld.ne F_POLYGON_ordinal F_DOUBLE_ordinal (by decide))]] at hv32
    have hQ32 := And.intro hv32 hr32
    obtain ⟨rfl, Nq32, eq32⟩ := hQ32
    have N32 := Fr.app N31 Nq32
    refine own_tr st32 ?_
    show own_Gl _ _ _ _ _ _ _ _ (T32.setTop (mkF m 28 #[.val (.int p0), .val (.int (10 : Int32)), .val (.ref a_POLYGON), .val (.int (0 : Int32)), .unset] [(.int (0 : Int32))]))
    refine own_st (A' := T32.setTop (mkF m 64 #[.val (.int p0), .val (.int (10 : Int32)), .val (.ref a_POLYGON), .val (.int (0 : Int32)), .val (.int (0 : Int32))] [(.int (1 : Int32))])) (fun tg kt => ?_) ?_
    · show Steps p.tables e below (T32.setTop (mkF m 28 #[.val (.int p0), .val (.int (10 : Int32)), .val (.ref a_POLYGON), .val (.int (0 : Int32)), .unset] [(.int (0 : Int32))])) _
      refine XS.istore X32.here hx rfl (hb hby at_28) rfl (l' := #[.val (.int p0), .val (.int (10 : Int32)), .val (.ref a_POLYGON), .val (.int (0 : Int32)), .val (.int (0 : Int32))]) rfl ?_
      show Steps p.tables e below (T32.setTop (mkF m 30 #[.val (.int p0), .val (.int (10 : Int32)), .val (.ref a_POLYGON), .val (.int (0 : Int32)), .val (.int (0 : Int32))] [])) _
      refine XS.iload X32.here hx rfl (hb hby at_30) rfl ?_
      show Steps p.tables e below (T32.setTop (mkF m 32 #[.val (.int p0), .val (.int (10 : Int32)), .val (.ref a_POLYGON), .val (.int (0 : Int32)), .val (.int (0 : Int32))] [(.int (0 : Int32))])) _
      refine XS.iloadN X32.here hx rfl (hb hby at_32) rfl ?_
      show Steps p.tables e below (T32.setTop (mkF m 33 #[.val (.int p0), .val (.int (10 : Int32)), .val (.ref a_POLYGON), .val (.int (0 : Int32)), .val (.int (0 : Int32))] [(.int (0 : Int32)), (.int (0 : Int32))])) _
      refine XS.icmpYes X32.here hx rfl (pc0 := 33) (pc' := 38) rfl (hb hby at_33) rfl (teq ((by decide) : (0 : Int32) = (0 : Int32))).1 (by decide) (by decide) ?_
      show Steps p.tables e below (T32.setTop (mkF m 38 #[.val (.int p0), .val (.int (10 : Int32)), .val (.ref a_POLYGON), .val (.int (0 : Int32)), .val (.int (0 : Int32))] [])) _
      refine XS.iload X32.here hx rfl (hb hby at_38) rfl ?_
      show Steps p.tables e below (T32.setTop (mkF m 40 #[.val (.int p0), .val (.int (10 : Int32)), .val (.ref a_POLYGON), .val (.int (0 : Int32)), .val (.int (0 : Int32))] [(.int (0 : Int32))])) _
      refine XS.ifYes X32.here hx rfl (pc0 := 40) (pc' := 63) rfl (hb hby at_40) rfl ((if0 _ _).trans (teq ((by decide) : (0 : Int32) = (0 : Int32))).1) (by decide) (by decide) ?_
      show Steps p.tables e below (T32.setTop (mkF m 63 #[.val (.int p0), .val (.int (10 : Int32)), .val (.ref a_POLYGON), .val (.int (0 : Int32)), .val (.int (0 : Int32))] [])) _
      refine XS.iconst X32.here hx rfl (hb hby at_63) ?_
      exact kt
    refine own_ret X32 (v := some (.int (1 : Int32))) (fun h => by rw [Bd.returns] at h; cases h) hlk (by decide) (by decide) ?_ (fun fs hr => ?_)
    · show Q0 Z p0 a_SMALLINT a_INTEGER a_BIGINT a_REAL a_DOUBLE a_VARCHAR a_BOOLEAN a_TIMESTAMP a_POINT a_CIRCLE a_POLYGON h0 n0 (some (.int (1 : Int32))) T32.heap _
      rw [eq32]
      exact ⟨rfl, N32⟩
    · show Steps p.tables e below (T32.setTop (mkF m 64 #[.val (.int p0), .val (.int (10 : Int32)), .val (.ref a_POLYGON), .val (.int (0 : Int32)), .val (.int (0 : Int32))] [(.int (1 : Int32))])) _
      exact retN X32 hx (t := .boolean) Bd.returns (by simp) (hb hby at_64) hr
set_option maxRecDepth 65536 in
set_option maxHeartbeats 40000000 in
theorem comes_1 {Post : Tables → Env → Array Value → State → Outcome → State → Prop} (hpost : ∀ tb e args s v u, (limb_1_1.after args s (.returned v) u = true ∧ limb_1_2.after args s (.returned v) u = true ∧ True) → FrameEnd s (.returned v) u (Jvm.fieldLocs frame_1_writes args s ++ Jvm.arrayLocs frame_1_arrays args s ++ Jvm.staticLocs frame_1_statics s) 0 0 → Post tb e args s (.returned v) u) :
    ArmFor flags0 classFile x code maxLocals ret World_1 tables_1 room_1 Calls_1 rest_1 Pre_1 Post := by
  intro l hfl _ _ p e ha hc hk s m args below hf hA hF happ hP
  obtain ⟨hcalls, hrest, hpre⟩ := hP
  obtain ⟨-, -, -, hnamed, -, -, -, hat⟩ := (Spec.applies_iff hf).mp happ
  obtain ⟨hg, hn⟩ := and_e (Cond.before_iff.mp (show (Jvm.Cond.and given_1 narrow_1).before args s = true from hpre))
  obtain ⟨gg1, gg2⟩ := and_e hg
  obtain ⟨w0, rfl⟩ : ∃ w0 : Value, args = #[w0] := by
    have hs : args.size = 1 := by simpa [Cond.value, given_1] using gg1
    obtain ⟨L⟩ := args
    match L, hs with
    | [w0], _ => exact ⟨w0, rfl⟩
  have hw := fun d (hd : d ∈ tables_1) => atoms_spec (ws := Jvm.Cond.code x code maxLocals ret :: tables_1) hat d (List.mem_cons_of_mem _ hd)
  have hfit : Fit s := fun {y c} hc i hi => by
    obtain ⟨ha, rfl⟩ := Array.getElem?_eq_some_iff.mp hc
    have q := List.all_eq_true.mp ((Array.all_eq_true_iff_forall_mem.mp hF) _ (Array.getElem_mem ha)) i (List.mem_range.mpr hi)
    simpa [Array.getElem?_eq_getElem hi] using q
  obtain ⟨i0, ei0⟩ := is_v gg2
  obtain rfl : w0 = (.int i0) := Option.some.inj ei0
  obtain ⟨nn1, nn2⟩ := and_e hn
  obtain ⟨nn3, nn4⟩ := and_e nn2
  obtain ⟨nn5, nn6⟩ := and_e nn4
  obtain ⟨nn7, nn8⟩ := and_e nn6
  obtain ⟨nn9, nn10⟩ := and_e nn8
  obtain ⟨nn11, nn12⟩ := and_e nn10
  obtain ⟨nn13, nn14⟩ := and_e nn12
  obtain ⟨nn15, nn16⟩ := and_e nn14
  obtain ⟨nn17, nn18⟩ := and_e nn16
  obtain ⟨nn19, nn20⟩ := and_e nn18
  obtain ⟨nn21, nn22⟩ := and_e nn20
  obtain ⟨nn23, nn24⟩ := and_e nn22
  obtain ⟨nn25, nn26⟩ := and_e nn24
  obtain ⟨nn27, nn28⟩ := and_e nn26
  obtain ⟨nn29, nn30⟩ := and_e nn28
  obtain ⟨nn31, nn32⟩ := and_e nn30
  obtain ⟨nn33, nn34⟩ := and_e nn32
  obtain ⟨nn35, nn36⟩ := and_e nn34
  obtain ⟨nn37, nn38⟩ := and_e nn36
  obtain ⟨nn39, nn40⟩ := and_e nn38
  obtain ⟨nn41, nn42⟩ := and_e nn40
  obtain ⟨a_SMALLINT, ev_SMALLINT⟩ := exa_v nn1
  have S_SMALLINT : Sta s s.heap "com/example/gate_to_tables/gatetotables/adql/catalog/Datatype" "SMALLINT" "Lcom/example/gate_to_tables/gatetotables/adql/catalog/Datatype;" (.ref a_SMALLINT) := Sta.start ev_SMALLINT (Or.inr ⟨(hw _ (List.mem_of_getElem? (i := 6) rfl)), (hw _ (List.mem_of_getElem? (i := 7) rfl))⟩)
  have E_SMALLINT : Exa s s.heap a_SMALLINT "com/example/gate_to_tables/gatetotables/adql/catalog/Datatype" := Exa.start ev_SMALLINT nn1
  obtain ⟨a_POINT, ev_POINT⟩ := exa_v nn3
  have S_POINT : Sta s s.heap "com/example/gate_to_tables/gatetotables/adql/catalog/Datatype" "POINT" "Lcom/example/gate_to_tables/gatetotables/adql/catalog/Datatype;" (.ref a_POINT) := Sta.start ev_POINT (Or.inr ⟨(hw _ (List.mem_of_getElem? (i := 6) rfl)), (hw _ (List.mem_of_getElem? (i := 25) rfl))⟩)
  have E_POINT : Exa s s.heap a_POINT "com/example/gate_to_tables/gatetotables/adql/catalog/Datatype" := Exa.start ev_POINT nn3
  obtain ⟨a_CIRCLE, ev_CIRCLE⟩ := exa_v nn9
  have S_CIRCLE : Sta s s.heap "com/example/gate_to_tables/gatetotables/adql/catalog/Datatype" "CIRCLE" "Lcom/example/gate_to_tables/gatetotables/adql/catalog/Datatype;" (.ref a_CIRCLE) := Sta.start ev_CIRCLE (Or.inr ⟨(hw _ (List.mem_of_getElem? (i := 6) rfl)), (hw _ (List.mem_of_getElem? (i := 27) rfl))⟩)
  have E_CIRCLE : Exa s s.heap a_CIRCLE "com/example/gate_to_tables/gatetotables/adql/catalog/Datatype" := Exa.start ev_CIRCLE nn9
  obtain ⟨a_POLYGON, ev_POLYGON⟩ := exa_v nn13
  have S_POLYGON : Sta s s.heap "com/example/gate_to_tables/gatetotables/adql/catalog/Datatype" "POLYGON" "Lcom/example/gate_to_tables/gatetotables/adql/catalog/Datatype;" (.ref a_POLYGON) := Sta.start ev_POLYGON (Or.inr ⟨(hw _ (List.mem_of_getElem? (i := 6) rfl)), (hw _ (List.mem_of_getElem? (i := 29) rfl))⟩)
  have E_POLYGON : Exa s s.heap a_POLYGON "com/example/gate_to_tables/gatetotables/adql/catalog/Datatype" := Exa.start ev_POLYGON nn13
  obtain ⟨a_REAL, ev_REAL⟩ := exa_v nn17
  have S_REAL : Sta s s.heap "com/example/gate_to_tables/gatetotables/adql/catalog/Datatype" "REAL" "Lcom/example/gate_to_tables/gatetotables/adql/catalog/Datatype;" (.ref a_REAL) := Sta.start ev_REAL (Or.inr ⟨(hw _ (List.mem_of_getElem? (i := 6) rfl)), (hw _ (List.mem_of_getElem? (i := 32) rfl))⟩)
  have E_REAL : Exa s s.heap a_REAL "com/example/gate_to_tables/gatetotables/adql/catalog/Datatype" := Exa.start ev_REAL nn17
  obtain ⟨a_INTEGER, ev_INTEGER⟩ := exa_v nn21
  have S_INTEGER : Sta s s.heap "com/example/gate_to_tables/gatetotables/adql/catalog/Datatype" "INTEGER" "Lcom/example/gate_to_tables/gatetotables/adql/catalog/Datatype;" (.ref a_INTEGER) := Sta.start ev_INTEGER (Or.inr ⟨(hw _ (List.mem_of_getElem? (i := 6) rfl)), (hw _ (List.mem_of_getElem? (i := 34) rfl))⟩)
  have E_INTEGER : Exa s s.heap a_INTEGER "com/example/gate_to_tables/gatetotables/adql/catalog/Datatype" := Exa.start ev_INTEGER nn21
  obtain ⟨a_BIGINT, ev_BIGINT⟩ := exa_v nn25
  have S_BIGINT : Sta s s.heap "com/example/gate_to_tables/gatetotables/adql/catalog/Datatype" "BIGINT" "Lcom/example/gate_to_tables/gatetotables/adql/catalog/Datatype;" (.ref a_BIGINT) := Sta.start ev_BIGINT (Or.inr ⟨(hw _ (List.mem_of_getElem? (i := 6) rfl)), (hw _ (List.mem_of_getElem? (i := 36) rfl))⟩)
  have E_BIGINT : Exa s s.heap a_BIGINT "com/example/gate_to_tables/gatetotables/adql/catalog/Datatype" := Exa.start ev_BIGINT nn25
  obtain ⟨a_TIMESTAMP, ev_TIMESTAMP⟩ := exa_v nn29
  have S_TIMESTAMP : Sta s s.heap "com/example/gate_to_tables/gatetotables/adql/catalog/Datatype" "TIMESTAMP" "Lcom/example/gate_to_tables/gatetotables/adql/catalog/Datatype;" (.ref a_TIMESTAMP) := Sta.start ev_TIMESTAMP (Or.inr ⟨(hw _ (List.mem_of_getElem? (i := 6) rfl)), (hw _ (List.mem_of_getElem? (i := 39) rfl))⟩)
  have E_TIMESTAMP : Exa s s.heap a_TIMESTAMP "com/example/gate_to_tables/gatetotables/adql/catalog/Datatype" := Exa.start ev_TIMESTAMP nn29
  obtain ⟨a_DOUBLE, ev_DOUBLE⟩ := exa_v nn33
  have S_DOUBLE : Sta s s.heap "com/example/gate_to_tables/gatetotables/adql/catalog/Datatype" "DOUBLE" "Lcom/example/gate_to_tables/gatetotables/adql/catalog/Datatype;" (.ref a_DOUBLE) := Sta.start ev_DOUBLE (Or.inr ⟨(hw _ (List.mem_of_getElem? (i := 6) rfl)), (hw _ (List.mem_of_getElem? (i := 41) rfl))⟩)
  have E_DOUBLE : Exa s s.heap a_DOUBLE "com/example/gate_to_tables/gatetotables/adql/catalog/Datatype" := Exa.start ev_DOUBLE nn33
  obtain ⟨a_VARCHAR, ev_VARCHAR⟩ := exa_v nn37
  have S_VARCHAR : Sta s s.heap "com/example/gate_to_tables/gatetotables/adql/catalog/Datatype" "VARCHAR" "Lcom/example/gate_to_tables/gatetotables/adql/catalog/Datatype;" (.ref a_VARCHAR) := Sta.start ev_VARCHAR (Or.inr ⟨(hw _ (List.mem_of_getElem? (i := 6) rfl)), (hw _ (List.mem_of_getElem? (i := 48) rfl))⟩)
  have E_VARCHAR : Exa s s.heap a_VARCHAR "com/example/gate_to_tables/gatetotables/adql/catalog/Datatype" := Exa.start ev_VARCHAR nn37
  obtain ⟨a_BOOLEAN, ev_BOOLEAN⟩ := exa_v nn41
  have S_BOOLEAN : Sta s s.heap "com/example/gate_to_tables/gatetotables/adql/catalog/Datatype" "BOOLEAN" "Lcom/example/gate_to_tables/gatetotables/adql/catalog/Datatype;" (.ref a_BOOLEAN) := Sta.start ev_BOOLEAN (Or.inr ⟨(hw _ (List.mem_of_getElem? (i := 6) rfl)), (hw _ (List.mem_of_getElem? (i := 50) rfl))⟩)
  have E_BOOLEAN : Exa s s.heap a_BOOLEAN "com/example/gate_to_tables/gatetotables/adql/catalog/Datatype" := Exa.start ev_BOOLEAN nn41
  have F_SMALLINT_ordinal : Fld s s.heap a_SMALLINT "java/lang/Enum" "ordinal" "I" (.int (0 : Int32)) := Fld.start ((fld_at ev_SMALLINT).symm.trans (own_eqi nn5))
  have F_POINT_ordinal : Fld s s.heap a_POINT "java/lang/Enum" "ordinal" "I" (.int (8 : Int32)) := Fld.start ((fld_at ev_POINT).symm.trans (own_eqi nn7))
  have F_CIRCLE_ordinal : Fld s s.heap a_CIRCLE "java/lang/Enum" "ordinal" "I" (.int (9 : Int32)) := Fld.start ((fld_at ev_CIRCLE).symm.trans (own_eqi nn11))
  have F_POLYGON_ordinal : Fld s s.heap a_POLYGON "java/lang/Enum" "ordinal" "I" (.int (10 : Int32)) := Fld.start ((fld_at ev_POLYGON).symm.trans (own_eqi nn15))
  have F_REAL_ordinal : Fld s s.heap a_REAL "java/lang/Enum" "ordinal" "I" (.int (3 : Int32)) := Fld.start ((fld_at ev_REAL).symm.trans (own_eqi nn19))
  have F_INTEGER_ordinal : Fld s s.heap a_INTEGER "java/lang/Enum" "ordinal" "I" (.int (1 : Int32)) := Fld.start ((fld_at ev_INTEGER).symm.trans (own_eqi nn23))
  have F_BIGINT_ordinal : Fld s s.heap a_BIGINT "java/lang/Enum" "ordinal" "I" (.int (2 : Int32)) := Fld.start ((fld_at ev_BIGINT).symm.trans (own_eqi nn27))
  have F_TIMESTAMP_ordinal : Fld s s.heap a_TIMESTAMP "java/lang/Enum" "ordinal" "I" (.int (7 : Int32)) := Fld.start ((fld_at ev_TIMESTAMP).symm.trans (own_eqi nn31))
  have F_DOUBLE_ordinal : Fld s s.heap a_DOUBLE "java/lang/Enum" "ordinal" "I" (.int (4 : Int32)) := Fld.start ((fld_at ev_DOUBLE).symm.trans (own_eqi nn35))
  have F_VARCHAR_ordinal : Fld s s.heap a_VARCHAR "java/lang/Enum" "ordinal" "I" (.int (5 : Int32)) := Fld.start ((fld_at ev_VARCHAR).symm.trans (own_eqi nn39))
  have F_BOOLEAN_ordinal : Fld s s.heap a_BOOLEAN "java/lang/Enum" "ordinal" "I" (.int (6 : Int32)) := Fld.start ((fld_at ev_BOOLEAN).symm.trans (own_eqi nn42))
  obtain ⟨n, o, h1, h2, h3, _, L, rfl, ⟨rfl, N⟩, hq⟩ := rm0 l s _ hw tables_1 i0 a_SMALLINT a_INTEGER a_BIGINT a_REAL a_DOUBLE a_VARCHAR a_BOOLEAN a_TIMESTAMP a_POINT a_CIRCLE a_POLYGON s.heap s.heap.size (Nat.le_refl _) S_SMALLINT S_INTEGER S_BIGINT S_REAL S_DOUBLE S_VARCHAR S_BOOLEAN S_TIMESTAMP S_POINT S_CIRCLE S_POLYGON E_SMALLINT E_INTEGER E_BIGINT E_REAL E_DOUBLE E_VARCHAR E_BOOLEAN E_TIMESTAMP E_POINT E_CIRCLE E_POLYGON F_SMALLINT_ordinal F_INTEGER_ordinal F_BIGINT_ordinal F_REAL_ordinal F_DOUBLE_ordinal F_VARCHAR_ordinal F_BOOLEAN_ordinal F_TIMESTAMP_ordinal F_POINT_ordinal F_CIRCLE_ordinal F_POLYGON_ordinal p e ha hc hk s m _ below hf ((Spec.applies_iff_loose hf).mp happ).1 ⟨rfl, State.Warmed39.refl s, rfl⟩ trivial
  refine ⟨n, _, h1, h2, h3, hpost _ _ _ _ _ _ ⟨Cond.after_iff.mpr rfl, Cond.after_iff.mpr (eq_i res_at (Term.int_eval (1)) rfl), trivial⟩ ⟨hq.1, hq.2.1, (hq.2.2.sift fun y hy => Or.inr (N y hy)).mono (by decide) (by decide)⟩⟩
theorem main_1_1 : Claimed_1_1 := comes_1 fun _ _ _ _ _ _ h hF => ⟨h.1, hF⟩
theorem main_1_2 : Claimed_1_2 := comes_1 fun _ _ _ _ _ _ h hF => ⟨h.2.1, hF⟩
end Jvm.Pilot.@@N@@
namespace Jvm.Pilot.@@N@@
open Jvm Jvm.ClassFile Sem Op Lib Jvm.Free Jvm.Stand Jvm.Pilot.@@N@@.Jvm.D
/-! MADE BY PROGRAM (witnessworld.py) out of the Statement's table words and the real class files: 12 classes; the members and pool entries that the words name. The judged class is class 1, her method 2. -/
namespace start1
open Jvm.ClassFile
def u (s : String) : CpInfo := .utf8 (stringToUtf16 s)
/-- a pool by its gaps: so many unusable entries, then the entry; so many at the end -/
def gap : Nat → List CpInfo → List CpInfo
  | 0, r => r
  | n + 1, r => .unusable :: gap n r
def poolList (es : List (Nat × CpInfo)) (last : Nat) : List CpInfo := es.foldr (fun e r => gap e.1 (e.2 :: r)) (gap last [])
def pool (es : List (Nat × CpInfo)) (last : Nat) : Array CpInfo := ⟨poolList es last⟩
def fileOf (pool : Array CpInfo) (this : Nat) (attrs : Array Attribute := #[]) (ms : Array MethodInfo := #[]) (fl : Nat := 33) (sup : Nat := 0) (ifs : Array Nat := #[]) (fds : Array FieldInfo := #[]) : ClassFile where
  minorVersion := 0
  majorVersion := 65
  constantPool := pool
  accessFlags := fl
  thisClass := this
  superClass := sup
  interfaces := ifs
  fields := fds
  methods := ms
  attributes := attrs
def plain (name : String) (sup : Option ClassId) : Class where
  name := name
  kind := .ordinary
  loader := none
  accessFlags := 33
  super := sup
  interfaces := #[]
  cf := none
  fields := #[]
  methods := #[]
  instanceTypes := #[]
  staticTypes := #[]
  resolved := #[]
  callSites := []
  init := .initialized
  statics := none
  mirror := none

def pool0 : Array CpInfo := pool [(5, u "<init>"), (0, u "()V"), (1, .class_ 10), (1, u "java/lang/Object")] 113

def k0m0 : Method := { name := "<init>", desc := "()V", sig := { parameters := [], returnType := none }, accessFlags := 1, code := none }
/-- java/lang/Object -/
def k0 : Class := { plain "java/lang/Object" none with
  accessFlags := 33
  interfaces := #[]
  cf := some (fileOf pool0 8 #[] #[{ accessFlags := 1, nameIndex := 5, descriptorIndex := 6, attributes := #[] }] 33 0 #[] #[])
  fields := #[]
  methods := #[k0m0]
  instanceTypes := #[]
  staticTypes := #[]
  resolved := Array.replicate 124 none
  statics := none }

def pool1 : Array CpInfo := pool [(2, .class_ 4), (1, u "java/lang/Object"), (0, u "<init>"), (0, u "()V"), (0, .fieldref 8 9), (0, .class_ 10), (0, .nameAndType 11 12), (0, u "com/example/gate_to_tables/gatetotables/adql/catalog/Datatype"), (0, u "SMALLINT"), (0, u "Lcom/example/gate_to_tables/gatetotables/adql/catalog/Datatype;"), (0, .fieldref 8 14), (0, .nameAndType 15 12), (0, u "INTEGER"), (0, .fieldref 8 17), (0, .nameAndType 18 12), (0, u "BIGINT"), (0, .fieldref 8 20), (0, .nameAndType 21 12), (0, u "REAL"), (0, .fieldref 8 23), (0, .nameAndType 24 12), (0, u "DOUBLE"), (0, .fieldref 8 26), (0, .nameAndType 27 12), (0, u "VARCHAR"), (0, .fieldref 8 29), (0, .nameAndType 30 12), (0, u "BOOLEAN"), (0, .fieldref 8 32), (0, .nameAndType 33 12), (0, u "TIMESTAMP"), (0, .fieldref 8 35), (0, .nameAndType 36 12), (0, u "POINT"), (0, .fieldref 8 38), (0, .nameAndType 39 12), (0, u "CIRCLE"), (0, .fieldref 8 41), (0, .nameAndType 42 12), (0, u "POLYGON"), (0, .integer 2147483647), (0, .methodref 45 46), (0, .class_ 47), (0, .nameAndType 48 49), (0, u "com/example/gate_to_tables/gatetotables/adql/catalog/DatatypeIsNumericPinLaw"), (0, u "pick"), (0, u "(I)Lcom/example/gate_to_tables/gatetotables/adql/catalog/Datatype;"), (0, .methodref 8 51), (0, .nameAndType 52 53), (0, u "isNumeric"), (0, u "()Z"), (0, .methodref 8 55), (0, .nameAndType 56 53), (0, u "isOrdered"), (0, .methodref 8 58), (0, .nameAndType 59 53), (0, u "isGeometry"), (3, u "law"), (0, u "(I)Z")] 2

def k1m0 : Method := { name := "<init>", desc := "()V", sig := { parameters := [], returnType := none }, accessFlags := 2, code := none }
def k1c1 : Code := { maxStack := 2, maxLocals := 1, code := method_2_code, exceptionTable := #[], attributes := #[] }
def k1m1 : Method := { name := "pick", desc := "(I)Lcom/example/gate_to_tables/gatetotables/adql/catalog/Datatype;", sig := { parameters := [.int], returnType := some (.object "com/example/gate_to_tables/gatetotables/adql/catalog/Datatype") }, accessFlags := 10, code := some k1c1 }
def k1c2 : Code := { maxStack := 2, maxLocals := 5, code := code, exceptionTable := #[], attributes := #[] }
def k1m2 : Method := { name := "law", desc := "(I)Z", sig := { parameters := [.int], returnType := some .boolean }, accessFlags := 9, code := some k1c2 }
/-- com/example/gate_to_tables/gatetotables/adql/catalog/DatatypeIsNumericPinLaw -/
def k1 : Class := { plain "com/example/gate_to_tables/gatetotables/adql/catalog/DatatypeIsNumericPinLaw" (some 0) with
  accessFlags := 49
  interfaces := #[]
  cf := some (fileOf pool1 45 #[] #[{ accessFlags := 2, nameIndex := 5, descriptorIndex := 6, attributes := #[] }, { accessFlags := 10, nameIndex := 48, descriptorIndex := 49, attributes := #[] }, { accessFlags := 9, nameIndex := 63, descriptorIndex := 64, attributes := #[] }] 49 2 #[] #[])
  fields := #[]
  methods := #[k1m0, k1m1, k1m2]
  instanceTypes := #[]
  staticTypes := #[]
  resolved := Array.replicate 67 none
  statics := none }

def pool2 : Array CpInfo := pool [(1, .class_ 2), (0, u "java/lang/constant/Constable"), (0, .class_ 4), (0, u "java/lang/Object")] 6

/-- java/lang/constant/Constable -/
def k2 : Class := { plain "java/lang/constant/Constable" (some 0) with
  accessFlags := 1537
  interfaces := #[]
  cf := some (fileOf pool2 1 #[] #[] 1537 3 #[] #[])
  fields := #[]
  methods := #[]
  instanceTypes := #[]
  staticTypes := #[]
  resolved := Array.replicate 11 none
  statics := none }

def pool3 : Array CpInfo := pool [(1, .class_ 2), (0, u "java/lang/Comparable"), (0, .class_ 4), (0, u "java/lang/Object")] 7

/-- java/lang/Comparable -/
def k3 : Class := { plain "java/lang/Comparable" (some 0) with
  accessFlags := 1537
  interfaces := #[]
  cf := some (fileOf pool3 1 #[] #[] 1537 3 #[] #[])
  fields := #[]
  methods := #[]
  instanceTypes := #[]
  staticTypes := #[]
  resolved := Array.replicate 12 none
  statics := none }

def pool4 : Array CpInfo := pool [(1, .class_ 2), (0, u "java/io/Serializable"), (0, .class_ 4), (0, u "java/lang/Object")] 2

/-- java/io/Serializable -/
def k4 : Class := { plain "java/io/Serializable" (some 0) with
  accessFlags := 1537
  interfaces := #[]
  cf := some (fileOf pool4 1 #[] #[] 1537 3 #[] #[])
  fields := #[]
  methods := #[]
  instanceTypes := #[]
  staticTypes := #[]
  resolved := Array.replicate 7 none
  statics := none }

def pool5 : Array CpInfo := pool [(2, .class_ 4), (1, u "java/lang/Enum"), (0, u "name"), (0, u "Ljava/lang/String;"), (2, u "ordinal"), (0, u "I"), (1, .class_ 14), (1, u "java/lang/Object"), (4, u "hash"), (86, .class_ 108), (1, u "java/lang/Enum$EnumDesc"), (2, .class_ 112), (0, u "java/lang/constant/Constable"), (0, .class_ 114), (0, u "java/lang/Comparable"), (0, .class_ 116), (0, u "java/io/Serializable")] 87

/-- java/lang/Enum -/
def k5 : Class := { plain "java/lang/Enum" (some 0) with
  accessFlags := 1057
  interfaces := #[2, 3, 4]
  cf := some (fileOf pool5 2 #[.nestMembers #[106]] #[] 1057 12 #[111, 113, 115] #[{ accessFlags := 18, nameIndex := 5, descriptorIndex := 6, attributes := #[] }, { accessFlags := 18, nameIndex := 9, descriptorIndex := 10, attributes := #[] }, { accessFlags := 2, nameIndex := 19, descriptorIndex := 10, attributes := #[] }])
  fields := #[{ name := "name", type := (.object "java/lang/String"), accessFlags := 18, slot := 0, constantValue := 0 }, { name := "ordinal", type := .int, accessFlags := 18, slot := 1, constantValue := 0 }, { name := "hash", type := .int, accessFlags := 2, slot := 2, constantValue := 0 }]
  methods := #[]
  instanceTypes := #[(.object "java/lang/String"), .int, .int]
  staticTypes := #[]
  resolved := Array.replicate 204 none
  statics := none }

def pool6 : Array CpInfo := pool [(1, .class_ 2), (0, u "com/example/gate_to_tables/gatetotables/adql/catalog/Datatype"), (0, .fieldref 1 4), (0, .nameAndType 5 6), (0, u "SMALLINT"), (0, u "Lcom/example/gate_to_tables/gatetotables/adql/catalog/Datatype;"), (0, .fieldref 1 8), (0, .nameAndType 9 6), (0, u "INTEGER"), (0, .fieldref 1 11), (0, .nameAndType 12 6), (0, u "BIGINT"), (0, .fieldref 1 14), (0, .nameAndType 15 6), (0, u "REAL"), (0, .fieldref 1 17), (0, .nameAndType 18 6), (0, u "DOUBLE"), (2, u "VARCHAR"), (2, u "BOOLEAN"), (2, u "TIMESTAMP"), (0, .fieldref 1 29), (0, .nameAndType 30 6), (0, u "POINT"), (0, .fieldref 1 32), (0, .nameAndType 33 6), (0, u "CIRCLE"), (0, .fieldref 1 35), (0, .nameAndType 36 6), (0, u "POLYGON"), (2, u "$VALUES"), (0, u "[Lcom/example/gate_to_tables/gatetotables/adql/catalog/Datatype;"), (6, .class_ 49), (1, u "java/lang/Enum"), (30, .methodref 1 81), (0, .nameAndType 82 83), (0, u "isGeometry"), (0, u "()Z"), (11, u "WHOLE_NUMBER"), (0, u "Ljava/util/regex/Pattern;"), (28, u "DECIMAL_NUMBER"), (27, .class_ 155), (1, u "com/example/gate_to_tables/gatetotables/adql/catalog/Datatype$Geometry"), (14, u "TIMESTAMP_FORM"), (2, u "ZERO"), (51, u "SPACES"), (201, u "DATE"), (11, u "DATE_TIME"), (34, u "TIME"), (0, u "Ljava/lang/String;"), (11, u "isNumeric"), (0, u "isOrdered")] 41

def k6c0 : Code := { maxStack := 2, maxLocals := 1, code := prog_5_method_5_code, exceptionTable := #[], attributes := #[] }
def k6m0 : Method := { name := "isNumeric", desc := "()Z", sig := { parameters := [], returnType := some .boolean }, accessFlags := 1, code := some k6c0 }
def k6c1 : Code := { maxStack := 1, maxLocals := 1, code := prog_5_method_6_code, exceptionTable := #[], attributes := #[] }
def k6m1 : Method := { name := "isOrdered", desc := "()Z", sig := { parameters := [], returnType := some .boolean }, accessFlags := 1, code := some k6c1 }
def k6c2 : Code := { maxStack := 2, maxLocals := 1, code := prog_5_method_7_code, exceptionTable := #[], attributes := #[] }
def k6m2 : Method := { name := "isGeometry", desc := "()Z", sig := { parameters := [], returnType := some .boolean }, accessFlags := 1, code := some k6c2 }
/-- com/example/gate_to_tables/gatetotables/adql/catalog/Datatype -/
def k6 : Class := { plain "com/example/gate_to_tables/gatetotables/adql/catalog/Datatype" (some 5) with
  accessFlags := 16433
  interfaces := #[]
  cf := some (fileOf pool6 1 #[.nestMembers #[153]] #[{ accessFlags := 1, nameIndex := 487, descriptorIndex := 83, attributes := #[] }, { accessFlags := 1, nameIndex := 488, descriptorIndex := 83, attributes := #[] }, { accessFlags := 1, nameIndex := 82, descriptorIndex := 83, attributes := #[] }] 16433 47 #[] #[{ accessFlags := 16409, nameIndex := 5, descriptorIndex := 6, attributes := #[] }, { accessFlags := 16409, nameIndex := 9, descriptorIndex := 6, attributes := #[] }, { accessFlags := 16409, nameIndex := 12, descriptorIndex := 6, attributes := #[] }, { accessFlags := 16409, nameIndex := 15, descriptorIndex := 6, attributes := #[] }, { accessFlags := 16409, nameIndex := 18, descriptorIndex := 6, attributes := #[] }, { accessFlags := 16409, nameIndex := 21, descriptorIndex := 6, attributes := #[] }, { accessFlags := 16409, nameIndex := 24, descriptorIndex := 6, attributes := #[] }, { accessFlags := 16409, nameIndex := 27, descriptorIndex := 6, attributes := #[] }, { accessFlags := 16409, nameIndex := 30, descriptorIndex := 6, attributes := #[] }, { accessFlags := 16409, nameIndex := 33, descriptorIndex := 6, attributes := #[] }, { accessFlags := 16409, nameIndex := 36, descriptorIndex := 6, attributes := #[] }, { accessFlags := 26, nameIndex := 95, descriptorIndex := 96, attributes := #[] }, { accessFlags := 26, nameIndex := 125, descriptorIndex := 96, attributes := #[] }, { accessFlags := 26, nameIndex := 173, descriptorIndex := 96, attributes := #[] }, { accessFlags := 26, nameIndex := 427, descriptorIndex := 96, attributes := #[] }, { accessFlags := 26, nameIndex := 474, descriptorIndex := 475, attributes := #[] }, { accessFlags := 26, nameIndex := 439, descriptorIndex := 96, attributes := #[] }, { accessFlags := 26, nameIndex := 170, descriptorIndex := 96, attributes := #[] }, { accessFlags := 26, nameIndex := 225, descriptorIndex := 96, attributes := #[] }, { accessFlags := 4122, nameIndex := 39, descriptorIndex := 40, attributes := #[] }])
  fields := #[{ name := "SMALLINT", type := (.object "com/example/gate_to_tables/gatetotables/adql/catalog/Datatype"), accessFlags := 16409, slot := 0, constantValue := 0 }, { name := "INTEGER", type := (.object "com/example/gate_to_tables/gatetotables/adql/catalog/Datatype"), accessFlags := 16409, slot := 1, constantValue := 0 }, { name := "BIGINT", type := (.object "com/example/gate_to_tables/gatetotables/adql/catalog/Datatype"), accessFlags := 16409, slot := 2, constantValue := 0 }, { name := "REAL", type := (.object "com/example/gate_to_tables/gatetotables/adql/catalog/Datatype"), accessFlags := 16409, slot := 3, constantValue := 0 }, { name := "DOUBLE", type := (.object "com/example/gate_to_tables/gatetotables/adql/catalog/Datatype"), accessFlags := 16409, slot := 4, constantValue := 0 }, { name := "VARCHAR", type := (.object "com/example/gate_to_tables/gatetotables/adql/catalog/Datatype"), accessFlags := 16409, slot := 5, constantValue := 0 }, { name := "BOOLEAN", type := (.object "com/example/gate_to_tables/gatetotables/adql/catalog/Datatype"), accessFlags := 16409, slot := 6, constantValue := 0 }, { name := "TIMESTAMP", type := (.object "com/example/gate_to_tables/gatetotables/adql/catalog/Datatype"), accessFlags := 16409, slot := 7, constantValue := 0 }, { name := "POINT", type := (.object "com/example/gate_to_tables/gatetotables/adql/catalog/Datatype"), accessFlags := 16409, slot := 8, constantValue := 0 }, { name := "CIRCLE", type := (.object "com/example/gate_to_tables/gatetotables/adql/catalog/Datatype"), accessFlags := 16409, slot := 9, constantValue := 0 }, { name := "POLYGON", type := (.object "com/example/gate_to_tables/gatetotables/adql/catalog/Datatype"), accessFlags := 16409, slot := 10, constantValue := 0 }, { name := "WHOLE_NUMBER", type := (.object "java/util/regex/Pattern"), accessFlags := 26, slot := 11, constantValue := 0 }, { name := "DECIMAL_NUMBER", type := (.object "java/util/regex/Pattern"), accessFlags := 26, slot := 12, constantValue := 0 }, { name := "ZERO", type := (.object "java/util/regex/Pattern"), accessFlags := 26, slot := 13, constantValue := 0 }, { name := "DATE", type := (.object "java/util/regex/Pattern"), accessFlags := 26, slot := 14, constantValue := 0 }, { name := "TIME", type := (.object "java/lang/String"), accessFlags := 26, slot := 15, constantValue := 0 }, { name := "DATE_TIME", type := (.object "java/util/regex/Pattern"), accessFlags := 26, slot := 16, constantValue := 0 }, { name := "TIMESTAMP_FORM", type := (.object "java/util/regex/Pattern"), accessFlags := 26, slot := 17, constantValue := 0 }, { name := "SPACES", type := (.object "java/util/regex/Pattern"), accessFlags := 26, slot := 18, constantValue := 0 }, { name := "$VALUES", type := (.array (.object "com/example/gate_to_tables/gatetotables/adql/catalog/Datatype")), accessFlags := 4122, slot := 19, constantValue := 0 }]
  methods := #[k6m0, k6m1, k6m2]
  instanceTypes := #[(.object "java/lang/String"), .int, .int]
  staticTypes := #[(.object "com/example/gate_to_tables/gatetotables/adql/catalog/Datatype"), (.object "com/example/gate_to_tables/gatetotables/adql/catalog/Datatype"), (.object "com/example/gate_to_tables/gatetotables/adql/catalog/Datatype"), (.object "com/example/gate_to_tables/gatetotables/adql/catalog/Datatype"), (.object "com/example/gate_to_tables/gatetotables/adql/catalog/Datatype"), (.object "com/example/gate_to_tables/gatetotables/adql/catalog/Datatype"), (.object "com/example/gate_to_tables/gatetotables/adql/catalog/Datatype"), (.object "com/example/gate_to_tables/gatetotables/adql/catalog/Datatype"), (.object "com/example/gate_to_tables/gatetotables/adql/catalog/Datatype"), (.object "com/example/gate_to_tables/gatetotables/adql/catalog/Datatype"), (.object "com/example/gate_to_tables/gatetotables/adql/catalog/Datatype"), (.object "java/util/regex/Pattern"), (.object "java/util/regex/Pattern"), (.object "java/util/regex/Pattern"), (.object "java/util/regex/Pattern"), (.object "java/lang/String"), (.object "java/util/regex/Pattern"), (.object "java/util/regex/Pattern"), (.object "java/util/regex/Pattern"), (.array (.object "com/example/gate_to_tables/gatetotables/adql/catalog/Datatype"))]
  resolved := Array.replicate 530 none
  statics := some 0 }

def pool7 : Array CpInfo := pool [(1, u "java/lang/Cloneable"), (0, .class_ 1), (0, u "java/lang/Object"), (0, .class_ 3)] 3

/-- java/lang/Cloneable -/
def k7 : Class := { plain "java/lang/Cloneable" (some 0) with
  accessFlags := 1537
  interfaces := #[]
  cf := some (fileOf pool7 2 #[] #[] 1537 4 #[] #[])
  fields := #[]
  methods := #[]
  instanceTypes := #[]
  staticTypes := #[]
  resolved := Array.replicate 8 none
  statics := none }

/-- the primitive byte -/
def k8 : Class := { plain "byte" none with kind := .primitive 'B', accessFlags := 0x411 }
/-- [B -/
def k9 : Class := { plain "[B" (some 0) with kind := .array 8 .byte, interfaces := #[7, 4], accessFlags := 1041 }

/-- the primitive int -/
def k10 : Class := { plain "int" none with kind := .primitive 'I', accessFlags := 0x411 }
/-- [I -/
def k11 : Class := { plain "[I" (some 0) with kind := .array 10 .int, interfaces := #[7, 4], accessFlags := 1041 }

def heap : Heap := #[{ cls := 6, slots := #[.ref 1, .ref 6, .ref 7, .ref 5, .ref 9, .ref 10, .ref 11, .ref 8, .ref 2, .ref 3, .ref 4, .null, .null, .null, .null, .null, .null, .null, .null, .null], vm := .statics 6 },
  { cls := 6, slots := #[.null, .int 0, .int 0], vm := .none },
  { cls := 6, slots := #[.null, .int 8, .int 0], vm := .none },
  { cls := 6, slots := #[.null, .int 9, .int 0], vm := .none },
  { cls := 6, slots := #[.null, .int 10, .int 0], vm := .none },
  { cls := 6, slots := #[.null, .int 3, .int 0], vm := .none },
  { cls := 6, slots := #[.null, .int 1, .int 0], vm := .none },
  { cls := 6, slots := #[.null, .int 2, .int 0], vm := .none },
  { cls := 6, slots := #[.null, .int 7, .int 0], vm := .none },
  { cls := 6, slots := #[.null, .int 4, .int 0], vm := .none },
  { cls := 6, slots := #[.null, .int 5, .int 0], vm := .none },
  { cls := 6, slots := #[.null, .int 6, .int 0], vm := .none }]
def classes : Array Class := #[k0, k1, k2, k3, k4, k5, k6, k7, k8, k9, k10, k11]
def interned : List (Array UInt16 × Addr) := []
def slotsUsed : Nat := 53
def theMethod : MethodId := ⟨1, 2⟩
def args0 : Array Value := #[.int 7]
def aboutOver (below : List Frame) : State where
  vm := { classes := classes, interned := interned.toArray }
  heap := heap
  slotsUsed := slotsUsed
  threads := #[{ frames := .invoking theMethod args0 :: below }]
def below0 : List Frame := [.native { method := ⟨0, 0⟩, args := #[] }]
def about1 : State := aboutOver below0
def p0 : Program := .bare "" "" ""
def e0 : Env := launch0.env 0 0 0
theorem w_frames : about1.frames = Frame.invoking theMethod args0 :: below0 := rfl
set_option maxRecDepth 65536 in
theorem w_args : argsFit about1.vm theMethod args0 = true := by decide +kernel
set_option maxRecDepth 65536 in
theorem w_heap : heapFits about1 = true := by decide +kernel
set_option maxRecDepth 65536 in
theorem w_runnable : about1.curStatus? = some .runnable := by decide +kernel
set_option maxRecDepth 65536 in
theorem w_alone : about1.alone = true := by decide +kernel
set_option maxRecDepth 65536 in
theorem w_named : about1.methodNamed? x = some theMethod := by decide +kernel
set_option maxRecDepth 65536 in
theorem w_hears : about1.hears theMethod below0 = true := by decide +kernel
set_option maxRecDepth 65536 in
theorem w_ripe : about1.ripe theMethod args0 below0 = true := by decide +kernel
theorem w_running : about1.status = .running := rfl
set_option maxRecDepth 65536 in
theorem w_room : about1.hasRoom e0.platform room_1 = true :=
  launch0.hasRoom_least _ room_1 (by decide +kernel) (by decide +kernel) (by decide +kernel) (by decide +kernel) (by decide +kernel) (by decide +kernel)
theorem allAtoms_all (ts : List Jvm.Cond) (a : Array Jvm.Value) (st : Jvm.State) : (allAtoms ts).before a st = ts.all (fun c => c.before a st) := by
  induction ts with
  | nil => rfl
  | cons c t ih =>
    show (Jvm.Cond.and c (allAtoms t)).before a st = _
    rw [Jvm.Cond.before_and, ih, List.all_cons]
def words1 : List Jvm.Cond := Jvm.Cond.code x code maxLocals ret :: tables_1
/-- a 'code' word, met by the world's own term for the bytes: nothing is compared byte by byte -/
theorem code_word {y : MethodName} {bytes : ByteArray} {mx : Nat} {rt : Option FieldType} {a : Array Value} {s : State} {m : MethodId} {meth : Method} {c : Code} (h1 : s.methodNamed? y = some m) (h2 : s.vm.method? m = some meth) (h3 : meth.code = some c) (h4 : c.code = bytes)
    (h5 : (c.maxLocals == mx && c.exceptionTable.isEmpty && decide (c.maxStack ≤ mostOperands) && decide (meth.sig.returnType = rt) && !meth.locks && decide (parseMethodDescriptor y.desc = some meth.sig)) = true) : (Jvm.Cond.code y bytes mx rt).before a s = true := by
  simp only [Bool.and_eq_true, beq_iff_eq, Bool.not_eq_true', decide_eq_true_eq] at h5
  obtain ⟨⟨⟨⟨⟨g1, g2⟩, g3⟩, g4⟩, g5⟩, g6⟩ := h5
  simp [Cond.before, Cond.holds, Cond.value, h1, h2, h3, h4, g1, g2, g3, g4, g5, g6]
def isCode : Jvm.Cond → Bool
  | .code _ _ _ _ => true
  | _ => false
theorem all_split {L : List Jvm.Cond} {P : Jvm.Cond → Bool} (h1 : L.all (fun c => isCode c || P c) = true) (h2 : ∀ c ∈ L.filter isCode, P c = true) : L.all P = true := by
  refine List.all_eq_true.mpr fun c hc => ?_
  have h := List.all_eq_true.mp h1 c hc
  rcases Bool.eq_false_or_eq_true (isCode c) with hi | hi
  · exact h2 c (List.mem_filter.mpr ⟨hc, hi⟩)
  · simpa [hi] using h
set_option maxRecDepth 65536 in
theorem w_c0 : (Jvm.Cond.code x code maxLocals ret).before args0 about1 = true := code_word (m := ⟨1, 2⟩) (meth := k1m2) (c := k1c2) (by decide +kernel) rfl rfl rfl (by decide +kernel)
set_option maxRecDepth 65536 in
theorem w_c1 : (Jvm.Cond.code ({ cls := "com/example/gate_to_tables/gatetotables/adql/catalog/DatatypeIsNumericPinLaw", name := "pick", desc := "(I)Lcom/example/gate_to_tables/gatetotables/adql/catalog/Datatype;" } : Jvm.MethodName) method_2_code (1 : Nat) (Option.some (Jvm.ClassFile.FieldType.object "com/example/gate_to_tables/gatetotables/adql/catalog/Datatype"))).before args0 about1 = true := code_word (m := ⟨1, 1⟩) (meth := k1m1) (c := k1c1) (by decide +kernel) rfl rfl rfl (by decide +kernel)
set_option maxRecDepth 65536 in
theorem w_c2 : (Jvm.Cond.code ({ cls := "com/example/gate_to_tables/gatetotables/adql/catalog/Datatype", name := "isNumeric", desc := "()Z" } : Jvm.MethodName) prog_5_method_5_code (1 : Nat) (Option.some Jvm.ClassFile.FieldType.boolean)).before args0 about1 = true := code_word (m := ⟨6, 0⟩) (meth := k6m0) (c := k6c0) (by decide +kernel) rfl rfl rfl (by decide +kernel)
set_option maxRecDepth 65536 in
theorem w_c3 : (Jvm.Cond.code ({ cls := "com/example/gate_to_tables/gatetotables/adql/catalog/Datatype", name := "isOrdered", desc := "()Z" } : Jvm.MethodName) prog_5_method_6_code (1 : Nat) (Option.some Jvm.ClassFile.FieldType.boolean)).before args0 about1 = true := code_word (m := ⟨6, 1⟩) (meth := k6m1) (c := k6c1) (by decide +kernel) rfl rfl rfl (by decide +kernel)
set_option maxRecDepth 65536 in
theorem w_c4 : (Jvm.Cond.code ({ cls := "com/example/gate_to_tables/gatetotables/adql/catalog/Datatype", name := "isGeometry", desc := "()Z" } : Jvm.MethodName) prog_5_method_7_code (1 : Nat) (Option.some Jvm.ClassFile.FieldType.boolean)).before args0 about1 = true := code_word (m := ⟨6, 2⟩) (meth := k6m2) (c := k6c2) (by decide +kernel) rfl rfl rfl (by decide +kernel)
def codes1 : List Jvm.Cond := [Jvm.Cond.code x code maxLocals ret, Jvm.Cond.code ({ cls := "com/example/gate_to_tables/gatetotables/adql/catalog/DatatypeIsNumericPinLaw", name := "pick", desc := "(I)Lcom/example/gate_to_tables/gatetotables/adql/catalog/Datatype;" } : Jvm.MethodName) method_2_code (1 : Nat) (Option.some (Jvm.ClassFile.FieldType.object "com/example/gate_to_tables/gatetotables/adql/catalog/Datatype")), Jvm.Cond.code ({ cls := "com/example/gate_to_tables/gatetotables/adql/catalog/Datatype", name := "isNumeric", desc := "()Z" } : Jvm.MethodName) prog_5_method_5_code (1 : Nat) (Option.some Jvm.ClassFile.FieldType.boolean), Jvm.Cond.code ({ cls := "com/example/gate_to_tables/gatetotables/adql/catalog/Datatype", name := "isOrdered", desc := "()Z" } : Jvm.MethodName) prog_5_method_6_code (1 : Nat) (Option.some Jvm.ClassFile.FieldType.boolean), Jvm.Cond.code ({ cls := "com/example/gate_to_tables/gatetotables/adql/catalog/Datatype", name := "isGeometry", desc := "()Z" } : Jvm.MethodName) prog_5_method_7_code (1 : Nat) (Option.some Jvm.ClassFile.FieldType.boolean)]
set_option maxRecDepth 65536 in
theorem codes_eq : words1.filter isCode = codes1 := rfl
theorem w_codes : ∀ c ∈ words1.filter isCode, c.before args0 about1 = true := by
  rw [codes_eq]
  intro c hc
  simp only [codes1, List.mem_cons, List.not_mem_nil, or_false] at hc
  rcases hc with rfl | rfl | rfl | rfl | rfl
  · exact w_c0
  · exact w_c1
  · exact w_c2
  · exact w_c3
  · exact w_c4
set_option maxRecDepth 65536 in
theorem w_t1 : (words1.take 24).all (fun c => isCode c || c.before args0 about1) = true := by decide +kernel
set_option maxRecDepth 65536 in
theorem w_t2 : ((words1.drop 24).take 24).all (fun c => isCode c || c.before args0 about1) = true := by decide +kernel
set_option maxRecDepth 65536 in
theorem w_t3 : ((words1.drop 24).drop 24).all (fun c => isCode c || c.before args0 about1) = true := by decide +kernel
theorem w_tables : (allAtoms (Jvm.Cond.code x code maxLocals ret :: tables_1)).before args0 about1 = true := by
  rw [allAtoms_all]
  show words1.all (fun c => c.before args0 about1) = true
  refine all_split ?_ w_codes
  rw [← List.take_append_drop 24 words1, List.all_append, w_t1, ← List.take_append_drop 24 (words1.drop 24), List.all_append, w_t2, w_t3]
  rfl
set_option maxRecDepth 65536 in
theorem w_case : (Jvm.Cond.and given_1 narrow_1).before args0 about1 = true := by decide +kernel
theorem w_applies : (headSpec (Jvm.Cond.code x code maxLocals ret :: tables_1) room_1).applies x e0.platform about1 = true :=
  (Spec.applies_iff w_frames).mpr ⟨w_running, w_runnable, w_alone, w_named, w_hears, w_ripe, w_room, w_tables⟩
theorem atStart : AtStart classFile x code maxLocals ret World_1 tables_1 room_1 Calls_1 rest_1 Pre_1 launch0 p0 e0 about1 theMethod args0 below0 :=
  ⟨lists_1, trivial, launch0.admits_env _ _ _, launch0.least_env, fairChoices_fair.cas, fairChoices_fair.clock, w_frames, w_args, w_heap, w_applies, trivial, trivial, w_case⟩
end start1
theorem witness_1 : WitnessClaimed_1 := ⟨start1.p0, start1.e0, start1.about1, start1.theMethod, start1.args0, start1.below0, start1.atStart⟩
end Jvm.Pilot.@@N@@
