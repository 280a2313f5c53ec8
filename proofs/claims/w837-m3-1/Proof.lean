import JvmDerived
import JvmDerived.Pilot.@@N@@Statement
import JvmDerived.Pilot.@@N@@Code
set_option linter.unusedVariables false
set_option linter.unusedSimpArgs false
@@BLOCK:NumsL.lean.txt@@
namespace Jvm.RoadKit
open Sem ClassFile Op Lib Jvm.Stand Jvm.Free Jvm.LawKit
section New
variable {p : Program} {l : Launch} {e : Env} {R : Room} {s : State} {m : MethodId} {args : Array Value} {below : List Frame} {meth : Method} {c : Code} {T : State} {locs : List Loc} {cells slots : Nat}
theorem retI (X : Stand p l e R s m args below meth c T locs cells slots) (hx : p.tables.exec = Jvm.exec) {pc : Nat} {Ls : Array Slot} {z : Int32} {rest : List Value} (hret : meth.sig.returnType = some .int) (hd : decode c.code pc = .ok (.ireturn, 1)) {fs : List Frame}
    (hl : ∀ (f : JFrame) (acts : List Action), f.method = m → f.locked = none → f.entered = [] → (doReturn e (T.setTop f) acts (some (.int z))).1 = T.setFrames fs) : Steps p.tables e below (T.setTop (mkF m pc Ls (.int z :: rest))) (T.setFrames fs) := by
  have hm' : T.vm.method? m = some meth := X.method'
  have hn : narrow .int (.int z) = .int z := rfl
  show Steps p.tables e below (T.setTop { method := m, pc := pc, locals := Ls, stack := _ :: rest, locked := none }) _
  jvm_step X.here [X.here.top, hx, hd, hm', hret, hn]
  first | (intro acts; rw [hl _ acts rfl rfl rfl]) | rw [hl _ _ rfl rfl rfl]
  exact Steps.refl _
end New
end Jvm.RoadKit
namespace Jvm.Pilot.@@N@@
open Jvm Jvm.ClassFile Sem Op Lib Jvm.Free Jvm.Stand Jvm.LawKit Jvm.RoadKit Bundle Jvm.Pilot.@@N@@.Jvm.D
/-- what is still to be run from the state A on: it ends, returned, and Q says what it leaves -/
def own_Gl (FE : State → Outcome → State → List Loc → Nat → Nat → Prop) (p : Program) (e : Env) (below : List Frame) (s : State) (Q : Option Value → Heap → List Loc → Prop) (C N : Nat) (A : State) : Prop :=
  ∃ s₂ o, Steps p.tables e below A s₂ ∧ s₂.status = .running ∧ Ended s₂ below o ∧ ∃ v L, o = .returned v ∧ Q v s₂.heap L ∧ FE s o s₂ L C N
theorem own_st {FE : State → Outcome → State → List Loc → Nat → Nat → Prop} {p : Program} {e : Env} {below : List Frame} {s : State} {Q : Option Value → Heap → List Loc → Prop} {C N : Nat} {A A' : State} (h : ∀ t, Steps p.tables e below A' t → Steps p.tables e below A t) (k : own_Gl FE p e below s Q C N A') : own_Gl FE p e below s Q C N A := by
  obtain ⟨s2, o, h1, r⟩ := k
  exact ⟨s2, o, h _ h1, r⟩
theorem own_tr {FE : State → Outcome → State → List Loc → Nat → Nat → Prop} {p : Program} {e : Env} {below : List Frame} {s : State} {Q : Option Value → Heap → List Loc → Prop} {C N : Nat} {A A' : State} (h : Steps p.tables e below A A') (k : own_Gl FE p e below s Q C N A') : own_Gl FE p e below s Q C N A := by
  obtain ⟨s2, o, h1, r⟩ := k
  exact ⟨s2, o, h.trans h1, r⟩
theorem own_ret {p : Program} {l : Launch} {e : Env} {R : Room} {s : State} {m : MethodId} {args : Array Value} {below : List Frame} {meth : Method} {c : Code} {T : State} {locs : List Loc} {cells slots : Nat} {Q : Option Value → Heap → List Loc → Prop} {C N : Nat} {A : State}
    (X : Stand p l e R s m args below meth c T locs cells slots) {v : Option Value} (hv : meth.sig.returnType = none → v = none) (hlocks : meth.locks = false) (hC : cells ≤ C) (hN : slots ≤ N) (q : Q v T.heap locs)
    (h : ∀ fs, (∀ (f : JFrame) (acts : List Action), f.method = m → f.locked = none → f.entered = [] → (doReturn e (T.setTop f) acts v).1 = T.setFrames fs) → Steps p.tables e below A (T.setFrames fs)) : own_Gl FrameEnd p e below s Q C N A := by
  obtain ⟨fs, hr, hrun, hended, hW, hsame⟩ := X.leave (v := v) hv hlocks
  exact ⟨_, _, h fs hr, hrun, hended, v, locs, rfl, q, ⟨v, rfl⟩, hW, hsame.mono hC hN⟩
theorem own_retW {p : Program} {l : Launch} {e : Env} {R : Room} {s : State} {vm0 : Vm} {m : MethodId} {args : Array Value} {below : List Frame} {meth : Method} {c : Code} {T : State} {locs : List Loc} {cells slots : Nat} {Q : Option Value → Heap → List Loc → Prop} {C N : Nat} {A : State}
    (X : Stand p l e R (s.setVm vm0) m args below meth c T locs cells slots) {k0 : Nat} (hS : s.Since vm0 k0) (hk : k0 ≤ T.heap.size) {v : Option Value} (hv : meth.sig.returnType = none → v = none) (hlocks : meth.locks = false) (hC : cells ≤ C) (hN : slots ≤ N) (q : Q v T.heap locs)
    (h : ∀ fs, (∀ (f : JFrame) (acts : List Action), f.method = m → f.locked = none → f.entered = [] → (doReturn e (T.setTop f) acts v).1 = T.setFrames fs) → Steps p.tables e below A (T.setFrames fs)) : own_Gl ReturnedEndW p e below s Q C N A := by
  obtain ⟨fs, hr, hrun, hended, h1, h2, h3, h4⟩ := X.leaveW hS hk (v := v) hv hlocks
  exact ⟨_, _, h fs hr, hrun, hended, v, locs, rfl, q, h1, h2, h3, h4.mono hC hN⟩
theorem own_kext {h0 h : Heap} (K : Keep h0 h ([] : List Addr)) : Ext h0 h := ⟨K.1, fun a c q => K.2.1 a c q nin0⟩
def own_FEH (Z : State) (EL : List (String × Nat)) (s : State) (o : Outcome) (t : State) (L : List Loc) (k n : Nat) : Prop := CHr Z EL s.vm s.heap t.vm t.heap ∧ ReturnedEndW s o t L k n
theorem own_retH {Z : State} {EL : List (String × Nat)} {a0 : Array Value} {p : Program} {l : Launch} {e : Env} {R : Room} {s : State} {vm0 : Vm} {m : MethodId} {args : Array Value} {below : List Frame} {meth : Method} {c : Code} {T : State} {locs : List Loc} {cells slots : Nat} {Q : Option Value → Heap → List Loc → Prop} {C N : Nat} {A : State} {h : Heap}
    (X : Stand p l e R (s.setVm vm0) m args below meth c T locs cells slots) {k0 : Nat} (hS : s.Since vm0 k0) (hk : k0 ≤ T.heap.size) (hZ : Z.Warmed39 vm0) (hEL : EW Z a0 EL) (eT : T.heap = h) (hR : CHr Z EL s.vm s.heap vm0 h) {v : Option Value} (hv : meth.sig.returnType = none → v = none) (hlocks : meth.locks = false) (hC : cells ≤ C) (hN : slots ≤ N) (q : Q v T.heap locs)
    (h' : ∀ fs, (∀ (f : JFrame) (acts : List Action), f.method = m → f.locked = none → f.entered = [] → (doReturn e (T.setTop f) acts v).1 = T.setFrames fs) → Steps p.tables e below A (T.setFrames fs)) : own_Gl (own_FEH Z EL) p e below s Q C N A := by
  obtain ⟨fs, hr, hrun, hended, h1, h2, h3, h4⟩ := X.leaveW hS hk (v := v) hv hlocks
  subst eT
  exact ⟨_, _, h' fs hr, hrun, hended, v, locs, rfl, q, (show CHr Z EL s.vm s.heap T.vm T.heap from hR.trans (CHv.at X hZ hEL hR.1)), h1, h2, h3, h4.mono hC hN⟩
theorem own_lgt {x y : Int64} (h : y < x) : (0 : Int32) < lcmpW x y := by rw [lcW]; exact (lc_gt _ _).mpr h
theorem own_ngt {x y : Int64} (h : ¬ y < x) : ¬ (0 : Int32) < lcmpW x y := by rw [lcW]; exact fun q => h ((lc_gt _ _).mp q)
theorem own_llt {x y : Int64} (h : x < y) : lcmpW x y < (0 : Int32) := by rw [lcW]; exact (lc_lt _ _).mpr h
theorem own_nlt {x y : Int64} (h : ¬ x < y) : ¬ lcmpW x y < (0 : Int32) := by rw [lcW]; exact fun q => h ((lc_lt _ _).mp q)
theorem own_leq {x y : Int64} (h : x = y) : lcmpW x y = (0 : Int32) := by rw [lcW]; exact (lc_eq _ _).mpr h
theorem own_neq {x y : Int64} (h : ¬ x = y) : ¬ lcmpW x y = (0 : Int32) := by rw [lcW]; exact fun q => h ((lc_eq _ _).mp q)
theorem own_lrem {p : Program} {l : Launch} {e : Env} {R : Room} {s : State} {m : MethodId} {args : Array Value} {below : List Frame} {meth : Method} {c : Code} {T : State} {locs : List Loc} {cells slots : Nat} {g : JFrame} {target : State} (X : Stand p l e R s m args below meth c T locs cells slots) (hx : p.tables.exec = Jvm.exec) (hg : g.method = m) {x y : Int64} {rest : List Value} (hd : decode c.code g.pc = .ok (.lrem, 1)) (hs : g.stack = .long y :: .long x :: rest) (hy : y ≠ 0)
    (hr : Steps p.tables e below (T.setTop { g with pc := g.pc + 1, stack := .long (x - (x / y) * y) :: rest }) target) : Steps p.tables e below (T.setTop g) target := XS.lrem X.here hx hg hd hs hy hr
theorem own_d1_0 : decode prog_105_method_1_code 0 = .ok (.aload_n 0, 1) := by decide +kernel
theorem own_d1_1 : decode prog_105_method_1_code 1 = .ok (.invokespecial 3, 3) := by decide +kernel
theorem own_d1_4 : decode prog_105_method_1_code 4 = .ok (.aload_n 0, 1) := by decide +kernel
theorem own_d1_5 : decode prog_105_method_1_code 5 = .ok (.bipush 48, 2) := by decide +kernel
theorem own_d1_7 : decode prog_105_method_1_code 7 = .ok (.putfield 9, 3) := by decide +kernel
theorem own_d1_10 : decode prog_105_method_1_code 10 = .ok (.return_, 1) := by decide +kernel
theorem own_ef_rm1 (m : MethodId) (th : Addr) : entryFrame m #[(.ref th)] 1 = mkF m 0 #[.val (.ref th)] [] := by first | (simp [entryFrame, mkF, argsToLocals, Value.category]; done) | rfl
theorem own_pn0 : plainName "com/example/gate_to_tables/gatetotables/adql/translator/RowValues$Budget" = true := by first | (simp [plainName, overriddenIn]; done) | decide +kernel
def Q1 (Z : State) (th : Addr) (h0 : Heap) (n0 : Nat) (v : Option Value) (h : Heap) (L : List Loc) : Prop := v = none ∧ Fr n0 L ∧ Keep h0 h [th] ∧ Exa Z h th "com/example/gate_to_tables/gatetotables/adql/translator/RowValues$Budget" ∧ Fld Z h th "com/example/gate_to_tables/gatetotables/adql/translator/RowValues$Budget" "left" "I" (.int (48 : Int32))
set_option maxRecDepth 65536 in
set_option maxHeartbeats 40000000 in
theorem rm1 (l : Launch) (Z : State) (a0 : Array Value) (hw : ∀ d ∈ tables_1, d.before a0 Z = true) (ws : List Jvm.Cond) (th : Addr) (h0 : Heap) (n0 : Nat) (Z0 : n0 ≤ h0.size) (Fth : Fld Z h0 th "com/example/gate_to_tables/gatetotables/adql/translator/RowValues$Budget" "left" "I" (.int (0 : Int32))) (Eth : Exa Z h0 th "com/example/gate_to_tables/gatetotables/adql/translator/RowValues$Budget") (gth : n0 ≤ th) :
    MetFree l (⟨"com/example/gate_to_tables/gatetotables/adql/translator/RowValues$Budget", "<init>", "()V"⟩ : MethodName) (head1 (Jvm.Cond.code (⟨"com/example/gate_to_tables/gatetotables/adql/translator/RowValues$Budget", "<init>", "()V"⟩ : MethodName) prog_105_method_1_code 1 none :: ws) ({ frames := 1, cells := 0, slots := 0, locals := 12 } : Room)) (fun a U => a = #[(.ref th)] ∧ Z.Warmed39 U.vm ∧ U.heap = h0) (fun _ _ _ _ _ => True) (fun _ U o U' => ∃ v L, o = .returned v ∧ Q1 Z th h0 n0 v U'.heap L ∧ FrameEnd U o U' L ({ frames := 1, cells := 0, slots := 0, locals := 12 } : Room).cells ({ frames := 1, cells := 0, slots := 0, locals := 12 } : Room).slots) := by
  refine MetFree.of_bodySF (plainFor_of_name own_pn0) hisR ?_
  intro p e s m args below meth c s₁ Bd hml0 hP hK
  obtain ⟨rfl, hZ, hh⟩ := hP
  have hx := Bd.exec
  have hby := Bd.bytes
  have hml : c.maxLocals = 1 := hml0
  have hown : s.vm.findClass "com/example/gate_to_tables/gatetotables/adql/translator/RowValues$Budget" = some m.cls := findClass_of_methodNamed Bd.named
  have hnm := (name_of_methodNamed Bd.named Bd.method).1
  have hlk : meth.locks = false := BodyLoose.notSynchronized Bd
  have X0 : Stand p l e ({ frames := 1, cells := 0, slots := 0, locals := 12 } : Room) s m #[(.ref th)] below meth c s₁ [] 0 0 := Stand.of_body Bd
  have e0 : s₁.heap = h0 := by rw [← hh, Bd.state]; rfl
  have N0 := Fr.nil n0
  show own_Gl FrameEnd p e below s (Q1 Z th h0 n0) ({ frames := 1, cells := 0, slots := 0, locals := 12 } : Room).cells ({ frames := 1, cells := 0, slots := 0, locals := 12 } : Room).slots (s₁.setTop (entryFrame m #[(.ref th)] 1))
  rw [own_ef_rm1 m th]
  refine own_st (A' := s₁.setTop (mkF m 1 #[.val (.ref th)] [(.ref th)])) (fun tg kt => ?_) ?_
  · show Steps p.tables e below (s₁.setTop (mkF m 0 #[.val (.ref th)] [])) _
    refine XS.aloadN X0.here hx rfl (hb hby own_d1_0) rfl rfl ?_
    exact kt
  obtain ⟨T1, X1, e1, st1⟩ := initO X0 hx hZ hown (hw _ (List.mem_of_getElem? (i := 6) rfl)) (hw _ (List.mem_of_getElem? (i := 7) rfl)) (hw _ (List.mem_of_getElem? (i := 8) rfl)) e0 (g := (mkF m 1 #[.val (.ref th)] [(.ref th)])) rfl (by rw [hml]; rfl) rfl (hb hby own_d1_1) (by decide) (W := 0) (by show 2 * 0 + _ ≤ _; exact Nat.le_of_eq rfl) (by decide)
  refine own_st st1 ?_
  show own_Gl _ _ _ _ _ _ _ _ (T1.setTop (mkF m 4 #[.val (.ref th)] []))
  refine own_st (A' := T1.setTop (mkF m 7 #[.val (.ref th)] [(.int (48 : Int32)), (.ref th)])) (fun tg kt => ?_) ?_
  · show Steps p.tables e below (T1.setTop (mkF m 4 #[.val (.ref th)] [])) _
    refine XS.aloadN X1.here hx rfl (hb hby own_d1_4) rfl rfl ?_
    show Steps p.tables e below (T1.setTop (mkF m 5 #[.val (.ref th)] [(.ref th)])) _
    refine XS.bipush X1.here hx rfl (hb hby own_d1_5) ?_
    exact kt
  obtain ⟨T2, h2, X2, e2, W2, st2⟩ := putF X1 hx hZ hown (host := "") (Or.inl (hw _ (List.mem_of_getElem? (i := 9) rfl))) Via.refl e1 Fth Eth (Or.inl (hw _ (List.mem_of_getElem? (i := 10) rfl))) (hw _ (List.mem_of_getElem? (i := 1) rfl)) (ty := .int) (by decide) rfl rfl (g := (mkF m 7 #[.val (.ref th)] [(.int (48 : Int32)), (.ref th)])) rfl rfl (hb hby own_d1_7)
  have N2 := Fr.snoc X2 N0 gth
  have K2 := ((Keep.refl h0 ([th] : List Addr))).wr W2 (Or.inl (List.mem_of_getElem? (i := 0) rfl))
  have Z2 : n0 ≤ h2.size := Nat.le_trans Z0 (Keep.of_wr W2).1
  refine own_st st2 ?_
  show own_Gl _ _ _ _ _ _ _ _ (T2.setTop (mkF m 10 #[.val (.ref th)] []))
  refine own_ret X2 (v := none) (fun _ => rfl) hlk (by decide) (by decide) ?_ (fun fs hr => ?_)
  · show Q1 Z th h0 n0 (none) T2.heap _
    rw [e2]
    exact ⟨rfl, N2, K2, (Eth.wr W2), (Fth.same W2)⟩
  · show Steps p.tables e below (T2.setTop (mkF m 10 #[.val (.ref th)] [])) _
    exact X2.returnOut hx Bd.returns (hb hby own_d1_10) hr
theorem own_d4_0 : decode prog_105_method_2_code 0 = .ok (.aload_n 0, 1) := by decide +kernel
theorem own_d4_1 : decode prog_105_method_2_code 1 = .ok (.getfield 9, 3) := by decide +kernel
theorem own_d4_4 : decode prog_105_method_2_code 4 = .ok (.ifCond .le 7, 3) := by decide +kernel
theorem own_d4_7 : decode prog_105_method_2_code 7 = .ok (.iconst 1, 1) := by decide +kernel
theorem own_d4_8 : decode prog_105_method_2_code 8 = .ok (.goto 4, 3) := by decide +kernel
theorem own_d4_12 : decode prog_105_method_2_code 12 = .ok (.istore_n 1, 1) := by decide +kernel
theorem own_d4_13 : decode prog_105_method_2_code 13 = .ok (.iload_n 1, 1) := by decide +kernel
theorem own_d4_14 : decode prog_105_method_2_code 14 = .ok (.ifCond .eq 13, 3) := by decide +kernel
theorem own_d4_17 : decode prog_105_method_2_code 17 = .ok (.aload_n 0, 1) := by decide +kernel
theorem own_d4_18 : decode prog_105_method_2_code 18 = .ok (.dup, 1) := by decide +kernel
theorem own_d4_19 : decode prog_105_method_2_code 19 = .ok (.getfield 9, 3) := by decide +kernel
theorem own_d4_22 : decode prog_105_method_2_code 22 = .ok (.iconst 1, 1) := by decide +kernel
theorem own_d4_23 : decode prog_105_method_2_code 23 = .ok (.isub, 1) := by decide +kernel
theorem own_d4_24 : decode prog_105_method_2_code 24 = .ok (.putfield 9, 3) := by decide +kernel
theorem own_d4_27 : decode prog_105_method_2_code 27 = .ok (.iload_n 1, 1) := by decide +kernel
theorem own_d4_28 : decode prog_105_method_2_code 28 = .ok (.ireturn, 1) := by decide +kernel
theorem own_ef_rm4a (m : MethodId) (th : Addr) : entryFrame m #[(.ref th)] 2 = mkF m 0 #[.val (.ref th), .unset] [] := by first | (simp [entryFrame, mkF, argsToLocals, Value.category]; done) | rfl
def Q4a (Z : State) (th : Addr) (x0 : Int32) (h0 : Heap) (n0 : Nat) (v : Option Value) (h : Heap) (L : List Loc) : Prop := v = some (.int 1) ∧ Fr n0 L ∧ Keep h0 h [th] ∧ Exa Z h th "com/example/gate_to_tables/gatetotables/adql/translator/RowValues$Budget" ∧ Fld Z h th "com/example/gate_to_tables/gatetotables/adql/translator/RowValues$Budget" "left" "I" (.int (x0 - 1))
set_option maxRecDepth 65536 in
set_option maxHeartbeats 40000000 in
theorem rm4a (l : Launch) (Z : State) (a0 : Array Value) (hw : ∀ d ∈ tables_1, d.before a0 Z = true) (ws : List Jvm.Cond) (th : Addr) (x0 : Int32) (h0 : Heap) (n0 : Nat) (Z0 : n0 ≤ h0.size) (Fth : Fld Z h0 th "com/example/gate_to_tables/gatetotables/adql/translator/RowValues$Budget" "left" "I" (.int x0)) (Eth : Exa Z h0 th "com/example/gate_to_tables/gatetotables/adql/translator/RowValues$Budget") (gth : n0 ≤ th) (hp : (0 : Int32) < x0) :
    MetFree l (⟨"com/example/gate_to_tables/gatetotables/adql/translator/RowValues$Budget", "take", "()Z"⟩ : MethodName) (head1 (Jvm.Cond.code (⟨"com/example/gate_to_tables/gatetotables/adql/translator/RowValues$Budget", "take", "()Z"⟩ : MethodName) prog_105_method_2_code 2 (some .boolean) :: ws) ({ frames := 0, cells := 0, slots := 0, locals := 0 } : Room)) (fun a U => a = #[(.ref th)] ∧ Z.Warmed39 U.vm ∧ U.heap = h0) (fun _ _ _ _ _ => True) (fun _ U o U' => ∃ v L, o = .returned v ∧ Q4a Z th x0 h0 n0 v U'.heap L ∧ FrameEnd U o U' L ({ frames := 0, cells := 0, slots := 0, locals := 0 } : Room).cells ({ frames := 0, cells := 0, slots := 0, locals := 0 } : Room).slots) := by
  refine MetFree.of_bodySF (plainFor_of_name own_pn0) hisR ?_
  intro p e s m args below meth c s₁ Bd hml0 hP hK
  obtain ⟨rfl, hZ, hh⟩ := hP
  have hx := Bd.exec
  have hby := Bd.bytes
  have hml : c.maxLocals = 2 := hml0
  have hown : s.vm.findClass "com/example/gate_to_tables/gatetotables/adql/translator/RowValues$Budget" = some m.cls := findClass_of_methodNamed Bd.named
  have hnm := (name_of_methodNamed Bd.named Bd.method).1
  have hlk : meth.locks = false := BodyLoose.notSynchronized Bd
  have X0 : Stand p l e ({ frames := 0, cells := 0, slots := 0, locals := 0 } : Room) s m #[(.ref th)] below meth c s₁ [] 0 0 := Stand.of_body Bd
  have e0 : s₁.heap = h0 := by rw [← hh, Bd.state]; rfl
  have N0 := Fr.nil n0
  show own_Gl FrameEnd p e below s (Q4a Z th x0 h0 n0) ({ frames := 0, cells := 0, slots := 0, locals := 0 } : Room).cells ({ frames := 0, cells := 0, slots := 0, locals := 0 } : Room).slots (s₁.setTop (entryFrame m #[(.ref th)] 2))
  rw [own_ef_rm4a m th]
  refine own_st (A' := s₁.setTop (mkF m 1 #[.val (.ref th), .unset] [(.ref th)])) (fun tg kt => ?_) ?_
  · show Steps p.tables e below (s₁.setTop (mkF m 0 #[.val (.ref th), .unset] [])) _
    refine XS.aloadN X0.here hx rfl (hb hby own_d4_0) rfl rfl ?_
    exact kt
  obtain ⟨T1, X1, e1, st1⟩ := getF X0 hx hZ hown (host := "") (Or.inl (hw _ (List.mem_of_getElem? (i := 9) rfl))) Via.refl e0 Fth (g := (mkF m 1 #[.val (.ref th), .unset] [(.ref th)])) rfl rfl (hb hby own_d4_1)
  refine own_st st1 ?_
  show own_Gl _ _ _ _ _ _ _ _ (T1.setTop (mkF m 4 #[.val (.ref th), .unset] [(.int x0)]))
  refine own_st (A' := T1.setTop (mkF m 19 #[.val (.ref th), .val (.int (1 : Int32))] [(.ref th), (.ref th)])) (fun tg kt => ?_) ?_
  · show Steps p.tables e below (T1.setTop (mkF m 4 #[.val (.ref th), .unset] [(.int x0)])) _
    refine XS.ifNo X1.here hx rfl (hb hby own_d4_4) rfl ((if0 _ _).trans (tlt (hp : (0 : Int32) < x0)).2.2.2) ?_
    show Steps p.tables e below (T1.setTop (mkF m 7 #[.val (.ref th), .unset] [])) _
    refine XS.iconst X1.here hx rfl (hb hby own_d4_7) ?_
    show Steps p.tables e below (T1.setTop (mkF m 8 #[.val (.ref th), .unset] [(.int (1 : Int32))])) _
    refine XS.goto X1.here hx rfl (pc0 := 8) (pc' := 12) rfl (hb hby own_d4_8) (by decide) (by decide) ?_
    show Steps p.tables e below (T1.setTop (mkF m 12 #[.val (.ref th), .unset] [(.int (1 : Int32))])) _
    refine XS.istoreN X1.here hx rfl (hb hby own_d4_12) rfl (l' := #[.val (.ref th), .val (.int (1 : Int32))]) rfl ?_
    show Steps p.tables e below (T1.setTop (mkF m 13 #[.val (.ref th), .val (.int (1 : Int32))] [])) _
    refine XS.iloadN X1.here hx rfl (hb hby own_d4_13) rfl ?_
    show Steps p.tables e below (T1.setTop (mkF m 14 #[.val (.ref th), .val (.int (1 : Int32))] [(.int (1 : Int32))])) _
    refine XS.ifNo X1.here hx rfl (hb hby own_d4_14) rfl ((if0 _ _).trans (feq ((by decide) : ¬ ((1 : Int32) = (0 : Int32)))).1) ?_
    show Steps p.tables e below (T1.setTop (mkF m 17 #[.val (.ref th), .val (.int (1 : Int32))] [])) _
    refine XS.aloadN X1.here hx rfl (hb hby own_d4_17) rfl rfl ?_
    show Steps p.tables e below (T1.setTop (mkF m 18 #[.val (.ref th), .val (.int (1 : Int32))] [(.ref th)])) _
    refine XS.dup X1.here hx rfl (hb hby own_d4_18) rfl rfl ?_
    exact kt
  obtain ⟨T2, X2, e2, st2⟩ := getF X1 hx hZ hown (host := "") (Or.inl (hw _ (List.mem_of_getElem? (i := 9) rfl))) Via.refl e1 Fth (g := (mkF m 19 #[.val (.ref th), .val (.int (1 : Int32))] [(.ref th), (.ref th)])) rfl rfl (hb hby own_d4_19)
  refine own_st st2 ?_
  show own_Gl _ _ _ _ _ _ _ _ (T2.setTop (mkF m 22 #[.val (.ref th), .val (.int (1 : Int32))] [(.int x0), (.ref th)]))
  refine own_st (A' := T2.setTop (mkF m 24 #[.val (.ref th), .val (.int (1 : Int32))] [(.int (x0 - (1 : Int32))), (.ref th)])) (fun tg kt => ?_) ?_
  · show Steps p.tables e below (T2.setTop (mkF m 22 #[.val (.ref th), .val (.int (1 : Int32))] [(.int x0), (.ref th)])) _
    refine XS.iconst X2.here hx rfl (hb hby own_d4_22) ?_
    show Steps p.tables e below (T2.setTop (mkF m 23 #[.val (.ref th), .val (.int (1 : Int32))] [(.int (1 : Int32)), (.int x0), (.ref th)])) _
    refine XS.isub X2.here hx rfl (hb hby own_d4_23) rfl ?_
    exact kt
  obtain ⟨T3, h3, X3, e3, W3, st3⟩ := putF X2 hx hZ hown (host := "") (Or.inl (hw _ (List.mem_of_getElem? (i := 9) rfl))) Via.refl e2 Fth Eth (Or.inl (hw _ (List.mem_of_getElem? (i := 10) rfl))) (hw _ (List.mem_of_getElem? (i := 1) rfl)) (ty := .int) (by decide) rfl rfl (g := (mkF m 24 #[.val (.ref th), .val (.int (1 : Int32))] [(.int (x0 - (1 : Int32))), (.ref th)])) rfl rfl (hb hby own_d4_24)
  have N3 := Fr.snoc X3 N0 gth
  have K3 := ((Keep.refl h0 ([th] : List Addr))).wr W3 (Or.inl (List.mem_of_getElem? (i := 0) rfl))
  have Z3 : n0 ≤ h3.size := Nat.le_trans Z0 (Keep.of_wr W3).1
  refine own_st st3 ?_
  show own_Gl _ _ _ _ _ _ _ _ (T3.setTop (mkF m 27 #[.val (.ref th), .val (.int (1 : Int32))] []))
  refine own_st (A' := T3.setTop (mkF m 28 #[.val (.ref th), .val (.int (1 : Int32))] [(.int (1 : Int32))])) (fun tg kt => ?_) ?_
  · show Steps p.tables e below (T3.setTop (mkF m 27 #[.val (.ref th), .val (.int (1 : Int32))] [])) _
    refine XS.iloadN X3.here hx rfl (hb hby own_d4_27) rfl ?_
    exact kt
  refine own_ret X3 (v := some (.int (1 : Int32))) (fun h => by rw [Bd.returns] at h; cases h) hlk (by decide) (by decide) ?_ (fun fs hr => ?_)
  · show Q4a Z th x0 h0 n0 (some (.int (1 : Int32))) T3.heap _
    rw [e3]
    exact ⟨rfl, N3, K3, (Eth.wr W3), (Fth.same W3)⟩
  · show Steps p.tables e below (T3.setTop (mkF m 28 #[.val (.ref th), .val (.int (1 : Int32))] [(.int (1 : Int32))])) _
    exact retN X3 hx (t := .boolean) Bd.returns (by simp) (hb hby own_d4_28) hr
theorem own_d4_11 : decode prog_105_method_2_code 11 = .ok (.iconst 0, 1) := by decide +kernel
theorem own_ef_rm4b (m : MethodId) (th : Addr) : entryFrame m #[(.ref th)] 2 = mkF m 0 #[.val (.ref th), .unset] [] := by first | (simp [entryFrame, mkF, argsToLocals, Value.category]; done) | rfl
def Q4b (Z : State) (th : Addr) (x0 : Int32) (h0 : Heap) (n0 : Nat) (v : Option Value) (h : Heap) (L : List Loc) : Prop := v = some (.int 0) ∧ Fr n0 L ∧ Keep h0 h [th] ∧ Exa Z h th "com/example/gate_to_tables/gatetotables/adql/translator/RowValues$Budget" ∧ Fld Z h th "com/example/gate_to_tables/gatetotables/adql/translator/RowValues$Budget" "left" "I" (.int x0)
set_option maxRecDepth 65536 in
set_option maxHeartbeats 40000000 in
theorem rm4b (l : Launch) (Z : State) (a0 : Array Value) (hw : ∀ d ∈ tables_1, d.before a0 Z = true) (ws : List Jvm.Cond) (th : Addr) (x0 : Int32) (h0 : Heap) (n0 : Nat) (Z0 : n0 ≤ h0.size) (Fth : Fld Z h0 th "com/example/gate_to_tables/gatetotables/adql/translator/RowValues$Budget" "left" "I" (.int x0)) (Eth : Exa Z h0 th "com/example/gate_to_tables/gatetotables/adql/translator/RowValues$Budget") (gth : n0 ≤ th) (hp : ¬ (0 : Int32) < x0) :
    MetFree l (⟨"com/example/gate_to_tables/gatetotables/adql/translator/RowValues$Budget", "take", "()Z"⟩ : MethodName) (head1 (Jvm.Cond.code (⟨"com/example/gate_to_tables/gatetotables/adql/translator/RowValues$Budget", "take", "()Z"⟩ : MethodName) prog_105_method_2_code 2 (some .boolean) :: ws) ({ frames := 0, cells := 0, slots := 0, locals := 0 } : Room)) (fun a U => a = #[(.ref th)] ∧ Z.Warmed39 U.vm ∧ U.heap = h0) (fun _ _ _ _ _ => True) (fun _ U o U' => ∃ v L, o = .returned v ∧ Q4b Z th x0 h0 n0 v U'.heap L ∧ FrameEnd U o U' L ({ frames := 0, cells := 0, slots := 0, locals := 0 } : Room).cells ({ frames := 0, cells := 0, slots := 0, locals := 0 } : Room).slots) := by
  refine MetFree.of_bodySF (plainFor_of_name own_pn0) hisR ?_
  intro p e s m args below meth c s₁ Bd hml0 hP hK
  obtain ⟨rfl, hZ, hh⟩ := hP
  have hx := Bd.exec
  have hby := Bd.bytes
  have hml : c.maxLocals = 2 := hml0
  have hown : s.vm.findClass "com/example/gate_to_tables/gatetotables/adql/translator/RowValues$Budget" = some m.cls := findClass_of_methodNamed Bd.named
  have hnm := (name_of_methodNamed Bd.named Bd.method).1
  have hlk : meth.locks = false := BodyLoose.notSynchronized Bd
  have X0 : Stand p l e ({ frames := 0, cells := 0, slots := 0, locals := 0 } : Room) s m #[(.ref th)] below meth c s₁ [] 0 0 := Stand.of_body Bd
  have e0 : s₁.heap = h0 := by rw [← hh, Bd.state]; rfl
  have N0 := Fr.nil n0
  show own_Gl FrameEnd p e below s (Q4b Z th x0 h0 n0) ({ frames := 0, cells := 0, slots := 0, locals := 0 } : Room).cells ({ frames := 0, cells := 0, slots := 0, locals := 0 } : Room).slots (s₁.setTop (entryFrame m #[(.ref th)] 2))
  rw [own_ef_rm4b m th]
  refine own_st (A' := s₁.setTop (mkF m 1 #[.val (.ref th), .unset] [(.ref th)])) (fun tg kt => ?_) ?_
  · show Steps p.tables e below (s₁.setTop (mkF m 0 #[.val (.ref th), .unset] [])) _
    refine XS.aloadN X0.here hx rfl (hb hby own_d4_0) rfl rfl ?_
    exact kt
  obtain ⟨T1, X1, e1, st1⟩ := getF X0 hx hZ hown (host := "") (Or.inl (hw _ (List.mem_of_getElem? (i := 9) rfl))) Via.refl e0 Fth (g := (mkF m 1 #[.val (.ref th), .unset] [(.ref th)])) rfl rfl (hb hby own_d4_1)
  refine own_st st1 ?_
  show own_Gl _ _ _ _ _ _ _ _ (T1.setTop (mkF m 4 #[.val (.ref th), .unset] [(.int x0)]))
  refine own_st (A' := T1.setTop (mkF m 28 #[.val (.ref th), .val (.int (0 : Int32))] [(.int (0 : Int32))])) (fun tg kt => ?_) ?_
  · show Steps p.tables e below (T1.setTop (mkF m 4 #[.val (.ref th), .unset] [(.int x0)])) _
    refine XS.ifYes X1.here hx rfl (pc0 := 4) (pc' := 11) rfl (hb hby own_d4_4) rfl ((if0 _ _).trans (flt (hp : ¬ ((0 : Int32) < x0))).2.2.2) (by decide) (by decide) ?_
    show Steps p.tables e below (T1.setTop (mkF m 11 #[.val (.ref th), .unset] [])) _
    refine XS.iconst X1.here hx rfl (hb hby own_d4_11) ?_
    show Steps p.tables e below (T1.setTop (mkF m 12 #[.val (.ref th), .unset] [(.int (0 : Int32))])) _
    refine XS.istoreN X1.here hx rfl (hb hby own_d4_12) rfl (l' := #[.val (.ref th), .val (.int (0 : Int32))]) rfl ?_
    show Steps p.tables e below (T1.setTop (mkF m 13 #[.val (.ref th), .val (.int (0 : Int32))] [])) _
    refine XS.iloadN X1.here hx rfl (hb hby own_d4_13) rfl ?_
    show Steps p.tables e below (T1.setTop (mkF m 14 #[.val (.ref th), .val (.int (0 : Int32))] [(.int (0 : Int32))])) _
    refine XS.ifYes X1.here hx rfl (pc0 := 14) (pc' := 27) rfl (hb hby own_d4_14) rfl ((if0 _ _).trans (teq ((by decide) : (0 : Int32) = (0 : Int32))).1) (by decide) (by decide) ?_
    show Steps p.tables e below (T1.setTop (mkF m 27 #[.val (.ref th), .val (.int (0 : Int32))] [])) _
    refine XS.iloadN X1.here hx rfl (hb hby own_d4_27) rfl ?_
    exact kt
  refine own_ret X1 (v := some (.int (0 : Int32))) (fun h => by rw [Bd.returns] at h; cases h) hlk (by decide) (by decide) ?_ (fun fs hr => ?_)
  · show Q4b Z th x0 h0 n0 (some (.int (0 : Int32))) T1.heap _
    rw [e1]
    exact ⟨rfl, N0, (Keep.refl h0 ([th] : List Addr)), Eth, Fth⟩
  · show Steps p.tables e below (T1.setTop (mkF m 28 #[.val (.ref th), .val (.int (0 : Int32))] [(.int (0 : Int32))])) _
    exact retN X1 hx (t := .boolean) Bd.returns (by simp) (hb hby own_d4_28) hr
theorem own_dec {x y : Int32} {k : Int} (h : x.toInt = k) (hk : 0 < k) (e : y = x - 1) : y.toInt = k - 1 := by
  have o : (1 : Int32).toInt = 1 := by decide
  have := x.toInt_lt
  rw [e, Jvm.Kit.i32_sub (by rw [o]; omega) (by rw [o]; omega), o, h]
theorem own_pos {x : Int32} {k : Int} (h : x.toInt = k) (hk : 0 < k) : (0 : Int32) < x := by rw [Int32.lt_iff_toInt_lt, Int32.toInt_zero]; omega
theorem own_pd1 : parseMethodDescriptor "()Z" = some ⟨[], some .boolean⟩ := by decide +kernel
theorem own_d3_0 : decode method_2_code 0 = .ok (.iconst 0, 1) := by decide +kernel
theorem own_d3_1 : decode method_2_code 1 = .ok (.istore_n 1, 1) := by decide +kernel
theorem own_d3_2 : decode method_2_code 2 = .ok (.aload_n 0, 1) := by decide +kernel
theorem own_d3_3 : decode method_2_code 3 = .ok (.invokevirtual 7, 3) := by decide +kernel
theorem own_d3_6 : decode method_2_code 6 = .ok (.ifCond .eq 7, 3) := by decide +kernel
theorem own_d3_9 : decode method_2_code 9 = .ok (.iload_n 1, 1) := by decide +kernel
theorem own_d3_10 : decode method_2_code 10 = .ok (.iconst 1, 1) := by decide +kernel
theorem own_d3_11 : decode method_2_code 11 = .ok (.ior, 1) := by decide +kernel
theorem own_d3_12 : decode method_2_code 12 = .ok (.istore_n 1, 1) := by decide +kernel
theorem own_d3_13 : decode method_2_code 13 = .ok (.aload_n 0, 1) := by decide +kernel
theorem own_d3_14 : decode method_2_code 14 = .ok (.invokevirtual 7, 3) := by decide +kernel
theorem own_d3_17 : decode method_2_code 17 = .ok (.ifCond .eq 7, 3) := by decide +kernel
theorem own_d3_20 : decode method_2_code 20 = .ok (.iload_n 1, 1) := by decide +kernel
theorem own_d3_21 : decode method_2_code 21 = .ok (.iconst 2, 1) := by decide +kernel
theorem own_d3_22 : decode method_2_code 22 = .ok (.ior, 1) := by decide +kernel
theorem own_d3_23 : decode method_2_code 23 = .ok (.istore_n 1, 1) := by decide +kernel
theorem own_d3_24 : decode method_2_code 24 = .ok (.aload_n 0, 1) := by decide +kernel
theorem own_d3_25 : decode method_2_code 25 = .ok (.invokevirtual 7, 3) := by decide +kernel
theorem own_d3_28 : decode method_2_code 28 = .ok (.ifCond .eq 7, 3) := by decide +kernel
theorem own_d3_31 : decode method_2_code 31 = .ok (.iload_n 1, 1) := by decide +kernel
theorem own_d3_32 : decode method_2_code 32 = .ok (.iconst 4, 1) := by decide +kernel
theorem own_d3_33 : decode method_2_code 33 = .ok (.ior, 1) := by decide +kernel
theorem own_d3_34 : decode method_2_code 34 = .ok (.istore_n 1, 1) := by decide +kernel
theorem own_d3_35 : decode method_2_code 35 = .ok (.aload_n 0, 1) := by decide +kernel
theorem own_d3_36 : decode method_2_code 36 = .ok (.invokevirtual 7, 3) := by decide +kernel
theorem own_d3_39 : decode method_2_code 39 = .ok (.ifCond .eq 8, 3) := by decide +kernel
theorem own_d3_42 : decode method_2_code 42 = .ok (.iload_n 1, 1) := by decide +kernel
theorem own_d3_43 : decode method_2_code 43 = .ok (.bipush 8, 2) := by decide +kernel
theorem own_d3_45 : decode method_2_code 45 = .ok (.ior, 1) := by decide +kernel
theorem own_d3_46 : decode method_2_code 46 = .ok (.istore_n 1, 1) := by decide +kernel
theorem own_d3_47 : decode method_2_code 47 = .ok (.aload_n 0, 1) := by decide +kernel
theorem own_d3_48 : decode method_2_code 48 = .ok (.invokevirtual 7, 3) := by decide +kernel
theorem own_d3_51 : decode method_2_code 51 = .ok (.ifCond .eq 8, 3) := by decide +kernel
theorem own_d3_54 : decode method_2_code 54 = .ok (.iload_n 1, 1) := by decide +kernel
theorem own_d3_55 : decode method_2_code 55 = .ok (.bipush 16, 2) := by decide +kernel
theorem own_d3_57 : decode method_2_code 57 = .ok (.ior, 1) := by decide +kernel
theorem own_d3_58 : decode method_2_code 58 = .ok (.istore_n 1, 1) := by decide +kernel
theorem own_d3_59 : decode method_2_code 59 = .ok (.aload_n 0, 1) := by decide +kernel
theorem own_d3_60 : decode method_2_code 60 = .ok (.invokevirtual 7, 3) := by decide +kernel
theorem own_d3_63 : decode method_2_code 63 = .ok (.ifCond .eq 8, 3) := by decide +kernel
theorem own_d3_66 : decode method_2_code 66 = .ok (.iload_n 1, 1) := by decide +kernel
theorem own_d3_67 : decode method_2_code 67 = .ok (.bipush 32, 2) := by decide +kernel
theorem own_d3_69 : decode method_2_code 69 = .ok (.ior, 1) := by decide +kernel
theorem own_d3_70 : decode method_2_code 70 = .ok (.istore_n 1, 1) := by decide +kernel
theorem own_d3_71 : decode method_2_code 71 = .ok (.aload_n 0, 1) := by decide +kernel
theorem own_d3_72 : decode method_2_code 72 = .ok (.invokevirtual 7, 3) := by decide +kernel
theorem own_d3_75 : decode method_2_code 75 = .ok (.ifCond .eq 8, 3) := by decide +kernel
theorem own_d3_78 : decode method_2_code 78 = .ok (.iload_n 1, 1) := by decide +kernel
theorem own_d3_79 : decode method_2_code 79 = .ok (.bipush 64, 2) := by decide +kernel
theorem own_d3_81 : decode method_2_code 81 = .ok (.ior, 1) := by decide +kernel
theorem own_d3_82 : decode method_2_code 82 = .ok (.istore_n 1, 1) := by decide +kernel
theorem own_d3_83 : decode method_2_code 83 = .ok (.aload_n 0, 1) := by decide +kernel
theorem own_d3_84 : decode method_2_code 84 = .ok (.invokevirtual 7, 3) := by decide +kernel
theorem own_d3_87 : decode method_2_code 87 = .ok (.ifCond .eq 9, 3) := by decide +kernel
theorem own_d3_90 : decode method_2_code 90 = .ok (.iload_n 1, 1) := by decide +kernel
theorem own_d3_91 : decode method_2_code 91 = .ok (.sipush 128, 3) := by decide +kernel
theorem own_d3_94 : decode method_2_code 94 = .ok (.ior, 1) := by decide +kernel
theorem own_d3_95 : decode method_2_code 95 = .ok (.istore_n 1, 1) := by decide +kernel
theorem own_d3_96 : decode method_2_code 96 = .ok (.iload_n 1, 1) := by decide +kernel
theorem own_d3_97 : decode method_2_code 97 = .ok (.ireturn, 1) := by decide +kernel
theorem own_ef_rm3a (m : MethodId) (th : Addr) : entryFrame m #[(.ref th)] 2 = mkF m 0 #[.val (.ref th), .unset] [] := by first | (simp [entryFrame, mkF, argsToLocals, Value.category]; done) | rfl
theorem own_pn2 : plainName "com/example/gate_to_tables/gatetotables/adql/translator/BudgetTakePinLaw" = true := by first | (simp [plainName, overriddenIn]; done) | decide +kernel
def Q3a (Z : State) (th : Addr) (y0 : Int32) (h0 : Heap) (n0 : Nat) (v : Option Value) (h : Heap) (L : List Loc) : Prop := v = some (.int 255) ∧ Fr n0 L ∧ Keep h0 h [th] ∧ Exa Z h th "com/example/gate_to_tables/gatetotables/adql/translator/RowValues$Budget" ∧ Fld Z h th "com/example/gate_to_tables/gatetotables/adql/translator/RowValues$Budget" "left" "I" (.int (y0 - 8))
set_option maxRecDepth 65536 in
set_option maxHeartbeats 40000000 in
theorem rm3a (l : Launch) (Z : State) (a0 : Array Value) (hw : ∀ d ∈ tables_1, d.before a0 Z = true) (ws : List Jvm.Cond) (th : Addr) (y0 : Int32) (h0 : Heap) (n0 : Nat) (Z0 : n0 ≤ h0.size) (Fth : Fld Z h0 th "com/example/gate_to_tables/gatetotables/adql/translator/RowValues$Budget" "left" "I" (.int y0)) (Eth : Exa Z h0 th "com/example/gate_to_tables/gatetotables/adql/translator/RowValues$Budget") (gth : n0 ≤ th) (h8 : 8 ≤ y0.toInt) :
    MetFree l (⟨"com/example/gate_to_tables/gatetotables/adql/translator/BudgetTakePinLaw", "take8", "(Lcom/example/gate_to_tables/gatetotables/adql/translator/RowValues$Budget;)I"⟩ : MethodName) (head1 (Jvm.Cond.code (⟨"com/example/gate_to_tables/gatetotables/adql/translator/BudgetTakePinLaw", "take8", "(Lcom/example/gate_to_tables/gatetotables/adql/translator/RowValues$Budget;)I"⟩ : MethodName) method_2_code 2 (some .int) :: ws) ({ frames := 1, cells := 0, slots := 0, locals := 13 } : Room)) (fun a U => a = #[(.ref th)] ∧ Z.Warmed39 U.vm ∧ U.heap = h0) (fun _ _ _ _ _ => True) (fun _ U o U' => ∃ v L, o = .returned v ∧ Q3a Z th y0 h0 n0 v U'.heap L ∧ FrameEnd U o U' L ({ frames := 1, cells := 0, slots := 0, locals := 13 } : Room).cells ({ frames := 1, cells := 0, slots := 0, locals := 13 } : Room).slots) := by
  refine MetFree.of_bodySF (plainFor_of_name own_pn2) hisR ?_
  intro p e s m args below meth c s₁ Bd hml0 hP hK
  obtain ⟨rfl, hZ, hh⟩ := hP
  have hx := Bd.exec
  have hby := Bd.bytes
  have hml : c.maxLocals = 2 := hml0
  have hown : s.vm.findClass "com/example/gate_to_tables/gatetotables/adql/translator/BudgetTakePinLaw" = some m.cls := findClass_of_methodNamed Bd.named
  have hnm := (name_of_methodNamed Bd.named Bd.method).1
  have hlk : meth.locks = false := BodyLoose.notSynchronized Bd
  have X0 : Stand p l e ({ frames := 1, cells := 0, slots := 0, locals := 13 } : Room) s m #[(.ref th)] below meth c s₁ [] 0 0 := Stand.of_body Bd
  have e0 : s₁.heap = h0 := by rw [← hh, Bd.state]; rfl
  have N0 := Fr.nil n0
  show own_Gl FrameEnd p e below s (Q3a Z th y0 h0 n0) ({ frames := 1, cells := 0, slots := 0, locals := 13 } : Room).cells ({ frames := 1, cells := 0, slots := 0, locals := 13 } : Room).slots (s₁.setTop (entryFrame m #[(.ref th)] 2))
  rw [own_ef_rm3a m th]
  have t0 : y0.toInt = y0.toInt := rfl
  refine own_st (A' := s₁.setTop (mkF m 3 #[.val (.ref th), .val (.int (0 : Int32))] [(.ref th)])) (fun tg kt => ?_) ?_
  · show Steps p.tables e below (s₁.setTop (mkF m 0 #[.val (.ref th), .unset] [])) _
    refine XS.iconst X0.here hx rfl (hb hby own_d3_0) ?_
    show Steps p.tables e below (s₁.setTop (mkF m 1 #[.val (.ref th), .unset] [(.int (0 : Int32))])) _
    refine XS.istoreN X0.here hx rfl (hb hby own_d3_1) rfl (l' := #[.val (.ref th), .val (.int (0 : Int32))]) rfl ?_
    show Steps p.tables e below (s₁.setTop (mkF m 2 #[.val (.ref th), .val (.int (0 : Int32))] [])) _
    refine XS.aloadN X0.here hx rfl (hb hby own_d3_2) rfl rfl ?_
    exact kt
  have hp0 : (0 : Int32) < y0 := own_pos t0 (by omega)
  obtain ⟨cq1, kq1, q1a, q1b, q1c⟩ := isOf hZ e0 Eth
  obtain ⟨_, _, ⟨T1, L1, k1, n1⟩, -, X1, ⟨Lc1, hQ1, l1, y1, z1⟩, st1⟩ := X0.virtualBack hx (y := (⟨"com/example/gate_to_tables/gatetotables/adql/translator/RowValues$Budget", "take", "()Z"⟩ : MethodName)) (z := (⟨"com/example/gate_to_tables/gatetotables/adql/translator/RowValues$Budget", "take", "()Z"⟩ : MethodName)) hown (mvT hZ (hw _ (List.mem_of_getElem? (i := 15) rfl))) (mvT hZ (hw _ (List.mem_of_getElem? (i := 16) rfl))) (notFace_of_selects (args := #[]) (mvT hZ (hw _ (List.mem_of_getElem? (i := 18) rfl)))) (mvT hZ (hw _ (List.mem_of_getElem? (i := 18) rfl))) (mvT hZ (hw _ (List.mem_of_getElem? (i := 17) rfl))) (by decide) (backOf (W := 0) (rm4a l Z a0 hw [] th y0 h0 n0 Z0 Fth Eth gth hp0) hZ (hw _ (List.mem_of_getElem? (i := 19) rfl)) (hw _ (List.mem_of_getElem? (i := 2) rfl)) (by decide) (by decide)) q1a q1c (g := (mkF m 3 #[.val (.ref th), .val (.int (0 : Int32))] [(.ref th)])) rfl (by rw [hml]; rfl) (Steps.refl _) (argsL := []) (rest := []) (lenOf own_pd1 rfl) rfl (by show 2 * 0 + _ ≤ _; exact Nat.le_of_eq rfl) (hb hby own_d3_3) (fun _ _ => ⟨rfl, e0, (by decide : 0 + 0 ≤ _), (by decide : 0 + 0 ≤ _)⟩)
  dsimp only [Pt.U, Pt.locs, Pt.cells, Pt.slots] at X1 l1 y1 z1 st1 hQ1
  subst l1 y1 z1
  obtain ⟨y1, hy1⟩ : ∃ z, z = y0 - 1 := ⟨_, rfl⟩
  unfold Q4a at hQ1; rw [← hy1] at hQ1
  have t1 := own_dec t0 (by omega) hy1
  obtain ⟨rfl, Nq1, Kq1, Eq1, Fq1⟩ := hQ1
  have N1 := Fr.app N0 Nq1
  have K1 := ((Keep.refl h0 ([th] : List Addr))).trans Kq1 (allS (Or.inl (List.mem_of_getElem? (i := 0) rfl)) all0)
  have Z1 : n0 ≤ T1.heap.size := Nat.le_trans Z0 Kq1.1
  refine own_tr st1 ?_
  show own_Gl _ _ _ _ _ _ _ _ (T1.setTop (mkF m 6 #[.val (.ref th), .val (.int (0 : Int32))] [(.int (1 : Int32))]))
  refine own_st (A' := T1.setTop (mkF m 14 #[.val (.ref th), .val (.int (1 : Int32))] [(.ref th)])) (fun tg kt => ?_) ?_
  · show Steps p.tables e below (T1.setTop (mkF m 6 #[.val (.ref th), .val (.int (0 : Int32))] [(.int (1 : Int32))])) _
    refine XS.ifNo X1.here hx rfl (hb hby own_d3_6) rfl ((if0 _ _).trans (feq ((by decide) : ¬ ((1 : Int32) = (0 : Int32)))).1) ?_
    show Steps p.tables e below (T1.setTop (mkF m 9 #[.val (.ref th), .val (.int (0 : Int32))] [])) _
    refine XS.iloadN X1.here hx rfl (hb hby own_d3_9) rfl ?_
    show Steps p.tables e below (T1.setTop (mkF m 10 #[.val (.ref th), .val (.int (0 : Int32))] [(.int (0 : Int32))])) _
    refine XS.iconst X1.here hx rfl (hb hby own_d3_10) ?_
    show Steps p.tables e below (T1.setTop (mkF m 11 #[.val (.ref th), .val (.int (0 : Int32))] [(.int (1 : Int32)), (.int (0 : Int32))])) _
    refine XS.ior X1.here hx rfl (hb hby own_d3_11) rfl ?_
    show Steps p.tables e below (T1.setTop (mkF m 12 #[.val (.ref th), .val (.int (0 : Int32))] [(.int (1 : Int32))])) _
    refine XS.istoreN X1.here hx rfl (hb hby own_d3_12) rfl (l' := #[.val (.ref th), .val (.int (1 : Int32))]) rfl ?_
    show Steps p.tables e below (T1.setTop (mkF m 13 #[.val (.ref th), .val (.int (1 : Int32))] [])) _
    refine XS.aloadN X1.here hx rfl (hb hby own_d3_13) rfl rfl ?_
    exact kt
  have hp1 : (0 : Int32) < y1 := own_pos t1 (by omega)
  obtain ⟨cq2, kq2, q2a, q2b, q2c⟩ := isOf hZ rfl Eq1
  obtain ⟨_, _, ⟨T2, L2, k2, n2⟩, -, X2, ⟨Lc2, hQ2, l2, y2, z2⟩, st2⟩ := X1.virtualBack hx (y := (⟨"com/example/gate_to_tables/gatetotables/adql/translator/RowValues$Budget", "take", "()Z"⟩ : MethodName)) (z := (⟨"com/example/gate_to_tables/gatetotables/adql/translator/RowValues$Budget", "take", "()Z"⟩ : MethodName)) hown (mvT hZ (hw _ (List.mem_of_getElem? (i := 15) rfl))) (mvT hZ (hw _ (List.mem_of_getElem? (i := 16) rfl))) (notFace_of_selects (args := #[]) (mvT hZ (hw _ (List.mem_of_getElem? (i := 18) rfl)))) (mvT hZ (hw _ (List.mem_of_getElem? (i := 18) rfl))) (mvT hZ (hw _ (List.mem_of_getElem? (i := 17) rfl))) (by decide) (backOf (W := 0) (rm4a l Z a0 hw [] th y1 T1.heap n0 Z1 Fq1 Eq1 gth hp1) hZ (hw _ (List.mem_of_getElem? (i := 19) rfl)) (hw _ (List.mem_of_getElem? (i := 2) rfl)) (by decide) (by decide)) q2a q2c (g := (mkF m 14 #[.val (.ref th), .val (.int (1 : Int32))] [(.ref th)])) rfl (by rw [hml]; rfl) (Steps.refl _) (argsL := []) (rest := []) (lenOf own_pd1 rfl) rfl (by show 2 * 0 + _ ≤ _; exact Nat.le_of_eq rfl) (hb hby own_d3_14) (fun _ _ => ⟨rfl, rfl, (by decide : 0 + 0 ≤ _), (by decide : 0 + 0 ≤ _)⟩)
  dsimp only [Pt.U, Pt.locs, Pt.cells, Pt.slots] at X2 l2 y2 z2 st2 hQ2
  subst l2 y2 z2
  obtain ⟨y2, hy2⟩ : ∃ z, z = y1 - 1 := ⟨_, rfl⟩
  unfold Q4a at hQ2; rw [← hy2] at hQ2
  have t2 := own_dec t1 (by omega) hy2
  obtain ⟨rfl, Nq2, Kq2, Eq2, Fq2⟩ := hQ2
  have N2 := Fr.app N1 Nq2
  have K2 := (K1).trans Kq2 (allS (Or.inl (List.mem_of_getElem? (i := 0) rfl)) all0)
  have Z2 : n0 ≤ T2.heap.size := Nat.le_trans Z1 Kq2.1
  refine own_tr st2 ?_
  show own_Gl _ _ _ _ _ _ _ _ (T2.setTop (mkF m 17 #[.val (.ref th), .val (.int (1 : Int32))] [(.int (1 : Int32))]))
  refine own_st (A' := T2.setTop (mkF m 25 #[.val (.ref th), .val (.int (3 : Int32))] [(.ref th)])) (fun tg kt => ?_) ?_
  · show Steps p.tables e below (T2.setTop (mkF m 17 #[.val (.ref th), .val (.int (1 : Int32))] [(.int (1 : Int32))])) _
    refine XS.ifNo X2.here hx rfl (hb hby own_d3_17) rfl ((if0 _ _).trans (feq ((by decide) : ¬ ((1 : Int32) = (0 : Int32)))).1) ?_
    show Steps p.tables e below (T2.setTop (mkF m 20 #[.val (.ref th), .val (.int (1 : Int32))] [])) _
    refine XS.iloadN X2.here hx rfl (hb hby own_d3_20) rfl ?_
    show Steps p.tables e below (T2.setTop (mkF m 21 #[.val (.ref th), .val (.int (1 : Int32))] [(.int (1 : Int32))])) _
    refine XS.iconst X2.here hx rfl (hb hby own_d3_21) ?_
    show Steps p.tables e below (T2.setTop (mkF m 22 #[.val (.ref th), .val (.int (1 : Int32))] [(.int (2 : Int32)), (.int (1 : Int32))])) _
    refine XS.ior X2.here hx rfl (hb hby own_d3_22) rfl ?_
    show Steps p.tables e below (T2.setTop (mkF m 23 #[.val (.ref th), .val (.int (1 : Int32))] [(.int (3 : Int32))])) _
    refine XS.istoreN X2.here hx rfl (hb hby own_d3_23) rfl (l' := #[.val (.ref th), .val (.int (3 : Int32))]) rfl ?_
    show Steps p.tables e below (T2.setTop (mkF m 24 #[.val (.ref th), .val (.int (3 : Int32))] [])) _
    refine XS.aloadN X2.here hx rfl (hb hby own_d3_24) rfl rfl ?_
    exact kt
  have hp2 : (0 : Int32) < y2 := own_pos t2 (by omega)
  obtain ⟨cq3, kq3, q3a, q3b, q3c⟩ := isOf hZ rfl Eq2
  obtain ⟨_, _, ⟨T3, L3, k3, n3⟩, -, X3, ⟨Lc3, hQ3, l3, y3, z3⟩, st3⟩ := X2.virtualBack hx (y := (⟨"com/example/gate_to_tables/gatetotables/adql/translator/RowValues$Budget", "take", "()Z"⟩ : MethodName)) (z := (⟨"com/example/gate_to_tables/gatetotables/adql/translator/RowValues$Budget", "take", "()Z"⟩ : MethodName)) hown (mvT hZ (hw _ (List.mem_of_getElem? (i := 15) rfl))) (mvT hZ (hw _ (List.mem_of_getElem? (i := 16) rfl))) (notFace_of_selects (args := #[]) (mvT hZ (hw _ (List.mem_of_getElem? (i := 18) rfl)))) (mvT hZ (hw _ (List.mem_of_getElem? (i := 18) rfl))) (mvT hZ (hw _ (List.mem_of_getElem? (i := 17) rfl))) (by decide) (backOf (W := 0) (rm4a l Z a0 hw [] th y2 T2.heap n0 Z2 Fq2 Eq2 gth hp2) hZ (hw _ (List.mem_of_getElem? (i := 19) rfl)) (hw _ (List.mem_of_getElem? (i := 2) rfl)) (by decide) (by decide)) q3a q3c (g := (mkF m 25 #[.val (.ref th), .val (.int (3 : Int32))] [(.ref th)])) rfl (by rw [hml]; rfl) (Steps.refl _) (argsL := []) (rest := []) (lenOf own_pd1 rfl) rfl (by show 2 * 0 + _ ≤ _; exact Nat.le_of_eq rfl) (hb hby own_d3_25) (fun _ _ => ⟨rfl, rfl, (by decide : 0 + 0 ≤ _), (by decide : 0 + 0 ≤ _)⟩)
  dsimp only [Pt.U, Pt.locs, Pt.cells, Pt.slots] at X3 l3 y3 z3 st3 hQ3
  subst l3 y3 z3
  obtain ⟨y3, hy3⟩ : ∃ z, z = y2 - 1 := ⟨_, rfl⟩
  unfold Q4a at hQ3; rw [← hy3] at hQ3
  have t3 := own_dec t2 (by omega) hy3
  obtain ⟨rfl, Nq3, Kq3, Eq3, Fq3⟩ := hQ3
  have N3 := Fr.app N2 Nq3
  have K3 := (K2).trans Kq3 (allS (Or.inl (List.mem_of_getElem? (i := 0) rfl)) all0)
  have Z3 : n0 ≤ T3.heap.size := Nat.le_trans Z2 Kq3.1
  refine own_tr st3 ?_
  show own_Gl _ _ _ _ _ _ _ _ (T3.setTop (mkF m 28 #[.val (.ref th), .val (.int (3 : Int32))] [(.int (1 : Int32))]))
  refine own_st (A' := T3.setTop (mkF m 36 #[.val (.ref th), .val (.int (7 : Int32))] [(.ref th)])) (fun tg kt => ?_) ?_
  · show Steps p.tables e below (T3.setTop (mkF m 28 #[.val (.ref th), .val (.int (3 : Int32))] [(.int (1 : Int32))])) _
    refine XS.ifNo X3.here hx rfl (hb hby own_d3_28) rfl ((if0 _ _).trans (feq ((by decide) : ¬ ((1 : Int32) = (0 : Int32)))).1) ?_
    show Steps p.tables e below (T3.setTop (mkF m 31 #[.val (.ref th), .val (.int (3 : Int32))] [])) _
    refine XS.iloadN X3.here hx rfl (hb hby own_d3_31) rfl ?_
    show Steps p.tables e below (T3.setTop (mkF m 32 #[.val (.ref th), .val (.int (3 : Int32))] [(.int (3 : Int32))])) _
    refine XS.iconst X3.here hx rfl (hb hby own_d3_32) ?_
    show Steps p.tables e below (T3.setTop (mkF m 33 #[.val (.ref th), .val (.int (3 : Int32))] [(.int (4 : Int32)), (.int (3 : Int32))])) _
    refine XS.ior X3.here hx rfl (hb hby own_d3_33) rfl ?_
    show Steps p.tables e below (T3.setTop (mkF m 34 #[.val (.ref th), .val (.int (3 : Int32))] [(.int (7 : Int32))])) _
    refine XS.istoreN X3.here hx rfl (hb hby own_d3_34) rfl (l' := #[.val (.ref th), .val (.int (7 : Int32))]) rfl ?_
    show Steps p.tables e below (T3.setTop (mkF m 35 #[.val (.ref th), .val (.int (7 : Int32))] [])) _
    refine XS.aloadN X3.here hx rfl (hb hby own_d3_35) rfl rfl ?_
    exact kt
  have hp3 : (0 : Int32) < y3 := own_pos t3 (by omega)
  obtain ⟨cq4, kq4, q4a, q4b, q4c⟩ := isOf hZ rfl Eq3
  obtain ⟨_, _, ⟨T4, L4, k4, n4⟩, -, X4, ⟨Lc4, hQ4, l4, y4, z4⟩, st4⟩ := X3.virtualBack hx (y := (⟨"com/example/gate_to_tables/gatetotables/adql/translator/RowValues$Budget", "take", "()Z"⟩ : MethodName)) (z := (⟨"com/example/gate_to_tables/gatetotables/adql/translator/RowValues$Budget", "take", "()Z"⟩ : MethodName)) hown (mvT hZ (hw _ (List.mem_of_getElem? (i := 15) rfl))) (mvT hZ (hw _ (List.mem_of_getElem? (i := 16) rfl))) (notFace_of_selects (args := #[]) (mvT hZ (hw _ (List.mem_of_getElem? (i := 18) rfl)))) (mvT hZ (hw _ (List.mem_of_getElem? (i := 18) rfl))) (mvT hZ (hw _ (List.mem_of_getElem? (i := 17) rfl))) (by decide) (backOf (W := 0) (rm4a l Z a0 hw [] th y3 T3.heap n0 Z3 Fq3 Eq3 gth hp3) hZ (hw _ (List.mem_of_getElem? (i := 19) rfl)) (hw _ (List.mem_of_getElem? (i := 2) rfl)) (by decide) (by decide)) q4a q4c (g := (mkF m 36 #[.val (.ref th), .val (.int (7 : Int32))] [(.ref th)])) rfl (by rw [hml]; rfl) (Steps.refl _) (argsL := []) (rest := []) (lenOf own_pd1 rfl) rfl (by show 2 * 0 + _ ≤ _; exact Nat.le_of_eq rfl) (hb hby own_d3_36) (fun _ _ => ⟨rfl, rfl, (by decide : 0 + 0 ≤ _), (by decide : 0 + 0 ≤ _)⟩)
  dsimp only [Pt.U, Pt.locs, Pt.cells, Pt.slots] at X4 l4 y4 z4 st4 hQ4
  subst l4 y4 z4
  obtain ⟨y4, hy4⟩ : ∃ z, z = y3 - 1 := ⟨_, rfl⟩
  unfold Q4a at hQ4; rw [← hy4] at hQ4
  have t4 := own_dec t3 (by omega) hy4
  obtain ⟨rfl, Nq4, Kq4, Eq4, Fq4⟩ := hQ4
  have N4 := Fr.app N3 Nq4
  have K4 := (K3).trans Kq4 (allS (Or.inl (List.mem_of_getElem? (i := 0) rfl)) all0)
  have Z4 : n0 ≤ T4.heap.size := Nat.le_trans Z3 Kq4.1
  refine own_tr st4 ?_
  show own_Gl _ _ _ _ _ _ _ _ (T4.setTop (mkF m 39 #[.val (.ref th), .val (.int (7 : Int32))] [(.int (1 : Int32))]))
  refine own_st (A' := T4.setTop (mkF m 48 #[.val (.ref th), .val (.int (15 : Int32))] [(.ref th)])) (fun tg kt => ?_) ?_
  · show Steps p.tables e below (T4.setTop (mkF m 39 #[.val (.ref th), .val (.int (7 : Int32))] [(.int (1 : Int32))])) _
    refine XS.ifNo X4.here hx rfl (hb hby own_d3_39) rfl ((if0 _ _).trans (feq ((by decide) : ¬ ((1 : Int32) = (0 : Int32)))).1) ?_
    show Steps p.tables e below (T4.setTop (mkF m 42 #[.val (.ref th), .val (.int (7 : Int32))] [])) _
    refine XS.iloadN X4.here hx rfl (hb hby own_d3_42) rfl ?_
    show Steps p.tables e below (T4.setTop (mkF m 43 #[.val (.ref th), .val (.int (7 : Int32))] [(.int (7 : Int32))])) _
    refine XS.bipush X4.here hx rfl (hb hby own_d3_43) ?_
    show Steps p.tables e below (T4.setTop (mkF m 45 #[.val (.ref th), .val (.int (7 : Int32))] [(.int (8 : Int32)), (.int (7 : Int32))])) _
    refine XS.ior X4.here hx rfl (hb hby own_d3_45) rfl ?_
    show Steps p.tables e below (T4.setTop (mkF m 46 #[.val (.ref th), .val (.int (7 : Int32))] [(.int (15 : Int32))])) _
    refine XS.istoreN X4.here hx rfl (hb hby own_d3_46) rfl (l' := #[.val (.ref th), .val (.int (15 : Int32))]) rfl ?_
    show Steps p.tables e below (T4.setTop (mkF m 47 #[.val (.ref th), .val (.int (15 : Int32))] [])) _
    refine XS.aloadN X4.here hx rfl (hb hby own_d3_47) rfl rfl ?_
    exact kt
  have hp4 : (0 : Int32) < y4 := own_pos t4 (by omega)
  obtain ⟨cq5, kq5, q5a, q5b, q5c⟩ := isOf hZ rfl Eq4
  obtain ⟨_, _, ⟨T5, L5, k5, n5⟩, -, X5, ⟨Lc5, hQ5, l5, y5, z5⟩, st5⟩ := X4.virtualBack hx (y := (⟨"com/example/gate_to_tables/gatetotables/adql/translator/RowValues$Budget", "take", "()Z"⟩ : MethodName)) (z := (⟨"com/example/gate_to_tables/gatetotables/adql/translator/RowValues$Budget", "take", "()Z"⟩ : MethodName)) hown (mvT hZ (hw _ (List.mem_of_getElem? (i := 15) rfl))) (mvT hZ (hw _ (List.mem_of_getElem? (i := 16) rfl))) (notFace_of_selects (args := #[]) (mvT hZ (hw _ (List.mem_of_getElem? (i := 18) rfl)))) (mvT hZ (hw _ (List.mem_of_getElem? (i := 18) rfl))) (mvT hZ (hw _ (List.mem_of_getElem? (i := 17) rfl))) (by decide) (backOf (W := 0) (rm4a l Z a0 hw [] th y4 T4.heap n0 Z4 Fq4 Eq4 gth hp4) hZ (hw _ (List.mem_of_getElem? (i := 19) rfl)) (hw _ (List.mem_of_getElem? (i := 2) rfl)) (by decide) (by decide)) q5a q5c (g := (mkF m 48 #[.val (.ref th), .val (.int (15 : Int32))] [(.ref th)])) rfl (by rw [hml]; rfl) (Steps.refl _) (argsL := []) (rest := []) (lenOf own_pd1 rfl) rfl (by show 2 * 0 + _ ≤ _; exact Nat.le_of_eq rfl) (hb hby own_d3_48) (fun _ _ => ⟨rfl, rfl, (by decide : 0 + 0 ≤ _), (by decide : 0 + 0 ≤ _)⟩)
  dsimp only [Pt.U, Pt.locs, Pt.cells, Pt.slots] at X5 l5 y5 z5 st5 hQ5
  subst l5 y5 z5
  obtain ⟨y5, hy5⟩ : ∃ z, z = y4 - 1 := ⟨_, rfl⟩
  unfold Q4a at hQ5; rw [← hy5] at hQ5
  have t5 := own_dec t4 (by omega) hy5
  obtain ⟨rfl, Nq5, Kq5, Eq5, Fq5⟩ := hQ5
  have N5 := Fr.app N4 Nq5
  have K5 := (K4).trans Kq5 (allS (Or.inl (List.mem_of_getElem? (i := 0) rfl)) all0)
  have Z5 : n0 ≤ T5.heap.size := Nat.le_trans Z4 Kq5.1
  refine own_tr st5 ?_
  show own_Gl _ _ _ _ _ _ _ _ (T5.setTop (mkF m 51 #[.val (.ref th), .val (.int (15 : Int32))] [(.int (1 : Int32))]))
  refine own_st (A' := T5.setTop (mkF m 60 #[.val (.ref th), .val (.int (31 : Int32))] [(.ref th)])) (fun tg kt => ?_) ?_
  · show Steps p.tables e below (T5.setTop (mkF m 51 #[.val (.ref th), .val (.int (15 : Int32))] [(.int (1 : Int32))])) _
    refine XS.ifNo X5.here hx rfl (hb hby own_d3_51) rfl ((if0 _ _).trans (feq ((by decide) : ¬ ((1 : Int32) = (0 : Int32)))).1) ?_
    show Steps p.tables e below (T5.setTop (mkF m 54 #[.val (.ref th), .val (.int (15 : Int32))] [])) _
    refine XS.iloadN X5.here hx rfl (hb hby own_d3_54) rfl ?_
    show Steps p.tables e below (T5.setTop (mkF m 55 #[.val (.ref th), .val (.int (15 : Int32))] [(.int (15 : Int32))])) _
    refine XS.bipush X5.here hx rfl (hb hby own_d3_55) ?_
    show Steps p.tables e below (T5.setTop (mkF m 57 #[.val (.ref th), .val (.int (15 : Int32))] [(.int (16 : Int32)), (.int (15 : Int32))])) _
    refine XS.ior X5.here hx rfl (hb hby own_d3_57) rfl ?_
    show Steps p.tables e below (T5.setTop (mkF m 58 #[.val (.ref th), .val (.int (15 : Int32))] [(.int (31 : Int32))])) _
    refine XS.istoreN X5.here hx rfl (hb hby own_d3_58) rfl (l' := #[.val (.ref th), .val (.int (31 : Int32))]) rfl ?_
    show Steps p.tables e below (T5.setTop (mkF m 59 #[.val (.ref th), .val (.int (31 : Int32))] [])) _
    refine XS.aloadN X5.here hx rfl (hb hby own_d3_59) rfl rfl ?_
    exact kt
  have hp5 : (0 : Int32) < y5 := own_pos t5 (by omega)
  obtain ⟨cq6, kq6, q6a, q6b, q6c⟩ := isOf hZ rfl Eq5
  obtain ⟨_, _, ⟨T6, L6, k6, n6⟩, -, X6, ⟨Lc6, hQ6, l6, y6, z6⟩, st6⟩ := X5.virtualBack hx (y := (⟨"com/example/gate_to_tables/gatetotables/adql/translator/RowValues$Budget", "take", "()Z"⟩ : MethodName)) (z := (⟨"com/example/gate_to_tables/gatetotables/adql/translator/RowValues$Budget", "take", "()Z"⟩ : MethodName)) hown (mvT hZ (hw _ (List.mem_of_getElem? (i := 15) rfl))) (mvT hZ (hw _ (List.mem_of_getElem? (i := 16) rfl))) (notFace_of_selects (args := #[]) (mvT hZ (hw _ (List.mem_of_getElem? (i := 18) rfl)))) (mvT hZ (hw _ (List.mem_of_getElem? (i := 18) rfl))) (mvT hZ (hw _ (List.mem_of_getElem? (i := 17) rfl))) (by decide) (backOf (W := 0) (rm4a l Z a0 hw [] th y5 T5.heap n0 Z5 Fq5 Eq5 gth hp5) hZ (hw _ (List.mem_of_getElem? (i := 19) rfl)) (hw _ (List.mem_of_getElem? (i := 2) rfl)) (by decide) (by decide)) q6a q6c (g := (mkF m 60 #[.val (.ref th), .val (.int (31 : Int32))] [(.ref th)])) rfl (by rw [hml]; rfl) (Steps.refl _) (argsL := []) (rest := []) (lenOf own_pd1 rfl) rfl (by show 2 * 0 + _ ≤ _; exact Nat.le_of_eq rfl) (hb hby own_d3_60) (fun _ _ => ⟨rfl, rfl, (by decide : 0 + 0 ≤ _), (by decide : 0 + 0 ≤ _)⟩)
  dsimp only [Pt.U, Pt.locs, Pt.cells, Pt.slots] at X6 l6 y6 z6 st6 hQ6
  subst l6 y6 z6
  obtain ⟨y6, hy6⟩ : ∃ z, z = y5 - 1 := ⟨_, rfl⟩
  unfold Q4a at hQ6; rw [← hy6] at hQ6
  have t6 := own_dec t5 (by omega) hy6
  obtain ⟨rfl, Nq6, Kq6, Eq6, Fq6⟩ := hQ6
  have N6 := Fr.app N5 Nq6
  have K6 := (K5).trans Kq6 (allS (Or.inl (List.mem_of_getElem? (i := 0) rfl)) all0)
  have Z6 : n0 ≤ T6.heap.size := Nat.le_trans Z5 Kq6.1
  refine own_tr st6 ?_
  show own_Gl _ _ _ _ _ _ _ _ (T6.setTop (mkF m 63 #[.val (.ref th), .val (.int (31 : Int32))] [(.int (1 : Int32))]))
  refine own_st (A' := T6.setTop (mkF m 72 #[.val (.ref th), .val (.int (63 : Int32))] [(.ref th)])) (fun tg kt => ?_) ?_
  · show Steps p.tables e below (T6.setTop (mkF m 63 #[.val (.ref th), .val (.int (31 : Int32))] [(.int (1 : Int32))])) _
    refine XS.ifNo X6.here hx rfl (hb hby own_d3_63) rfl ((if0 _ _).trans (feq ((by decide) : ¬ ((1 : Int32) = (0 : Int32)))).1) ?_
    show Steps p.tables e below (T6.setTop (mkF m 66 #[.val (.ref th), .val (.int (31 : Int32))] [])) _
    refine XS.iloadN X6.here hx rfl (hb hby own_d3_66) rfl ?_
    show Steps p.tables e below (T6.setTop (mkF m 67 #[.val (.ref th), .val (.int (31 : Int32))] [(.int (31 : Int32))])) _
    refine XS.bipush X6.here hx rfl (hb hby own_d3_67) ?_
    show Steps p.tables e below (T6.setTop (mkF m 69 #[.val (.ref th), .val (.int (31 : Int32))] [(.int (32 : Int32)), (.int (31 : Int32))])) _
    refine XS.ior X6.here hx rfl (hb hby own_d3_69) rfl ?_
    show Steps p.tables e below (T6.setTop (mkF m 70 #[.val (.ref th), .val (.int (31 : Int32))] [(.int (63 : Int32))])) _
    refine XS.istoreN X6.here hx rfl (hb hby own_d3_70) rfl (l' := #[.val (.ref th), .val (.int (63 : Int32))]) rfl ?_
    show Steps p.tables e below (T6.setTop (mkF m 71 #[.val (.ref th), .val (.int (63 : Int32))] [])) _
    refine XS.aloadN X6.here hx rfl (hb hby own_d3_71) rfl rfl ?_
    exact kt
  have hp6 : (0 : Int32) < y6 := own_pos t6 (by omega)
  obtain ⟨cq7, kq7, q7a, q7b, q7c⟩ := isOf hZ rfl Eq6
  obtain ⟨_, _, ⟨T7, L7, k7, n7⟩, -, X7, ⟨Lc7, hQ7, l7, y7, z7⟩, st7⟩ := X6.virtualBack hx (y := (⟨"com/example/gate_to_tables/gatetotables/adql/translator/RowValues$Budget", "take", "()Z"⟩ : MethodName)) (z := (⟨"com/example/gate_to_tables/gatetotables/adql/translator/RowValues$Budget", "take", "()Z"⟩ : MethodName)) hown (mvT hZ (hw _ (List.mem_of_getElem? (i := 15) rfl))) (mvT hZ (hw _ (List.mem_of_getElem? (i := 16) rfl))) (notFace_of_selects (args := #[]) (mvT hZ (hw _ (List.mem_of_getElem? (i := 18) rfl)))) (mvT hZ (hw _ (List.mem_of_getElem? (i := 18) rfl))) (mvT hZ (hw _ (List.mem_of_getElem? (i := 17) rfl))) (by decide) (backOf (W := 0) (rm4a l Z a0 hw [] th y6 T6.heap n0 Z6 Fq6 Eq6 gth hp6) hZ (hw _ (List.mem_of_getElem? (i := 19) rfl)) (hw _ (List.mem_of_getElem? (i := 2) rfl)) (by decide) (by decide)) q7a q7c (g := (mkF m 72 #[.val (.ref th), .val (.int (63 : Int32))] [(.ref th)])) rfl (by rw [hml]; rfl) (Steps.refl _) (argsL := []) (rest := []) (lenOf own_pd1 rfl) rfl (by show 2 * 0 + _ ≤ _; exact Nat.le_of_eq rfl) (hb hby own_d3_72) (fun _ _ => ⟨rfl, rfl, (by decide : 0 + 0 ≤ _), (by decide : 0 + 0 ≤ _)⟩)
  dsimp only [Pt.U, Pt.locs, Pt.cells, Pt.slots] at X7 l7 y7 z7 st7 hQ7
  subst l7 y7 z7
  obtain ⟨y7, hy7⟩ : ∃ z, z = y6 - 1 := ⟨_, rfl⟩
  unfold Q4a at hQ7; rw [← hy7] at hQ7
  have t7 := own_dec t6 (by omega) hy7
  obtain ⟨rfl, Nq7, Kq7, Eq7, Fq7⟩ := hQ7
  have N7 := Fr.app N6 Nq7
  have K7 := (K6).trans Kq7 (allS (Or.inl (List.mem_of_getElem? (i := 0) rfl)) all0)
  have Z7 : n0 ≤ T7.heap.size := Nat.le_trans Z6 Kq7.1
  refine own_tr st7 ?_
  show own_Gl _ _ _ _ _ _ _ _ (T7.setTop (mkF m 75 #[.val (.ref th), .val (.int (63 : Int32))] [(.int (1 : Int32))]))
  refine own_st (A' := T7.setTop (mkF m 84 #[.val (.ref th), .val (.int (127 : Int32))] [(.ref th)])) (fun tg kt => ?_) ?_
  · show Steps p.tables e below (T7.setTop (mkF m 75 #[.val (.ref th), .val (.int (63 : Int32))] [(.int (1 : Int32))])) _
    refine XS.ifNo X7.here hx rfl (hb hby own_d3_75) rfl ((if0 _ _).trans (feq ((by decide) : ¬ ((1 : Int32) = (0 : Int32)))).1) ?_
    show Steps p.tables e below (T7.setTop (mkF m 78 #[.val (.ref th), .val (.int (63 : Int32))] [])) _
    refine XS.iloadN X7.here hx rfl (hb hby own_d3_78) rfl ?_
    show Steps p.tables e below (T7.setTop (mkF m 79 #[.val (.ref th), .val (.int (63 : Int32))] [(.int (63 : Int32))])) _
    refine XS.bipush X7.here hx rfl (hb hby own_d3_79) ?_
    show Steps p.tables e below (T7.setTop (mkF m 81 #[.val (.ref th), .val (.int (63 : Int32))] [(.int (64 : Int32)), (.int (63 : Int32))])) _
    refine XS.ior X7.here hx rfl (hb hby own_d3_81) rfl ?_
    show Steps p.tables e below (T7.setTop (mkF m 82 #[.val (.ref th), .val (.int (63 : Int32))] [(.int (127 : Int32))])) _
    refine XS.istoreN X7.here hx rfl (hb hby own_d3_82) rfl (l' := #[.val (.ref th), .val (.int (127 : Int32))]) rfl ?_
    show Steps p.tables e below (T7.setTop (mkF m 83 #[.val (.ref th), .val (.int (127 : Int32))] [])) _
    refine XS.aloadN X7.here hx rfl (hb hby own_d3_83) rfl rfl ?_
    exact kt
  have hp7 : (0 : Int32) < y7 := own_pos t7 (by omega)
  obtain ⟨cq8, kq8, q8a, q8b, q8c⟩ := isOf hZ rfl Eq7
  obtain ⟨_, _, ⟨T8, L8, k8, n8⟩, -, X8, ⟨Lc8, hQ8, l8, y8, z8⟩, st8⟩ := X7.virtualBack hx (y := (⟨"com/example/gate_to_tables/gatetotables/adql/translator/RowValues$Budget", "take", "()Z"⟩ : MethodName)) (z := (⟨"com/example/gate_to_tables/gatetotables/adql/translator/RowValues$Budget", "take", "()Z"⟩ : MethodName)) hown (mvT hZ (hw _ (List.mem_of_getElem? (i := 15) rfl))) (mvT hZ (hw _ (List.mem_of_getElem? (i := 16) rfl))) (notFace_of_selects (args := #[]) (mvT hZ (hw _ (List.mem_of_getElem? (i := 18) rfl)))) (mvT hZ (hw _ (List.mem_of_getElem? (i := 18) rfl))) (mvT hZ (hw _ (List.mem_of_getElem? (i := 17) rfl))) (by decide) (backOf (W := 0) (rm4a l Z a0 hw [] th y7 T7.heap n0 Z7 Fq7 Eq7 gth hp7) hZ (hw _ (List.mem_of_getElem? (i := 19) rfl)) (hw _ (List.mem_of_getElem? (i := 2) rfl)) (by decide) (by decide)) q8a q8c (g := (mkF m 84 #[.val (.ref th), .val (.int (127 : Int32))] [(.ref th)])) rfl (by rw [hml]; rfl) (Steps.refl _) (argsL := []) (rest := []) (lenOf own_pd1 rfl) rfl (by show 2 * 0 + _ ≤ _; exact Nat.le_of_eq rfl) (hb hby own_d3_84) (fun _ _ => ⟨rfl, rfl, (by decide : 0 + 0 ≤ _), (by decide : 0 + 0 ≤ _)⟩)
  dsimp only [Pt.U, Pt.locs, Pt.cells, Pt.slots] at X8 l8 y8 z8 st8 hQ8
  subst l8 y8 z8
  obtain ⟨y8, hy8⟩ : ∃ z, z = y7 - 1 := ⟨_, rfl⟩
  unfold Q4a at hQ8; rw [← hy8] at hQ8
  have t8 := own_dec t7 (by omega) hy8
  obtain ⟨rfl, Nq8, Kq8, Eq8, Fq8⟩ := hQ8
  have N8 := Fr.app N7 Nq8
  have K8 := (K7).trans Kq8 (allS (Or.inl (List.mem_of_getElem? (i := 0) rfl)) all0)
  have Z8 : n0 ≤ T8.heap.size := Nat.le_trans Z7 Kq8.1
  refine own_tr st8 ?_
  show own_Gl _ _ _ _ _ _ _ _ (T8.setTop (mkF m 87 #[.val (.ref th), .val (.int (127 : Int32))] [(.int (1 : Int32))]))
  refine own_st (A' := T8.setTop (mkF m 97 #[.val (.ref th), .val (.int (255 : Int32))] [(.int (255 : Int32))])) (fun tg kt => ?_) ?_
  · show Steps p.tables e below (T8.setTop (mkF m 87 #[.val (.ref th), .val (.int (127 : Int32))] [(.int (1 : Int32))])) _
    refine XS.ifNo X8.here hx rfl (hb hby own_d3_87) rfl ((if0 _ _).trans (feq ((by decide) : ¬ ((1 : Int32) = (0 : Int32)))).1) ?_
    show Steps p.tables e below (T8.setTop (mkF m 90 #[.val (.ref th), .val (.int (127 : Int32))] [])) _
    refine XS.iloadN X8.here hx rfl (hb hby own_d3_90) rfl ?_
    show Steps p.tables e below (T8.setTop (mkF m 91 #[.val (.ref th), .val (.int (127 : Int32))] [(.int (127 : Int32))])) _
    refine XS.sipush X8.here hx rfl (hb hby own_d3_91) ?_
    show Steps p.tables e below (T8.setTop (mkF m 94 #[.val (.ref th), .val (.int (127 : Int32))] [(.int (128 : Int32)), (.int (127 : Int32))])) _
    refine XS.ior X8.here hx rfl (hb hby own_d3_94) rfl ?_
    show Steps p.tables e below (T8.setTop (mkF m 95 #[.val (.ref th), .val (.int (127 : Int32))] [(.int (255 : Int32))])) _
    refine XS.istoreN X8.here hx rfl (hb hby own_d3_95) rfl (l' := #[.val (.ref th), .val (.int (255 : Int32))]) rfl ?_
    show Steps p.tables e below (T8.setTop (mkF m 96 #[.val (.ref th), .val (.int (255 : Int32))] [])) _
    refine XS.iloadN X8.here hx rfl (hb hby own_d3_96) rfl ?_
    exact kt
  refine own_ret X8 (v := some (.int (255 : Int32))) (fun h => by rw [Bd.returns] at h; cases h) hlk (by decide) (by decide) ?_ (fun fs hr => ?_)
  · show Q3a Z th y0 h0 n0 (some (.int (255 : Int32))) T8.heap _
    have e8 : y8 = y0 - 8 := Int32.toInt_inj.mp (by
      have o : (8 : Int32).toInt = 8 := by decide
      have := y0.toInt_lt
      rw [t8, Jvm.Kit.i32_sub (by rw [o]; omega) (by rw [o]; omega), o]; omega)
    rw [e8] at Fq8
    exact ⟨congrArg (fun z => some (Value.int z)) (by decide), N8, K8, Eq8, Fq8⟩
  · show Steps p.tables e below (T8.setTop (mkF m 97 #[.val (.ref th), .val (.int (255 : Int32))] [(.int (255 : Int32))])) _
    exact retI X8 hx Bd.returns (hb hby own_d3_97) hr
theorem own_ef_rm3b (m : MethodId) (th : Addr) : entryFrame m #[(.ref th)] 2 = mkF m 0 #[.val (.ref th), .unset] [] := by first | (simp [entryFrame, mkF, argsToLocals, Value.category]; done) | rfl
def Q3b (Z : State) (th : Addr) (y0 : Int32) (h0 : Heap) (n0 : Nat) (v : Option Value) (h : Heap) (L : List Loc) : Prop := v = some (.int 0) ∧ Fr n0 L ∧ Keep h0 h [th] ∧ Exa Z h th "com/example/gate_to_tables/gatetotables/adql/translator/RowValues$Budget" ∧ Fld Z h th "com/example/gate_to_tables/gatetotables/adql/translator/RowValues$Budget" "left" "I" (.int y0)
set_option maxRecDepth 65536 in
set_option maxHeartbeats 40000000 in
theorem rm3b (l : Launch) (Z : State) (a0 : Array Value) (hw : ∀ d ∈ tables_1, d.before a0 Z = true) (ws : List Jvm.Cond) (th : Addr) (y0 : Int32) (h0 : Heap) (n0 : Nat) (Z0 : n0 ≤ h0.size) (Fth : Fld Z h0 th "com/example/gate_to_tables/gatetotables/adql/translator/RowValues$Budget" "left" "I" (.int y0)) (Eth : Exa Z h0 th "com/example/gate_to_tables/gatetotables/adql/translator/RowValues$Budget") (gth : n0 ≤ th) (hp : ¬ (0 : Int32) < y0) :
    MetFree l (⟨"com/example/gate_to_tables/gatetotables/adql/translator/BudgetTakePinLaw", "take8", "(Lcom/example/gate_to_tables/gatetotables/adql/translator/RowValues$Budget;)I"⟩ : MethodName) (head1 (Jvm.Cond.code (⟨"com/example/gate_to_tables/gatetotables/adql/translator/BudgetTakePinLaw", "take8", "(Lcom/example/gate_to_tables/gatetotables/adql/translator/RowValues$Budget;)I"⟩ : MethodName) method_2_code 2 (some .int) :: ws) ({ frames := 1, cells := 0, slots := 0, locals := 13 } : Room)) (fun a U => a = #[(.ref th)] ∧ Z.Warmed39 U.vm ∧ U.heap = h0) (fun _ _ _ _ _ => True) (fun _ U o U' => ∃ v L, o = .returned v ∧ Q3b Z th y0 h0 n0 v U'.heap L ∧ FrameEnd U o U' L ({ frames := 1, cells := 0, slots := 0, locals := 13 } : Room).cells ({ frames := 1, cells := 0, slots := 0, locals := 13 } : Room).slots) := by
  refine MetFree.of_bodySF (plainFor_of_name own_pn2) hisR ?_
  intro p e s m args below meth c s₁ Bd hml0 hP hK
  obtain ⟨rfl, hZ, hh⟩ := hP
  have hx := Bd.exec
  have hby := Bd.bytes
  have hml : c.maxLocals = 2 := hml0
  have hown : s.vm.findClass "com/example/gate_to_tables/gatetotables/adql/translator/BudgetTakePinLaw" = some m.cls := findClass_of_methodNamed Bd.named
  have hnm := (name_of_methodNamed Bd.named Bd.method).1
  have hlk : meth.locks = false := BodyLoose.notSynchronized Bd
  have X0 : Stand p l e ({ frames := 1, cells := 0, slots := 0, locals := 13 } : Room) s m #[(.ref th)] below meth c s₁ [] 0 0 := Stand.of_body Bd
  have e0 : s₁.heap = h0 := by rw [← hh, Bd.state]; rfl
  have N0 := Fr.nil n0
  show own_Gl FrameEnd p e below s (Q3b Z th y0 h0 n0) ({ frames := 1, cells := 0, slots := 0, locals := 13 } : Room).cells ({ frames := 1, cells := 0, slots := 0, locals := 13 } : Room).slots (s₁.setTop (entryFrame m #[(.ref th)] 2))
  rw [own_ef_rm3b m th]
  refine own_st (A' := s₁.setTop (mkF m 3 #[.val (.ref th), .val (.int (0 : Int32))] [(.ref th)])) (fun tg kt => ?_) ?_
  · show Steps p.tables e below (s₁.setTop (mkF m 0 #[.val (.ref th), .unset] [])) _
    refine XS.iconst X0.here hx rfl (hb hby own_d3_0) ?_
    show Steps p.tables e below (s₁.setTop (mkF m 1 #[.val (.ref th), .unset] [(.int (0 : Int32))])) _
    refine XS.istoreN X0.here hx rfl (hb hby own_d3_1) rfl (l' := #[.val (.ref th), .val (.int (0 : Int32))]) rfl ?_
    show Steps p.tables e below (s₁.setTop (mkF m 2 #[.val (.ref th), .val (.int (0 : Int32))] [])) _
    refine XS.aloadN X0.here hx rfl (hb hby own_d3_2) rfl rfl ?_
    exact kt
  obtain ⟨cq1, kq1, q1a, q1b, q1c⟩ := isOf hZ e0 Eth
  obtain ⟨_, _, ⟨T1, L1, k1, n1⟩, -, X1, ⟨Lc1, hQ1, l1, y1, z1⟩, st1⟩ := X0.virtualBack hx (y := (⟨"com/example/gate_to_tables/gatetotables/adql/translator/RowValues$Budget", "take", "()Z"⟩ : MethodName)) (z := (⟨"com/example/gate_to_tables/gatetotables/adql/translator/RowValues$Budget", "take", "()Z"⟩ : MethodName)) hown (mvT hZ (hw _ (List.mem_of_getElem? (i := 15) rfl))) (mvT hZ (hw _ (List.mem_of_getElem? (i := 16) rfl))) (notFace_of_selects (args := #[]) (mvT hZ (hw _ (List.mem_of_getElem? (i := 18) rfl)))) (mvT hZ (hw _ (List.mem_of_getElem? (i := 18) rfl))) (mvT hZ (hw _ (List.mem_of_getElem? (i := 17) rfl))) (by decide) (backOf (W := 0) (rm4b l Z a0 hw [] th y0 h0 n0 Z0 Fth Eth gth hp) hZ (hw _ (List.mem_of_getElem? (i := 19) rfl)) (hw _ (List.mem_of_getElem? (i := 2) rfl)) (by decide) (by decide)) q1a q1c (g := (mkF m 3 #[.val (.ref th), .val (.int (0 : Int32))] [(.ref th)])) rfl (by rw [hml]; rfl) (Steps.refl _) (argsL := []) (rest := []) (lenOf own_pd1 rfl) rfl (by show 2 * 0 + _ ≤ _; exact Nat.le_of_eq rfl) (hb hby own_d3_3) (fun _ _ => ⟨rfl, e0, (by decide : 0 + 0 ≤ _), (by decide : 0 + 0 ≤ _)⟩)
  dsimp only [Pt.U, Pt.locs, Pt.cells, Pt.slots] at X1 l1 y1 z1 st1 hQ1
  subst l1 y1 z1
  obtain ⟨rfl, Nq1, Kq1, Eq1, Fq1⟩ := hQ1
  have N1 := Fr.app N0 Nq1
  have K1 := ((Keep.refl h0 ([th] : List Addr))).trans Kq1 (allS (Or.inl (List.mem_of_getElem? (i := 0) rfl)) all0)
  have Z1 : n0 ≤ T1.heap.size := Nat.le_trans Z0 Kq1.1
  refine own_tr st1 ?_
  show own_Gl _ _ _ _ _ _ _ _ (T1.setTop (mkF m 6 #[.val (.ref th), .val (.int (0 : Int32))] [(.int (0 : Int32))]))
  refine own_st (A' := T1.setTop (mkF m 14 #[.val (.ref th), .val (.int (0 : Int32))] [(.ref th)])) (fun tg kt => ?_) ?_
  · show Steps p.tables e below (T1.setTop (mkF m 6 #[.val (.ref th), .val (.int (0 : Int32))] [(.int (0 : Int32))])) _
    refine XS.ifYes X1.here hx rfl (pc0 := 6) (pc' := 13) rfl (hb hby own_d3_6) rfl ((if0 _ _).trans (teq ((by decide) : (0 : Int32) = (0 : Int32))).1) (by decide) (by decide) ?_
    show Steps p.tables e below (T1.setTop (mkF m 13 #[.val (.ref th), .val (.int (0 : Int32))] [])) _
    refine XS.aloadN X1.here hx rfl (hb hby own_d3_13) rfl rfl ?_
    exact kt
  obtain ⟨cq2, kq2, q2a, q2b, q2c⟩ := isOf hZ rfl Eq1
  obtain ⟨_, _, ⟨T2, L2, k2, n2⟩, -, X2, ⟨Lc2, hQ2, l2, y2, z2⟩, st2⟩ := X1.virtualBack hx (y := (⟨"com/example/gate_to_tables/gatetotables/adql/translator/RowValues$Budget", "take", "()Z"⟩ : MethodName)) (z := (⟨"com/example/gate_to_tables/gatetotables/adql/translator/RowValues$Budget", "take", "()Z"⟩ : MethodName)) hown (mvT hZ (hw _ (List.mem_of_getElem? (i := 15) rfl))) (mvT hZ (hw _ (List.mem_of_getElem? (i := 16) rfl))) (notFace_of_selects (args := #[]) (mvT hZ (hw _ (List.mem_of_getElem? (i := 18) rfl)))) (mvT hZ (hw _ (List.mem_of_getElem? (i := 18) rfl))) (mvT hZ (hw _ (List.mem_of_getElem? (i := 17) rfl))) (by decide) (backOf (W := 0) (rm4b l Z a0 hw [] th y0 T1.heap n0 Z1 Fq1 Eq1 gth hp) hZ (hw _ (List.mem_of_getElem? (i := 19) rfl)) (hw _ (List.mem_of_getElem? (i := 2) rfl)) (by decide) (by decide)) q2a q2c (g := (mkF m 14 #[.val (.ref th), .val (.int (0 : Int32))] [(.ref th)])) rfl (by rw [hml]; rfl) (Steps.refl _) (argsL := []) (rest := []) (lenOf own_pd1 rfl) rfl (by show 2 * 0 + _ ≤ _; exact Nat.le_of_eq rfl) (hb hby own_d3_14) (fun _ _ => ⟨rfl, rfl, (by decide : 0 + 0 ≤ _), (by decide : 0 + 0 ≤ _)⟩)
  dsimp only [Pt.U, Pt.locs, Pt.cells, Pt.slots] at X2 l2 y2 z2 st2 hQ2
  subst l2 y2 z2
  obtain ⟨rfl, Nq2, Kq2, Eq2, Fq2⟩ := hQ2
  have N2 := Fr.app N1 Nq2
  have K2 := (K1).trans Kq2 (allS (Or.inl (List.mem_of_getElem? (i := 0) rfl)) all0)
  have Z2 : n0 ≤ T2.heap.size := Nat.le_trans Z1 Kq2.1
  refine own_tr st2 ?_
  show own_Gl _ _ _ _ _ _ _ _ (T2.setTop (mkF m 17 #[.val (.ref th), .val (.int (0 : Int32))] [(.int (0 : Int32))]))
  refine own_st (A' := T2.setTop (mkF m 25 #[.val (.ref th), .val (.int (0 : Int32))] [(.ref th)])) (fun tg kt => ?_) ?_
  · show Steps p.tables e below (T2.setTop (mkF m 17 #[.val (.ref th), .val (.int (0 : Int32))] [(.int (0 : Int32))])) _
    refine XS.ifYes X2.here hx rfl (pc0 := 17) (pc' := 24) rfl (hb hby own_d3_17) rfl ((if0 _ _).trans (teq ((by decide) : (0 : Int32) = (0 : Int32))).1) (by decide) (by decide) ?_
    show Steps p.tables e below (T2.setTop (mkF m 24 #[.val (.ref th), .val (.int (0 : Int32))] [])) _
    refine XS.aloadN X2.here hx rfl (hb hby own_d3_24) rfl rfl ?_
    exact kt
  obtain ⟨cq3, kq3, q3a, q3b, q3c⟩ := isOf hZ rfl Eq2
  obtain ⟨_, _, ⟨T3, L3, k3, n3⟩, -, X3, ⟨Lc3, hQ3, l3, y3, z3⟩, st3⟩ := X2.virtualBack hx (y := (⟨"com/example/gate_to_tables/gatetotables/adql/translator/RowValues$Budget", "take", "()Z"⟩ : MethodName)) (z := (⟨"com/example/gate_to_tables/gatetotables/adql/translator/RowValues$Budget", "take", "()Z"⟩ : MethodName)) hown (mvT hZ (hw _ (List.mem_of_getElem? (i := 15) rfl))) (mvT hZ (hw _ (List.mem_of_getElem? (i := 16) rfl))) (notFace_of_selects (args := #[]) (mvT hZ (hw _ (List.mem_of_getElem? (i := 18) rfl)))) (mvT hZ (hw _ (List.mem_of_getElem? (i := 18) rfl))) (mvT hZ (hw _ (List.mem_of_getElem? (i := 17) rfl))) (by decide) (backOf (W := 0) (rm4b l Z a0 hw [] th y0 T2.heap n0 Z2 Fq2 Eq2 gth hp) hZ (hw _ (List.mem_of_getElem? (i := 19) rfl)) (hw _ (List.mem_of_getElem? (i := 2) rfl)) (by decide) (by decide)) q3a q3c (g := (mkF m 25 #[.val (.ref th), .val (.int (0 : Int32))] [(.ref th)])) rfl (by rw [hml]; rfl) (Steps.refl _) (argsL := []) (rest := []) (lenOf own_pd1 rfl) rfl (by show 2 * 0 + _ ≤ _; exact Nat.le_of_eq rfl) (hb hby own_d3_25) (fun _ _ => ⟨rfl, rfl, (by decide : 0 + 0 ≤ _), (by decide : 0 + 0 ≤ _)⟩)
  dsimp only [Pt.U, Pt.locs, Pt.cells, Pt.slots] at X3 l3 y3 z3 st3 hQ3
  subst l3 y3 z3
  obtain ⟨rfl, Nq3, Kq3, Eq3, Fq3⟩ := hQ3
  have N3 := Fr.app N2 Nq3
  have K3 := (K2).trans Kq3 (allS (Or.inl (List.mem_of_getElem? (i := 0) rfl)) all0)
  have Z3 : n0 ≤ T3.heap.size := Nat.le_trans Z2 Kq3.1
  refine own_tr st3 ?_
  show own_Gl _ _ _ _ _ _ _ _ (T3.setTop (mkF m 28 #[.val (.ref th), .val (.int (0 : Int32))] [(.int (0 : Int32))]))
  refine own_st (A' := T3.setTop (mkF m 36 #[.val (.ref th), .val (.int (0 : Int32))] [(.ref th)])) (fun tg kt => ?_) ?_
  · show Steps p.tables e below (T3.setTop (mkF m 28 #[.val (.ref th), .val (.int (0 : Int32))] [(.int (0 : Int32))])) _
    refine XS.ifYes X3.here hx rfl (pc0 := 28) (pc' := 35) rfl (hb hby own_d3_28) rfl ((if0 _ _).trans (teq ((by decide) : (0 : Int32) = (0 : Int32))).1) (by decide) (by decide) ?_
    show Steps p.tables e below (T3.setTop (mkF m 35 #[.val (.ref th), .val (.int (0 : Int32))] [])) _
    refine XS.aloadN X3.here hx rfl (hb hby own_d3_35) rfl rfl ?_
    exact kt
  obtain ⟨cq4, kq4, q4a, q4b, q4c⟩ := isOf hZ rfl Eq3
  obtain ⟨_, _, ⟨T4, L4, k4, n4⟩, -, X4, ⟨Lc4, hQ4, l4, y4, z4⟩, st4⟩ := X3.virtualBack hx (y := (⟨"com/example/gate_to_tables/gatetotables/adql/translator/RowValues$Budget", "take", "()Z"⟩ : MethodName)) (z := (⟨"com/example/gate_to_tables/gatetotables/adql/translator/RowValues$Budget", "take", "()Z"⟩ : MethodName)) hown (mvT hZ (hw _ (List.mem_of_getElem? (i := 15) rfl))) (mvT hZ (hw _ (List.mem_of_getElem? (i := 16) rfl))) (notFace_of_selects (args := #[]) (mvT hZ (hw _ (List.mem_of_getElem? (i := 18) rfl)))) (mvT hZ (hw _ (List.mem_of_getElem? (i := 18) rfl))) (mvT hZ (hw _ (List.mem_of_getElem? (i := 17) rfl))) (by decide) (backOf (W := 0) (rm4b l Z a0 hw [] th y0 T3.heap n0 Z3 Fq3 Eq3 gth hp) hZ (hw _ (List.mem_of_getElem? (i := 19) rfl)) (hw _ (List.mem_of_getElem? (i := 2) rfl)) (by decide) (by decide)) q4a q4c (g := (mkF m 36 #[.val (.ref th), .val (.int (0 : Int32))] [(.ref th)])) rfl (by rw [hml]; rfl) (Steps.refl _) (argsL := []) (rest := []) (lenOf own_pd1 rfl) rfl (by show 2 * 0 + _ ≤ _; exact Nat.le_of_eq rfl) (hb hby own_d3_36) (fun _ _ => ⟨rfl, rfl, (by decide : 0 + 0 ≤ _), (by decide : 0 + 0 ≤ _)⟩)
  dsimp only [Pt.U, Pt.locs, Pt.cells, Pt.slots] at X4 l4 y4 z4 st4 hQ4
  subst l4 y4 z4
  obtain ⟨rfl, Nq4, Kq4, Eq4, Fq4⟩ := hQ4
  have N4 := Fr.app N3 Nq4
  have K4 := (K3).trans Kq4 (allS (Or.inl (List.mem_of_getElem? (i := 0) rfl)) all0)
  have Z4 : n0 ≤ T4.heap.size := Nat.le_trans Z3 Kq4.1
  refine own_tr st4 ?_
  show own_Gl _ _ _ _ _ _ _ _ (T4.setTop (mkF m 39 #[.val (.ref th), .val (.int (0 : Int32))] [(.int (0 : Int32))]))
  refine own_st (A' := T4.setTop (mkF m 48 #[.val (.ref th), .val (.int (0 : Int32))] [(.ref th)])) (fun tg kt => ?_) ?_
  · show Steps p.tables e below (T4.setTop (mkF m 39 #[.val (.ref th), .val (.int (0 : Int32))] [(.int (0 : Int32))])) _
    refine XS.ifYes X4.here hx rfl (pc0 := 39) (pc' := 47) rfl (hb hby own_d3_39) rfl ((if0 _ _).trans (teq ((by decide) : (0 : Int32) = (0 : Int32))).1) (by decide) (by decide) ?_
    show Steps p.tables e below (T4.setTop (mkF m 47 #[.val (.ref th), .val (.int (0 : Int32))] [])) _
    refine XS.aloadN X4.here hx rfl (hb hby own_d3_47) rfl rfl ?_
    exact kt
  obtain ⟨cq5, kq5, q5a, q5b, q5c⟩ := isOf hZ rfl Eq4
  obtain ⟨_, _, ⟨T5, L5, k5, n5⟩, -, X5, ⟨Lc5, hQ5, l5, y5, z5⟩, st5⟩ := X4.virtualBack hx (y := (⟨"com/example/gate_to_tables/gatetotables/adql/translator/RowValues$Budget", "take", "()Z"⟩ : MethodName)) (z := (⟨"com/example/gate_to_tables/gatetotables/adql/translator/RowValues$Budget", "take", "()Z"⟩ : MethodName)) hown (mvT hZ (hw _ (List.mem_of_getElem? (i := 15) rfl))) (mvT hZ (hw _ (List.mem_of_getElem? (i := 16) rfl))) (notFace_of_selects (args := #[]) (mvT hZ (hw _ (List.mem_of_getElem? (i := 18) rfl)))) (mvT hZ (hw _ (List.mem_of_getElem? (i := 18) rfl))) (mvT hZ (hw _ (List.mem_of_getElem? (i := 17) rfl))) (by decide) (backOf (W := 0) (rm4b l Z a0 hw [] th y0 T4.heap n0 Z4 Fq4 Eq4 gth hp) hZ (hw _ (List.mem_of_getElem? (i := 19) rfl)) (hw _ (List.mem_of_getElem? (i := 2) rfl)) (by decide) (by decide)) q5a q5c (g := (mkF m 48 #[.val (.ref th), .val (.int (0 : Int32))] [(.ref th)])) rfl (by rw [hml]; rfl) (Steps.refl _) (argsL := []) (rest := []) (lenOf own_pd1 rfl) rfl (by show 2 * 0 + _ ≤ _; exact Nat.le_of_eq rfl) (hb hby own_d3_48) (fun _ _ => ⟨rfl, rfl, (by decide : 0 + 0 ≤ _), (by decide : 0 + 0 ≤ _)⟩)
  dsimp only [Pt.U, Pt.locs, Pt.cells, Pt.slots] at X5 l5 y5 z5 st5 hQ5
  subst l5 y5 z5
  obtain ⟨rfl, Nq5, Kq5, Eq5, Fq5⟩ := hQ5
  have N5 := Fr.app N4 Nq5
  have K5 := (K4).trans Kq5 (allS (Or.inl (List.mem_of_getElem? (i := 0) rfl)) all0)
  have Z5 : n0 ≤ T5.heap.size := Nat.le_trans Z4 Kq5.1
  refine own_tr st5 ?_
  show own_Gl _ _ _ _ _ _ _ _ (T5.setTop (mkF m 51 #[.val (.ref th), .val (.int (0 : Int32))] [(.int (0 : Int32))]))
  refine own_st (A' := T5.setTop (mkF m 60 #[.val (.ref th), .val (.int (0 : Int32))] [(.ref th)])) (fun tg kt => ?_) ?_
  · show Steps p.tables e below (T5.setTop (mkF m 51 #[.val (.ref th), .val (.int (0 : Int32))] [(.int (0 : Int32))])) _
    refine XS.ifYes X5.here hx rfl (pc0 := 51) (pc' := 59) rfl (hb hby own_d3_51) rfl ((if0 _ _).trans (teq ((by decide) : (0 : Int32) = (0 : Int32))).1) (by decide) (by decide) ?_
    show Steps p.tables e below (T5.setTop (mkF m 59 #[.val (.ref th), .val (.int (0 : Int32))] [])) _
    refine XS.aloadN X5.here hx rfl (hb hby own_d3_59) rfl rfl ?_
    exact kt
  obtain ⟨cq6, kq6, q6a, q6b, q6c⟩ := isOf hZ rfl Eq5
  obtain ⟨_, _, ⟨T6, L6, k6, n6⟩, -, X6, ⟨Lc6, hQ6, l6, y6, z6⟩, st6⟩ := X5.virtualBack hx (y := (⟨"com/example/gate_to_tables/gatetotables/adql/translator/RowValues$Budget", "take", "()Z"⟩ : MethodName)) (z := (⟨"com/example/gate_to_tables/gatetotables/adql/translator/RowValues$Budget", "take", "()Z"⟩ : MethodName)) hown (mvT hZ (hw _ (List.mem_of_getElem? (i := 15) rfl))) (mvT hZ (hw _ (List.mem_of_getElem? (i := 16) rfl))) (notFace_of_selects (args := #[]) (mvT hZ (hw _ (List.mem_of_getElem? (i := 18) rfl)))) (mvT hZ (hw _ (List.mem_of_getElem? (i := 18) rfl))) (mvT hZ (hw _ (List.mem_of_getElem? (i := 17) rfl))) (by decide) (backOf (W := 0) (rm4b l Z a0 hw [] th y0 T5.heap n0 Z5 Fq5 Eq5 gth hp) hZ (hw _ (List.mem_of_getElem? (i := 19) rfl)) (hw _ (List.mem_of_getElem? (i := 2) rfl)) (by decide) (by decide)) q6a q6c (g := (mkF m 60 #[.val (.ref th), .val (.int (0 : Int32))] [(.ref th)])) rfl (by rw [hml]; rfl) (Steps.refl _) (argsL := []) (rest := []) (lenOf own_pd1 rfl) rfl (by show 2 * 0 + _ ≤ _; exact Nat.le_of_eq rfl) (hb hby own_d3_60) (fun _ _ => ⟨rfl, rfl, (by decide : 0 + 0 ≤ _), (by decide : 0 + 0 ≤ _)⟩)
  dsimp only [Pt.U, Pt.locs, Pt.cells, Pt.slots] at X6 l6 y6 z6 st6 hQ6
  subst l6 y6 z6
  obtain ⟨rfl, Nq6, Kq6, Eq6, Fq6⟩ := hQ6
  have N6 := Fr.app N5 Nq6
  have K6 := (K5).trans Kq6 (allS (Or.inl (List.mem_of_getElem? (i := 0) rfl)) all0)
  have Z6 : n0 ≤ T6.heap.size := Nat.le_trans Z5 Kq6.1
  refine own_tr st6 ?_
  show own_Gl _ _ _ _ _ _ _ _ (T6.setTop (mkF m 63 #[.val (.ref th), .val (.int (0 : Int32))] [(.int (0 : Int32))]))
  refine own_st (A' := T6.setTop (mkF m 72 #[.val (.ref th), .val (.int (0 : Int32))] [(.ref th)])) (fun tg kt => ?_) ?_
  · show Steps p.tables e below (T6.setTop (mkF m 63 #[.val (.ref th), .val (.int (0 : Int32))] [(.int (0 : Int32))])) _
    refine XS.ifYes X6.here hx rfl (pc0 := 63) (pc' := 71) rfl (hb hby own_d3_63) rfl ((if0 _ _).trans (teq ((by decide) : (0 : Int32) = (0 : Int32))).1) (by decide) (by decide) ?_
    show Steps p.tables e below (T6.setTop (mkF m 71 #[.val (.ref th), .val (.int (0 : Int32))] [])) _
    refine XS.aloadN X6.here hx rfl (hb hby own_d3_71) rfl rfl ?_
    exact kt
  obtain ⟨cq7, kq7, q7a, q7b, q7c⟩ := isOf hZ rfl Eq6
  obtain ⟨_, _, ⟨T7, L7, k7, n7⟩, -, X7, ⟨Lc7, hQ7, l7, y7, z7⟩, st7⟩ := X6.virtualBack hx (y := (⟨"com/example/gate_to_tables/gatetotables/adql/translator/RowValues$Budget", "take", "()Z"⟩ : MethodName)) (z := (⟨"com/example/gate_to_tables/gatetotables/adql/translator/RowValues$Budget", "take", "()Z"⟩ : MethodName)) hown (mvT hZ (hw _ (List.mem_of_getElem? (i := 15) rfl))) (mvT hZ (hw _ (List.mem_of_getElem? (i := 16) rfl))) (notFace_of_selects (args := #[]) (mvT hZ (hw _ (List.mem_of_getElem? (i := 18) rfl)))) (mvT hZ (hw _ (List.mem_of_getElem? (i := 18) rfl))) (mvT hZ (hw _ (List.mem_of_getElem? (i := 17) rfl))) (by decide) (backOf (W := 0) (rm4b l Z a0 hw [] th y0 T6.heap n0 Z6 Fq6 Eq6 gth hp) hZ (hw _ (List.mem_of_getElem? (i := 19) rfl)) (hw _ (List.mem_of_getElem? (i := 2) rfl)) (by decide) (by decide)) q7a q7c (g := (mkF m 72 #[.val (.ref th), .val (.int (0 : Int32))] [(.ref th)])) rfl (by rw [hml]; rfl) (Steps.refl _) (argsL := []) (rest := []) (lenOf own_pd1 rfl) rfl (by show 2 * 0 + _ ≤ _; exact Nat.le_of_eq rfl) (hb hby own_d3_72) (fun _ _ => ⟨rfl, rfl, (by decide : 0 + 0 ≤ _), (by decide : 0 + 0 ≤ _)⟩)
  dsimp only [Pt.U, Pt.locs, Pt.cells, Pt.slots] at X7 l7 y7 z7 st7 hQ7
  subst l7 y7 z7
  obtain ⟨rfl, Nq7, Kq7, Eq7, Fq7⟩ := hQ7
  have N7 := Fr.app N6 Nq7
  have K7 := (K6).trans Kq7 (allS (Or.inl (List.mem_of_getElem? (i := 0) rfl)) all0)
  have Z7 : n0 ≤ T7.heap.size := Nat.le_trans Z6 Kq7.1
  refine own_tr st7 ?_
  show own_Gl _ _ _ _ _ _ _ _ (T7.setTop (mkF m 75 #[.val (.ref th), .val (.int (0 : Int32))] [(.int (0 : Int32))]))
  refine own_st (A' := T7.setTop (mkF m 84 #[.val (.ref th), .val (.int (0 : Int32))] [(.ref th)])) (fun tg kt => ?_) ?_
  · show Steps p.tables e below (T7.setTop (mkF m 75 #[.val (.ref th), .val (.int (0 : Int32))] [(.int (0 : Int32))])) _
    refine XS.ifYes X7.here hx rfl (pc0 := 75) (pc' := 83) rfl (hb hby own_d3_75) rfl ((if0 _ _).trans (teq ((by decide) : (0 : Int32) = (0 : Int32))).1) (by decide) (by decide) ?_
    show Steps p.tables e below (T7.setTop (mkF m 83 #[.val (.ref th), .val (.int (0 : Int32))] [])) _
    refine XS.aloadN X7.here hx rfl (hb hby own_d3_83) rfl rfl ?_
    exact kt
  obtain ⟨cq8, kq8, q8a, q8b, q8c⟩ := isOf hZ rfl Eq7
  obtain ⟨_, _, ⟨T8, L8, k8, n8⟩, -, X8, ⟨Lc8, hQ8, l8, y8, z8⟩, st8⟩ := X7.virtualBack hx (y := (⟨"com/example/gate_to_tables/gatetotables/adql/translator/RowValues$Budget", "take", "()Z"⟩ : MethodName)) (z := (⟨"com/example/gate_to_tables/gatetotables/adql/translator/RowValues$Budget", "take", "()Z"⟩ : MethodName)) hown (mvT hZ (hw _ (List.mem_of_getElem? (i := 15) rfl))) (mvT hZ (hw _ (List.mem_of_getElem? (i := 16) rfl))) (notFace_of_selects (args := #[]) (mvT hZ (hw _ (List.mem_of_getElem? (i := 18) rfl)))) (mvT hZ (hw _ (List.mem_of_getElem? (i := 18) rfl))) (mvT hZ (hw _ (List.mem_of_getElem? (i := 17) rfl))) (by decide) (backOf (W := 0) (rm4b l Z a0 hw [] th y0 T7.heap n0 Z7 Fq7 Eq7 gth hp) hZ (hw _ (List.mem_of_getElem? (i := 19) rfl)) (hw _ (List.mem_of_getElem? (i := 2) rfl)) (by decide) (by decide)) q8a q8c (g := (mkF m 84 #[.val (.ref th), .val (.int (0 : Int32))] [(.ref th)])) rfl (by rw [hml]; rfl) (Steps.refl _) (argsL := []) (rest := []) (lenOf own_pd1 rfl) rfl (by show 2 * 0 + _ ≤ _; exact Nat.le_of_eq rfl) (hb hby own_d3_84) (fun _ _ => ⟨rfl, rfl, (by decide : 0 + 0 ≤ _), (by decide : 0 + 0 ≤ _)⟩)
  dsimp only [Pt.U, Pt.locs, Pt.cells, Pt.slots] at X8 l8 y8 z8 st8 hQ8
  subst l8 y8 z8
  obtain ⟨rfl, Nq8, Kq8, Eq8, Fq8⟩ := hQ8
  have N8 := Fr.app N7 Nq8
  have K8 := (K7).trans Kq8 (allS (Or.inl (List.mem_of_getElem? (i := 0) rfl)) all0)
  have Z8 : n0 ≤ T8.heap.size := Nat.le_trans Z7 Kq8.1
  refine own_tr st8 ?_
  show own_Gl _ _ _ _ _ _ _ _ (T8.setTop (mkF m 87 #[.val (.ref th), .val (.int (0 : Int32))] [(.int (0 : Int32))]))
  refine own_st (A' := T8.setTop (mkF m 97 #[.val (.ref th), .val (.int (0 : Int32))] [(.int (0 : Int32))])) (fun tg kt => ?_) ?_
  · show Steps p.tables e below (T8.setTop (mkF m 87 #[.val (.ref th), .val (.int (0 : Int32))] [(.int (0 : Int32))])) _
    refine XS.ifYes X8.here hx rfl (pc0 := 87) (pc' := 96) rfl (hb hby own_d3_87) rfl ((if0 _ _).trans (teq ((by decide) : (0 : Int32) = (0 : Int32))).1) (by decide) (by decide) ?_
    show Steps p.tables e below (T8.setTop (mkF m 96 #[.val (.ref th), .val (.int (0 : Int32))] [])) _
    refine XS.iloadN X8.here hx rfl (hb hby own_d3_96) rfl ?_
    exact kt
  refine own_ret X8 (v := some (.int (0 : Int32))) (fun h => by rw [Bd.returns] at h; cases h) hlk (by decide) (by decide) ?_ (fun fs hr => ?_)
  · show Q3b Z th y0 h0 n0 (some (.int (0 : Int32))) T8.heap _
    exact ⟨rfl, N8, K8, Eq8, Fq8⟩
  · show Steps p.tables e below (T8.setTop (mkF m 97 #[.val (.ref th), .val (.int (0 : Int32))] [(.int (0 : Int32))])) _
    exact retI X8 hx Bd.returns (hb hby own_d3_97) hr
theorem own_pd3 : parseMethodDescriptor "()V" = some ⟨[], none⟩ := by decide +kernel
theorem own_pd4 : parseMethodDescriptor "(Lcom/example/gate_to_tables/gatetotables/adql/translator/RowValues$Budget;)I" = some ⟨[(.object "com/example/gate_to_tables/gatetotables/adql/translator/RowValues$Budget")], some .int⟩ := by decide +kernel
theorem own_ef_rm0 (m : MethodId) (p0 : Int32) : entryFrame m #[(.int p0)] maxLocals = mkF m 0 #[.val (.int p0), .unset, .unset, .unset, .unset, .unset, .unset, .unset, .unset, .unset, .unset, .unset] [] := by first | (simp [entryFrame, mkF, argsToLocals, Value.category, maxLocals]; done) | rfl
def Q0 (Z : State) (p0 : Int32) (h0 : Heap) (n0 : Nat) (v : Option Value) (h : Heap) (L : List Loc) : Prop := v = some (.int 1) ∧ Fr n0 L
set_option maxRecDepth 65536 in
set_option maxHeartbeats 40000000 in
theorem rm0 (l : Launch) (Z : State) (a0 : Array Value) (hw : ∀ d ∈ tables_1, d.before a0 Z = true) (ws : List Jvm.Cond) (p0 : Int32) (h0 : Heap) (n0 : Nat) (Z0 : n0 ≤ h0.size) :
    MetFree l x (head1 (Jvm.Cond.code x code maxLocals ret :: ws) room_1) (fun a U => a = #[(.int p0)] ∧ Z.Warmed39 U.vm ∧ U.heap = h0) (fun _ _ _ _ _ => True) (fun _ U o U' => ∃ v L, o = .returned v ∧ Q0 Z p0 h0 n0 v U'.heap L ∧ FrameEnd U o U' L room_1.cells room_1.slots) := by
  refine MetFree.of_bodySF (plainFor_of_name own_pn2) hisR ?_
  intro p e s m args below meth c s₁ Bd hml0 hP hK
  obtain ⟨rfl, hZ, hh⟩ := hP
  have hx := Bd.exec
  have hby := Bd.bytes
  have hml : c.maxLocals = 12 := hml0
  have hown : s.vm.findClass "com/example/gate_to_tables/gatetotables/adql/translator/BudgetTakePinLaw" = some m.cls := findClass_of_methodNamed Bd.named
  have hnm := (name_of_methodNamed Bd.named Bd.method).1
  have hlk : meth.locks = false := BodyLoose.notSynchronized Bd
  have X0 : Stand p l e room_1 s m #[(.int p0)] below meth c s₁ [] 0 0 := Stand.of_body Bd
  have e0 : s₁.heap = h0 := by rw [← hh, Bd.state]; rfl
  have N0 := Fr.nil n0
  show own_Gl FrameEnd p e below s (Q0 Z p0 h0 n0) room_1.cells room_1.slots (s₁.setTop (entryFrame m #[(.int p0)] maxLocals))
  rw [own_ef_rm0 m p0]
  obtain ⟨T1, h1, X1, e1, E1, A1, D1, -, st1⟩ := newO X0 hx hZ hown (hw _ (List.mem_of_getElem? (i := 0) rfl)) (hw _ (List.mem_of_getElem? (i := 1) rfl)) (hw _ (List.mem_of_getElem? (i := 2) rfl)) e0 (g := (mkF m 0 #[.val (.int p0), .unset, .unset, .unset, .unset, .unset, .unset, .unset, .unset, .unset, .unset, .unset] [])) rfl (hb hby at_0) (by decide) (by decide)
  obtain ⟨b1, g1⟩ : ∃ z, z = h0.size := ⟨_, rfl⟩
  rw [← g1] at A1 D1 st1
  have g_b1 : n0 ≤ b1 := Nat.le_trans Z0 (Nat.le_of_eq g1.symm)
  have kw_b1 : h0.size ≤ b1 := Nat.le_trans ((Keep.refl h0 ([] : List Addr))).1 (Nat.le_of_eq g1.symm)
  have K1 := ((Keep.refl h0 ([] : List Addr))).ext E1
  have Z1 : n0 ≤ h1.size := Nat.le_trans Z0 E1.1
  have F_left_b1 : Fld Z h1 b1 "com/example/gate_to_tables/gatetotables/adql/translator/RowValues$Budget" "left" "I" (.int (0 : Int32)) := D1 (Or.inl (hw _ (List.mem_of_getElem? (i := 10) rfl))) (ty := .int) (by decide)
  refine own_st st1 ?_
  show own_Gl _ _ _ _ _ _ _ _ (T1.setTop (mkF m 3 #[.val (.int p0), .unset, .unset, .unset, .unset, .unset, .unset, .unset, .unset, .unset, .unset, .unset] [(.ref b1)]))
  refine own_st (A' := T1.setTop (mkF m 4 #[.val (.int p0), .unset, .unset, .unset, .unset, .unset, .unset, .unset, .unset, .unset, .unset, .unset] [(.ref b1), (.ref b1)])) (fun tg kt => ?_) ?_
  · show Steps p.tables e below (T1.setTop (mkF m 3 #[.val (.int p0), .unset, .unset, .unset, .unset, .unset, .unset, .unset, .unset, .unset, .unset, .unset] [(.ref b1)])) _
    refine XS.dup X1.here hx rfl (hb hby at_3) rfl rfl ?_
    exact kt
  obtain ⟨_, _, ⟨T2, L2, k2, n2⟩, -, X2, ⟨Lc2, hQ2, l2, y2, z2⟩, st2⟩ := X1.specialBack hx (y := (⟨"com/example/gate_to_tables/gatetotables/adql/translator/RowValues$Budget", "<init>", "()V"⟩ : MethodName)) rfl hown (mvT hZ (hw _ (List.mem_of_getElem? (i := 3) rfl))) (mvT hZ (hw _ (List.mem_of_getElem? (i := 4) rfl))) (mvT hZ (hw _ (List.mem_of_getElem? (i := 5) rfl))) (by decide) (backOf (W := 1) (rm1 l Z a0 hw [] b1 h1 n0 Z1 F_left_b1 A1 g_b1) hZ (hw _ (List.mem_of_getElem? (i := 5) rfl)) (hw _ (List.mem_of_getElem? (i := 2) rfl)) (by decide) (by decide)) (g := (mkF m 4 #[.val (.int p0), .unset, .unset, .unset, .unset, .unset, .unset, .unset, .unset, .unset, .unset, .unset] [(.ref b1), (.ref b1)])) rfl (by rw [hml]; rfl) (Steps.refl _) (a := b1) (argsL := []) (rest := [(.ref b1)]) (lenOf own_pd3 rfl) rfl (by show 2 * 0 + _ ≤ _; exact Nat.le_of_eq rfl) (hb hby at_4) (fun _ _ => ⟨rfl, e1, (by decide : 1 + 0 ≤ _), (by decide : 1 + 0 ≤ _)⟩)
  dsimp only [Pt.U, Pt.locs, Pt.cells, Pt.slots] at X2 l2 y2 z2 st2 hQ2
  subst l2 y2 z2
  obtain ⟨rfl, Nq2, Kq2, Eq2, Fq2⟩ := hQ2
  have N2 := Fr.app N0 Nq2
  have K2 := (K1).trans Kq2 (allS (Or.inr kw_b1) all0)
  have Z2 : n0 ≤ T2.heap.size := Nat.le_trans Z1 Kq2.1
  refine own_tr st2 ?_
  show own_Gl _ _ _ _ _ _ _ _ (T2.setTop (mkF m 7 #[.val (.int p0), .unset, .unset, .unset, .unset, .unset, .unset, .unset, .unset, .unset, .unset, .unset] [(.ref b1)]))
  refine own_st (A' := T2.setTop (mkF m 9 #[.val (.int p0), .val (.ref b1), .unset, .unset, .unset, .unset, .unset, .unset, .unset, .unset, .unset, .unset] [(.ref b1)])) (fun tg kt => ?_) ?_
  · show Steps p.tables e below (T2.setTop (mkF m 7 #[.val (.int p0), .unset, .unset, .unset, .unset, .unset, .unset, .unset, .unset, .unset, .unset, .unset] [(.ref b1)])) _
    refine XS.astoreN X2.here hx rfl (hb hby at_7) rfl rfl (l' := #[.val (.int p0), .val (.ref b1), .unset, .unset, .unset, .unset, .unset, .unset, .unset, .unset, .unset, .unset]) rfl ?_
    show Steps p.tables e below (T2.setTop (mkF m 8 #[.val (.int p0), .val (.ref b1), .unset, .unset, .unset, .unset, .unset, .unset, .unset, .unset, .unset, .unset] [])) _
    refine XS.aloadN X2.here hx rfl (hb hby at_8) rfl rfl ?_
    exact kt
  obtain ⟨_, _, ⟨T3, L3, k3, n3⟩, -, X3, ⟨Lc3, hQ3, l3, y3, z3⟩, st3⟩ := Jvm.LawKit.callS X2 hx (y := (⟨"com/example/gate_to_tables/gatetotables/adql/translator/BudgetTakePinLaw", "take8", "(Lcom/example/gate_to_tables/gatetotables/adql/translator/RowValues$Budget;)I"⟩ : MethodName)) hown (mvT hZ (hw _ (List.mem_of_getElem? (i := 11) rfl))) (mvT hZ (hw _ (List.mem_of_getElem? (i := 12) rfl))) (mvT hZ (hw _ (List.mem_of_getElem? (i := 13) rfl))) (mvT hZ (hw _ (List.mem_of_getElem? (i := 14) rfl))) (by decide) (backOf (W := 0) (rm3a l Z a0 hw [] b1 (48 : Int32) T2.heap n0 Z2 Fq2 Eq2 g_b1 (by decide)) hZ (hw _ (List.mem_of_getElem? (i := 14) rfl)) (hw _ (List.mem_of_getElem? (i := 13) rfl)) (by decide) (by decide)) (g := (mkF m 9 #[.val (.int p0), .val (.ref b1), .unset, .unset, .unset, .unset, .unset, .unset, .unset, .unset, .unset, .unset] [(.ref b1)])) rfl (by rw [hml]; rfl) (argsL := [(.ref b1)]) (rest := []) (lenOf own_pd4 rfl) rfl (by show 2 * 0 + _ ≤ _; exact Nat.le_of_eq rfl) (hb hby at_9) (fun _ _ => ⟨rfl, rfl, (by decide : 1 + 0 ≤ _), (by decide : 1 + 0 ≤ _)⟩)
  dsimp only [Pt.U, Pt.locs, Pt.cells, Pt.slots] at X3 l3 y3 z3 st3 hQ3
  subst l3 y3 z3
  unfold Q3a at hQ3; rw [show (48 : Int32) - 8 = (40 : Int32) from by decide] at hQ3
  obtain ⟨rfl, Nq3, Kq3, Eq3, Fq3⟩ := hQ3
  have N3 := Fr.app N2 Nq3
  have K3 := (K2).trans Kq3 (allS (Or.inr kw_b1) all0)
  have Z3 : n0 ≤ T3.heap.size := Nat.le_trans Z2 Kq3.1
  refine own_st st3 ?_
  show own_Gl _ _ _ _ _ _ _ _ (T3.setTop (mkF m 12 #[.val (.int p0), .val (.ref b1), .unset, .unset, .unset, .unset, .unset, .unset, .unset, .unset, .unset, .unset] [(.int (255 : Int32))]))
  refine own_st (A' := T3.setTop (mkF m 14 #[.val (.int p0), .val (.ref b1), .val (.int (255 : Int32)), .unset, .unset, .unset, .unset, .unset, .unset, .unset, .unset, .unset] [(.ref b1)])) (fun tg kt => ?_) ?_
  · show Steps p.tables e below (T3.setTop (mkF m 12 #[.val (.int p0), .val (.ref b1), .unset, .unset, .unset, .unset, .unset, .unset, .unset, .unset, .unset, .unset] [(.int (255 : Int32))])) _
    refine XS.istoreN X3.here hx rfl (hb hby at_12) rfl (l' := #[.val (.int p0), .val (.ref b1), .val (.int (255 : Int32)), .unset, .unset, .unset, .unset, .unset, .unset, .unset, .unset, .unset]) rfl ?_
    show Steps p.tables e below (T3.setTop (mkF m 13 #[.val (.int p0), .val (.ref b1), .val (.int (255 : Int32)), .unset, .unset, .unset, .unset, .unset, .unset, .unset, .unset, .unset] [])) _
    refine XS.aloadN X3.here hx rfl (hb hby at_13) rfl rfl ?_
    exact kt
  obtain ⟨_, _, ⟨T4, L4, k4, n4⟩, -, X4, ⟨Lc4, hQ4, l4, y4, z4⟩, st4⟩ := Jvm.LawKit.callS X3 hx (y := (⟨"com/example/gate_to_tables/gatetotables/adql/translator/BudgetTakePinLaw", "take8", "(Lcom/example/gate_to_tables/gatetotables/adql/translator/RowValues$Budget;)I"⟩ : MethodName)) hown (mvT hZ (hw _ (List.mem_of_getElem? (i := 11) rfl))) (mvT hZ (hw _ (List.mem_of_getElem? (i := 12) rfl))) (mvT hZ (hw _ (List.mem_of_getElem? (i := 13) rfl))) (mvT hZ (hw _ (List.mem_of_getElem? (i := 14) rfl))) (by decide) (backOf (W := 0) (rm3a l Z a0 hw [] b1 (40 : Int32) T3.heap n0 Z3 Fq3 Eq3 g_b1 (by decide)) hZ (hw _ (List.mem_of_getElem? (i := 14) rfl)) (hw _ (List.mem_of_getElem? (i := 13) rfl)) (by decide) (by decide)) (g := (mkF m 14 #[.val (.int p0), .val (.ref b1), .val (.int (255 : Int32)), .unset, .unset, .unset, .unset, .unset, .unset, .unset, .unset, .unset] [(.ref b1)])) rfl (by rw [hml]; rfl) (argsL := [(.ref b1)]) (rest := []) (lenOf own_pd4 rfl) rfl (by show 2 * 0 + _ ≤ _; exact Nat.le_of_eq rfl) (hb hby at_14) (fun _ _ => ⟨rfl, rfl, (by decide : 1 + 0 ≤ _), (by decide : 1 + 0 ≤ _)⟩)
  dsimp only [Pt.U, Pt.locs, Pt.cells, Pt.slots] at X4 l4 y4 z4 st4 hQ4
  subst l4 y4 z4
  unfold Q3a at hQ4; rw [show (40 : Int32) - 8 = (32 : Int32) from by decide] at hQ4
  obtain ⟨rfl, Nq4, Kq4, Eq4, Fq4⟩ := hQ4
  have N4 := Fr.app N3 Nq4
  have K4 := (K3).trans Kq4 (allS (Or.inr kw_b1) all0)
  have Z4 : n0 ≤ T4.heap.size := Nat.le_trans Z3 Kq4.1
  refine own_st st4 ?_
  show own_Gl _ _ _ _ _ _ _ _ (T4.setTop (mkF m 17 #[.val (.int p0), .val (.ref b1), .val (.int (255 : Int32)), .unset, .unset, .unset, .unset, .unset, .unset, .unset, .unset, .unset] [(.int (255 : Int32))]))
  refine own_st (A' := T4.setTop (mkF m 19 #[.val (.int p0), .val (.ref b1), .val (.int (255 : Int32)), .val (.int (255 : Int32)), .unset, .unset, .unset, .unset, .unset, .unset, .unset, .unset] [(.ref b1)])) (fun tg kt => ?_) ?_
  · show Steps p.tables e below (T4.setTop (mkF m 17 #[.val (.int p0), .val (.ref b1), .val (.int (255 : Int32)), .unset, .unset, .unset, .unset, .unset, .unset, .unset, .unset, .unset] [(.int (255 : Int32))])) _
    refine XS.istoreN X4.here hx rfl (hb hby at_17) rfl (l' := #[.val (.int p0), .val (.ref b1), .val (.int (255 : Int32)), .val (.int (255 : Int32)), .unset, .unset, .unset, .unset, .unset, .unset, .unset, .unset]) rfl ?_
    show Steps p.tables e below (T4.setTop (mkF m 18 #[.val (.int p0), .val (.ref b1), .val (.int (255 : Int32)), .val (.int (255 : Int32)), .unset, .unset, .unset, .unset, .unset, .unset, .unset, .unset] [])) _
    refine XS.aloadN X4.here hx rfl (hb hby at_18) rfl rfl ?_
    exact kt
  obtain ⟨_, _, ⟨T5, L5, k5, n5⟩, -, X5, ⟨Lc5, hQ5, l5, y5, z5⟩, st5⟩ := Jvm.LawKit.callS X4 hx (y := (⟨"com/example/gate_to_tables/gatetotables/adql/translator/BudgetTakePinLaw", "take8", "(Lcom/example/gate_to_tables/gatetotables/adql/translator/RowValues$Budget;)I"⟩ : MethodName)) hown (mvT hZ (hw _ (List.mem_of_getElem? (i := 11) rfl))) (mvT hZ (hw _ (List.mem_of_getElem? (i := 12) rfl))) (mvT hZ (hw _ (List.mem_of_getElem? (i := 13) rfl))) (mvT hZ (hw _ (List.mem_of_getElem? (i := 14) rfl))) (by decide) (backOf (W := 0) (rm3a l Z a0 hw [] b1 (32 : Int32) T4.heap n0 Z4 Fq4 Eq4 g_b1 (by decide)) hZ (hw _ (List.mem_of_getElem? (i := 14) rfl)) (hw _ (List.mem_of_getElem? (i := 13) rfl)) (by decide) (by decide)) (g := (mkF m 19 #[.val (.int p0), .val (.ref b1), .val (.int (255 : Int32)), .val (.int (255 : Int32)), .unset, .unset, .unset, .unset, .unset, .unset, .unset, .unset] [(.ref b1)])) rfl (by rw [hml]; rfl) (argsL := [(.ref b1)]) (rest := []) (lenOf own_pd4 rfl) rfl (by show 2 * 0 + _ ≤ _; exact Nat.le_of_eq rfl) (hb hby at_19) (fun _ _ => ⟨rfl, rfl, (by decide : 1 + 0 ≤ _), (by decide : 1 + 0 ≤ _)⟩)
  dsimp only [Pt.U, Pt.locs, Pt.cells, Pt.slots] at X5 l5 y5 z5 st5 hQ5
  subst l5 y5 z5
  unfold Q3a at hQ5; rw [show (32 : Int32) - 8 = (24 : Int32) from by decide] at hQ5
  obtain ⟨rfl, Nq5, Kq5, Eq5, Fq5⟩ := hQ5
  have N5 := Fr.app N4 Nq5
  have K5 := (K4).trans Kq5 (allS (Or.inr kw_b1) all0)
  have Z5 : n0 ≤ T5.heap.size := Nat.le_trans Z4 Kq5.1
  refine own_st st5 ?_
  show own_Gl _ _ _ _ _ _ _ _ (T5.setTop (mkF m 22 #[.val (.int p0), .val (.ref b1), .val (.int (255 : Int32)), .val (.int (255 : Int32)), .unset, .unset, .unset, .unset, .unset, .unset, .unset, .unset] [(.int (255 : Int32))]))
  refine own_st (A' := T5.setTop (mkF m 25 #[.val (.int p0), .val (.ref b1), .val (.int (255 : Int32)), .val (.int (255 : Int32)), .val (.int (255 : Int32)), .unset, .unset, .unset, .unset, .unset, .unset, .unset] [(.ref b1)])) (fun tg kt => ?_) ?_
  · show Steps p.tables e below (T5.setTop (mkF m 22 #[.val (.int p0), .val (.ref b1), .val (.int (255 : Int32)), .val (.int (255 : Int32)), .unset, .unset, .unset, .unset, .unset, .unset, .unset, .unset] [(.int (255 : Int32))])) _
    refine XS.istore X5.here hx rfl (hb hby at_22) rfl (l' := #[.val (.int p0), .val (.ref b1), .val (.int (255 : Int32)), .val (.int (255 : Int32)), .val (.int (255 : Int32)), .unset, .unset, .unset, .unset, .unset, .unset, .unset]) rfl ?_
    show Steps p.tables e below (T5.setTop (mkF m 24 #[.val (.int p0), .val (.ref b1), .val (.int (255 : Int32)), .val (.int (255 : Int32)), .val (.int (255 : Int32)), .unset, .unset, .unset, .unset, .unset, .unset, .unset] [])) _
    refine XS.aloadN X5.here hx rfl (hb hby at_24) rfl rfl ?_
    exact kt
  obtain ⟨_, _, ⟨T6, L6, k6, n6⟩, -, X6, ⟨Lc6, hQ6, l6, y6, z6⟩, st6⟩ := Jvm.LawKit.callS X5 hx (y := (⟨"com/example/gate_to_tables/gatetotables/adql/translator/BudgetTakePinLaw", "take8", "(Lcom/example/gate_to_tables/gatetotables/adql/translator/RowValues$Budget;)I"⟩ : MethodName)) hown (mvT hZ (hw _ (List.mem_of_getElem? (i := 11) rfl))) (mvT hZ (hw _ (List.mem_of_getElem? (i := 12) rfl))) (mvT hZ (hw _ (List.mem_of_getElem? (i := 13) rfl))) (mvT hZ (hw _ (List.mem_of_getElem? (i := 14) rfl))) (by decide) (backOf (W := 0) (rm3a l Z a0 hw [] b1 (24 : Int32) T5.heap n0 Z5 Fq5 Eq5 g_b1 (by decide)) hZ (hw _ (List.mem_of_getElem? (i := 14) rfl)) (hw _ (List.mem_of_getElem? (i := 13) rfl)) (by decide) (by decide)) (g := (mkF m 25 #[.val (.int p0), .val (.ref b1), .val (.int (255 : Int32)), .val (.int (255 : Int32)), .val (.int (255 : Int32)), .unset, .unset, .unset, .unset, .unset, .unset, .unset] [(.ref b1)])) rfl (by rw [hml]; rfl) (argsL := [(.ref b1)]) (rest := []) (lenOf own_pd4 rfl) rfl (by show 2 * 0 + _ ≤ _; exact Nat.le_of_eq rfl) (hb hby at_25) (fun _ _ => ⟨rfl, rfl, (by decide : 1 + 0 ≤ _), (by decide : 1 + 0 ≤ _)⟩)
  dsimp only [Pt.U, Pt.locs, Pt.cells, Pt.slots] at X6 l6 y6 z6 st6 hQ6
  subst l6 y6 z6
  unfold Q3a at hQ6; rw [show (24 : Int32) - 8 = (16 : Int32) from by decide] at hQ6
  obtain ⟨rfl, Nq6, Kq6, Eq6, Fq6⟩ := hQ6
  have N6 := Fr.app N5 Nq6
  have K6 := (K5).trans Kq6 (allS (Or.inr kw_b1) all0)
  have Z6 : n0 ≤ T6.heap.size := Nat.le_trans Z5 Kq6.1
  refine own_st st6 ?_
  show own_Gl _ _ _ _ _ _ _ _ (T6.setTop (mkF m 28 #[.val (.int p0), .val (.ref b1), .val (.int (255 : Int32)), .val (.int (255 : Int32)), .val (.int (255 : Int32)), .unset, .unset, .unset, .unset, .unset, .unset, .unset] [(.int (255 : Int32))]))
  refine own_st (A' := T6.setTop (mkF m 31 #[.val (.int p0), .val (.ref b1), .val (.int (255 : Int32)), .val (.int (255 : Int32)), .val (.int (255 : Int32)), .val (.int (255 : Int32)), .unset, .unset, .unset, .unset, .unset, .unset] [(.ref b1)])) (fun tg kt => ?_) ?_
  · show Steps p.tables e below (T6.setTop (mkF m 28 #[.val (.int p0), .val (.ref b1), .val (.int (255 : Int32)), .val (.int (255 : Int32)), .val (.int (255 : Int32)), .unset, .unset, .unset, .unset, .unset, .unset, .unset] [(.int (255 : Int32))])) _
    refine XS.istore X6.here hx rfl (hb hby at_28) rfl (l' := #[.val (.int p0), .val (.ref b1), .val (.int (255 : Int32)), .val (.int (255 : Int32)), .val (.int (255 : Int32)), .val (.int (255 : Int32)), .unset, .unset, .unset, .unset, .unset, .unset]) rfl ?_
    show Steps p.tables e below (T6.setTop (mkF m 30 #[.val (.int p0), .val (.ref b1), .val (.int (255 : Int32)), .val (.int (255 : Int32)), .val (.int (255 : Int32)), .val (.int (255 : Int32)), .unset, .unset, .unset, .unset, .unset, .unset] [])) _
    refine XS.aloadN X6.here hx rfl (hb hby at_30) rfl rfl ?_
    exact kt
  obtain ⟨_, _, ⟨T7, L7, k7, n7⟩, -, X7, ⟨Lc7, hQ7, l7, y7, z7⟩, st7⟩ := Jvm.LawKit.callS X6 hx (y := (⟨"com/example/gate_to_tables/gatetotables/adql/translator/BudgetTakePinLaw", "take8", "(Lcom/example/gate_to_tables/gatetotables/adql/translator/RowValues$Budget;)I"⟩ : MethodName)) hown (mvT hZ (hw _ (List.mem_of_getElem? (i := 11) rfl))) (mvT hZ (hw _ (List.mem_of_getElem? (i := 12) rfl))) (mvT hZ (hw _ (List.mem_of_getElem? (i := 13) rfl))) (mvT hZ (hw _ (List.mem_of_getElem? (i := 14) rfl))) (by decide) (backOf (W := 0) (rm3a l Z a0 hw [] b1 (16 : Int32) T6.heap n0 Z6 Fq6 Eq6 g_b1 (by decide)) hZ (hw _ (List.mem_of_getElem? (i := 14) rfl)) (hw _ (List.mem_of_getElem? (i := 13) rfl)) (by decide) (by decide)) (g := (mkF m 31 #[.val (.int p0), .val (.ref b1), .val (.int (255 : Int32)), .val (.int (255 : Int32)), .val (.int (255 : Int32)), .val (.int (255 : Int32)), .unset, .unset, .unset, .unset, .unset, .unset] [(.ref b1)])) rfl (by rw [hml]; rfl) (argsL := [(.ref b1)]) (rest := []) (lenOf own_pd4 rfl) rfl (by show 2 * 0 + _ ≤ _; exact Nat.le_of_eq rfl) (hb hby at_31) (fun _ _ => ⟨rfl, rfl, (by decide : 1 + 0 ≤ _), (by decide : 1 + 0 ≤ _)⟩)
  dsimp only [Pt.U, Pt.locs, Pt.cells, Pt.slots] at X7 l7 y7 z7 st7 hQ7
  subst l7 y7 z7
  unfold Q3a at hQ7; rw [show (16 : Int32) - 8 = (8 : Int32) from by decide] at hQ7
  obtain ⟨rfl, Nq7, Kq7, Eq7, Fq7⟩ := hQ7
  have N7 := Fr.app N6 Nq7
  have K7 := (K6).trans Kq7 (allS (Or.inr kw_b1) all0)
  have Z7 : n0 ≤ T7.heap.size := Nat.le_trans Z6 Kq7.1
  refine own_st st7 ?_
  show own_Gl _ _ _ _ _ _ _ _ (T7.setTop (mkF m 34 #[.val (.int p0), .val (.ref b1), .val (.int (255 : Int32)), .val (.int (255 : Int32)), .val (.int (255 : Int32)), .val (.int (255 : Int32)), .unset, .unset, .unset, .unset, .unset, .unset] [(.int (255 : Int32))]))
  refine own_st (A' := T7.setTop (mkF m 37 #[.val (.int p0), .val (.ref b1), .val (.int (255 : Int32)), .val (.int (255 : Int32)), .val (.int (255 : Int32)), .val (.int (255 : Int32)), .val (.int (255 : Int32)), .unset, .unset, .unset, .unset, .unset] [(.ref b1)])) (fun tg kt => ?_) ?_
  · show Steps p.tables e below (T7.setTop (mkF m 34 #[.val (.int p0), .val (.ref b1), .val (.int (255 : Int32)), .val (.int (255 : Int32)), .val (.int (255 : Int32)), .val (.int (255 : Int32)), .unset, .unset, .unset, .unset, .unset, .unset] [(.int (255 : Int32))])) _
    refine XS.istore X7.here hx rfl (hb hby at_34) rfl (l' := #[.val (.int p0), .val (.ref b1), .val (.int (255 : Int32)), .val (.int (255 : Int32)), .val (.int (255 : Int32)), .val (.int (255 : Int32)), .val (.int (255 : Int32)), .unset, .unset, .unset, .unset, .unset]) rfl ?_
    show Steps p.tables e below (T7.setTop (mkF m 36 #[.val (.int p0), .val (.ref b1), .val (.int (255 : Int32)), .val (.int (255 : Int32)), .val (.int (255 : Int32)), .val (.int (255 : Int32)), .val (.int (255 : Int32)), .unset, .unset, .unset, .unset, .unset] [])) _
    refine XS.aloadN X7.here hx rfl (hb hby at_36) rfl rfl ?_
    exact kt
  obtain ⟨_, _, ⟨T8, L8, k8, n8⟩, -, X8, ⟨Lc8, hQ8, l8, y8, z8⟩, st8⟩ := Jvm.LawKit.callS X7 hx (y := (⟨"com/example/gate_to_tables/gatetotables/adql/translator/BudgetTakePinLaw", "take8", "(Lcom/example/gate_to_tables/gatetotables/adql/translator/RowValues$Budget;)I"⟩ : MethodName)) hown (mvT hZ (hw _ (List.mem_of_getElem? (i := 11) rfl))) (mvT hZ (hw _ (List.mem_of_getElem? (i := 12) rfl))) (mvT hZ (hw _ (List.mem_of_getElem? (i := 13) rfl))) (mvT hZ (hw _ (List.mem_of_getElem? (i := 14) rfl))) (by decide) (backOf (W := 0) (rm3a l Z a0 hw [] b1 (8 : Int32) T7.heap n0 Z7 Fq7 Eq7 g_b1 (by decide)) hZ (hw _ (List.mem_of_getElem? (i := 14) rfl)) (hw _ (List.mem_of_getElem? (i := 13) rfl)) (by decide) (by decide)) (g := (mkF m 37 #[.val (.int p0), .val (.ref b1), .val (.int (255 : Int32)), .val (.int (255 : Int32)), .val (.int (255 : Int32)), .val (.int (255 : Int32)), .val (.int (255 : Int32)), .unset, .unset, .unset, .unset, .unset] [(.ref b1)])) rfl (by rw [hml]; rfl) (argsL := [(.ref b1)]) (rest := []) (lenOf own_pd4 rfl) rfl (by show 2 * 0 + _ ≤ _; exact Nat.le_of_eq rfl) (hb hby at_37) (fun _ _ => ⟨rfl, rfl, (by decide : 1 + 0 ≤ _), (by decide : 1 + 0 ≤ _)⟩)
  dsimp only [Pt.U, Pt.locs, Pt.cells, Pt.slots] at X8 l8 y8 z8 st8 hQ8
  subst l8 y8 z8
  unfold Q3a at hQ8; rw [show (8 : Int32) - 8 = (0 : Int32) from by decide] at hQ8
  obtain ⟨rfl, Nq8, Kq8, Eq8, Fq8⟩ := hQ8
  have N8 := Fr.app N7 Nq8
  have K8 := (K7).trans Kq8 (allS (Or.inr kw_b1) all0)
  have Z8 : n0 ≤ T8.heap.size := Nat.le_trans Z7 Kq8.1
  refine own_st st8 ?_
  show own_Gl _ _ _ _ _ _ _ _ (T8.setTop (mkF m 40 #[.val (.int p0), .val (.ref b1), .val (.int (255 : Int32)), .val (.int (255 : Int32)), .val (.int (255 : Int32)), .val (.int (255 : Int32)), .val (.int (255 : Int32)), .unset, .unset, .unset, .unset, .unset] [(.int (255 : Int32))]))
  refine own_st (A' := T8.setTop (mkF m 43 #[.val (.int p0), .val (.ref b1), .val (.int (255 : Int32)), .val (.int (255 : Int32)), .val (.int (255 : Int32)), .val (.int (255 : Int32)), .val (.int (255 : Int32)), .val (.int (255 : Int32)), .unset, .unset, .unset, .unset] [(.ref b1)])) (fun tg kt => ?_) ?_
  · show Steps p.tables e below (T8.setTop (mkF m 40 #[.val (.int p0), .val (.ref b1), .val (.int (255 : Int32)), .val (.int (255 : Int32)), .val (.int (255 : Int32)), .val (.int (255 : Int32)), .val (.int (255 : Int32)), .unset, .unset, .unset, .unset, .unset] [(.int (255 : Int32))])) _
    refine XS.istore X8.here hx rfl (hb hby at_40) rfl (l' := #[.val (.int p0), .val (.ref b1), .val (.int (255 : Int32)), .val (.int (255 : Int32)), .val (.int (255 : Int32)), .val (.int (255 : Int32)), .val (.int (255 : Int32)), .val (.int (255 : Int32)), .unset, .unset, .unset, .unset]) rfl ?_
    show Steps p.tables e below (T8.setTop (mkF m 42 #[.val (.int p0), .val (.ref b1), .val (.int (255 : Int32)), .val (.int (255 : Int32)), .val (.int (255 : Int32)), .val (.int (255 : Int32)), .val (.int (255 : Int32)), .val (.int (255 : Int32)), .unset, .unset, .unset, .unset] [])) _
    refine XS.aloadN X8.here hx rfl (hb hby at_42) rfl rfl ?_
    exact kt
  obtain ⟨_, _, ⟨T9, L9, k9, n9⟩, -, X9, ⟨Lc9, hQ9, l9, y9, z9⟩, st9⟩ := Jvm.LawKit.callS X8 hx (y := (⟨"com/example/gate_to_tables/gatetotables/adql/translator/BudgetTakePinLaw", "take8", "(Lcom/example/gate_to_tables/gatetotables/adql/translator/RowValues$Budget;)I"⟩ : MethodName)) hown (mvT hZ (hw _ (List.mem_of_getElem? (i := 11) rfl))) (mvT hZ (hw _ (List.mem_of_getElem? (i := 12) rfl))) (mvT hZ (hw _ (List.mem_of_getElem? (i := 13) rfl))) (mvT hZ (hw _ (List.mem_of_getElem? (i := 14) rfl))) (by decide) (backOf (W := 0) (rm3b l Z a0 hw [] b1 (0 : Int32) T8.heap n0 Z8 Fq8 Eq8 g_b1 (by decide)) hZ (hw _ (List.mem_of_getElem? (i := 14) rfl)) (hw _ (List.mem_of_getElem? (i := 13) rfl)) (by decide) (by decide)) (g := (mkF m 43 #[.val (.int p0), .val (.ref b1), .val (.int (255 : Int32)), .val (.int (255 : Int32)), .val (.int (255 : Int32)), .val (.int (255 : Int32)), .val (.int (255 : Int32)), .val (.int (255 : Int32)), .unset, .unset, .unset, .unset] [(.ref b1)])) rfl (by rw [hml]; rfl) (argsL := [(.ref b1)]) (rest := []) (lenOf own_pd4 rfl) rfl (by show 2 * 0 + _ ≤ _; exact Nat.le_of_eq rfl) (hb hby at_43) (fun _ _ => ⟨rfl, rfl, (by decide : 1 + 0 ≤ _), (by decide : 1 + 0 ≤ _)⟩)
  dsimp only [Pt.U, Pt.locs, Pt.cells, Pt.slots] at X9 l9 y9 z9 st9 hQ9
  subst l9 y9 z9
  obtain ⟨rfl, Nq9, Kq9, Eq9, Fq9⟩ := hQ9
  have N9 := Fr.app N8 Nq9
  have K9 := (K8).trans Kq9 (allS (Or.inr kw_b1) all0)
  have Z9 : n0 ≤ T9.heap.size := Nat.le_trans Z8 Kq9.1
  refine own_st st9 ?_
  show own_Gl _ _ _ _ _ _ _ _ (T9.setTop (mkF m 46 #[.val (.int p0), .val (.ref b1), .val (.int (255 : Int32)), .val (.int (255 : Int32)), .val (.int (255 : Int32)), .val (.int (255 : Int32)), .val (.int (255 : Int32)), .val (.int (255 : Int32)), .unset, .unset, .unset, .unset] [(.int (0 : Int32))]))
  refine own_st (A' := T9.setTop (mkF m 126 #[.val (.int p0), .val (.ref b1), .val (.int (255 : Int32)), .val (.int (255 : Int32)), .val (.int (255 : Int32)), .val (.int (255 : Int32)), .val (.int (255 : Int32)), .val (.int (255 : Int32)), .val (.int (0 : Int32)), .val (.int (1 : Int32)), .val (.int (p0 &&& (3 : Int32))), .unset] [(.int (1 : Int32)), (.int (p0 &&& (3 : Int32)))])) (fun tg kt => ?_) ?_
  · show Steps p.tables e below (T9.setTop (mkF m 46 #[.val (.int p0), .val (.ref b1), .val (.int (255 : Int32)), .val (.int (255 : Int32)), .val (.int (255 : Int32)), .val (.int (255 : Int32)), .val (.int (255 : Int32)), .val (.int (255 : Int32)), .unset, .unset, .unset, .unset] [(.int (0 : Int32))])) _
    refine XS.istore X9.here hx rfl (hb hby at_46) rfl (l' := #[.val (.int p0), .val (.ref b1), .val (.int (255 : Int32)), .val (.int (255 : Int32)), .val (.int (255 : Int32)), .val (.int (255 : Int32)), .val (.int (255 : Int32)), .val (.int (255 : Int32)), .val (.int (0 : Int32)), .unset, .unset, .unset]) rfl ?_
    show Steps p.tables e below (T9.setTop (mkF m 48 #[.val (.int p0), .val (.ref b1), .val (.int (255 : Int32)), .val (.int (255 : Int32)), .val (.int (255 : Int32)), .val (.int (255 : Int32)), .val (.int (255 : Int32)), .val (.int (255 : Int32)), .val (.int (0 : Int32)), .unset, .unset, .unset] [])) _
    refine XS.iloadN X9.here hx rfl (hb hby at_48) rfl ?_
    show Steps p.tables e below (T9.setTop (mkF m 49 #[.val (.int p0), .val (.ref b1), .val (.int (255 : Int32)), .val (.int (255 : Int32)), .val (.int (255 : Int32)), .val (.int (255 : Int32)), .val (.int (255 : Int32)), .val (.int (255 : Int32)), .val (.int (0 : Int32)), .unset, .unset, .unset] [(.int (255 : Int32))])) _
    refine XS.sipush X9.here hx rfl (hb hby at_49) ?_
    show Steps p.tables e below (T9.setTop (mkF m 52 #[.val (.int p0), .val (.ref b1), .val (.int (255 : Int32)), .val (.int (255 : Int32)), .val (.int (255 : Int32)), .val (.int (255 : Int32)), .val (.int (255 : Int32)), .val (.int (255 : Int32)), .val (.int (0 : Int32)), .unset, .unset, .unset] [(.int (255 : Int32)), (.int (255 : Int32))])) _
    refine XS.icmpNo X9.here hx rfl (hb hby at_52) rfl (teq ((by decide) : (255 : Int32) = (255 : Int32))).2 ?_
    show Steps p.tables e below (T9.setTop (mkF m 55 #[.val (.int p0), .val (.ref b1), .val (.int (255 : Int32)), .val (.int (255 : Int32)), .val (.int (255 : Int32)), .val (.int (255 : Int32)), .val (.int (255 : Int32)), .val (.int (255 : Int32)), .val (.int (0 : Int32)), .unset, .unset, .unset] [])) _
    refine XS.iloadN X9.here hx rfl (hb hby at_55) rfl ?_
    show Steps p.tables e below (T9.setTop (mkF m 56 #[.val (.int p0), .val (.ref b1), .val (.int (255 : Int32)), .val (.int (255 : Int32)), .val (.int (255 : Int32)), .val (.int (255 : Int32)), .val (.int (255 : Int32)), .val (.int (255 : Int32)), .val (.int (0 : Int32)), .unset, .unset, .unset] [(.int (255 : Int32))])) _
    refine XS.sipush X9.here hx rfl (hb hby at_56) ?_
    show Steps p.tables e below (T9.setTop (mkF m 59 #[.val (.int p0), .val (.ref b1), .val (.int (255 : Int32)), .val (.int (255 : Int32)), .val (.int (255 : Int32)), .val (.int (255 : Int32)), .val (.int (255 : Int32)), .val (.int (255 : Int32)), .val (.int (0 : Int32)), .unset, .unset, .unset] [(.int (255 : Int32)), (.int (255 : Int32))])) _
    refine XS.icmpNo X9.here hx rfl (hb hby at_59) rfl (teq ((by decide) : (255 : Int32) = (255 : Int32))).2 ?_
    show Steps p.tables e below (T9.setTop (mkF m 62 #[.val (.int p0), .val (.ref b1), .val (.int (255 : Int32)), .val (.int (255 : Int32)), .val (.int (255 : Int32)), .val (.int (255 : Int32)), .val (.int (255 : Int32)), .val (.int (255 : Int32)), .val (.int (0 : Int32)), .unset, .unset, .unset] [])) _
    refine XS.iload X9.here hx rfl (hb hby at_62) rfl ?_
    show Steps p.tables e below (T9.setTop (mkF m 64 #[.val (.int p0), .val (.ref b1), .val (.int (255 : Int32)), .val (.int (255 : Int32)), .val (.int (255 : Int32)), .val (.int (255 : Int32)), .val (.int (255 : Int32)), .val (.int (255 : Int32)), .val (.int (0 : Int32)), .unset, .unset, .unset] [(.int (255 : Int32))])) _
    refine XS.sipush X9.here hx rfl (hb hby at_64) ?_
    show Steps p.tables e below (T9.setTop (mkF m 67 #[.val (.int p0), .val (.ref b1), .val (.int (255 : Int32)), .val (.int (255 : Int32)), .val (.int (255 : Int32)), .val (.int (255 : Int32)), .val (.int (255 : Int32)), .val (.int (255 : Int32)), .val (.int (0 : Int32)), .unset, .unset, .unset] [(.int (255 : Int32)), (.int (255 : Int32))])) _
    refine XS.icmpNo X9.here hx rfl (hb hby at_67) rfl (teq ((by decide) : (255 : Int32) = (255 : Int32))).2 ?_
    show Steps p.tables e below (T9.setTop (mkF m 70 #[.val (.int p0), .val (.ref b1), .val (.int (255 : Int32)), .val (.int (255 : Int32)), .val (.int (255 : Int32)), .val (.int (255 : Int32)), .val (.int (255 : Int32)), .val (.int (255 : Int32)), .val (.int (0 : Int32)), .unset, .unset, .unset] [])) _
    refine XS.iload X9.here hx rfl (hb hby at_70) rfl ?_
    show Steps p.tables e below (T9.setTop (mkF m 72 #[.val (.int p0), .val (.ref b1), .val (.int (255 : Int32)), .val (.int (255 : Int32)), .val (.int (255 : Int32)), .val (.int (255 : Int32)), .val (.int (255 : Int32)), .val (.int (255 : Int32)), .val (.int (0 : Int32)), .unset, .unset, .unset] [(.int (255 : Int32))])) _
    refine XS.sipush X9.here hx rfl (hb hby at_72) ?_
    show Steps p.tables e below (T9.setTop (mkF m 75 #[.val (.int p0), .val (.ref b1), .val (.int (255 : Int32)), .val (.int (255 : Int32)), .val (.int (255 : Int32)), .val (.int (255 : Int32)), .val (.int (255 : Int32)), .val (.int (255 : Int32)), .val (.int (0 : Int32)), .unset, .unset, .unset] [(.int (255 : Int32)), (.int (255 : Int32))])) _
    refine XS.icmpNo X9.here hx rfl (hb hby at_75) rfl (teq ((by decide) : (255 : Int32) = (255 : Int32))).2 ?_
    show Steps p.tables e below (T9.setTop (mkF m 78 #[.val (.int p0), .val (.ref b1), .val (.int (255 : Int32)), .val (.int (255 : Int32)), .val (.int (255 : Int32)), .val (.int (255 : Int32)), .val (.int (255 : Int32)), .val (.int (255 : Int32)), .val (.int (0 : Int32)), .unset, .unset, .unset] [])) _
    refine XS.iload X9.here hx rfl (hb hby at_78) rfl ?_
    show Steps p.tables e below (T9.setTop (mkF m 80 #[.val (.int p0), .val (.ref b1), .val (.int (255 : Int32)), .val (.int (255 : Int32)), .val (.int (255 : Int32)), .val (.int (255 : Int32)), .val (.int (255 : Int32)), .val (.int (255 : Int32)), .val (.int (0 : Int32)), .unset, .unset, .unset] [(.int (255 : Int32))])) _
    refine XS.sipush X9.here hx rfl (hb hby at_80) ?_
    show Steps p.tables e below (T9.setTop (mkF m 83 #[.val (.int p0), .val (.ref b1), .val (.int (255 : Int32)), .val (.int (255 : Int32)), .val (.int (255 : Int32)), .val (.int (255 : Int32)), .val (.int (255 : Int32)), .val (.int (255 : Int32)), .val (.int (0 : Int32)), .unset, .unset, .unset] [(.int (255 : Int32)), (.int (255 : Int32))])) _
    refine XS.icmpNo X9.here hx rfl (hb hby at_83) rfl (teq ((by decide) : (255 : Int32) = (255 : Int32))).2 ?_
    show Steps p.tables e below (T9.setTop (mkF m 86 #[.val (.int p0), .val (.ref b1), .val (.int (255 : Int32)), .val (.int (255 : Int32)), .val (.int (255 : Int32)), .val (.int (255 : Int32)), .val (.int (255 : Int32)), .val (.int (255 : Int32)), .val (.int (0 : Int32)), .unset, .unset, .unset] [])) _
    refine XS.iload X9.here hx rfl (hb hby at_86) rfl ?_
    show Steps p.tables e below (T9.setTop (mkF m 88 #[.val (.int p0), .val (.ref b1), .val (.int (255 : Int32)), .val (.int (255 : Int32)), .val (.int (255 : Int32)), .val (.int (255 : Int32)), .val (.int (255 : Int32)), .val (.int (255 : Int32)), .val (.int (0 : Int32)), .unset, .unset, .unset] [(.int (255 : Int32))])) _
    refine XS.sipush X9.here hx rfl (hb hby at_88) ?_
    show Steps p.tables e below (T9.setTop (mkF m 91 #[.val (.int p0), .val (.ref b1), .val (.int (255 : Int32)), .val (.int (255 : Int32)), .val (.int (255 : Int32)), .val (.int (255 : Int32)), .val (.int (255 : Int32)), .val (.int (255 : Int32)), .val (.int (0 : Int32)), .unset, .unset, .unset] [(.int (255 : Int32)), (.int (255 : Int32))])) _
    refine XS.icmpNo X9.here hx rfl (hb hby at_91) rfl (teq ((by decide) : (255 : Int32) = (255 : Int32))).2 ?_
    show Steps p.tables e below (T9.setTop (mkF m 94 #[.val (.int p0), .val (.ref b1), .val (.int (255 : Int32)), .val (.int (255 : Int32)), .val (.int (255 : Int32)), .val (.int (255 : Int32)), .val (.int (255 : Int32)), .val (.int (255 : Int32)), .val (.int (0 : Int32)), .unset, .unset, .unset] [])) _
    refine XS.iconst X9.here hx rfl (hb hby at_94) ?_
    show Steps p.tables e below (T9.setTop (mkF m 95 #[.val (.int p0), .val (.ref b1), .val (.int (255 : Int32)), .val (.int (255 : Int32)), .val (.int (255 : Int32)), .val (.int (255 : Int32)), .val (.int (255 : Int32)), .val (.int (255 : Int32)), .val (.int (0 : Int32)), .unset, .unset, .unset] [(.int (1 : Int32))])) _
    refine XS.goto X9.here hx rfl (pc0 := 95) (pc' := 99) rfl (hb hby at_95) (by decide) (by decide) ?_
    show Steps p.tables e below (T9.setTop (mkF m 99 #[.val (.int p0), .val (.ref b1), .val (.int (255 : Int32)), .val (.int (255 : Int32)), .val (.int (255 : Int32)), .val (.int (255 : Int32)), .val (.int (255 : Int32)), .val (.int (255 : Int32)), .val (.int (0 : Int32)), .unset, .unset, .unset] [(.int (1 : Int32))])) _
    refine XS.istore X9.here hx rfl (hb hby at_99) rfl (l' := #[.val (.int p0), .val (.ref b1), .val (.int (255 : Int32)), .val (.int (255 : Int32)), .val (.int (255 : Int32)), .val (.int (255 : Int32)), .val (.int (255 : Int32)), .val (.int (255 : Int32)), .val (.int (0 : Int32)), .val (.int (1 : Int32)), .unset, .unset]) rfl ?_
    show Steps p.tables e below (T9.setTop (mkF m 101 #[.val (.int p0), .val (.ref b1), .val (.int (255 : Int32)), .val (.int (255 : Int32)), .val (.int (255 : Int32)), .val (.int (255 : Int32)), .val (.int (255 : Int32)), .val (.int (255 : Int32)), .val (.int (0 : Int32)), .val (.int (1 : Int32)), .unset, .unset] [])) _
    refine XS.iload X9.here hx rfl (hb hby at_101) rfl ?_
    show Steps p.tables e below (T9.setTop (mkF m 103 #[.val (.int p0), .val (.ref b1), .val (.int (255 : Int32)), .val (.int (255 : Int32)), .val (.int (255 : Int32)), .val (.int (255 : Int32)), .val (.int (255 : Int32)), .val (.int (255 : Int32)), .val (.int (0 : Int32)), .val (.int (1 : Int32)), .unset, .unset] [(.int (1 : Int32))])) _
    refine XS.ifNo X9.here hx rfl (hb hby at_103) rfl ((if0 _ _).trans (feq ((by decide) : ¬ ((1 : Int32) = (0 : Int32)))).1) ?_
    show Steps p.tables e below (T9.setTop (mkF m 106 #[.val (.int p0), .val (.ref b1), .val (.int (255 : Int32)), .val (.int (255 : Int32)), .val (.int (255 : Int32)), .val (.int (255 : Int32)), .val (.int (255 : Int32)), .val (.int (255 : Int32)), .val (.int (0 : Int32)), .val (.int (1 : Int32)), .unset, .unset] [])) _
    refine XS.iload X9.here hx rfl (hb hby at_106) rfl ?_
    show Steps p.tables e below (T9.setTop (mkF m 108 #[.val (.int p0), .val (.ref b1), .val (.int (255 : Int32)), .val (.int (255 : Int32)), .val (.int (255 : Int32)), .val (.int (255 : Int32)), .val (.int (255 : Int32)), .val (.int (255 : Int32)), .val (.int (0 : Int32)), .val (.int (1 : Int32)), .unset, .unset] [(.int (0 : Int32))])) _
    refine XS.ifNo X9.here hx rfl (hb hby at_108) rfl ((if0 _ _).trans (teq ((by decide) : (0 : Int32) = (0 : Int32))).2) ?_
    show Steps p.tables e below (T9.setTop (mkF m 111 #[.val (.int p0), .val (.ref b1), .val (.int (255 : Int32)), .val (.int (255 : Int32)), .val (.int (255 : Int32)), .val (.int (255 : Int32)), .val (.int (255 : Int32)), .val (.int (255 : Int32)), .val (.int (0 : Int32)), .val (.int (1 : Int32)), .unset, .unset] [])) _
    refine XS.iconst X9.here hx rfl (hb hby at_111) ?_
    show Steps p.tables e below (T9.setTop (mkF m 112 #[.val (.int p0), .val (.ref b1), .val (.int (255 : Int32)), .val (.int (255 : Int32)), .val (.int (255 : Int32)), .val (.int (255 : Int32)), .val (.int (255 : Int32)), .val (.int (255 : Int32)), .val (.int (0 : Int32)), .val (.int (1 : Int32)), .unset, .unset] [(.int (1 : Int32))])) _
    refine XS.goto X9.here hx rfl (pc0 := 112) (pc' := 116) rfl (hb hby at_112) (by decide) (by decide) ?_
    show Steps p.tables e below (T9.setTop (mkF m 116 #[.val (.int p0), .val (.ref b1), .val (.int (255 : Int32)), .val (.int (255 : Int32)), .val (.int (255 : Int32)), .val (.int (255 : Int32)), .val (.int (255 : Int32)), .val (.int (255 : Int32)), .val (.int (0 : Int32)), .val (.int (1 : Int32)), .unset, .unset] [(.int (1 : Int32))])) _
    refine XS.istore X9.here hx rfl (hb hby at_116) rfl (l' := #[.val (.int p0), .val (.ref b1), .val (.int (255 : Int32)), .val (.int (255 : Int32)), .val (.int (255 : Int32)), .val (.int (255 : Int32)), .val (.int (255 : Int32)), .val (.int (255 : Int32)), .val (.int (0 : Int32)), .val (.int (1 : Int32)), .unset, .unset]) rfl ?_
    show Steps p.tables e below (T9.setTop (mkF m 118 #[.val (.int p0), .val (.ref b1), .val (.int (255 : Int32)), .val (.int (255 : Int32)), .val (.int (255 : Int32)), .val (.int (255 : Int32)), .val (.int (255 : Int32)), .val (.int (255 : Int32)), .val (.int (0 : Int32)), .val (.int (1 : Int32)), .unset, .unset] [])) _
    refine XS.iloadN X9.here hx rfl (hb hby at_118) rfl ?_
    show Steps p.tables e below (T9.setTop (mkF m 119 #[.val (.int p0), .val (.ref b1), .val (.int (255 : Int32)), .val (.int (255 : Int32)), .val (.int (255 : Int32)), .val (.int (255 : Int32)), .val (.int (255 : Int32)), .val (.int (255 : Int32)), .val (.int (0 : Int32)), .val (.int (1 : Int32)), .unset, .unset] [(.int p0)])) _
    refine XS.iconst X9.here hx rfl (hb hby at_119) ?_
    show Steps p.tables e below (T9.setTop (mkF m 120 #[.val (.int p0), .val (.ref b1), .val (.int (255 : Int32)), .val (.int (255 : Int32)), .val (.int (255 : Int32)), .val (.int (255 : Int32)), .val (.int (255 : Int32)), .val (.int (255 : Int32)), .val (.int (0 : Int32)), .val (.int (1 : Int32)), .unset, .unset] [(.int (3 : Int32)), (.int p0)])) _
    refine XS.iand X9.here hx rfl (hb hby at_120) rfl ?_
    show Steps p.tables e below (T9.setTop (mkF m 121 #[.val (.int p0), .val (.ref b1), .val (.int (255 : Int32)), .val (.int (255 : Int32)), .val (.int (255 : Int32)), .val (.int (255 : Int32)), .val (.int (255 : Int32)), .val (.int (255 : Int32)), .val (.int (0 : Int32)), .val (.int (1 : Int32)), .unset, .unset] [(.int (p0 &&& (3 : Int32)))])) _
    refine XS.istore X9.here hx rfl (hb hby at_121) rfl (l' := #[.val (.int p0), .val (.ref b1), .val (.int (255 : Int32)), .val (.int (255 : Int32)), .val (.int (255 : Int32)), .val (.int (255 : Int32)), .val (.int (255 : Int32)), .val (.int (255 : Int32)), .val (.int (0 : Int32)), .val (.int (1 : Int32)), .val (.int (p0 &&& (3 : Int32))), .unset]) rfl ?_
    show Steps p.tables e below (T9.setTop (mkF m 123 #[.val (.int p0), .val (.ref b1), .val (.int (255 : Int32)), .val (.int (255 : Int32)), .val (.int (255 : Int32)), .val (.int (255 : Int32)), .val (.int (255 : Int32)), .val (.int (255 : Int32)), .val (.int (0 : Int32)), .val (.int (1 : Int32)), .val (.int (p0 &&& (3 : Int32))), .unset] [])) _
    refine XS.iload X9.here hx rfl (hb hby at_123) rfl ?_
    show Steps p.tables e below (T9.setTop (mkF m 125 #[.val (.int p0), .val (.ref b1), .val (.int (255 : Int32)), .val (.int (255 : Int32)), .val (.int (255 : Int32)), .val (.int (255 : Int32)), .val (.int (255 : Int32)), .val (.int (255 : Int32)), .val (.int (0 : Int32)), .val (.int (1 : Int32)), .val (.int (p0 &&& (3 : Int32))), .unset] [(.int (p0 &&& (3 : Int32)))])) _
    refine XS.iconst X9.here hx rfl (hb hby at_125) ?_
    exact kt
  by_cases hc126_10 : (p0 &&& (3 : Int32)) < (1 : Int32)
  · refine own_st (A' := T9.setTop (mkF m 155 #[.val (.int p0), .val (.ref b1), .val (.int (255 : Int32)), .val (.int (255 : Int32)), .val (.int (255 : Int32)), .val (.int (255 : Int32)), .val (.int (255 : Int32)), .val (.int (255 : Int32)), .val (.int (0 : Int32)), .val (.int (1 : Int32)), .val (.int (p0 &&& (3 : Int32))), .unset] [(.int (2 : Int32)), (.int (p0 &&& (3 : Int32)))])) (fun tg kt => ?_) ?_
    · show Steps p.tables e below (T9.setTop (mkF m 126 #[.val (.int p0), .val (.ref b1), .val (.int (255 : Int32)), .val (.int (255 : Int32)), .val (.int (255 : Int32)), .val (.int (255 : Int32)), .val (.int (255 : Int32)), .val (.int (255 : Int32)), .val (.int (0 : Int32)), .val (.int (1 : Int32)), .val (.int (p0 &&& (3 : Int32))), .unset] [(.int (1 : Int32)), (.int (p0 &&& (3 : Int32)))])) _
      refine XS.icmpYes X9.here hx rfl (pc0 := 126) (pc' := 152) rfl (hb hby at_126) rfl (tlt hc126_10).1 (by decide) (by decide) ?_
      show Steps p.tables e below (T9.setTop (mkF m 152 #[.val (.int p0), .val (.ref b1), .val (.int (255 : Int32)), .val (.int (255 : Int32)), .val (.int (255 : Int32)), .val (.int (255 : Int32)), .val (.int (255 : Int32)), .val (.int (255 : Int32)), .val (.int (0 : Int32)), .val (.int (1 : Int32)), .val (.int (p0 &&& (3 : Int32))), .unset] [])) _
      refine XS.iload X9.here hx rfl (hb hby at_152) rfl ?_
      show Steps p.tables e below (T9.setTop (mkF m 154 #[.val (.int p0), .val (.ref b1), .val (.int (255 : Int32)), .val (.int (255 : Int32)), .val (.int (255 : Int32)), .val (.int (255 : Int32)), .val (.int (255 : Int32)), .val (.int (255 : Int32)), .val (.int (0 : Int32)), .val (.int (1 : Int32)), .val (.int (p0 &&& (3 : Int32))), .unset] [(.int (p0 &&& (3 : Int32)))])) _
      refine XS.iconst X9.here hx rfl (hb hby at_154) ?_
      exact kt
    by_cases hc155_11 : (p0 &&& (3 : Int32)) < (2 : Int32)
    · refine own_st (A' := T9.setTop (mkF m 184 #[.val (.int p0), .val (.ref b1), .val (.int (255 : Int32)), .val (.int (255 : Int32)), .val (.int (255 : Int32)), .val (.int (255 : Int32)), .val (.int (255 : Int32)), .val (.int (255 : Int32)), .val (.int (0 : Int32)), .val (.int (1 : Int32)), .val (.int (p0 &&& (3 : Int32))), .unset] [(.int (3 : Int32)), (.int (p0 &&& (3 : Int32)))])) (fun tg kt => ?_) ?_
      · show Steps p.tables e below (T9.setTop (mkF m 155 #[.val (.int p0), .val (.ref b1), .val (.int (255 : Int32)), .val (.int (255 : Int32)), .val (.int (255 : Int32)), .val (.int (255 : Int32)), .val (.int (255 : Int32)), .val (.int (255 : Int32)), .val (.int (0 : Int32)), .val (.int (1 : Int32)), .val (.int (p0 &&& (3 : Int32))), .unset] [(.int (2 : Int32)), (.int (p0 &&& (3 : Int32)))])) _
        refine XS.icmpYes X9.here hx rfl (pc0 := 155) (pc' := 181) rfl (hb hby at_155) rfl (tlt hc155_11).1 (by decide) (by decide) ?_
        show Steps p.tables e below (T9.setTop (mkF m 181 #[.val (.int p0), .val (.ref b1), .val (.int (255 : Int32)), .val (.int (255 : Int32)), .val (.int (255 : Int32)), .val (.int (255 : Int32)), .val (.int (255 : Int32)), .val (.int (255 : Int32)), .val (.int (0 : Int32)), .val (.int (1 : Int32)), .val (.int (p0 &&& (3 : Int32))), .unset] [])) _
        refine XS.iload X9.here hx rfl (hb hby at_181) rfl ?_
        show Steps p.tables e below (T9.setTop (mkF m 183 #[.val (.int p0), .val (.ref b1), .val (.int (255 : Int32)), .val (.int (255 : Int32)), .val (.int (255 : Int32)), .val (.int (255 : Int32)), .val (.int (255 : Int32)), .val (.int (255 : Int32)), .val (.int (0 : Int32)), .val (.int (1 : Int32)), .val (.int (p0 &&& (3 : Int32))), .unset] [(.int (p0 &&& (3 : Int32)))])) _
        refine XS.iconst X9.here hx rfl (hb hby at_183) ?_
        exact kt
      by_cases hc184_12 : (p0 &&& (3 : Int32)) < (3 : Int32)
      · refine own_st (A' := T9.setTop (mkF m 212 #[.val (.int p0), .val (.ref b1), .val (.int (255 : Int32)), .val (.int (255 : Int32)), .val (.int (255 : Int32)), .val (.int (255 : Int32)), .val (.int (255 : Int32)), .val (.int (255 : Int32)), .val (.int (0 : Int32)), .val (.int (1 : Int32)), .val (.int (p0 &&& (3 : Int32))), .unset] [(.int (1 : Int32))])) (fun tg kt => ?_) ?_
        · show Steps p.tables e below (T9.setTop (mkF m 184 #[.val (.int p0), .val (.ref b1), .val (.int (255 : Int32)), .val (.int (255 : Int32)), .val (.int (255 : Int32)), .val (.int (255 : Int32)), .val (.int (255 : Int32)), .val (.int (255 : Int32)), .val (.int (0 : Int32)), .val (.int (1 : Int32)), .val (.int (p0 &&& (3 : Int32))), .unset] [(.int (3 : Int32)), (.int (p0 &&& (3 : Int32)))])) _
          refine XS.icmpYes X9.here hx rfl (pc0 := 184) (pc' := 210) rfl (hb hby at_184) rfl (tlt hc184_12).1 (by decide) (by decide) ?_
          show Steps p.tables e below (T9.setTop (mkF m 210 #[.val (.int p0), .val (.ref b1), .val (.int (255 : Int32)), .val (.int (255 : Int32)), .val (.int (255 : Int32)), .val (.int (255 : Int32)), .val (.int (255 : Int32)), .val (.int (255 : Int32)), .val (.int (0 : Int32)), .val (.int (1 : Int32)), .val (.int (p0 &&& (3 : Int32))), .unset] [])) _
          refine XS.iload X9.here hx rfl (hb hby at_210) rfl ?_
          exact kt
        refine own_ret X9 (v := some (.int (1 : Int32))) (fun h => by rw [Bd.returns] at h; cases h) hlk (by decide) (by decide) ?_ (fun fs hr => ?_)
        · show Q0 Z p0 h0 n0 (some (.int (1 : Int32))) T9.heap _
          exact ⟨rfl, N9⟩
        · show Steps p.tables e below (T9.setTop (mkF m 212 #[.val (.int p0), .val (.ref b1), .val (.int (255 : Int32)), .val (.int (255 : Int32)), .val (.int (255 : Int32)), .val (.int (255 : Int32)), .val (.int (255 : Int32)), .val (.int (255 : Int32)), .val (.int (0 : Int32)), .val (.int (1 : Int32)), .val (.int (p0 &&& (3 : Int32))), .unset] [(.int (1 : Int32))])) _
          exact retN X9 hx (t := .boolean) Bd.returns (by simp) (hb hby at_212) hr
      · refine own_st (A' := T9.setTop (mkF m 188 #[.val (.int p0), .val (.ref b1), .val (.int (255 : Int32)), .val (.int (255 : Int32)), .val (.int (255 : Int32)), .val (.int (255 : Int32)), .val (.int (255 : Int32)), .val (.int (255 : Int32)), .val (.int (0 : Int32)), .val (.int (1 : Int32)), .val (.int (p0 &&& (3 : Int32))), .unset] [(.ref b1)])) (fun tg kt => ?_) ?_
        · show Steps p.tables e below (T9.setTop (mkF m 184 #[.val (.int p0), .val (.ref b1), .val (.int (255 : Int32)), .val (.int (255 : Int32)), .val (.int (255 : Int32)), .val (.int (255 : Int32)), .val (.int (255 : Int32)), .val (.int (255 : Int32)), .val (.int (0 : Int32)), .val (.int (1 : Int32)), .val (.int (p0 &&& (3 : Int32))), .unset] [(.int (3 : Int32)), (.int (p0 &&& (3 : Int32)))])) _
          refine XS.icmpNo X9.here hx rfl (hb hby at_184) rfl (flt hc184_12).1 ?_
          show Steps p.tables e below (T9.setTop (mkF m 187 #[.val (.int p0), .val (.ref b1), .val (.int (255 : Int32)), .val (.int (255 : Int32)), .val (.int (255 : Int32)), .val (.int (255 : Int32)), .val (.int (255 : Int32)), .val (.int (255 : Int32)), .val (.int (0 : Int32)), .val (.int (1 : Int32)), .val (.int (p0 &&& (3 : Int32))), .unset] [])) _
          refine XS.aloadN X9.here hx rfl (hb hby at_187) rfl rfl ?_
          exact kt
        obtain ⟨_, _, ⟨T13, L13, k13, n13⟩, -, X13, ⟨Lc13, hQ13, l13, y13, z13⟩, st13⟩ := Jvm.LawKit.callS X9 hx (y := (⟨"com/example/gate_to_tables/gatetotables/adql/translator/BudgetTakePinLaw", "take8", "(Lcom/example/gate_to_tables/gatetotables/adql/translator/RowValues$Budget;)I"⟩ : MethodName)) hown (mvT hZ (hw _ (List.mem_of_getElem? (i := 11) rfl))) (mvT hZ (hw _ (List.mem_of_getElem? (i := 12) rfl))) (mvT hZ (hw _ (List.mem_of_getElem? (i := 13) rfl))) (mvT hZ (hw _ (List.mem_of_getElem? (i := 14) rfl))) (by decide) (backOf (W := 0) (rm3b l Z a0 hw [] b1 (0 : Int32) T9.heap n0 Z9 Fq9 Eq9 g_b1 (by decide)) hZ (hw _ (List.mem_of_getElem? (i := 14) rfl)) (hw _ (List.mem_of_getElem? (i := 13) rfl)) (by decide) (by decide)) (g := (mkF m 188 #[.val (.int p0), .val (.ref b1), .val (.int (255 : Int32)), .val (.int (255 : Int32)), .val (.int (255 : Int32)), .val (.int (255 : Int32)), .val (.int (255 : Int32)), .val (.int (255 : Int32)), .val (.int (0 : Int32)), .val (.int (1 : Int32)), .val (.int (p0 &&& (3 : Int32))), .unset] [(.ref b1)])) rfl (by rw [hml]; rfl) (argsL := [(.ref b1)]) (rest := []) (lenOf own_pd4 rfl) rfl (by show 2 * 0 + _ ≤ _; exact Nat.le_of_eq rfl) (hb hby at_188) (fun _ _ => ⟨rfl, rfl, (by decide : 1 + 0 ≤ _), (by decide : 1 + 0 ≤ _)⟩)
        dsimp only [Pt.U, Pt.locs, Pt.cells, Pt.slots] at X13 l13 y13 z13 st13 hQ13
        subst l13 y13 z13
        obtain ⟨rfl, Nq13, Kq13, Eq13, Fq13⟩ := hQ13
        have N13 := Fr.app N9 Nq13
        have K13 := (K9).trans Kq13 (allS (Or.inr kw_b1) all0)
        have Z13 : n0 ≤ T13.heap.size := Nat.le_trans Z9 Kq13.1
        refine own_st st13 ?_
        show own_Gl _ _ _ _ _ _ _ _ (T13.setTop (mkF m 191 #[.val (.int p0), .val (.ref b1), .val (.int (255 : Int32)), .val (.int (255 : Int32)), .val (.int (255 : Int32)), .val (.int (255 : Int32)), .val (.int (255 : Int32)), .val (.int (255 : Int32)), .val (.int (0 : Int32)), .val (.int (1 : Int32)), .val (.int (p0 &&& (3 : Int32))), .unset] [(.int (0 : Int32))]))
        refine own_st (A' := T13.setTop (mkF m 212 #[.val (.int p0), .val (.ref b1), .val (.int (255 : Int32)), .val (.int (255 : Int32)), .val (.int (255 : Int32)), .val (.int (255 : Int32)), .val (.int (255 : Int32)), .val (.int (255 : Int32)), .val (.int (0 : Int32)), .val (.int (1 : Int32)), .val (.int (p0 &&& (3 : Int32))), .val (.int (0 : Int32))] [(.int (1 : Int32))])) (fun tg kt => ?_) ?_
        · show Steps p.tables e below (T13.setTop (mkF m 191 #[.val (.int p0), .val (.ref b1), .val (.int (255 : Int32)), .val (.int (255 : Int32)), .val (.int (255 : Int32)), .val (.int (255 : Int32)), .val (.int (255 : Int32)), .val (.int (255 : Int32)), .val (.int (0 : Int32)), .val (.int (1 : Int32)), .val (.int (p0 &&& (3 : Int32))), .unset] [(.int (0 : Int32))])) _
          refine XS.istore X13.here hx rfl (hb hby at_191) rfl (l' := #[.val (.int p0), .val (.ref b1), .val (.int (255 : Int32)), .val (.int (255 : Int32)), .val (.int (255 : Int32)), .val (.int (255 : Int32)), .val (.int (255 : Int32)), .val (.int (255 : Int32)), .val (.int (0 : Int32)), .val (.int (1 : Int32)), .val (.int (p0 &&& (3 : Int32))), .val (.int (0 : Int32))]) rfl ?_
          show Steps p.tables e below (T13.setTop (mkF m 193 #[.val (.int p0), .val (.ref b1), .val (.int (255 : Int32)), .val (.int (255 : Int32)), .val (.int (255 : Int32)), .val (.int (255 : Int32)), .val (.int (255 : Int32)), .val (.int (255 : Int32)), .val (.int (0 : Int32)), .val (.int (1 : Int32)), .val (.int (p0 &&& (3 : Int32))), .val (.int (0 : Int32))] [])) _
          refine XS.iload X13.here hx rfl (hb hby at_193) rfl ?_
          show Steps p.tables e below (T13.setTop (mkF m 195 #[.val (.int p0), .val (.ref b1), .val (.int (255 : Int32)), .val (.int (255 : Int32)), .val (.int (255 : Int32)), .val (.int (255 : Int32)), .val (.int (255 : Int32)), .val (.int (255 : Int32)), .val (.int (0 : Int32)), .val (.int (1 : Int32)), .val (.int (p0 &&& (3 : Int32))), .val (.int (0 : Int32))] [(.int (1 : Int32))])) _
          refine XS.ifNo X13.here hx rfl (hb hby at_195) rfl ((if0 _ _).trans (feq ((by decide) : ¬ ((1 : Int32) = (0 : Int32)))).1) ?_
          show Steps p.tables e below (T13.setTop (mkF m 198 #[.val (.int p0), .val (.ref b1), .val (.int (255 : Int32)), .val (.int (255 : Int32)), .val (.int (255 : Int32)), .val (.int (255 : Int32)), .val (.int (255 : Int32)), .val (.int (255 : Int32)), .val (.int (0 : Int32)), .val (.int (1 : Int32)), .val (.int (p0 &&& (3 : Int32))), .val (.int (0 : Int32))] [])) _
          refine XS.iload X13.here hx rfl (hb hby at_198) rfl ?_
          show Steps p.tables e below (T13.setTop (mkF m 200 #[.val (.int p0), .val (.ref b1), .val (.int (255 : Int32)), .val (.int (255 : Int32)), .val (.int (255 : Int32)), .val (.int (255 : Int32)), .val (.int (255 : Int32)), .val (.int (255 : Int32)), .val (.int (0 : Int32)), .val (.int (1 : Int32)), .val (.int (p0 &&& (3 : Int32))), .val (.int (0 : Int32))] [(.int (0 : Int32))])) _
          refine XS.ifNo X13.here hx rfl (hb hby at_200) rfl ((if0 _ _).trans (teq ((by decide) : (0 : Int32) = (0 : Int32))).2) ?_
          show Steps p.tables e below (T13.setTop (mkF m 203 #[.val (.int p0), .val (.ref b1), .val (.int (255 : Int32)), .val (.int (255 : Int32)), .val (.int (255 : Int32)), .val (.int (255 : Int32)), .val (.int (255 : Int32)), .val (.int (255 : Int32)), .val (.int (0 : Int32)), .val (.int (1 : Int32)), .val (.int (p0 &&& (3 : Int32))), .val (.int (0 : Int32))] [])) _
          refine XS.iconst X13.here hx rfl (hb hby at_203) ?_
          show Steps p.tables e below (T13.setTop (mkF m 204 #[.val (.int p0), .val (.ref b1), .val (.int (255 : Int32)), .val (.int (255 : Int32)), .val (.int (255 : Int32)), .val (.int (255 : Int32)), .val (.int (255 : Int32)), .val (.int (255 : Int32)), .val (.int (0 : Int32)), .val (.int (1 : Int32)), .val (.int (p0 &&& (3 : Int32))), .val (.int (0 : Int32))] [(.int (1 : Int32))])) _
          refine XS.goto X13.here hx rfl (pc0 := 204) (pc' := 208) rfl (hb hby at_204) (by decide) (by decide) ?_
          show Steps p.tables e below (T13.setTop (mkF m 208 #[.val (.int p0), .val (.ref b1), .val (.int (255 : Int32)), .val (.int (255 : Int32)), .val (.int (255 : Int32)), .val (.int (255 : Int32)), .val (.int (255 : Int32)), .val (.int (255 : Int32)), .val (.int (0 : Int32)), .val (.int (1 : Int32)), .val (.int (p0 &&& (3 : Int32))), .val (.int (0 : Int32))] [(.int (1 : Int32))])) _
          refine XS.istore X13.here hx rfl (hb hby at_208) rfl (l' := #[.val (.int p0), .val (.ref b1), .val (.int (255 : Int32)), .val (.int (255 : Int32)), .val (.int (255 : Int32)), .val (.int (255 : Int32)), .val (.int (255 : Int32)), .val (.int (255 : Int32)), .val (.int (0 : Int32)), .val (.int (1 : Int32)), .val (.int (p0 &&& (3 : Int32))), .val (.int (0 : Int32))]) rfl ?_
          show Steps p.tables e below (T13.setTop (mkF m 210 #[.val (.int p0), .val (.ref b1), .val (.int (255 : Int32)), .val (.int (255 : Int32)), .val (.int (255 : Int32)), .val (.int (255 : Int32)), .val (.int (255 : Int32)), .val (.int (255 : Int32)), .val (.int (0 : Int32)), .val (.int (1 : Int32)), .val (.int (p0 &&& (3 : Int32))), .val (.int (0 : Int32))] [])) _
          refine XS.iload X13.here hx rfl (hb hby at_210) rfl ?_
          exact kt
        refine own_ret X13 (v := some (.int (1 : Int32))) (fun h => by rw [Bd.returns] at h; cases h) hlk (by decide) (by decide) ?_ (fun fs hr => ?_)
        · show Q0 Z p0 h0 n0 (some (.int (1 : Int32))) T13.heap _
          exact ⟨rfl, N13⟩
        · show Steps p.tables e below (T13.setTop (mkF m 212 #[.val (.int p0), .val (.ref b1), .val (.int (255 : Int32)), .val (.int (255 : Int32)), .val (.int (255 : Int32)), .val (.int (255 : Int32)), .val (.int (255 : Int32)), .val (.int (255 : Int32)), .val (.int (0 : Int32)), .val (.int (1 : Int32)), .val (.int (p0 &&& (3 : Int32))), .val (.int (0 : Int32))] [(.int (1 : Int32))])) _
          exact retN X13 hx (t := .boolean) Bd.returns (by simp) (hb hby at_212) hr
    · refine own_st (A' := T9.setTop (mkF m 159 #[.val (.int p0), .val (.ref b1), .val (.int (255 : Int32)), .val (.int (255 : Int32)), .val (.int (255 : Int32)), .val (.int (255 : Int32)), .val (.int (255 : Int32)), .val (.int (255 : Int32)), .val (.int (0 : Int32)), .val (.int (1 : Int32)), .val (.int (p0 &&& (3 : Int32))), .unset] [(.ref b1)])) (fun tg kt => ?_) ?_
      · show Steps p.tables e below (T9.setTop (mkF m 155 #[.val (.int p0), .val (.ref b1), .val (.int (255 : Int32)), .val (.int (255 : Int32)), .val (.int (255 : Int32)), .val (.int (255 : Int32)), .val (.int (255 : Int32)), .val (.int (255 : Int32)), .val (.int (0 : Int32)), .val (.int (1 : Int32)), .val (.int (p0 &&& (3 : Int32))), .unset] [(.int (2 : Int32)), (.int (p0 &&& (3 : Int32)))])) _
        refine XS.icmpNo X9.here hx rfl (hb hby at_155) rfl (flt hc155_11).1 ?_
        show Steps p.tables e below (T9.setTop (mkF m 158 #[.val (.int p0), .val (.ref b1), .val (.int (255 : Int32)), .val (.int (255 : Int32)), .val (.int (255 : Int32)), .val (.int (255 : Int32)), .val (.int (255 : Int32)), .val (.int (255 : Int32)), .val (.int (0 : Int32)), .val (.int (1 : Int32)), .val (.int (p0 &&& (3 : Int32))), .unset] [])) _
        refine XS.aloadN X9.here hx rfl (hb hby at_158) rfl rfl ?_
        exact kt
      obtain ⟨_, _, ⟨T14, L14, k14, n14⟩, -, X14, ⟨Lc14, hQ14, l14, y14, z14⟩, st14⟩ := Jvm.LawKit.callS X9 hx (y := (⟨"com/example/gate_to_tables/gatetotables/adql/translator/BudgetTakePinLaw", "take8", "(Lcom/example/gate_to_tables/gatetotables/adql/translator/RowValues$Budget;)I"⟩ : MethodName)) hown (mvT hZ (hw _ (List.mem_of_getElem? (i := 11) rfl))) (mvT hZ (hw _ (List.mem_of_getElem? (i := 12) rfl))) (mvT hZ (hw _ (List.mem_of_getElem? (i := 13) rfl))) (mvT hZ (hw _ (List.mem_of_getElem? (i := 14) rfl))) (by decide) (backOf (W := 0) (rm3b l Z a0 hw [] b1 (0 : Int32) T9.heap n0 Z9 Fq9 Eq9 g_b1 (by decide)) hZ (hw _ (List.mem_of_getElem? (i := 14) rfl)) (hw _ (List.mem_of_getElem? (i := 13) rfl)) (by decide) (by decide)) (g := (mkF m 159 #[.val (.int p0), .val (.ref b1), .val (.int (255 : Int32)), .val (.int (255 : Int32)), .val (.int (255 : Int32)), .val (.int (255 : Int32)), .val (.int (255 : Int32)), .val (.int (255 : Int32)), .val (.int (0 : Int32)), .val (.int (1 : Int32)), .val (.int (p0 &&& (3 : Int32))), .unset] [(.ref b1)])) rfl (by rw [hml]; rfl) (argsL := [(.ref b1)]) (rest := []) (lenOf own_pd4 rfl) rfl (by show 2 * 0 + _ ≤ _; exact Nat.le_of_eq rfl) (hb hby at_159) (fun _ _ => ⟨rfl, rfl, (by decide : 1 + 0 ≤ _), (by decide : 1 + 0 ≤ _)⟩)
      dsimp only [Pt.U, Pt.locs, Pt.cells, Pt.slots] at X14 l14 y14 z14 st14 hQ14
      subst l14 y14 z14
      obtain ⟨rfl, Nq14, Kq14, Eq14, Fq14⟩ := hQ14
      have N14 := Fr.app N9 Nq14
      have K14 := (K9).trans Kq14 (allS (Or.inr kw_b1) all0)
      have Z14 : n0 ≤ T14.heap.size := Nat.le_trans Z9 Kq14.1
      refine own_st st14 ?_
      show own_Gl _ _ _ _ _ _ _ _ (T14.setTop (mkF m 162 #[.val (.int p0), .val (.ref b1), .val (.int (255 : Int32)), .val (.int (255 : Int32)), .val (.int (255 : Int32)), .val (.int (255 : Int32)), .val (.int (255 : Int32)), .val (.int (255 : Int32)), .val (.int (0 : Int32)), .val (.int (1 : Int32)), .val (.int (p0 &&& (3 : Int32))), .unset] [(.int (0 : Int32))]))
      refine own_st (A' := T14.setTop (mkF m 184 #[.val (.int p0), .val (.ref b1), .val (.int (255 : Int32)), .val (.int (255 : Int32)), .val (.int (255 : Int32)), .val (.int (255 : Int32)), .val (.int (255 : Int32)), .val (.int (255 : Int32)), .val (.int (0 : Int32)), .val (.int (1 : Int32)), .val (.int (p0 &&& (3 : Int32))), .val (.int (0 : Int32))] [(.int (3 : Int32)), (.int (p0 &&& (3 : Int32)))])) (fun tg kt => ?_) ?_
      · show Steps p.tables e below (T14.setTop (mkF m 162 #[.val (.int p0), .val (.ref b1), .val (.int (255 : Int32)), .val (.int (255 : Int32)), .val (.int (255 : Int32)), .val (.int (255 : Int32)), .val (.int (255 : Int32)), .val (.int (255 : Int32)), .val (.int (0 : Int32)), .val (.int (1 : Int32)), .val (.int (p0 &&& (3 : Int32))), .unset] [(.int (0 : Int32))])) _
        refine XS.istore X14.here hx rfl (hb hby at_162) rfl (l' := #[.val (.int p0), .val (.ref b1), .val (.int (255 : Int32)), .val (.int (255 : Int32)), .val (.int (255 : Int32)), .val (.int (255 : Int32)), .val (.int (255 : Int32)), .val (.int (255 : Int32)), .val (.int (0 : Int32)), .val (.int (1 : Int32)), .val (.int (p0 &&& (3 : Int32))), .val (.int (0 : Int32))]) rfl ?_
        show Steps p.tables e below (T14.setTop (mkF m 164 #[.val (.int p0), .val (.ref b1), .val (.int (255 : Int32)), .val (.int (255 : Int32)), .val (.int (255 : Int32)), .val (.int (255 : Int32)), .val (.int (255 : Int32)), .val (.int (255 : Int32)), .val (.int (0 : Int32)), .val (.int (1 : Int32)), .val (.int (p0 &&& (3 : Int32))), .val (.int (0 : Int32))] [])) _
        refine XS.iload X14.here hx rfl (hb hby at_164) rfl ?_
        show Steps p.tables e below (T14.setTop (mkF m 166 #[.val (.int p0), .val (.ref b1), .val (.int (255 : Int32)), .val (.int (255 : Int32)), .val (.int (255 : Int32)), .val (.int (255 : Int32)), .val (.int (255 : Int32)), .val (.int (255 : Int32)), .val (.int (0 : Int32)), .val (.int (1 : Int32)), .val (.int (p0 &&& (3 : Int32))), .val (.int (0 : Int32))] [(.int (1 : Int32))])) _
        refine XS.ifNo X14.here hx rfl (hb hby at_166) rfl ((if0 _ _).trans (feq ((by decide) : ¬ ((1 : Int32) = (0 : Int32)))).1) ?_
        show Steps p.tables e below (T14.setTop (mkF m 169 #[.val (.int p0), .val (.ref b1), .val (.int (255 : Int32)), .val (.int (255 : Int32)), .val (.int (255 : Int32)), .val (.int (255 : Int32)), .val (.int (255 : Int32)), .val (.int (255 : Int32)), .val (.int (0 : Int32)), .val (.int (1 : Int32)), .val (.int (p0 &&& (3 : Int32))), .val (.int (0 : Int32))] [])) _
        refine XS.iload X14.here hx rfl (hb hby at_169) rfl ?_
        show Steps p.tables e below (T14.setTop (mkF m 171 #[.val (.int p0), .val (.ref b1), .val (.int (255 : Int32)), .val (.int (255 : Int32)), .val (.int (255 : Int32)), .val (.int (255 : Int32)), .val (.int (255 : Int32)), .val (.int (255 : Int32)), .val (.int (0 : Int32)), .val (.int (1 : Int32)), .val (.int (p0 &&& (3 : Int32))), .val (.int (0 : Int32))] [(.int (0 : Int32))])) _
        refine XS.ifNo X14.here hx rfl (hb hby at_171) rfl ((if0 _ _).trans (teq ((by decide) : (0 : Int32) = (0 : Int32))).2) ?_
        show Steps p.tables e below (T14.setTop (mkF m 174 #[.val (.int p0), .val (.ref b1), .val (.int (255 : Int32)), .val (.int (255 : Int32)), .val (.int (255 : Int32)), .val (.int (255 : Int32)), .val (.int (255 : Int32)), .val (.int (255 : Int32)), .val (.int (0 : Int32)), .val (.int (1 : Int32)), .val (.int (p0 &&& (3 : Int32))), .val (.int (0 : Int32))] [])) _
        refine XS.iconst X14.here hx rfl (hb hby at_174) ?_
        show Steps p.tables e below (T14.setTop (mkF m 175 #[.val (.int p0), .val (.ref b1), .val (.int (255 : Int32)), .val (.int (255 : Int32)), .val (.int (255 : Int32)), .val (.int (255 : Int32)), .val (.int (255 : Int32)), .val (.int (255 : Int32)), .val (.int (0 : Int32)), .val (.int (1 : Int32)), .val (.int (p0 &&& (3 : Int32))), .val (.int (0 : Int32))] [(.int (1 : Int32))])) _
        refine XS.goto X14.here hx rfl (pc0 := 175) (pc' := 179) rfl (hb hby at_175) (by decide) (by decide) ?_
        show Steps p.tables e below (T14.setTop (mkF m 179 #[.val (.int p0), .val (.ref b1), .val (.int (255 : Int32)), .val (.int (255 : Int32)), .val (.int (255 : Int32)), .val (.int (255 : Int32)), .val (.int (255 : Int32)), .val (.int (255 : Int32)), .val (.int (0 : Int32)), .val (.int (1 : Int32)), .val (.int (p0 &&& (3 : Int32))), .val (.int (0 : Int32))] [(.int (1 : Int32))])) _
        refine XS.istore X14.here hx rfl (hb hby at_179) rfl (l' := #[.val (.int p0), .val (.ref b1), .val (.int (255 : Int32)), .val (.int (255 : Int32)), .val (.int (255 : Int32)), .val (.int (255 : Int32)), .val (.int (255 : Int32)), .val (.int (255 : Int32)), .val (.int (0 : Int32)), .val (.int (1 : Int32)), .val (.int (p0 &&& (3 : Int32))), .val (.int (0 : Int32))]) rfl ?_
        show Steps p.tables e below (T14.setTop (mkF m 181 #[.val (.int p0), .val (.ref b1), .val (.int (255 : Int32)), .val (.int (255 : Int32)), .val (.int (255 : Int32)), .val (.int (255 : Int32)), .val (.int (255 : Int32)), .val (.int (255 : Int32)), .val (.int (0 : Int32)), .val (.int (1 : Int32)), .val (.int (p0 &&& (3 : Int32))), .val (.int (0 : Int32))] [])) _
        refine XS.iload X14.here hx rfl (hb hby at_181) rfl ?_
        show Steps p.tables e below (T14.setTop (mkF m 183 #[.val (.int p0), .val (.ref b1), .val (.int (255 : Int32)), .val (.int (255 : Int32)), .val (.int (255 : Int32)), .val (.int (255 : Int32)), .val (.int (255 : Int32)), .val (.int (255 : Int32)), .val (.int (0 : Int32)), .val (.int (1 : Int32)), .val (.int (p0 &&& (3 : Int32))), .val (.int (0 : Int32))] [(.int (p0 &&& (3 : Int32)))])) _
        refine XS.iconst X14.here hx rfl (hb hby at_183) ?_
        exact kt
      by_cases hc184_15 : (p0 &&& (3 : Int32)) < (3 : Int32)
      · refine own_st (A' := T14.setTop (mkF m 212 #[.val (.int p0), .val (.ref b1), .val (.int (255 : Int32)), .val (.int (255 : Int32)), .val (.int (255 : Int32)), .val (.int (255 : Int32)), .val (.int (255 : Int32)), .val (.int (255 : Int32)), .val (.int (0 : Int32)), .val (.int (1 : Int32)), .val (.int (p0 &&& (3 : Int32))), .val (.int (0 : Int32))] [(.int (1 : Int32))])) (fun tg kt => ?_) ?_
        · show Steps p.tables e below (T14.setTop (mkF m 184 #[.val (.int p0), .val (.ref b1), .val (.int (255 : Int32)), .val (.int (255 : Int32)), .val (.int (255 : Int32)), .val (.int (255 : Int32)), .val (.int (255 : Int32)), .val (.int (255 : Int32)), .val (.int (0 : Int32)), .val (.int (1 : Int32)), .val (.int (p0 &&& (3 : Int32))), .val (.int (0 : Int32))] [(.int (3 : Int32)), (.int (p0 &&& (3 : Int32)))])) _
          refine XS.icmpYes X14.here hx rfl (pc0 := 184) (pc' := 210) rfl (hb hby at_184) rfl (tlt hc184_15).1 (by decide) (by decide) ?_
          show Steps p.tables e below (T14.setTop (mkF m 210 #[.val (.int p0), .val (.ref b1), .val (.int (255 : Int32)), .val (.int (255 : Int32)), .val (.int (255 : Int32)), .val (.int (255 : Int32)), .val (.int (255 : Int32)), .val (.int (255 : Int32)), .val (.int (0 : Int32)), .val (.int (1 : Int32)), .val (.int (p0 &&& (3 : Int32))), .val (.int (0 : Int32))] [])) _
          refine XS.iload X14.here hx rfl (hb hby at_210) rfl ?_
          exact kt
        refine own_ret X14 (v := some (.int (1 : Int32))) (fun h => by rw [Bd.returns] at h; cases h) hlk (by decide) (by decide) ?_ (fun fs hr => ?_)
        · show Q0 Z p0 h0 n0 (some (.int (1 : Int32))) T14.heap _
          exact ⟨rfl, N14⟩
        · show Steps p.tables e below (T14.setTop (mkF m 212 #[.val (.int p0), .val (.ref b1), .val (.int (255 : Int32)), .val (.int (255 : Int32)), .val (.int (255 : Int32)), .val (.int (255 : Int32)), .val (.int (255 : Int32)), .val (.int (255 : Int32)), .val (.int (0 : Int32)), .val (.int (1 : Int32)), .val (.int (p0 &&& (3 : Int32))), .val (.int (0 : Int32))] [(.int (1 : Int32))])) _
          exact retN X14 hx (t := .boolean) Bd.returns (by simp) (hb hby at_212) hr
      · refine own_st (A' := T14.setTop (mkF m 188 #[.val (.int p0), .val (.ref b1), .val (.int (255 : Int32)), .val (.int (255 : Int32)), .val (.int (255 : Int32)), .val (.int (255 : Int32)), .val (.int (255 : Int32)), .val (.int (255 : Int32)), .val (.int (0 : Int32)), .val (.int (1 : Int32)), .val (.int (p0 &&& (3 : Int32))), .val (.int (0 : Int32))] [(.ref b1)])) (fun tg kt => ?_) ?_
        · show Steps p.tables e below (T14.setTop (mkF m 184 #[.val (.int p0), .val (.ref b1), .val (.int (255 : Int32)), .val (.int (255 : Int32)), .val (.int (255 : Int32)), .val (.int (255 : Int32)), .val (.int (255 : Int32)), .val (.int (255 : Int32)), .val (.int (0 : Int32)), .val (.int (1 : Int32)), .val (.int (p0 &&& (3 : Int32))), .val (.int (0 : Int32))] [(.int (3 : Int32)), (.int (p0 &&& (3 : Int32)))])) _
          refine XS.icmpNo X14.here hx rfl (hb hby at_184) rfl (flt hc184_15).1 ?_
          show Steps p.tables e below (T14.setTop (mkF m 187 #[.val (.int p0), .val (.ref b1), .val (.int (255 : Int32)), .val (.int (255 : Int32)), .val (.int (255 : Int32)), .val (.int (255 : Int32)), .val (.int (255 : Int32)), .val (.int (255 : Int32)), .val (.int (0 : Int32)), .val (.int (1 : Int32)), .val (.int (p0 &&& (3 : Int32))), .val (.int (0 : Int32))] [])) _
          refine XS.aloadN X14.here hx rfl (hb hby at_187) rfl rfl ?_
          exact kt
        obtain ⟨_, _, ⟨T16, L16, k16, n16⟩, -, X16, ⟨Lc16, hQ16, l16, y16, z16⟩, st16⟩ := Jvm.LawKit.callS X14 hx (y := (⟨"com/example/gate_to_tables/gatetotables/adql/translator/BudgetTakePinLaw", "take8", "(Lcom/example/gate_to_tables/gatetotables/adql/translator/RowValues$Budget;)I"⟩ : MethodName)) hown (mvT hZ (hw _ (List.mem_of_getElem? (i := 11) rfl))) (mvT hZ (hw _ (List.mem_of_getElem? (i := 12) rfl))) (mvT hZ (hw _ (List.mem_of_getElem? (i := 13) rfl))) (mvT hZ (hw _ (List.mem_of_getElem? (i := 14) rfl))) (by decide) (backOf (W := 0) (rm3b l Z a0 hw [] b1 (0 : Int32) T14.heap n0 Z14 Fq14 Eq14 g_b1 (by decide)) hZ (hw _ (List.mem_of_getElem? (i := 14) rfl)) (hw _ (List.mem_of_getElem? (i := 13) rfl)) (by decide) (by decide)) (g := (mkF m 188 #[.val (.int p0), .val (.ref b1), .val (.int (255 : Int32)), .val (.int (255 : Int32)), .val (.int (255 : Int32)), .val (.int (255 : Int32)), .val (.int (255 : Int32)), .val (.int (255 : Int32)), .val (.int (0 : Int32)), .val (.int (1 : Int32)), .val (.int (p0 &&& (3 : Int32))), .val (.int (0 : Int32))] [(.ref b1)])) rfl (by rw [hml]; rfl) (argsL := [(.ref b1)]) (rest := []) (lenOf own_pd4 rfl) rfl (by show 2 * 0 + _ ≤ _; exact Nat.le_of_eq rfl) (hb hby at_188) (fun _ _ => ⟨rfl, rfl, (by decide : 1 + 0 ≤ _), (by decide : 1 + 0 ≤ _)⟩)
        dsimp only [Pt.U, Pt.locs, Pt.cells, Pt.slots] at X16 l16 y16 z16 st16 hQ16
        subst l16 y16 z16
        obtain ⟨rfl, Nq16, Kq16, Eq16, Fq16⟩ := hQ16
        have N16 := Fr.app N14 Nq16
        have K16 := (K14).trans Kq16 (allS (Or.inr kw_b1) all0)
        have Z16 : n0 ≤ T16.heap.size := Nat.le_trans Z14 Kq16.1
        refine own_st st16 ?_
        show own_Gl _ _ _ _ _ _ _ _ (T16.setTop (mkF m 191 #[.val (.int p0), .val (.ref b1), .val (.int (255 : Int32)), .val (.int (255 : Int32)), .val (.int (255 : Int32)), .val (.int (255 : Int32)), .val (.int (255 : Int32)), .val (.int (255 : Int32)), .val (.int (0 : Int32)), .val (.int (1 : Int32)), .val (.int (p0 &&& (3 : Int32))), .val (.int (0 : Int32))] [(.int (0 : Int32))]))
        refine own_st (A' := T16.setTop (mkF m 212 #[.val (.int p0), .val (.ref b1), .val (.int (255 : Int32)), .val (.int (255 : Int32)), .val (.int (255 : Int32)), .val (.int (255 : Int32)), .val (.int (255 : Int32)), .val (.int (255 : Int32)), .val (.int (0 : Int32)), .val (.int (1 : Int32)), .val (.int (p0 &&& (3 : Int32))), .val (.int (0 : Int32))] [(.int (1 : Int32))])) (fun tg kt => ?_) ?_
        · show Steps p.tables e below (T16.setTop (mkF m 191 #[.val (.int p0), .val (.ref b1), .val (.int (255 : Int32)), .val (.int (255 : Int32)), .val (.int (255 : Int32)), .val (.int (255 : Int32)), .val (.int (255 : Int32)), .val (.int (255 : Int32)), .val (.int (0 : Int32)), .val (.int (1 : Int32)), .val (.int (p0 &&& (3 : Int32))), .val (.int (0 : Int32))] [(.int (0 : Int32))])) _
          refine XS.istore X16.here hx rfl (hb hby at_191) rfl (l' := #[.val (.int p0), .val (.ref b1), .val (.int (255 : Int32)), .val (.int (255 : Int32)), .val (.int (255 : Int32)), .val (.int (255 : Int32)), .val (.int (255 : Int32)), .val (.int (255 : Int32)), .val (.int (0 : Int32)), .val (.int (1 : Int32)), .val (.int (p0 &&& (3 : Int32))), .val (.int (0 : Int32))]) rfl ?_
          show Steps p.tables e below (T16.setTop (mkF m 193 #[.val (.int p0), .val (.ref b1), .val (.int (255 : Int32)), .val (.int (255 : Int32)), .val (.int (255 : Int32)), .val (.int (255 : Int32)), .val (.int (255 : Int32)), .val (.int (255 : Int32)), .val (.int (0 : Int32)), .val (.int (1 : Int32)), .val (.int (p0 &&& (3 : Int32))), .val (.int (0 : Int32))] [])) _
          refine XS.iload X16.here hx rfl (hb hby at_193) rfl ?_
          show Steps p.tables e below (T16.setTop (mkF m 195 #[.val (.int p0), .val (.ref b1), .val (.int (255 : Int32)), .val (.int (255 : Int32)), .val (.int (255 : Int32)), .val (.int (255 : Int32)), .val (.int (255 : Int32)), .val (.int (255 : Int32)), .val (.int (0 : Int32)), .val (.int (1 : Int32)), .val (.int (p0 &&& (3 : Int32))), .val (.int (0 : Int32))] [(.int (1 : Int32))])) _
          refine XS.ifNo X16.here hx rfl (hb hby at_195) rfl ((if0 _ _).trans (feq ((by decide) : ¬ ((1 : Int32) = (0 : Int32)))).1) ?_
          show Steps p.tables e below (T16.setTop (mkF m 198 #[.val (.int p0), .val (.ref b1), .val (.int (255 : Int32)), .val (.int (255 : Int32)), .val (.int (255 : Int32)), .val (.int (255 : Int32)), .val (.int (255 : Int32)), .val (.int (255 : Int32)), .val (.int (0 : Int32)), .val (.int (1 : Int32)), .val (.int (p0 &&& (3 : Int32))), .val (.int (0 : Int32))] [])) _
          refine XS.iload X16.here hx rfl (hb hby at_198) rfl ?_
          show Steps p.tables e below (T16.setTop (mkF m 200 #[.val (.int p0), .val (.ref b1), .val (.int (255 : Int32)), .val (.int (255 : Int32)), .val (.int (255 : Int32)), .val (.int (255 : Int32)), .val (.int (255 : Int32)), .val (.int (255 : Int32)), .val (.int (0 : Int32)), .val (.int (1 : Int32)), .val (.int (p0 &&& (3 : Int32))), .val (.int (0 : Int32))] [(.int (0 : Int32))])) _
          refine XS.ifNo X16.here hx rfl (hb hby at_200) rfl ((if0 _ _).trans (teq ((by decide) : (0 : Int32) = (0 : Int32))).2) ?_
          show Steps p.tables e below (T16.setTop (mkF m 203 #[.val (.int p0), .val (.ref b1), .val (.int (255 : Int32)), .val (.int (255 : Int32)), .val (.int (255 : Int32)), .val (.int (255 : Int32)), .val (.int (255 : Int32)), .val (.int (255 : Int32)), .val (.int (0 : Int32)), .val (.int (1 : Int32)), .val (.int (p0 &&& (3 : Int32))), .val (.int (0 : Int32))] [])) _
          refine XS.iconst X16.here hx rfl (hb hby at_203) ?_
          show Steps p.tables e below (T16.setTop (mkF m 204 #[.val (.int p0), .val (.ref b1), .val (.int (255 : Int32)), .val (.int (255 : Int32)), .val (.int (255 : Int32)), .val (.int (255 : Int32)), .val (.int (255 : Int32)), .val (.int (255 : Int32)), .val (.int (0 : Int32)), .val (.int (1 : Int32)), .val (.int (p0 &&& (3 : Int32))), .val (.int (0 : Int32))] [(.int (1 : Int32))])) _
          refine XS.goto X16.here hx rfl (pc0 := 204) (pc' := 208) rfl (hb hby at_204) (by decide) (by decide) ?_
          show Steps p.tables e below (T16.setTop (mkF m 208 #[.val (.int p0), .val (.ref b1), .val (.int (255 : Int32)), .val (.int (255 : Int32)), .val (.int (255 : Int32)), .val (.int (255 : Int32)), .val (.int (255 : Int32)), .val (.int (255 : Int32)), .val (.int (0 : Int32)), .val (.int (1 : Int32)), .val (.int (p0 &&& (3 : Int32))), .val (.int (0 : Int32))] [(.int (1 : Int32))])) _
          refine XS.istore X16.here hx rfl (hb hby at_208) rfl (l' := #[.val (.int p0), .val (.ref b1), .val (.int (255 : Int32)), .val (.int (255 : Int32)), .val (.int (255 : Int32)), .val (.int (255 : Int32)), .val (.int (255 : Int32)), .val (.int (255 : Int32)), .val (.int (0 : Int32)), .val (.int (1 : Int32)), .val (.int (p0 &&& (3 : Int32))), .val (.int (0 : Int32))]) rfl ?_
          show Steps p.tables e below (T16.setTop (mkF m 210 #[.val (.int p0), .val (.ref b1), .val (.int (255 : Int32)), .val (.int (255 : Int32)), .val (.int (255 : Int32)), .val (.int (255 : Int32)), .val (.int (255 : Int32)), .val (.int (255 : Int32)), .val (.int (0 : Int32)), .val (.int (1 : Int32)), .val (.int (p0 &&& (3 : Int32))), .val (.int (0 : Int32))] [])) _
          refine XS.iload X16.here hx rfl (hb hby at_210) rfl ?_
          exact kt
        refine own_ret X16 (v := some (.int (1 : Int32))) (fun h => by rw [Bd.returns] at h; cases h) hlk (by decide) (by decide) ?_ (fun fs hr => ?_)
        · show Q0 Z p0 h0 n0 (some (.int (1 : Int32))) T16.heap _
          exact ⟨rfl, N16⟩
        · show Steps p.tables e below (T16.setTop (mkF m 212 #[.val (.int p0), .val (.ref b1), .val (.int (255 : Int32)), .val (.int (255 : Int32)), .val (.int (255 : Int32)), .val (.int (255 : Int32)), .val (.int (255 : Int32)), .val (.int (255 : Int32)), .val (.int (0 : Int32)), .val (.int (1 : Int32)), .val (.int (p0 &&& (3 : Int32))), .val (.int (0 : Int32))] [(.int (1 : Int32))])) _
          exact retN X16 hx (t := .boolean) Bd.returns (by simp) (hb hby at_212) hr
  · refine own_st (A' := T9.setTop (mkF m 130 #[.val (.int p0), .val (.ref b1), .val (.int (255 : Int32)), .val (.int (255 : Int32)), .val (.int (255 : Int32)), .val (.int (255 : Int32)), .val (.int (255 : Int32)), .val (.int (255 : Int32)), .val (.int (0 : Int32)), .val (.int (1 : Int32)), .val (.int (p0 &&& (3 : Int32))), .unset] [(.ref b1)])) (fun tg kt => ?_) ?_
    · show Steps p.tables e below (T9.setTop (mkF m 126 #[.val (.int p0), .val (.ref b1), .val (.int (255 : Int32)), .val (.int (255 : Int32)), .val (.int (255 : Int32)), .val (.int (255 : Int32)), .val (.int (255 : Int32)), .val (.int (255 : Int32)), .val (.int (0 : Int32)), .val (.int (1 : Int32)), .val (.int (p0 &&& (3 : Int32))), .unset] [(.int (1 : Int32)), (.int (p0 &&& (3 : Int32)))])) _
      refine XS.icmpNo X9.here hx rfl (hb hby at_126) rfl (flt hc126_10).1 ?_
      show Steps p.tables e below (T9.setTop (mkF m 129 #[.val (.int p0), .val (.ref b1), .val (.int (255 : Int32)), .val (.int (255 : Int32)), .val (.int (255 : Int32)), .val (.int (255 : Int32)), .val (.int (255 : Int32)), .val (.int (255 : Int32)), .val (.int (0 : Int32)), .val (.int (1 : Int32)), .val (.int (p0 &&& (3 : Int32))), .unset] [])) _
      refine XS.aloadN X9.here hx rfl (hb hby at_129) rfl rfl ?_
      exact kt
    obtain ⟨_, _, ⟨T17, L17, k17, n17⟩, -, X17, ⟨Lc17, hQ17, l17, y17, z17⟩, st17⟩ := Jvm.LawKit.callS X9 hx (y := (⟨"com/example/gate_to_tables/gatetotables/adql/translator/BudgetTakePinLaw", "take8", "(Lcom/example/gate_to_tables/gatetotables/adql/translator/RowValues$Budget;)I"⟩ : MethodName)) hown (mvT hZ (hw _ (List.mem_of_getElem? (i := 11) rfl))) (mvT hZ (hw _ (List.mem_of_getElem? (i := 12) rfl))) (mvT hZ (hw _ (List.mem_of_getElem? (i := 13) rfl))) (mvT hZ (hw _ (List.mem_of_getElem? (i := 14) rfl))) (by decide) (backOf (W := 0) (rm3b l Z a0 hw [] b1 (0 : Int32) T9.heap n0 Z9 Fq9 Eq9 g_b1 (by decide)) hZ (hw _ (List.mem_of_getElem? (i := 14) rfl)) (hw _ (List.mem_of_getElem? (i := 13) rfl)) (by decide) (by decide)) (g := (mkF m 130 #[.val (.int p0), .val (.ref b1), .val (.int (255 : Int32)), .val (.int (255 : Int32)), .val (.int (255 : Int32)), .val (.int (255 : Int32)), .val (.int (255 : Int32)), .val (.int (255 : Int32)), .val (.int (0 : Int32)), .val (.int (1 : Int32)), .val (.int (p0 &&& (3 : Int32))), .unset] [(.ref b1)])) rfl (by rw [hml]; rfl) (argsL := [(.ref b1)]) (rest := []) (lenOf own_pd4 rfl) rfl (by show 2 * 0 + _ ≤ _; exact Nat.le_of_eq rfl) (hb hby at_130) (fun _ _ => ⟨rfl, rfl, (by decide : 1 + 0 ≤ _), (by decide : 1 + 0 ≤ _)⟩)
    dsimp only [Pt.U, Pt.locs, Pt.cells, Pt.slots] at X17 l17 y17 z17 st17 hQ17
    subst l17 y17 z17
    obtain ⟨rfl, Nq17, Kq17, Eq17, Fq17⟩ := hQ17
    have N17 := Fr.app N9 Nq17
    have K17 := (K9).trans Kq17 (allS (Or.inr kw_b1) all0)
    have Z17 : n0 ≤ T17.heap.size := Nat.le_trans Z9 Kq17.1
    refine own_st st17 ?_
    show own_Gl _ _ _ _ _ _ _ _ (T17.setTop (mkF m 133 #[.val (.int p0), .val (.ref b1), .val (.int (255 : Int32)), .val (.int (255 : Int32)), .val (.int (255 : Int32)), .val (.int (255 : Int32)), .val (.int (255 : Int32)), .val (.int (255 : Int32)), .val (.int (0 : Int32)), .val (.int (1 : Int32)), .val (.int (p0 &&& (3 : Int32))), .unset] [(.int (0 : Int32))]))
    refine own_st (A' := T17.setTop (mkF m 155 #[.val (.int p0), .val (.ref b1), .val (.int (255 : Int32)), .val (.int (255 : Int32)), .val (.int (255 : Int32)), .val (.int (255 : Int32)), .val (.int (255 : Int32)), .val (.int (255 : Int32)), .val (.int (0 : Int32)), .val (.int (1 : Int32)), .val (.int (p0 &&& (3 : Int32))), .val (.int (0 : Int32))] [(.int (2 : Int32)), (.int (p0 &&& (3 : Int32)))])) (fun tg kt => ?_) ?_
    · show Steps p.tables e below (T17.setTop (mkF m 133 #[.val (.int p0), .val (.ref b1), .val (.int (255 : Int32)), .val (.int (255 : Int32)), .val (.int (255 : Int32)), .val (.int (255 : Int32)), .val (.int (255 : Int32)), .val (.int (255 : Int32)), .val (.int (0 : Int32)), .val (.int (1 : Int32)), .val (.int (p0 &&& (3 : Int32))), .unset] [(.int (0 : Int32))])) _
      refine XS.istore X17.here hx rfl (hb hby at_133) rfl (l' := #[.val (.int p0), .val (.ref b1), .val (.int (255 : Int32)), .val (.int (255 : Int32)), .val (.int (255 : Int32)), .val (.int (255 : Int32)), .val (.int (255 : Int32)), .val (.int (255 : Int32)), .val (.int (0 : Int32)), .val (.int (1 : Int32)), .val (.int (p0 &&& (3 : Int32))), .val (.int (0 : Int32))]) rfl ?_
      show Steps p.tables e below (T17.setTop (mkF m 135 #[.val (.int p0), .val (.ref b1), .val (.int (255 : Int32)), .val (.int (255 : Int32)), .val (.int (255 : Int32)), .val (.int (255 : Int32)), .val (.int (255 : Int32)), .val (.int (255 : Int32)), .val (.int (0 : Int32)), .val (.int (1 : Int32)), .val (.int (p0 &&& (3 : Int32))), .val (.int (0 : Int32))] [])) _
      refine XS.iload X17.here hx rfl (hb hby at_135) rfl ?_
      show Steps p.tables e below (T17.setTop (mkF m 137 #[.val (.int p0), .val (.ref b1), .val (.int (255 : Int32)), .val (.int (255 : Int32)), .val (.int (255 : Int32)), .val (.int (255 : Int32)), .val (.int (255 : Int32)), .val (.int (255 : Int32)), .val (.int (0 : Int32)), .val (.int (1 : Int32)), .val (.int (p0 &&& (3 : Int32))), .val (.int (0 : Int32))] [(.int (1 : Int32))])) _
      refine XS.ifNo X17.here hx rfl (hb hby at_137) rfl ((if0 _ _).trans (feq ((by decide) : ¬ ((1 : Int32) = (0 : Int32)))).1) ?_
      show Steps p.tables e below (T17.setTop (mkF m 140 #[.val (.int p0), .val (.ref b1), .val (.int (255 : Int32)), .val (.int (255 : Int32)), .val (.int (255 : Int32)), .val (.int (255 : Int32)), .val (.int (255 : Int32)), .val (.int (255 : Int32)), .val (.int (0 : Int32)), .val (.int (1 : Int32)), .val (.int (p0 &&& (3 : Int32))), .val (.int (0 : Int32))] [])) _
      refine XS.iload X17.here hx rfl (hb hby at_140) rfl ?_
      show Steps p.tables e below (T17.setTop (mkF m 142 #[.val (.int p0), .val (.ref b1), .val (.int (255 : Int32)), .val (.int (255 : Int32)), .val (.int (255 : Int32)), .val (.int (255 : Int32)), .val (.int (255 : Int32)), .val (.int (255 : Int32)), .val (.int (0 : Int32)), .val (.int (1 : Int32)), .val (.int (p0 &&& (3 : Int32))), .val (.int (0 : Int32))] [(.int (0 : Int32))])) _
      refine XS.ifNo X17.here hx rfl (hb hby at_142) rfl ((if0 _ _).trans (teq ((by decide) : (0 : Int32) = (0 : Int32))).2) ?_
      show Steps p.tables e below (T17.setTop (mkF m 145 #[.val (.int p0), .val (.ref b1), .val (.int (255 : Int32)), .val (.int (255 : Int32)), .val (.int (255 : Int32)), .val (.int (255 : Int32)), .val (.int (255 : Int32)), .val (.int (255 : Int32)), .val (.int (0 : Int32)), .val (.int (1 : Int32)), .val (.int (p0 &&& (3 : Int32))), .val (.int (0 : Int32))] [])) _
      refine XS.iconst X17.here hx rfl (hb hby at_145) ?_
      show Steps p.tables e below (T17.setTop (mkF m 146 #[.val (.int p0), .val (.ref b1), .val (.int (255 : Int32)), .val (.int (255 : Int32)), .val (.int (255 : Int32)), .val (.int (255 : Int32)), .val (.int (255 : Int32)), .val (.int (255 : Int32)), .val (.int (0 : Int32)), .val (.int (1 : Int32)), .val (.int (p0 &&& (3 : Int32))), .val (.int (0 : Int32))] [(.int (1 : Int32))])) _
      refine XS.goto X17.here hx rfl (pc0 := 146) (pc' := 150) rfl (hb hby at_146) (by decide) (by decide) ?_
      show Steps p.tables e below (T17.setTop (mkF m 150 #[.val (.int p0), .val (.ref b1), .val (.int (255 : Int32)), .val (.int (255 : Int32)), .val (.int (255 : Int32)), .val (.int (255 : Int32)), .val (.int (255 : Int32)), .val (.int (255 : Int32)), .val (.int (0 : Int32)), .val (.int (1 : Int32)), .val (.int (p0 &&& (3 : Int32))), .val (.int (0 : Int32))] [(.int (1 : Int32))])) _
      refine XS.istore X17.here hx rfl (hb hby at_150) rfl (l' := #[.val (.int p0), .val (.ref b1), .val (.int (255 : Int32)), .val (.int (255 : Int32)), .val (.int (255 : Int32)), .val (.int (255 : Int32)), .val (.int (255 : Int32)), .val (.int (255 : Int32)), .val (.int (0 : Int32)), .val (.int (1 : Int32)), .val (.int (p0 &&& (3 : Int32))), .val (.int (0 : Int32))]) rfl ?_
      show Steps p.tables e below (T17.setTop (mkF m 152 #[.val (.int p0), .val (.ref b1), .val (.int (255 : Int32)), .val (.int (255 : Int32)), .val (.int (255 : Int32)), .val (.int (255 : Int32)), .val (.int (255 : Int32)), .val (.int (255 : Int32)), .val (.int (0 : Int32)), .val (.int (1 : Int32)), .val (.int (p0 &&& (3 : Int32))), .val (.int (0 : Int32))] [])) _
      refine XS.iload X17.here hx rfl (hb hby at_152) rfl ?_
      show Steps p.tables e below (T17.setTop (mkF m 154 #[.val (.int p0), .val (.ref b1), .val (.int (255 : Int32)), .val (.int (255 : Int32)), .val (.int (255 : Int32)), .val (.int (255 : Int32)), .val (.int (255 : Int32)), .val (.int (255 : Int32)), .val (.int (0 : Int32)), .val (.int (1 : Int32)), .val (.int (p0 &&& (3 : Int32))), .val (.int (0 : Int32))] [(.int (p0 &&& (3 : Int32)))])) _
      refine XS.iconst X17.here hx rfl (hb hby at_154) ?_
      exact kt
    by_cases hc155_18 : (p0 &&& (3 : Int32)) < (2 : Int32)
    · refine own_st (A' := T17.setTop (mkF m 184 #[.val (.int p0), .val (.ref b1), .val (.int (255 : Int32)), .val (.int (255 : Int32)), .val (.int (255 : Int32)), .val (.int (255 : Int32)), .val (.int (255 : Int32)), .val (.int (255 : Int32)), .val (.int (0 : Int32)), .val (.int (1 : Int32)), .val (.int (p0 &&& (3 : Int32))), .val (.int (0 : Int32))] [(.int (3 : Int32)), (.int (p0 &&& (3 : Int32)))])) (fun tg kt => ?_) ?_
      · show Steps p.tables e below (T17.setTop (mkF m 155 #[.val (.int p0), .val (.ref b1), .val (.int (255 : Int32)), .val (.int (255 : Int32)), .val (.int (255 : Int32)), .val (.int (255 : Int32)), .val (.int (255 : Int32)), .val (.int (255 : Int32)), .val (.int (0 : Int32)), .val (.int (1 : Int32)), .val (.int (p0 &&& (3 : Int32))), .val (.int (0 : Int32))] [(.int (2 : Int32)), (.int (p0 &&& (3 : Int32)))])) _
        refine XS.icmpYes X17.here hx rfl (pc0 := 155) (pc' := 181) rfl (hb hby at_155) rfl (tlt hc155_18).1 (by decide) (by decide) ?_
        show Steps p.tables e below (T17.setTop (mkF m 181 #[.val (.int p0), .val (.ref b1), .val (.int (255 : Int32)), .val (.int (255 : Int32)), .val (.int (255 : Int32)), .val (.int (255 : Int32)), .val (.int (255 : Int32)), .val (.int (255 : Int32)), .val (.int (0 : Int32)), .val (.int (1 : Int32)), .val (.int (p0 &&& (3 : Int32))), .val (.int (0 : Int32))] [])) _
        refine XS.iload X17.here hx rfl (hb hby at_181) rfl ?_
        show Steps p.tables e below (T17.setTop (mkF m 183 #[.val (.int p0), .val (.ref b1), .val (.int (255 : Int32)), .val (.int (255 : Int32)), .val (.int (255 : Int32)), .val (.int (255 : Int32)), .val (.int (255 : Int32)), .val (.int (255 : Int32)), .val (.int (0 : Int32)), .val (.int (1 : Int32)), .val (.int (p0 &&& (3 : Int32))), .val (.int (0 : Int32))] [(.int (p0 &&& (3 : Int32)))])) _
        refine XS.iconst X17.here hx rfl (hb hby at_183) ?_
        exact kt
      by_cases hc184_19 : (p0 &&& (3 : Int32)) < (3 : Int32)
      · refine own_st (A' := T17.setTop (mkF m 212 #[.val (.int p0), .val (.ref b1), .val (.int (255 : Int32)), .val (.int (255 : Int32)), .val (.int (255 : Int32)), .val (.int (255 : Int32)), .val (.int (255 : Int32)), .val (.int (255 : Int32)), .val (.int (0 : Int32)), .val (.int (1 : Int32)), .val (.int (p0 &&& (3 : Int32))), .val (.int (0 : Int32))] [(.int (1 : Int32))])) (fun tg kt => ?_) ?_
        · show Steps p.tables e below (T17.setTop (mkF m 184 #[.val (.int p0), .val (.ref b1), .val (.int (255 : Int32)), .val (.int (255 : Int32)), .val (.int (255 : Int32)), .val (.int (255 : Int32)), .val (.int (255 : Int32)), .val (.int (255 : Int32)), .val (.int (0 : Int32)), .val (.int (1 : Int32)), .val (.int (p0 &&& (3 : Int32))), .val (.int (0 : Int32))] [(.int (3 : Int32)), (.int (p0 &&& (3 : Int32)))])) _
          refine XS.icmpYes X17.here hx rfl (pc0 := 184) (pc' := 210) rfl (hb hby at_184) rfl (tlt hc184_19).1 (by decide) (by decide) ?_
          show Steps p.tables e below (T17.setTop (mkF m 210 #[.val (.int p0), .val (.ref b1), .val (.int (255 : Int32)), .val (.int (255 : Int32)), .val (.int (255 : Int32)), .val (.int (255 : Int32)), .val (.int (255 : Int32)), .val (.int (255 : Int32)), .val (.int (0 : Int32)), .val (.int (1 : Int32)), .val (.int (p0 &&& (3 : Int32))), .val (.int (0 : Int32))] [])) _
          refine XS.iload X17.here hx rfl (hb hby at_210) rfl ?_
          exact kt
        refine own_ret X17 (v := some (.int (1 : Int32))) (fun h => by rw [Bd.returns] at h; cases h) hlk (by decide) (by decide) ?_ (fun fs hr => ?_)
        · show Q0 Z p0 h0 n0 (some (.int (1 : Int32))) T17.heap _
          exact ⟨rfl, N17⟩
        · show Steps p.tables e below (T17.setTop (mkF m 212 #[.val (.int p0), .val (.ref b1), .val (.int (255 : Int32)), .val (.int (255 : Int32)), .val (.int (255 : Int32)), .val (.int (255 : Int32)), .val (.int (255 : Int32)), .val (.int (255 : Int32)), .val (.int (0 : Int32)), .val (.int (1 : Int32)), .val (.int (p0 &&& (3 : Int32))), .val (.int (0 : Int32))] [(.int (1 : Int32))])) _
          exact retN X17 hx (t := .boolean) Bd.returns (by simp) (hb hby at_212) hr
      · refine own_st (A' := T17.setTop (mkF m 188 #[.val (.int p0), .val (.ref b1), .val (.int (255 : Int32)), .val (.int (255 : Int32)), .val (.int (255 : Int32)), .val (.int (255 : Int32)), .val (.int (255 : Int32)), .val (.int (255 : Int32)), .val (.int (0 : Int32)), .val (.int (1 : Int32)), .val (.int (p0 &&& (3 : Int32))), .val (.int (0 : Int32))] [(.ref b1)])) (fun tg kt => ?_) ?_
        · show Steps p.tables e below (T17.setTop (mkF m 184 #[.val (.int p0), .val (.ref b1), .val (.int (255 : Int32)), .val (.int (255 : Int32)), .val (.int (255 : Int32)), .val (.int (255 : Int32)), .val (.int (255 : Int32)), .val (.int (255 : Int32)), .val (.int (0 : Int32)), .val (.int (1 : Int32)), .val (.int (p0 &&& (3 : Int32))), .val (.int (0 : Int32))] [(.int (3 : Int32)), (.int (p0 &&& (3 : Int32)))])) _
          refine XS.icmpNo X17.here hx rfl (hb hby at_184) rfl (flt hc184_19).1 ?_
          show Steps p.tables e below (T17.setTop (mkF m 187 #[.val (.int p0), .val (.ref b1), .val (.int (255 : Int32)), .val (.int (255 : Int32)), .val (.int (255 : Int32)), .val (.int (255 : Int32)), .val (.int (255 : Int32)), .val (.int (255 : Int32)), .val (.int (0 : Int32)), .val (.int (1 : Int32)), .val (.int (p0 &&& (3 : Int32))), .val (.int (0 : Int32))] [])) _
          refine XS.aloadN X17.here hx rfl (hb hby at_187) rfl rfl ?_
          exact kt
        obtain ⟨_, _, ⟨T20, L20, k20, n20⟩, -, X20, ⟨Lc20, hQ20, l20, y20, z20⟩, st20⟩ := Jvm.LawKit.callS X17 hx (y := (⟨"com/example/gate_to_tables/gatetotables/adql/translator/BudgetTakePinLaw", "take8", "(Lcom/example/gate_to_tables/gatetotables/adql/translator/RowValues$Budget;)I"⟩ : MethodName)) hown (mvT hZ (hw _ (List.mem_of_getElem? (i := 11) rfl))) (mvT hZ (hw _ (List.mem_of_getElem? (i := 12) rfl))) (mvT hZ (hw _ (List.mem_of_getElem? (i := 13) rfl))) (mvT hZ (hw _ (List.mem_of_getElem? (i := 14) rfl))) (by decide) (backOf (W := 0) (rm3b l Z a0 hw [] b1 (0 : Int32) T17.heap n0 Z17 Fq17 Eq17 g_b1 (by decide)) hZ (hw _ (List.mem_of_getElem? (i := 14) rfl)) (hw _ (List.mem_of_getElem? (i := 13) rfl)) (by decide) (by decide)) (g := (mkF m 188 #[.val (.int p0), .val (.ref b1), .val (.int (255 : Int32)), .val (.int (255 : Int32)), .val (.int (255 : Int32)), .val (.int (255 : Int32)), .val (.int (255 : Int32)), .val (.int (255 : Int32)), .val (.int (0 : Int32)), .val (.int (1 : Int32)), .val (.int (p0 &&& (3 : Int32))), .val (.int (0 : Int32))] [(.ref b1)])) rfl (by rw [hml]; rfl) (argsL := [(.ref b1)]) (rest := []) (lenOf own_pd4 rfl) rfl (by show 2 * 0 + _ ≤ _; exact Nat.le_of_eq rfl) (hb hby at_188) (fun _ _ => ⟨rfl, rfl, (by decide : 1 + 0 ≤ _), (by decide : 1 + 0 ≤ _)⟩)
        dsimp only [Pt.U, Pt.locs, Pt.cells, Pt.slots] at X20 l20 y20 z20 st20 hQ20
        subst l20 y20 z20
        obtain ⟨rfl, Nq20, Kq20, Eq20, Fq20⟩ := hQ20
        have N20 := Fr.app N17 Nq20
        have K20 := (K17).trans Kq20 (allS (Or.inr kw_b1) all0)
        have Z20 : n0 ≤ T20.heap.size := Nat.le_trans Z17 Kq20.1
        refine own_st st20 ?_
        show own_Gl _ _ _ _ _ _ _ _ (T20.setTop (mkF m 191 #[.val (.int p0), .val (.ref b1), .val (.int (255 : Int32)), .val (.int (255 : Int32)), .val (.int (255 : Int32)), .val (.int (255 : Int32)), .val (.int (255 : Int32)), .val (.int (255 : Int32)), .val (.int (0 : Int32)), .val (.int (1 : Int32)), .val (.int (p0 &&& (3 : Int32))), .val (.int (0 : Int32))] [(.int (0 : Int32))]))
        refine own_st (A' := T20.setTop (mkF m 212 #[.val (.int p0), .val (.ref b1), .val (.int (255 : Int32)), .val (.int (255 : Int32)), .val (.int (255 : Int32)), .val (.int (255 : Int32)), .val (.int (255 : Int32)), .val (.int (255 : Int32)), .val (.int (0 : Int32)), .val (.int (1 : Int32)), .val (.int (p0 &&& (3 : Int32))), .val (.int (0 : Int32))] [(.int (1 : Int32))])) (fun tg kt => ?_) ?_
        · show Steps p.tables e below (T20.setTop (mkF m 191 #[.val (.int p0), .val (.ref b1), .val (.int (255 : Int32)), .val (.int (255 : Int32)), .val (.int (255 : Int32)), .val (.int (255 : Int32)), .val (.int (255 : Int32)), .val (.int (255 : Int32)), .val (.int (0 : Int32)), .val (.int (1 : Int32)), .val (.int (p0 &&& (3 : Int32))), .val (.int (0 : Int32))] [(.int (0 : Int32))])) _
          refine XS.istore X20.here hx rfl (hb hby at_191) rfl (l' := #[.val (.int p0), .val (.ref b1), .val (.int (255 : Int32)), .val (.int (255 : Int32)), .val (.int (255 : Int32)), .val (.int (255 : Int32)), .val (.int (255 : Int32)), .val (.int (255 : Int32)), .val (.int (0 : Int32)), .val (.int (1 : Int32)), .val (.int (p0 &&& (3 : Int32))), .val (.int (0 : Int32))]) rfl ?_
          show Steps p.tables e below (T20.setTop (mkF m 193 #[.val (.int p0), .val (.ref b1), .val (.int (255 : Int32)), .val (.int (255 : Int32)), .val (.int (255 : Int32)), .val (.int (255 : Int32)), .val (.int (255 : Int32)), .val (.int (255 : Int32)), .val (.int (0 : Int32)), .val (.int (1 : Int32)), .val (.int (p0 &&& (3 : Int32))), .val (.int (0 : Int32))] [])) _
          refine XS.iload X20.here hx rfl (hb hby at_193) rfl ?_
          show Steps p.tables e below (T20.setTop (mkF m 195 #[.val (.int p0), .val (.ref b1), .val (.int (255 : Int32)), .val (.int (255 : Int32)), .val (.int (255 : Int32)), .val (.int (255 : Int32)), .val (.int (255 : Int32)), .val (.int (255 : Int32)), .val (.int (0 : Int32)), .val (.int (1 : Int32)), .val (.int (p0 &&& (3 : Int32))), .val (.int (0 : Int32))] [(.int (1 : Int32))])) _
          refine XS.ifNo X20.here hx rfl (hb hby at_195) rfl ((if0 _ _).trans (feq ((by decide) : ¬ ((1 : Int32) = (0 : Int32)))).1) ?_
          show Steps p.tables e below (T20.setTop (mkF m 198 #[.val (.int p0), .val (.ref b1), .val (.int (255 : Int32)), .val (.int (255 : Int32)), .val (.int (255 : Int32)), .val (.int (255 : Int32)), .val (.int (255 : Int32)), .val (.int (255 : Int32)), .val (.int (0 : Int32)), .val (.int (1 : Int32)), .val (.int (p0 &&& (3 : Int32))), .val (.int (0 : Int32))] [])) _
          refine XS.iload X20.here hx rfl (hb hby at_198) rfl ?_
          show Steps p.tables e below (T20.setTop (mkF m 200 #[.val (.int p0), .val (.ref b1), .val (.int (255 : Int32)), .val (.int (255 : Int32)), .val (.int (255 : Int32)), .val (.int (255 : Int32)), .val (.int (255 : Int32)), .val (.int (255 : Int32)), .val (.int (0 : Int32)), .val (.int (1 : Int32)), .val (.int (p0 &&& (3 : Int32))), .val (.int (0 : Int32))] [(.int (0 : Int32))])) _
          refine XS.ifNo X20.here hx rfl (hb hby at_200) rfl ((if0 _ _).trans (teq ((by decide) : (0 : Int32) = (0 : Int32))).2) ?_
          show Steps p.tables e below (T20.setTop (mkF m 203 #[.val (.int p0), .val (.ref b1), .val (.int (255 : Int32)), .val (.int (255 : Int32)), .val (.int (255 : Int32)), .val (.int (255 : Int32)), .val (.int (255 : Int32)), .val (.int (255 : Int32)), .val (.int (0 : Int32)), .val (.int (1 : Int32)), .val (.int (p0 &&& (3 : Int32))), .val (.int (0 : Int32))] [])) _
          refine XS.iconst X20.here hx rfl (hb hby at_203) ?_
          show Steps p.tables e below (T20.setTop (mkF m 204 #[.val (.int p0), .val (.ref b1), .val (.int (255 : Int32)), .val (.int (255 : Int32)), .val (.int (255 : Int32)), .val (.int (255 : Int32)), .val (.int (255 : Int32)), .val (.int (255 : Int32)), .val (.int (0 : Int32)), .val (.int (1 : Int32)), .val (.int (p0 &&& (3 : Int32))), .val (.int (0 : Int32))] [(.int (1 : Int32))])) _
          refine XS.goto X20.here hx rfl (pc0 := 204) (pc' := 208) rfl (hb hby at_204) (by decide) (by decide) ?_
          show Steps p.tables e below (T20.setTop (mkF m 208 #[.val (.int p0), .val (.ref b1), .val (.int (255 : Int32)), .val (.int (255 : Int32)), .val (.int (255 : Int32)), .val (.int (255 : Int32)), .val (.int (255 : Int32)), .val (.int (255 : Int32)), .val (.int (0 : Int32)), .val (.int (1 : Int32)), .val (.int (p0 &&& (3 : Int32))), .val (.int (0 : Int32))] [(.int (1 : Int32))])) _
          refine XS.istore X20.here hx rfl (hb hby at_208) rfl (l' := #[.val (.int p0), .val (.ref b1), .val (.int (255 : Int32)), .val (.int (255 : Int32)), .val (.int (255 : Int32)), .val (.int (255 : Int32)), .val (.int (255 : Int32)), .val (.int (255 : Int32)), .val (.int (0 : Int32)), .val (.int (1 : Int32)), .val (.int (p0 &&& (3 : Int32))), .val (.int (0 : Int32))]) rfl ?_
          show Steps p.tables e below (T20.setTop (mkF m 210 #[.val (.int p0), .val (.ref b1), .val (.int (255 : Int32)), .val (.int (255 : Int32)), .val (.int (255 : Int32)), .val (.int (255 : Int32)), .val (.int (255 : Int32)), .val (.int (255 : Int32)), .val (.int (0 : Int32)), .val (.int (1 : Int32)), .val (.int (p0 &&& (3 : Int32))), .val (.int (0 : Int32))] [])) _
          refine XS.iload X20.here hx rfl (hb hby at_210) rfl ?_
          exact kt
        refine own_ret X20 (v := some (.int (1 : Int32))) (fun h => by rw [Bd.returns] at h; cases h) hlk (by decide) (by decide) ?_ (fun fs hr => ?_)
        · show Q0 Z p0 h0 n0 (some (.int (1 : Int32))) T20.heap _
          exact ⟨rfl, N20⟩
        · show Steps p.tables e below (T20.setTop (mkF m 212 #[.val (.int p0), .val (.ref b1), .val (.int (255 : Int32)), .val (.int (255 : Int32)), .val (.int (255 : Int32)), .val (.int (255 : Int32)), .val (.int (255 : Int32)), .val (.int (255 : Int32)), .val (.int (0 : Int32)), .val (.int (1 : Int32)), .val (.int (p0 &&& (3 : Int32))), .val (.int (0 : Int32))] [(.int (1 : Int32))])) _
          exact retN X20 hx (t := .boolean) Bd.returns (by simp) (hb hby at_212) hr
    · refine own_st (A' := T17.setTop (mkF m 159 #[.val (.int p0), .val (.ref b1), .val (.int (255 : Int32)), .val (.int (255 : Int32)), .val (.int (255 : Int32)), .val (.int (255 : Int32)), .val (.int (255 : Int32)), .val (.int (255 : Int32)), .val (.int (0 : Int32)), .val (.int (1 : Int32)), .val (.int (p0 &&& (3 : Int32))), .val (.int (0 : Int32))] [(.ref b1)])) (fun tg kt => ?_) ?_
      · show Steps p.tables e below (T17.setTop (mkF m 155 #[.val (.int p0), .val (.ref b1), .val (.int (255 : Int32)), .val (.int (255 : Int32)), .val (.int (255 : Int32)), .val (.int (255 : Int32)), .val (.int (255 : Int32)), .val (.int (255 : Int32)), .val (.int (0 : Int32)), .val (.int (1 : Int32)), .val (.int (p0 &&& (3 : Int32))), .val (.int (0 : Int32))] [(.int (2 : Int32)), (.int (p0 &&& (3 : Int32)))])) _
        refine XS.icmpNo X17.here hx rfl (hb hby at_155) rfl (flt hc155_18).1 ?_
        show Steps p.tables e below (T17.setTop (mkF m 158 #[.val (.int p0), .val (.ref b1), .val (.int (255 : Int32)), .val (.int (255 : Int32)), .val (.int (255 : Int32)), .val (.int (255 : Int32)), .val (.int (255 : Int32)), .val (.int (255 : Int32)), .val (.int (0 : Int32)), .val (.int (1 : Int32)), .val (.int (p0 &&& (3 : Int32))), .val (.int (0 : Int32))] [])) _
        refine XS.aloadN X17.here hx rfl (hb hby at_158) rfl rfl ?_
        exact kt
      obtain ⟨_, _, ⟨T21, L21, k21, n21⟩, -, X21, ⟨Lc21, hQ21, l21, y21, z21⟩, st21⟩ := Jvm.LawKit.callS X17 hx (y := (⟨"com/example/gate_to_tables/gatetotables/adql/translator/BudgetTakePinLaw", "take8", "(Lcom/example/gate_to_tables/gatetotables/adql/translator/RowValues$Budget;)I"⟩ : MethodName)) hown (mvT hZ (hw _ (List.mem_of_getElem? (i := 11) rfl))) (mvT hZ (hw _ (List.mem_of_getElem? (i := 12) rfl))) (mvT hZ (hw _ (List.mem_of_getElem? (i := 13) rfl))) (mvT hZ (hw _ (List.mem_of_getElem? (i := 14) rfl))) (by decide) (backOf (W := 0) (rm3b l Z a0 hw [] b1 (0 : Int32) T17.heap n0 Z17 Fq17 Eq17 g_b1 (by decide)) hZ (hw _ (List.mem_of_getElem? (i := 14) rfl)) (hw _ (List.mem_of_getElem? (i := 13) rfl)) (by decide) (by decide)) (g := (mkF m 159 #[.val (.int p0), .val (.ref b1), .val (.int (255 : Int32)), .val (.int (255 : Int32)), .val (.int (255 : Int32)), .val (.int (255 : Int32)), .val (.int (255 : Int32)), .val (.int (255 : Int32)), .val (.int (0 : Int32)), .val (.int (1 : Int32)), .val (.int (p0 &&& (3 : Int32))), .val (.int (0 : Int32))] [(.ref b1)])) rfl (by rw [hml]; rfl) (argsL := [(.ref b1)]) (rest := []) (lenOf own_pd4 rfl) rfl (by show 2 * 0 + _ ≤ _; exact Nat.le_of_eq rfl) (hb hby at_159) (fun _ _ => ⟨rfl, rfl, (by decide : 1 + 0 ≤ _), (by decide : 1 + 0 ≤ _)⟩)
      dsimp only [Pt.U, Pt.locs, Pt.cells, Pt.slots] at X21 l21 y21 z21 st21 hQ21
      subst l21 y21 z21
      obtain ⟨rfl, Nq21, Kq21, Eq21, Fq21⟩ := hQ21
      have N21 := Fr.app N17 Nq21
      have K21 := (K17).trans Kq21 (allS (Or.inr kw_b1) all0)
      have Z21 : n0 ≤ T21.heap.size := Nat.le_trans Z17 Kq21.1
      refine own_st st21 ?_
      show own_Gl _ _ _ _ _ _ _ _ (T21.setTop (mkF m 162 #[.val (.int p0), .val (.ref b1), .val (.int (255 : Int32)), .val (.int (255 : Int32)), .val (.int (255 : Int32)), .val (.int (255 : Int32)), .val (.int (255 : Int32)), .val (.int (255 : Int32)), .val (.int (0 : Int32)), .val (.int (1 : Int32)), .val (.int (p0 &&& (3 : Int32))), .val (.int (0 : Int32))] [(.int (0 : Int32))]))
      refine own_st (A' := T21.setTop (mkF m 184 #[.val (.int p0), .val (.ref b1), .val (.int (255 : Int32)), .val (.int (255 : Int32)), .val (.int (255 : Int32)), .val (.int (255 : Int32)), .val (.int (255 : Int32)), .val (.int (255 : Int32)), .val (.int (0 : Int32)), .val (.int (1 : Int32)), .val (.int (p0 &&& (3 : Int32))), .val (.int (0 : Int32))] [(.int (3 : Int32)), (.int (p0 &&& (3 : Int32)))])) (fun tg kt => ?_) ?_
      · show Steps p.tables e below (T21.setTop (mkF m 162 #[.val (.int p0), .val (.ref b1), .val (.int (255 : Int32)), .val (.int (255 : Int32)), .val (.int (255 : Int32)), .val (.int (255 : Int32)), .val (.int (255 : Int32)), .val (.int (255 : Int32)), .val (.int (0 : Int32)), .val (.int (1 : Int32)), .val (.int (p0 &&& (3 : Int32))), .val (.int (0 : Int32))] [(.int (0 : Int32))])) _
        refine XS.istore X21.here hx rfl (hb hby at_162) rfl (l' := #[.val (.int p0), .val (.ref b1), .val (.int (255 : Int32)), .val (.int (255 : Int32)), .val (.int (255 : Int32)), .val (.int (255 : Int32)), .val (.int (255 : Int32)), .val (.int (255 : Int32)), .val (.int (0 : Int32)), .val (.int (1 : Int32)), .val (.int (p0 &&& (3 : Int32))), .val (.int (0 : Int32))]) rfl ?_
        show Steps p.tables e below (T21.setTop (mkF m 164 #[.val (.int p0), .val (.ref b1), .val (.int (255 : Int32)), .val (.int (255 : Int32)), .val (.int (255 : Int32)), .val (.int (255 : Int32)), .val (.int (255 : Int32)), .val (.int (255 : Int32)), .val (.int (0 : Int32)), .val (.int (1 : Int32)), .val (.int (p0 &&& (3 : Int32))), .val (.int (0 : Int32))] [])) _
        refine XS.iload X21.here hx rfl (hb hby at_164) rfl ?_
        show Steps p.tables e below (T21.setTop (mkF m 166 #[.val (.int p0), .val (.ref b1), .val (.int (255 : Int32)), .val (.int (255 : Int32)), .val (.int (255 : Int32)), .val (.int (255 : Int32)), .val (.int (255 : Int32)), .val (.int (255 : Int32)), .val (.int (0 : Int32)), .val (.int (1 : Int32)), .val (.int (p0 &&& (3 : Int32))), .val (.int (0 : Int32))] [(.int (1 : Int32))])) _
        refine XS.ifNo X21.here hx rfl (hb hby at_166) rfl ((if0 _ _).trans (feq ((by decide) : ¬ ((1 : Int32) = (0 : Int32)))).1) ?_
        show Steps p.tables e below (T21.setTop (mkF m 169 #[.val (.int p0), .val (.ref b1), .val (.int (255 : Int32)), .val (.int (255 : Int32)), .val (.int (255 : Int32)), .val (.int (255 : Int32)), .val (.int (255 : Int32)), .val (.int (255 : Int32)), .val (.int (0 : Int32)), .val (.int (1 : Int32)), .val (.int (p0 &&& (3 : Int32))), .val (.int (0 : Int32))] [])) _
        refine XS.iload X21.here hx rfl (hb hby at_169) rfl ?_
        show Steps p.tables e below (T21.setTop (mkF m 171 #[.val (.int p0), .val (.ref b1), .val (.int (255 : Int32)), .val (.int (255 : Int32)), .val (.int (255 : Int32)), .val (.int (255 : Int32)), .val (.int (255 : Int32)), .val (.int (255 : Int32)), .val (.int (0 : Int32)), .val (.int (1 : Int32)), .val (.int (p0 &&& (3 : Int32))), .val (.int (0 : Int32))] [(.int (0 : Int32))])) _
        refine XS.ifNo X21.here hx rfl (hb hby at_171) rfl ((if0 _ _).trans (teq ((by decide) : (0 : Int32) = (0 : Int32))).2) ?_
        show Steps p.tables e below (T21.setTop (mkF m 174 #[.val (.int p0), .val (.ref b1), .val (.int (255 : Int32)), .val (.int (255 : Int32)), .val (.int (255 : Int32)), .val (.int (255 : Int32)), .val (.int (255 : Int32)), .val (.int (255 : Int32)), .val (.int (0 : Int32)), .val (.int (1 : Int32)), .val (.int (p0 &&& (3 : Int32))), .val (.int (0 : Int32))] [])) _
        refine XS.iconst X21.here hx rfl (hb hby at_174) ?_
        show Steps p.tables e below (T21.setTop (mkF m 175 #[.val (.int p0), .val (.ref b1), .val (.int (255 : Int32)), .val (.int (255 : Int32)), .val (.int (255 : Int32)), .val (.int (255 : Int32)), .val (.int (255 : Int32)), .val (.int (255 : Int32)), .val (.int (0 : Int32)), .val (.int (1 : Int32)), .val (.int (p0 &&& (3 : Int32))), .val (.int (0 : Int32))] [(.int (1 : Int32))])) _
        refine XS.goto X21.here hx rfl (pc0 := 175) (pc' := 179) rfl (hb hby at_175) (by decide) (by decide) ?_
        show Steps p.tables e below (T21.setTop (mkF m 179 #[.val (.int p0), .val (.ref b1), .val (.int (255 : Int32)), .val (.int (255 : Int32)), .val (.int (255 : Int32)), .val (.int (255 : Int32)), .val (.int (255 : Int32)), .val (.int (255 : Int32)), .val (.int (0 : Int32)), .val (.int (1 : Int32)), .val (.int (p0 &&& (3 : Int32))), .val (.int (0 : Int32))] [(.int (1 : Int32))])) _
        refine XS.istore X21.here hx rfl (hb hby at_179) rfl (l' := #[.val (.int p0), .val (.ref b1), .val (.int (255 : Int32)), .val (.int (255 : Int32)), .val (.int (255 : Int32)), .val (.int (255 : Int32)), .val (.int (255 : Int32)), .val (.int (255 : Int32)), .val (.int (0 : Int32)), .val (.int (1 : Int32)), .val (.int (p0 &&& (3 : Int32))), .val (.int (0 : Int32))]) rfl ?_
        show Steps p.tables e below (T21.setTop (mkF m 181 #[.val (.int p0), .val (.ref b1), .val (.int (255 : Int32)), .val (.int (255 : Int32)), .val (.int (255 : Int32)), .val (.int (255 : Int32)), .val (.int (255 : Int32)), .val (.int (255 : Int32)), .val (.int (0 : Int32)), .val (.int (1 : Int32)), .val (.int (p0 &&& (3 : Int32))), .val (.int (0 : Int32))] [])) _
        refine XS.iload X21.here hx rfl (hb hby at_181) rfl ?_
        show Steps p.tables e below (T21.setTop (mkF m 183 #[.val (.int p0), .val (.ref b1), .val (.int (255 : Int32)), .val (.int (255 : Int32)), .val (.int (255 : Int32)), .val (.int (255 : Int32)), .val (.int (255 : Int32)), .val (.int (255 : Int32)), .val (.int (0 : Int32)), .val (.int (1 : Int32)), .val (.int (p0 &&& (3 : Int32))), .val (.int (0 : Int32))] [(.int (p0 &&& (3 : Int32)))])) _
        refine XS.iconst X21.here hx rfl (hb hby at_183) ?_
        exact kt
      by_cases hc184_22 : (p0 &&& (3 : Int32)) < (3 : Int32)
      · refine own_st (A' := T21.setTop (mkF m 212 #[.val (.int p0), .val (.ref b1), .val (.int (255 : Int32)), .val (.int (255 : Int32)), .val (.int (255 : Int32)), .val (.int (255 : Int32)), .val (.int (255 : Int32)), .val (.int (255 : Int32)), .val (.int (0 : Int32)), .val (.int (1 : Int32)), .val (.int (p0 &&& (3 : Int32))), .val (.int (0 : Int32))] [(.int (1 : Int32))])) (fun tg kt => ?_) ?_
        · show Steps p.tables e below (T21.setTop (mkF m 184 #[.val (.int p0), .val (.ref b1), .val (.int (255 : Int32)), .val (.int (255 : Int32)), .val (.int (255 : Int32)), .val (.int (255 : Int32)), .val (.int (255 : Int32)), .val (.int (255 : Int32)), .val (.int (0 : Int32)), .val (.int (1 : Int32)), .val (.int (p0 &&& (3 : Int32))), .val (.int (0 : Int32))] [(.int (3 : Int32)), (.int (p0 &&& (3 : Int32)))])) _
          refine XS.icmpYes X21.here hx rfl (pc0 := 184) (pc' := 210) rfl (hb hby at_184) rfl (tlt hc184_22).1 (by decide) (by decide) ?_
          show Steps p.tables e below (T21.setTop (mkF m 210 #[.val (.int p0), .val (.ref b1), .val (.int (255 : Int32)), .val (.int (255 : Int32)), .val (.int (255 : Int32)), .val (.int (255 : Int32)), .val (.int (255 : Int32)), .val (.int (255 : Int32)), .val (.int (0 : Int32)), .val (.int (1 : Int32)), .val (.int (p0 &&& (3 : Int32))), .val (.int (0 : Int32))] [])) _
          refine XS.iload X21.here hx rfl (hb hby at_210) rfl ?_
          exact kt
        refine own_ret X21 (v := some (.int (1 : Int32))) (fun h => by rw [Bd.returns] at h; cases h) hlk (by decide) (by decide) ?_ (fun fs hr => ?_)
        · show Q0 Z p0 h0 n0 (some (.int (1 : Int32))) T21.heap _
          exact ⟨rfl, N21⟩
        · show Steps p.tables e below (T21.setTop (mkF m 212 #[.val (.int p0), .val (.ref b1), .val (.int (255 : Int32)), .val (.int (255 : Int32)), .val (.int (255 : Int32)), .val (.int (255 : Int32)), .val (.int (255 : Int32)), .val (.int (255 : Int32)), .val (.int (0 : Int32)), .val (.int (1 : Int32)), .val (.int (p0 &&& (3 : Int32))), .val (.int (0 : Int32))] [(.int (1 : Int32))])) _
          exact retN X21 hx (t := .boolean) Bd.returns (by simp) (hb hby at_212) hr
      · refine own_st (A' := T21.setTop (mkF m 188 #[.val (.int p0), .val (.ref b1), .val (.int (255 : Int32)), .val (.int (255 : Int32)), .val (.int (255 : Int32)), .val (.int (255 : Int32)), .val (.int (255 : Int32)), .val (.int (255 : Int32)), .val (.int (0 : Int32)), .val (.int (1 : Int32)), .val (.int (p0 &&& (3 : Int32))), .val (.int (0 : Int32))] [(.ref b1)])) (fun tg kt => ?_) ?_
        · show Steps p.tables e below (T21.setTop (mkF m 184 #[.val (.int p0), .val (.ref b1), .val (.int (255 : Int32)), .val (.int (255 : Int32)), .val (.int (255 : Int32)), .val (.int (255 : Int32)), .val (.int (255 : Int32)), .val (.int (255 : Int32)), .val (.int (0 : Int32)), .val (.int (1 : Int32)), .val (.int (p0 &&& (3 : Int32))), .val (.int (0 : Int32))] [(.int (3 : Int32)), (.int (p0 &&& (3 : Int32)))])) _
          refine XS.icmpNo X21.here hx rfl (hb hby at_184) rfl (flt hc184_22).1 ?_
          show Steps p.tables e below (T21.setTop (mkF m 187 #[.val (.int p0), .val (.ref b1), .val (.int (255 : Int32)), .val (.int (255 : Int32)), .val (.int (255 : Int32)), .val (.int (255 : Int32)), .val (.int (255 : Int32)), .val (.int (255 : Int32)), .val (.int (0 : Int32)), .val (.int (1 : Int32)), .val (.int (p0 &&& (3 : Int32))), .val (.int (0 : Int32))] [])) _
          refine XS.aloadN X21.here hx rfl (hb hby at_187) rfl rfl ?_
          exact kt
        obtain ⟨_, _, ⟨T23, L23, k23, n23⟩, -, X23, ⟨Lc23, hQ23, l23, y23, z23⟩, st23⟩ := Jvm.LawKit.callS X21 hx (y := (⟨"com/example/gate_to_tables/gatetotables/adql/translator/BudgetTakePinLaw", "take8", "(Lcom/example/gate_to_tables/gatetotables/adql/translator/RowValues$Budget;)I"⟩ : MethodName)) hown (mvT hZ (hw _ (List.mem_of_getElem? (i := 11) rfl))) (mvT hZ (hw _ (List.mem_of_getElem? (i := 12) rfl))) (mvT hZ (hw _ (List.mem_of_getElem? (i := 13) rfl))) (mvT hZ (hw _ (List.mem_of_getElem? (i := 14) rfl))) (by decide) (backOf (W := 0) (rm3b l Z a0 hw [] b1 (0 : Int32) T21.heap n0 Z21 Fq21 Eq21 g_b1 (by decide)) hZ (hw _ (List.mem_of_getElem? (i := 14) rfl)) (hw _ (List.mem_of_getElem? (i := 13) rfl)) (by decide) (by decide)) (g := (mkF m 188 #[.val (.int p0), .val (.ref b1), .val (.int (255 : Int32)), .val (.int (255 : Int32)), .val (.int (255 : Int32)), .val (.int (255 : Int32)), .val (.int (255 : Int32)), .val (.int (255 : Int32)), .val (.int (0 : Int32)), .val (.int (1 : Int32)), .val (.int (p0 &&& (3 : Int32))), .val (.int (0 : Int32))] [(.ref b1)])) rfl (by rw [hml]; rfl) (argsL := [(.ref b1)]) (rest := []) (lenOf own_pd4 rfl) rfl (by show 2 * 0 + _ ≤ _; exact Nat.le_of_eq rfl) (hb hby at_188) (fun _ _ => ⟨rfl, rfl, (by decide : 1 + 0 ≤ _), (by decide : 1 + 0 ≤ _)⟩)
        dsimp only [Pt.U, Pt.locs, Pt.cells, Pt.slots] at X23 l23 y23 z23 st23 hQ23
        subst l23 y23 z23
        obtain ⟨rfl, Nq23, Kq23, Eq23, Fq23⟩ := hQ23
        have N23 := Fr.app N21 Nq23
        have K23 := (K21).trans Kq23 (allS (Or.inr kw_b1) all0)
        have Z23 : n0 ≤ T23.heap.size := Nat.le_trans Z21 Kq23.1
        refine own_st st23 ?_
        show own_Gl _ _ _ _ _ _ _ _ (T23.setTop (mkF m 191 #[.val (.int p0), .val (.ref b1), .val (.int (255 : Int32)), .val (.int (255 : Int32)), .val (.int (255 : Int32)), .val (.int (255 : Int32)), .val (.int (255 : Int32)), .val (.int (255 : Int32)), .val (.int (0 : Int32)), .val (.int (1 : Int32)), .val (.int (p0 &&& (3 : Int32))), .val (.int (0 : Int32))] [(.int (0 : Int32))]))
        refine own_st (A' := T23.setTop (mkF m 212 #[.val (.int p0), .val (.ref b1), .val (.int (255 : Int32)), .val (.int (255 : Int32)), .val (.int (255 : Int32)), .val (.int (255 : Int32)), .val (.int (255 : Int32)), .val (.int (255 : Int32)), .val (.int (0 : Int32)), .val (.int (1 : Int32)), .val (.int (p0 &&& (3 : Int32))), .val (.int (0 : Int32))] [(.int (1 : Int32))])) (fun tg kt => ?_) ?_
        · show Steps p.tables e below (T23.setTop (mkF m 191 #[.val (.int p0), .val (.ref b1), .val (.int (255 : Int32)), .val (.int (255 : Int32)), .val (.int (255 : Int32)), .val (.int (255 : Int32)), .val (.int (255 : Int32)), .val (.int (255 : Int32)), .val (.int (0 : Int32)), .val (.int (1 : Int32)), .val (.int (p0 &&& (3 : Int32))), .val (.int (0 : Int32))] [(.int (0 : Int32))])) _
          refine XS.istore X23.here hx rfl (hb hby at_191) rfl (l' := #[.val (.int p0), .val (.ref b1), .val (.int (255 : Int32)), .val (.int (255 : Int32)), .val (.int (255 : Int32)), .val (.int (255 : Int32)), .val (.int (255 : Int32)), .val (.int (255 : Int32)), .val (.int (0 : Int32)), .val (.int (1 : Int32)), .val (.int (p0 &&& (3 : Int32))), .val (.int (0 : Int32))]) rfl ?_
          show Steps p.tables e below (T23.setTop (mkF m 193 #[.val (.int p0), .val (.ref b1), .val (.int (255 : Int32)), .val (.int (255 : Int32)), .val (.int (255 : Int32)), .val (.int (255 : Int32)), .val (.int (255 : Int32)), .val (.int (255 : Int32)), .val (.int (0 : Int32)), .val (.int (1 : Int32)), .val (.int (p0 &&& (3 : Int32))), .val (.int (0 : Int32))] [])) _
          refine XS.iload X23.here hx rfl (hb hby at_193) rfl ?_
          show Steps p.tables e below (T23.setTop (mkF m 195 #[.val (.int p0), .val (.ref b1), .val (.int (255 : Int32)), .val (.int (255 : Int32)), .val (.int (255 : Int32)), .val (.int (255 : Int32)), .val (.int (255 : Int32)), .val (.int (255 : Int32)), .val (.int (0 : Int32)), .val (.int (1 : Int32)), .val (.int (p0 &&& (3 : Int32))), .val (.int (0 : Int32))] [(.int (1 : Int32))])) _
          refine XS.ifNo X23.here hx rfl (hb hby at_195) rfl ((if0 _ _).trans (feq ((by decide) : ¬ ((1 : Int32) = (0 : Int32)))).1) ?_
          show Steps p.tables e below (T23.setTop (mkF m 198 #[.val (.int p0), .val (.ref b1), .val (.int (255 : Int32)), .val (.int (255 : Int32)), .val (.int (255 : Int32)), .val (.int (255 : Int32)), .val (.int (255 : Int32)), .val (.int (255 : Int32)), .val (.int (0 : Int32)), .val (.int (1 : Int32)), .val (.int (p0 &&& (3 : Int32))), .val (.int (0 : Int32))] [])) _
          refine XS.iload X23.here hx rfl (hb hby at_198) rfl ?_
          show Steps p.tables e below (T23.setTop (mkF m 200 #[.val (.int p0), .val (.ref b1), .val (.int (255 : Int32)), .val (.int (255 : Int32)), .val (.int (255 : Int32)), .val (.int (255 : Int32)), .val (.int (255 : Int32)), .val (.int (255 : Int32)), .val (.int (0 : Int32)), .val (.int (1 : Int32)), .val (.int (p0 &&& (3 : Int32))), .val (.int (0 : Int32))] [(.int (0 : Int32))])) _
          refine XS.ifNo X23.here hx rfl (hb hby at_200) rfl ((if0 _ _).trans (teq ((by decide) : (0 : Int32) = (0 : Int32))).2) ?_
          show Steps p.tables e below (T23.setTop (mkF m 203 #[.val (.int p0), .val (.ref b1), .val (.int (255 : Int32)), .val (.int (255 : Int32)), .val (.int (255 : Int32)), .val (.int (255 : Int32)), .val (.int (255 : Int32)), .val (.int (255 : Int32)), .val (.int (0 : Int32)), .val (.int (1 : Int32)), .val (.int (p0 &&& (3 : Int32))), .val (.int (0 : Int32))] [])) _
          refine XS.iconst X23.here hx rfl (hb hby at_203) ?_
          show Steps p.tables e below (T23.setTop (mkF m 204 #[.val (.int p0), .val (.ref b1), .val (.int (255 : Int32)), .val (.int (255 : Int32)), .val (.int (255 : Int32)), .val (.int (255 : Int32)), .val (.int (255 : Int32)), .val (.int (255 : Int32)), .val (.int (0 : Int32)), .val (.int (1 : Int32)), .val (.int (p0 &&& (3 : Int32))), .val (.int (0 : Int32))] [(.int (1 : Int32))])) _
          refine XS.goto X23.here hx rfl (pc0 := 204) (pc' := 208) rfl (hb hby at_204) (by decide) (by decide) ?_
          show Steps p.tables e below (T23.setTop (mkF m 208 #[.val (.int p0), .val (.ref b1), .val (.int (255 : Int32)), .val (.int (255 : Int32)), .val (.int (255 : Int32)), .val (.int (255 : Int32)), .val (.int (255 : Int32)), .val (.int (255 : Int32)), .val (.int (0 : Int32)), .val (.int (1 : Int32)), .val (.int (p0 &&& (3 : Int32))), .val (.int (0 : Int32))] [(.int (1 : Int32))])) _
          refine XS.istore X23.here hx rfl (hb hby at_208) rfl (l' := #[.val (.int p0), .val (.ref b1), .val (.int (255 : Int32)), .val (.int (255 : Int32)), .val (.int (255 : Int32)), .val (.int (255 : Int32)), .val (.int (255 : Int32)), .val (.int (255 : Int32)), .val (.int (0 : Int32)), .val (.int (1 : Int32)), .val (.int (p0 &&& (3 : Int32))), .val (.int (0 : Int32))]) rfl ?_
          show Steps p.tables e below (T23.setTop (mkF m 210 #[.val (.int p0), .val (.ref b1), .val (.int (255 : Int32)), .val (.int (255 : Int32)), .val (.int (255 : Int32)), .val (.int (255 : Int32)), .val (.int (255 : Int32)), .val (.int (255 : Int32)), .val (.int (0 : Int32)), .val (.int (1 : Int32)), .val (.int (p0 &&& (3 : Int32))), .val (.int (0 : Int32))] [])) _
          refine XS.iload X23.here hx rfl (hb hby at_210) rfl ?_
          exact kt
        refine own_ret X23 (v := some (.int (1 : Int32))) (fun h => by rw [Bd.returns] at h; cases h) hlk (by decide) (by decide) ?_ (fun fs hr => ?_)
        · show Q0 Z p0 h0 n0 (some (.int (1 : Int32))) T23.heap _
          exact ⟨rfl, N23⟩
        · show Steps p.tables e below (T23.setTop (mkF m 212 #[.val (.int p0), .val (.ref b1), .val (.int (255 : Int32)), .val (.int (255 : Int32)), .val (.int (255 : Int32)), .val (.int (255 : Int32)), .val (.int (255 : Int32)), .val (.int (255 : Int32)), .val (.int (0 : Int32)), .val (.int (1 : Int32)), .val (.int (p0 &&& (3 : Int32))), .val (.int (0 : Int32))] [(.int (1 : Int32))])) _
          exact retN X23 hx (t := .boolean) Bd.returns (by simp) (hb hby at_212) hr
set_option maxRecDepth 65536 in
set_option maxHeartbeats 40000000 in
theorem comes_1 {Post : Tables → Env → Array Value → State → Outcome → State → Prop} (hpost : ∀ tb e args s v u, (limb_1_1.after args s (.returned v) u = true ∧ limb_1_2.after args s (.returned v) u = true ∧ True) → FrameEnd s (.returned v) u (Jvm.fieldLocs frame_1_writes args s ++ Jvm.arrayLocs frame_1_arrays args s ++ Jvm.staticLocs frame_1_statics s) 16 128 → Post tb e args s (.returned v) u) :
    ArmFor flags0 classFile x code maxLocals ret World_1 tables_1 room_1 Calls_1 rest_1 Pre_1 Post := by
  intro l hfl _ _ p e ha hc hk s m args below hf hA hF happ hP
  obtain ⟨hcalls, hrest, hpre⟩ := hP
  obtain ⟨-, -, -, hnamed, -, -, -, hat⟩ := (Spec.applies_iff hf).mp happ
  obtain ⟨hg, hn⟩ := and_e (Cond.before_iff.mp (show (Jvm.Cond.and given_1 narrow_1).before args s = true from hpre))
  obtain ⟨gg1, gg2⟩ := and_e hg
  obtain ⟨w0, rfl⟩ : ∃ w0 : Value, args = #[w0] := by
    have hs : args.size = 1 := by simpa [Cond.value, given_1] using gg1
    obtain ⟨L⟩ := args
    match L, hs with
    | [w0], _ => exact ⟨w0, rfl⟩
  have hw := fun d (hd : d ∈ tables_1) => atoms_spec (ws := Jvm.Cond.code x code maxLocals ret :: tables_1) hat d (List.mem_cons_of_mem _ hd)
  have hfit : Fit s := fun {y c} hc i hi => by
    obtain ⟨ha, rfl⟩ := Array.getElem?_eq_some_iff.mp hc
    have q := List.all_eq_true.mp ((Array.all_eq_true_iff_forall_mem.mp hF) _ (Array.getElem_mem ha)) i (List.mem_range.mpr hi)
    simpa [Array.getElem?_eq_getElem hi] using q
  obtain ⟨i0, ei0⟩ := is_v gg2
  obtain rfl : w0 = (.int i0) := Option.some.inj ei0
  obtain ⟨n, o, h1, h2, h3, _, L, rfl, ⟨rfl, N⟩, hq⟩ := rm0 l s _ hw tables_1 i0 s.heap s.heap.size (Nat.le_refl _)  p e ha hc hk s m _ below hf ((Spec.applies_iff_loose hf).mp happ).1 ⟨rfl, State.Warmed39.refl s, rfl⟩ trivial
  refine ⟨n, _, h1, h2, h3, hpost _ _ _ _ _ _ ⟨Cond.after_iff.mpr rfl, Cond.after_iff.mpr (eq_i res_at (Term.int_eval (1)) rfl), trivial⟩ ⟨hq.1, hq.2.1, (hq.2.2.sift fun y hy => Or.inr (N y hy)).mono (by decide) (by decide)⟩⟩
theorem main_1_1 : Claimed_1_1 := comes_1 fun _ _ _ _ _ _ h hF => ⟨h.1, hF⟩
theorem main_1_2 : Claimed_1_2 := comes_1 fun _ _ _ _ _ _ h hF => ⟨h.2.1, hF⟩
end Jvm.Pilot.@@N@@
namespace Jvm.Pilot.@@N@@
open Jvm Jvm.ClassFile Sem Op Lib Jvm.Free Jvm.Stand Jvm.Pilot.@@N@@.Jvm.D
/-! MADE BY PROGRAM (witnessworld.py) out of the Statement's table words and the real class files: 9 classes; the members and pool entries that the words name. The judged class is class 1, her method 2. -/
namespace start1
open Jvm.ClassFile
def u (s : String) : CpInfo := .utf8 (stringToUtf16 s)
/-- a pool by its gaps: so many unusable entries, then the entry; so many at the end -/
def gap : Nat → List CpInfo → List CpInfo
  | 0, r => r
  | n + 1, r => .unusable :: gap n r
def poolList (es : List (Nat × CpInfo)) (last : Nat) : List CpInfo := es.foldr (fun e r => gap e.1 (e.2 :: r)) (gap last [])
def pool (es : List (Nat × CpInfo)) (last : Nat) : Array CpInfo := ⟨poolList es last⟩
def fileOf (pool : Array CpInfo) (this : Nat) (attrs : Array Attribute := #[]) (ms : Array MethodInfo := #[]) (fl : Nat := 33) (sup : Nat := 0) (ifs : Array Nat := #[]) (fds : Array FieldInfo := #[]) : ClassFile where
  minorVersion := 0
  majorVersion := 65
  constantPool := pool
  accessFlags := fl
  thisClass := this
  superClass := sup
  interfaces := ifs
  fields := fds
  methods := ms
  attributes := attrs
def plain (name : String) (sup : Option ClassId) : Class where
  name := name
  kind := .ordinary
  loader := none
  accessFlags := 33
  super := sup
  interfaces := #[]
  cf := none
  fields := #[]
  methods := #[]
  instanceTypes := #[]
  staticTypes := #[]
  resolved := #[]
  callSites := []
  init := .initialized
  statics := none
  mirror := none

def pool0 : Array CpInfo := pool [(5, u "<init>"), (0, u "()V"), (1, .class_ 10), (1, u "java/lang/Object")] 113

def k0c0 : Code := { maxStack := 0, maxLocals := 1, code := object_method_1_code, exceptionTable := #[], attributes := #[] }
def k0m0 : Method := { name := "<init>", desc := "()V", sig := { parameters := [], returnType := none }, accessFlags := 1, code := some k0c0 }
/-- java/lang/Object -/
def k0 : Class := { plain "java/lang/Object" none with
  accessFlags := 33
  interfaces := #[]
  cf := some (fileOf pool0 8 #[] #[{ accessFlags := 1, nameIndex := 5, descriptorIndex := 6, attributes := #[] }] 33 0 #[] #[])
  fields := #[]
  methods := #[k0m0]
  instanceTypes := #[]
  staticTypes := #[]
  resolved := Array.replicate 124 none
  statics := none }

def pool1 : Array CpInfo := pool [(2, .class_ 4), (0, .nameAndType 5 6), (0, u "java/lang/Object"), (0, u "<init>"), (0, u "()V"), (0, .methodref 8 9), (0, .class_ 10), (0, .nameAndType 11 12), (0, u "com/example/gate_to_tables/gatetotables/adql/translator/RowValues$Budget"), (0, u "take"), (0, u "()Z"), (0, .methodref 8 3), (0, .methodref 15 16), (0, .class_ 17), (0, .nameAndType 18 19), (0, u "com/example/gate_to_tables/gatetotables/adql/translator/BudgetTakePinLaw"), (0, u "take8"), (0, u "(Lcom/example/gate_to_tables/gatetotables/adql/translator/RowValues$Budget;)I"), (3, u "law"), (0, u "(I)Z")] 6

def k1m0 : Method := { name := "<init>", desc := "()V", sig := { parameters := [], returnType := none }, accessFlags := 2, code := none }
def k1c1 : Code := { maxStack := 2, maxLocals := 2, code := method_2_code, exceptionTable := #[], attributes := #[] }
def k1m1 : Method := { name := "take8", desc := "(Lcom/example/gate_to_tables/gatetotables/adql/translator/RowValues$Budget;)I", sig := { parameters := [(.object "com/example/gate_to_tables/gatetotables/adql/translator/RowValues$Budget")], returnType := some .int }, accessFlags := 10, code := some k1c1 }
def k1c2 : Code := { maxStack := 2, maxLocals := 12, code := code, exceptionTable := #[], attributes := #[] }
def k1m2 : Method := { name := "law", desc := "(I)Z", sig := { parameters := [.int], returnType := some .boolean }, accessFlags := 9, code := some k1c2 }
/-- com/example/gate_to_tables/gatetotables/adql/translator/BudgetTakePinLaw -/
def k1 : Class := { plain "com/example/gate_to_tables/gatetotables/adql/translator/BudgetTakePinLaw" (some 0) with
  accessFlags := 49
  interfaces := #[]
  cf := some (fileOf pool1 15 #[] #[{ accessFlags := 2, nameIndex := 5, descriptorIndex := 6, attributes := #[] }, { accessFlags := 10, nameIndex := 18, descriptorIndex := 19, attributes := #[] }, { accessFlags := 9, nameIndex := 23, descriptorIndex := 24, attributes := #[] }] 49 2 #[] #[])
  fields := #[]
  methods := #[k1m0, k1m1, k1m2]
  instanceTypes := #[]
  staticTypes := #[]
  resolved := Array.replicate 31 none
  statics := none }

def pool2 : Array CpInfo := pool [(1, .class_ 2), (0, u "com/example/gate_to_tables/gatetotables/adql/translator/RowValues"), (0, .methodref 4 5), (0, .class_ 6), (0, .nameAndType 7 8), (0, u "java/lang/Object"), (0, u "<init>"), (0, u "()V"), (0, .fieldref 10 11), (0, .class_ 12), (0, .nameAndType 13 14), (0, u "com/example/gate_to_tables/gatetotables/adql/translator/RowValues$Budget"), (0, u "left"), (0, u "I"), (2, u "take"), (0, u "()Z")] 6

def k2c0 : Code := { maxStack := 2, maxLocals := 1, code := prog_105_method_1_code, exceptionTable := #[], attributes := #[] }
def k2m0 : Method := { name := "<init>", desc := "()V", sig := { parameters := [], returnType := none }, accessFlags := 0, code := some k2c0 }
def k2c1 : Code := { maxStack := 3, maxLocals := 2, code := prog_105_method_2_code, exceptionTable := #[], attributes := #[] }
def k2m1 : Method := { name := "take", desc := "()Z", sig := { parameters := [], returnType := some .boolean }, accessFlags := 0, code := some k2c1 }
/-- com/example/gate_to_tables/gatetotables/adql/translator/RowValues$Budget -/
def k2 : Class := { plain "com/example/gate_to_tables/gatetotables/adql/translator/RowValues$Budget" (some 0) with
  accessFlags := 32
  interfaces := #[]
  cf := some (fileOf pool2 10 #[.nestHost 1] #[{ accessFlags := 0, nameIndex := 7, descriptorIndex := 8, attributes := #[] }, { accessFlags := 0, nameIndex := 17, descriptorIndex := 18, attributes := #[] }] 32 4 #[] #[{ accessFlags := 2, nameIndex := 13, descriptorIndex := 14, attributes := #[] }])
  fields := #[{ name := "left", type := .int, accessFlags := 2, slot := 0, constantValue := 0 }]
  methods := #[k2m0, k2m1]
  instanceTypes := #[.int]
  staticTypes := #[]
  resolved := Array.replicate 25 none
  statics := none }

def pool3 : Array CpInfo := pool [(1, u "java/lang/Cloneable"), (0, .class_ 1), (0, u "java/lang/Object"), (0, .class_ 3)] 3

/-- java/lang/Cloneable -/
def k3 : Class := { plain "java/lang/Cloneable" (some 0) with
  accessFlags := 1537
  interfaces := #[]
  cf := some (fileOf pool3 2 #[] #[] 1537 4 #[] #[])
  fields := #[]
  methods := #[]
  instanceTypes := #[]
  staticTypes := #[]
  resolved := Array.replicate 8 none
  statics := none }

def pool4 : Array CpInfo := pool [(1, u "java/io/Serializable"), (0, .class_ 1), (0, u "java/lang/Object"), (0, .class_ 3)] 3

/-- java/io/Serializable -/
def k4 : Class := { plain "java/io/Serializable" (some 0) with
  accessFlags := 1537
  interfaces := #[]
  cf := some (fileOf pool4 2 #[] #[] 1537 4 #[] #[])
  fields := #[]
  methods := #[]
  instanceTypes := #[]
  staticTypes := #[]
  resolved := Array.replicate 8 none
  statics := none }

/-- the primitive byte -/
def k5 : Class := { plain "byte" none with kind := .primitive 'B', accessFlags := 0x411 }
/-- [B -/
def k6 : Class := { plain "[B" (some 0) with kind := .array 5 .byte, interfaces := #[3, 4], accessFlags := 1041 }

/-- the primitive int -/
def k7 : Class := { plain "int" none with kind := .primitive 'I', accessFlags := 0x411 }
/-- [I -/
def k8 : Class := { plain "[I" (some 0) with kind := .array 7 .int, interfaces := #[3, 4], accessFlags := 1041 }

def heap : Heap := #[]
def classes : Array Class := #[k0, k1, k2, k3, k4, k5, k6, k7, k8]
def interned : List (Array UInt16 × Addr) := []
def slotsUsed : Nat := 0
def theMethod : MethodId := ⟨1, 2⟩
def args0 : Array Value := #[.int 5]
def aboutOver (below : List Frame) : State where
  vm := { classes := classes, interned := interned.toArray }
  heap := heap
  slotsUsed := slotsUsed
  threads := #[{ frames := .invoking theMethod args0 :: below }]
def below0 : List Frame := [.native { method := ⟨0, 0⟩, args := #[] }]
def about1 : State := aboutOver below0
def p0 : Program := .bare "" "" ""
def e0 : Env := launch0.env 0 0 0
theorem w_frames : about1.frames = Frame.invoking theMethod args0 :: below0 := rfl
set_option maxRecDepth 65536 in
theorem w_args : argsFit about1.vm theMethod args0 = true := by decide +kernel
set_option maxRecDepth 65536 in
theorem w_heap : heapFits about1 = true := by decide +kernel
set_option maxRecDepth 65536 in
theorem w_runnable : about1.curStatus? = some .runnable := by decide +kernel
set_option maxRecDepth 65536 in
theorem w_alone : about1.alone = true := by decide +kernel
set_option maxRecDepth 65536 in
theorem w_named : about1.methodNamed? x = some theMethod := by decide +kernel
set_option maxRecDepth 65536 in
theorem w_hears : about1.hears theMethod below0 = true := by decide +kernel
set_option maxRecDepth 65536 in
theorem w_ripe : about1.ripe theMethod args0 below0 = true := by decide +kernel
theorem w_running : about1.status = .running := rfl
set_option maxRecDepth 65536 in
theorem w_room : about1.hasRoom e0.platform room_1 = true :=
  launch0.hasRoom_least _ room_1 (by decide +kernel) (by decide +kernel) (by decide +kernel) (by decide +kernel) (by decide +kernel) (by decide +kernel)
theorem allAtoms_all (ts : List Jvm.Cond) (a : Array Jvm.Value) (st : Jvm.State) : (allAtoms ts).before a st = ts.all (fun c => c.before a st) := by
  induction ts with
  | nil => rfl
  | cons c t ih =>
    show (Jvm.Cond.and c (allAtoms t)).before a st = _
    rw [Jvm.Cond.before_and, ih, List.all_cons]
def words1 : List Jvm.Cond := Jvm.Cond.code x code maxLocals ret :: tables_1
/-- a 'code' word, met by the world's own term for the bytes: nothing is compared byte by byte -/
theorem code_word {y : MethodName} {bytes : ByteArray} {mx : Nat} {rt : Option FieldType} {a : Array Value} {s : State} {m : MethodId} {meth : Method} {c : Code} (h1 : s.methodNamed? y = some m) (h2 : s.vm.method? m = some meth) (h3 : meth.code = some c) (h4 : c.code = bytes)
    (h5 : (c.maxLocals == mx && c.exceptionTable.isEmpty && decide (c.maxStack ≤ mostOperands) && decide (meth.sig.returnType = rt) && !meth.locks && decide (parseMethodDescriptor y.desc = some meth.sig)) = true) : (Jvm.Cond.code y bytes mx rt).before a s = true := by
  simp only [Bool.and_eq_true, beq_iff_eq, Bool.not_eq_true', decide_eq_true_eq] at h5
  obtain ⟨⟨⟨⟨⟨g1, g2⟩, g3⟩, g4⟩, g5⟩, g6⟩ := h5
  simp [Cond.before, Cond.holds, Cond.value, h1, h2, h3, h4, g1, g2, g3, g4, g5, g6]
def isCode : Jvm.Cond → Bool
  | .code _ _ _ _ => true
  | _ => false
theorem all_split {L : List Jvm.Cond} {P : Jvm.Cond → Bool} (h1 : L.all (fun c => isCode c || P c) = true) (h2 : ∀ c ∈ L.filter isCode, P c = true) : L.all P = true := by
  refine List.all_eq_true.mpr fun c hc => ?_
  have h := List.all_eq_true.mp h1 c hc
  rcases Bool.eq_false_or_eq_true (isCode c) with hi | hi
  · exact h2 c (List.mem_filter.mpr ⟨hc, hi⟩)
  · simpa [hi] using h
set_option maxRecDepth 65536 in
theorem w_c0 : (Jvm.Cond.code x code maxLocals ret).before args0 about1 = true := code_word (m := ⟨1, 2⟩) (meth := k1m2) (c := k1c2) (by decide +kernel) rfl rfl rfl (by decide +kernel)
set_option maxRecDepth 65536 in
theorem w_c1 : (Jvm.Cond.code ({ cls := "com/example/gate_to_tables/gatetotables/adql/translator/RowValues$Budget", name := "<init>", desc := "()V" } : Jvm.MethodName) prog_105_method_1_code (1 : Nat) (Option.none : Option Jvm.ClassFile.FieldType)).before args0 about1 = true := code_word (m := ⟨2, 0⟩) (meth := k2m0) (c := k2c0) (by decide +kernel) rfl rfl rfl (by decide +kernel)
set_option maxRecDepth 65536 in
theorem w_c2 : (Jvm.Cond.code ({ cls := "java/lang/Object", name := "<init>", desc := "()V" } : Jvm.MethodName) object_method_1_code (1 : Nat) (Option.none : Option Jvm.ClassFile.FieldType)).before args0 about1 = true := code_word (m := ⟨0, 0⟩) (meth := k0m0) (c := k0c0) (by decide +kernel) rfl rfl rfl (by decide +kernel)
set_option maxRecDepth 65536 in
theorem w_c3 : (Jvm.Cond.code ({ cls := "com/example/gate_to_tables/gatetotables/adql/translator/BudgetTakePinLaw", name := "take8", desc := "(Lcom/example/gate_to_tables/gatetotables/adql/translator/RowValues$Budget;)I" } : Jvm.MethodName) method_2_code (2 : Nat) (Option.some Jvm.ClassFile.FieldType.int)).before args0 about1 = true := code_word (m := ⟨1, 1⟩) (meth := k1m1) (c := k1c1) (by decide +kernel) rfl rfl rfl (by decide +kernel)
set_option maxRecDepth 65536 in
theorem w_c4 : (Jvm.Cond.code ({ cls := "com/example/gate_to_tables/gatetotables/adql/translator/RowValues$Budget", name := "take", desc := "()Z" } : Jvm.MethodName) prog_105_method_2_code (2 : Nat) (Option.some Jvm.ClassFile.FieldType.boolean)).before args0 about1 = true := code_word (m := ⟨2, 1⟩) (meth := k2m1) (c := k2c1) (by decide +kernel) rfl rfl rfl (by decide +kernel)
def codes1 : List Jvm.Cond := [Jvm.Cond.code x code maxLocals ret, Jvm.Cond.code ({ cls := "com/example/gate_to_tables/gatetotables/adql/translator/RowValues$Budget", name := "<init>", desc := "()V" } : Jvm.MethodName) prog_105_method_1_code (1 : Nat) (Option.none : Option Jvm.ClassFile.FieldType), Jvm.Cond.code ({ cls := "java/lang/Object", name := "<init>", desc := "()V" } : Jvm.MethodName) object_method_1_code (1 : Nat) (Option.none : Option Jvm.ClassFile.FieldType), Jvm.Cond.code ({ cls := "com/example/gate_to_tables/gatetotables/adql/translator/BudgetTakePinLaw", name := "take8", desc := "(Lcom/example/gate_to_tables/gatetotables/adql/translator/RowValues$Budget;)I" } : Jvm.MethodName) method_2_code (2 : Nat) (Option.some Jvm.ClassFile.FieldType.int), Jvm.Cond.code ({ cls := "com/example/gate_to_tables/gatetotables/adql/translator/RowValues$Budget", name := "take", desc := "()Z" } : Jvm.MethodName) prog_105_method_2_code (2 : Nat) (Option.some Jvm.ClassFile.FieldType.boolean)]
set_option maxRecDepth 65536 in
theorem codes_eq : words1.filter isCode = codes1 := rfl
theorem w_codes : ∀ c ∈ words1.filter isCode, c.before args0 about1 = true := by
  rw [codes_eq]
  intro c hc
  simp only [codes1, List.mem_cons, List.not_mem_nil, or_false] at hc
  rcases hc with rfl | rfl | rfl | rfl | rfl
  · exact w_c0
  · exact w_c1
  · exact w_c2
  · exact w_c3
  · exact w_c4
set_option maxRecDepth 65536 in
theorem w_t1 : words1.all (fun c => isCode c || c.before args0 about1) = true := by decide +kernel
theorem w_tables : (allAtoms (Jvm.Cond.code x code maxLocals ret :: tables_1)).before args0 about1 = true := by
  rw [allAtoms_all]
  show words1.all (fun c => c.before args0 about1) = true
  refine all_split ?_ w_codes
  rw [w_t1]
set_option maxRecDepth 65536 in
theorem w_case : (Jvm.Cond.and given_1 narrow_1).before args0 about1 = true := by decide +kernel
theorem w_applies : (headSpec (Jvm.Cond.code x code maxLocals ret :: tables_1) room_1).applies x e0.platform about1 = true :=
  (Spec.applies_iff w_frames).mpr ⟨w_running, w_runnable, w_alone, w_named, w_hears, w_ripe, w_room, w_tables⟩
theorem atStart : AtStart classFile x code maxLocals ret World_1 tables_1 room_1 Calls_1 rest_1 Pre_1 launch0 p0 e0 about1 theMethod args0 below0 :=
  ⟨lists_1, trivial, launch0.admits_env _ _ _, launch0.least_env, fairChoices_fair.cas, fairChoices_fair.clock, w_frames, w_args, w_heap, w_applies, trivial, trivial, w_case⟩
end start1
theorem witness_1 : WitnessClaimed_1 := ⟨start1.p0, start1.e0, start1.about1, start1.theMethod, start1.args0, start1.below0, start1.atStart⟩
end Jvm.Pilot.@@N@@
